import Derived.Test.YbulkddyyRows
import Derived.Conc.LoneCalls
import Derived.Conc.LoneSelectN
namespace Go.Proofs.Ybulkddyy
open Go.Conc Go.RowKit
set_option linter.unusedVariables false

section
variable {P : Program} {fr : Frame} {cs : List Frame} {w w₁ : World} {es : Array Event} {d capd sd rd c cap s r : Nat} {buf : Array Value} {tm tmd : Bool} {z0 z1 : Value}

/-- Two receive cases: the first channel is closed and empty, the second is closed too and may hold something: the tape picks. -/
theorem step_two (h : stepG P true (G fr cs) w = .comm (G fr cs) #[rcase d z0, rcase c z1] true .select w₁ es) (hd : w₁.heap[d]? = some (.chan capd #[] true sd rd tmd)) (hc : w₁.heap[c]? = some (.chan cap buf true s r tm)) :
    step P (solo (G fr cs) w) = .next (solo (G (fr.finish (commResult #[rcase d z0, rcase c z1] .select (0 : Nat) z0 false)) cs) w₁.drew) ∨
    (0 < buf.size ∧ step P (solo (G fr cs) w) = .next (solo (G (fr.finish (commResult #[rcase d z0, rcase c z1] .select (1 : Nat) (buf.getD 0 undef) true)) cs) (w₁.drew.setChan c cap (buf.extract 1 buf.size) true s (r + 1) tm))) ∨
    (buf.size = 0 ∧ step P (solo (G fr cs) w) = .next (solo (G (fr.finish (commResult #[rcase d z0, rcase c z1] .select (1 : Nat) z1 false)) cs) w₁.drew)) := by
  have hp0 := partners_lone d true
  have hp1 := partners_lone c true
  have hw0 : ways w₁ #[ph] (rcase d z0) = [.closed] := by simp [ways, rcase, hd, hp0]
  have hcut : (Question.select 2).cut (w₁.tape w₁.drawn (Question.select 2)) = 0 ∨ (Question.select 2).cut (w₁.tape w₁.drawn (Question.select 2)) = 1 := by
    show _ % 2 = 0 ∨ _ % 2 = 1
    omega
  have hf2 : (Question.select 2).forced = false := rfl
  rcases Nat.eq_zero_or_pos buf.size with hb | hb
  · have hw1 : ways w₁ #[ph] (rcase c z1) = [.closed] := by simp [ways, rcase, hc, hp1, hb]
    rw [step, stepT_solo rfl, solo_eq_crowd, runT_crowd_comm (gs := #[G fr cs]) (i := 0) (g := G fr cs) rfl h]
    unfold communicate
    rcases hcut with e | e
    · left
      simp [hw0, hw1, choose, Sem.run, bind, Sem.bind, pure, e, hf2]
      try simp only [Question.forced]
      simp [rcase, hd, hc, crowd]
      rfl
    · right; right
      refine ⟨hb, ?_⟩
      simp [hw0, hw1, choose, Sem.run, bind, Sem.bind, pure, e, hf2]
      try simp only [Question.forced]
      simp [rcase, hd, hc, crowd]
      rfl
  · have hw1 : ways w₁ #[ph] (rcase c z1) = [.buffer] := by simp [ways, rcase, hc, hb]
    rw [step, stepT_solo rfl, solo_eq_crowd, runT_crowd_comm (gs := #[G fr cs]) (i := 0) (g := G fr cs) rfl h]
    unfold communicate
    rcases hcut with e | e
    · left
      simp [hw0, hw1, choose, Sem.run, bind, Sem.bind, pure, e, hf2]
      try simp only [Question.forced]
      simp [rcase, hd, hc, crowd]
      rfl
    · right; left
      refine ⟨hb, ?_⟩
      simp [hw0, hw1, choose, Sem.run, bind, Sem.bind, pure, e, hf2]
      try simp only [Question.forced]
      have hc' : w₁.drew.heap[c]? = some (.chan cap buf true s r tm) := hc
      simp [rcase, hd, hc, hc', crowd, World.setChan]
      rfl
end

/-- Code that one goroutine walks alone, communications and all. -/
theorem wp_of_lone {P : Program} {c : Code} {Q : Exit → Act → World → Prop} {a : Act} {w : World}
    (h : ∀ (b : Frame) (k : List Item) (cs : List Frame), LoneTo P (fun g' w' => ∃ a', g' = G (b.at a' k) cs ∧ Q .normal a' w') (G (b.at a (.code c :: k)) cs) w) : c.wp P Q a w := by
  intro b k cs
  obtain ⟨g', w', hs, a', rfl, hq⟩ := h b k cs
  exact ⟨.normal, a', w', hq, hs⟩

section
variable {P : Program} {b : Frame} {a : Act} {k : List Item} {cs : List Frame} {w w' : World} {ops : Array Oper} {i : Nat} {rest : List Nat} {o : Oper}

/-- A communication, whatever the frame's kind. -/
theorem comm_any {cases : Array CommCase} {blocking : Bool} {shape : CommShape} (ho : ops[i]? = some o) (hw : Region.wanted o (yielded ops a.tmps) = true) (hr : (execOp a.eval o).run P w = .ok (.comm cases blocking shape) w') :
    ∃ es, stepG P true (G (b.at a (.inRegion ops (i :: rest) :: k)) cs) w = .comm (G (b.at a (.inRegion ops (i :: rest) :: k)) cs) cases blocking shape w' es := by
  rw [stepG_oper ho hw]
  simp [stepG.apply, hr, G, Frame.at, GStep.after]

theorem value_any {v : Value} (ho : ops[i]? = some o) (hw : Region.wanted o (yielded ops a.tmps) = true) (hr : (execOp a.eval o).run P w = .ok (.value v) w') :
    ∃ es, stepG P true (G (b.at a (.inRegion ops (i :: rest) :: k)) cs) w = .go (G (b.at (a.put o.dst v) (.inRegion ops rest :: k)) cs) w' es := by
  have hfin : (b.at a (.inRegion ops (i :: rest) :: k)).finish v = b.at (a.put o.dst v) (.inRegion ops rest :: k) := by rw [Frame.finish_at, ho]; rfl
  rw [stepG_oper ho hw, ← hfin]
  simp [stepG.apply, hr, G, Frame.at, GStep.after]

theorem none_any (ho : ops[i]? = some o) (hw : Region.wanted o (yielded ops a.tmps) = true) (hr : (execOp a.eval o).run P w = .ok .skip w') :
    ∃ es, stepG P true (G (b.at a (.inRegion ops (i :: rest) :: k)) cs) w = .go (G (b.at (a.put o.dst undef) (.inRegion ops rest :: k)) cs) w' es := by
  have hfin : (b.at a (.inRegion ops (i :: rest) :: k)).finish undef = b.at (a.put o.dst undef) (.inRegion ops rest :: k) := by rw [Frame.finish_at, ho]; rfl
  rw [stepG_oper ho hw, ← hfin]
  simp [stepG.apply, hr, G, Frame.at, GStep.after]

/-- One operation, whatever the frame's kind. -/
theorem lone_op {Q : Goroutine → World → Prop} (ho : ops[i]? = some o) (hw : Region.wanted o (yielded ops a.tmps) = true)
    (h : ∀ K' : Act → World → Prop, (∀ a' w', LoneTo P Q (G (b.at a' (.inRegion ops rest :: k)) cs) w' → K' a' w') → uponK o a K' ((execOp a.eval o).run P w)) :
    LoneTo P Q (G (b.at a (.inRegion ops (i :: rest) :: k)) cs) w := by
  have h1 := h (fun a' w' => LoneTo P Q (G (b.at a' (.inRegion ops rest :: k)) cs) w') (fun _ _ x => x)
  generalize hr : (execOp a.eval o).run P w = r at h1
  match r, h1 with
  | .ok (.value v) w', h1 => obtain ⟨es, he⟩ := value_any (b := b) (k := k) (cs := cs) (rest := rest) ho hw hr; exact .step (step_solo_go rfl he) h1
  | .ok .skip w', h1 => obtain ⟨es, he⟩ := none_any (b := b) (k := k) (cs := cs) (rest := rest) ho hw hr; exact .step (step_solo_go rfl he) h1

/-- A select at which one case alone, a receive from a closed channel, can proceed. -/
theorem lone_shut {Q : Goroutine → World → Prop} {cases : Array CommCase} {kk c cap s r : Nat} {tm : Bool} {z : Value} (ho : ops[i]? = some o) (hw : Region.wanted o (yielded ops a.tmps) = true) (hr : (execOp a.eval o).run P w = .ok (.comm cases true .select) w')
    (hk : cases[kk]? = some (rcase c z)) (hno : ∀ (m : Nat) (c' : CommCase), m ≠ kk → cases[m]? = some c' → NoWay w' c') (hc : w'.heap[c]? = some (.chan cap #[] true s r tm))
    (h : LoneTo P Q (G ((b.at a (.inRegion ops (i :: rest) :: k)).finish (commResult cases .select kk z false)) cs) w') : LoneTo P Q (G (b.at a (.inRegion ops (i :: rest) :: k)) cs) w := by
  obtain ⟨es, hcomm⟩ := comm_any (b := b) (k := k) (cs := cs) (rest := rest) ho hw hr
  exact .step (step_lone_sel_recv_shut hcomm hk hno hc) h

/-- A send with room. -/
theorem lone_send {Q : Goroutine → World → Prop} {c cap s r : Nat} {buf : Array Value} {tm : Bool} {v z : Value} (ho : ops[i]? = some o) (hw : Region.wanted o (yielded ops a.tmps) = true) (hr : (execOp a.eval o).run P w = .ok (.comm #[scase c v z] true .send) w')
    (hc : w'.heap[c]? = some (.chan cap buf false s r tm)) (hroom : buf.size < cap)
    (h : ∀ x, LoneTo P Q (G ((b.at a (.inRegion ops (i :: rest) :: k)).finish x) cs) (w'.setChan c cap (buf.push v) false (s + 1) r tm)) : LoneTo P Q (G (b.at a (.inRegion ops (i :: rest) :: k)) cs) w := by
  obtain ⟨es, hcomm⟩ := comm_any (b := b) (k := k) (cs := cs) (rest := rest) ho hw hr
  exact .step (step_lone_send_room hcomm hc hroom) (h _)

/-- A select of two receive cases, both ready. -/
theorem lone_two {Q : Goroutine → World → Prop} {d capd sd rd c cap s r : Nat} {buf : Array Value} {tm tmd : Bool} {z0 z1 : Value} (ho : ops[i]? = some o) (hw : Region.wanted o (yielded ops a.tmps) = true) (hr : (execOp a.eval o).run P w = .ok (.comm #[rcase d z0, rcase c z1] true .select) w')
    (hd : w'.heap[d]? = some (.chan capd #[] true sd rd tmd)) (hc : w'.heap[c]? = some (.chan cap buf true s r tm))
    (h0 : LoneTo P Q (G ((b.at a (.inRegion ops (i :: rest) :: k)).finish (commResult #[rcase d z0, rcase c z1] .select (0 : Nat) z0 false)) cs) w'.drew)
    (h1 : 0 < buf.size → LoneTo P Q (G ((b.at a (.inRegion ops (i :: rest) :: k)).finish (commResult #[rcase d z0, rcase c z1] .select (1 : Nat) (buf.getD 0 undef) true)) cs) (w'.drew.setChan c cap (buf.extract 1 buf.size) true s (r + 1) tm))
    (h2 : buf.size = 0 → LoneTo P Q (G ((b.at a (.inRegion ops (i :: rest) :: k)).finish (commResult #[rcase d z0, rcase c z1] .select (1 : Nat) z1 false)) cs) w'.drew) : LoneTo P Q (G (b.at a (.inRegion ops (i :: rest) :: k)) cs) w := by
  obtain ⟨es, hcomm⟩ := comm_any (b := b) (k := k) (cs := cs) (rest := rest) ho hw hr
  rcases step_two hcomm hd hc with h | ⟨hb, h⟩ | ⟨hb, h⟩
  · exact .step h h0
  · exact .step h (h1 hb)
  · exact .step h (h2 hb)
end

end Go.Proofs.Ybulkddyy
