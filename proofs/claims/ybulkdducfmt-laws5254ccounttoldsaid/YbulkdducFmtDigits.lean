import Derived.Test.YbulkdducFmtModelC
import Derived.Maps.AppendAt
import Derived.OwnWalk
import Derived.Below
namespace Go.Proofs.YbulkdducFmt
open Go.RowKit Go.Lib
set_option linter.unusedVariables false

/-- Bytes as cells. -/
def bytesOf (l : List UInt8) : List Value := l.map fun b => Value.int .u8 (b.toNat : Int)

theorem bytesOf_length (l : List UInt8) : (bytesOf l).length = l.length := by simp [bytesOf]
theorem bytesOf_append (l r : List UInt8) : bytesOf (l ++ r) = bytesOf l ++ bytesOf r := by simp [bytesOf]

/-- v is a slice of the call's own that holds l. -/
def Buf (w : World) (B : Nat) (v : Value) (l : List UInt8) : Prop := w.ownsRow B 5 1 v l.length (bytesOf l)

theorem buf_nil (w : World) (B : Nat) : Buf w B (.slice none 0 0) [] := World.ownsRow_nil _ _ _ _

theorem Buf.kept {w w' : World} {B : Nat} {v : Value} {l : List UInt8} (h : Buf w B v l) (hk : ∀ g, v.ownBlock = some g → w'.heap[g]? = w.heap[g]?) : Buf w' B v l := by
  obtain ⟨h1, h2⟩ := h
  refine ⟨h1, ?_⟩
  rcases h2 with h2 | ⟨g, cap, cur, rfl, b, c, d⟩
  · exact .inl h2
  · exact .inr ⟨g, cap, cur, rfl, b, by rw [hk g rfl]; exact c, d⟩

theorem Buf.lt {w : World} {B : Nat} {v : Value} {l : List UInt8} (h : Buf w B v l) : ∀ g, v.ownBlock = some g → B ≤ g ∧ g < w.heap.size := by
  intro g hg
  rcases h.2 with ⟨rfl, _⟩ | ⟨g', cap, cur, rfl, b, c, d⟩
  · cases hg
  · obtain rfl : g' = g := by simpa [Value.ownBlock] using hg
    exact ⟨b, by
      rcases Nat.lt_or_ge g' w.heap.size with h1 | h1
      · exact h1
      · rw [Array.getElem?_eq_none h1] at c; cases c⟩

theorem Buf.on {w w' : World} {B : Nat} {v : Value} {l : List UInt8} (h : Buf w B v l) (hb : Below w.heap.size w w') : Buf w' B v l :=
  h.kept fun g hg => hb.block g (h.lt g hg).2

theorem Buf.weaken {w : World} {B B' : Nat} {v : Value} {l : List UInt8} (h : Buf w B v l) (hB : B' ≤ B) : Buf w B' v l := by
  obtain ⟨h1, h2⟩ := h
  refine ⟨h1, ?_⟩
  rcases h2 with h2 | ⟨g, cap, cur, e, b, c⟩
  · exact .inl h2
  · exact .inr ⟨g, cap, cur, e, Nat.le_trans hB b, c⟩

theorem info5 : (Ybaf.prog.info? 5).map (fun i => (i.zero, i.size, i.bytes)) = some (some (.int .u8 0), 1, 1) := by kernel_rfl

/-- What an append of one byte leaves. -/
structure Pushed (w : World) (B : Nat) (v : Value) (l : List UInt8) (c : UInt8) (v' : Value) (w' : World) : Prop where
  buf : Buf w' B v' (l ++ [c])
  size : w.heap.size ≤ w'.heap.size
  other : ∀ k, k < w.heap.size → some k ≠ v.ownBlock → w'.heap[k]? = w.heap[k]?
  at_ : ∀ g, v'.ownBlock = some g → v.ownBlock = some g ∨ w.heap.size ≤ g
  below : Below B w w'

/-- One byte more, behind the block that holds it. -/
theorem wpList_push {w : World} {ops : Array Oper} {rest : List Oper} {o : Oper} {a : Act} {Q : Exit → Act → World → Prop} (x : Int) (c : UInt8) (hc : (c.toNat : Int) = x) (hgd : o.guard = none) (s y : Operand)
    (ho : o.op = .call { callee := .builtin .append, args := #[s, y], argTypes := #[50, 50] }) (B : Nat) (v : Value) (l : List UInt8) (hs : a.eval s = v) (hx : a.eval y = .slice (some ⟨w.heap.size, 0, none⟩) 1 1) (hb : Buf w B v l) (hl : l.length ≤ 1000000) (hB : B ≤ w.heap.size)
    (h : ∀ v' w', Pushed w B v l c v' w' → wpList Ybaf.prog ops Q rest (a.put o.dst v') w') : wpList Ybaf.prog ops Q (o :: rest) a (w.alloc (.cells #[.int .u8 x] 5)) := by
  subst hc
  obtain ⟨i0, hi, hz0, hz1, hz2⟩ := info_parts info5
  refine wpList_append_own_at (P := Ybaf.prog) (w.alloc (.cells #[.int .u8 (c.toNat : Int)] 5)) hgd s y 50 ho B 5 i0 (.int .u8 0) 1 1 Ybaf.underlying50 hi hz0 hz1 hz2 rfl (by decide) v l.length (bytesOf l) hs (hb.on ((Below.refl _ _).alloc (Nat.le_refl _) _)) ⟨w.heap.size, 0, none⟩ 1 1 [.int .u8 (c.toNat : Int)] hx rfl (cell_one_new _ _ _) (fun x hx => by simp at hx; subst hx; rfl) (by unfold maxLen; omega) (by omega) (by simp; omega) ?_
  intro v' w' h2 h3 h4 h5
  refine h v' w' ⟨?_, ?_, ?_, ?_, ?_⟩
  · unfold Buf
    rw [bytesOf_append, List.length_append]
    exact h2
  · have := h3.size
    simp at this
    omega
  · intro k hk hne
    rw [h3.block k (by simp; omega) hne]
    exact Below.heap_alloc _ _ _ hk
  · intro g hg
    rcases h5 with h5 | h5
    · exact .inl (h5.symm.trans hg)
    · right
      have := h5.symm.trans hg
      simp at this
      omega
  · exact Below.grown ((Below.refl B w).alloc hB _) h3 (by simp; omega) (fun k hk => (hb.lt k hk).1)

/-- The digit's byte. -/
def dig (v : Nat) : UInt8 := UInt8.ofNat (48 + v % 10)
theorem dig_toNat (v : Nat) : (dig v).toNat = 48 + v % 10 := by
  unfold dig
  rw [UInt8.toNat_ofNat']
  omega

theorem parse_dig (v : Nat) (r : List UInt8) (hv : v ≤ 100000) : parseUint10 (v / 10) (dig v :: r) = parseUint10 v r := by
  rw [parseUint10, dig_toNat, if_pos (by omega), if_neg (by omega), if_neg (by omega)]
  congr 1
  omega

/-- All are digits. -/
def Digs (l : List UInt8) : Prop := ∀ c ∈ l, 48 ≤ c.toNat ∧ c.toNat ≤ 57

/-- What holds in the first loop. -/
def DRel (w : World) (v0 : Nat) (v rev : Value) (wr : World) : Prop := ∃ (vn : Nat) (l : List UInt8), v = .int .i64 vn ∧ Buf wr w.heap.size rev l ∧ parseUint10 vn l.reverse = .ok v0 ∧ vn + l.length ≤ v0 ∧ Digs l ∧ Below w.heap.size w wr

/-- What zzs5254cdigits leaves. -/
def DEnds (w : World) (B : Nat) (l : List UInt8) (v0 : Nat) (e : Ending) (w' : World) : Prop := ∃ b' D, e = .returned b' ∧ Buf w' B b' (l ++ D) ∧ parseUint10 0 D = .ok v0 ∧ D ≠ [] ∧ Digs D ∧ D.length ≤ 100001 ∧ Below B w w'

/-- What holds in the second loop. -/
def DRel2 (w : World) (B : Nat) (lb : List UInt8) (rv : Value) (g : Nat) (l : List UInt8) (b i : Value) (wr : World) : Prop := ∃ j : Nat, j ≤ l.length ∧ i = .int .i64 ((j : Int) - 1) ∧ Buf wr B b (lb ++ (l.drop j).reverse) ∧ Buf wr B rv l ∧ b.ownBlock ≠ some g ∧ Below B w wr

theorem drop_rev (l : List UInt8) (j : Nat) (h : j < l.length) : (l.drop j).reverse = (l.drop (j + 1)).reverse ++ [l[j]] := by
  rw [List.drop_eq_getElem_cons h]; simp

theorem Buf.byte {w : World} {B g cap : Nat} {l : List UInt8} (h : Buf w B (.slice (some ⟨g, 0, none⟩) l.length cap) l) (j : Nat) (hj : j < l.length) : w.cell? ⟨g, j, none⟩ = some (.int .u8 (l[j].toNat : Int)) := by
  have := World.ownsRow.cellAt h j (by omega)
  rw [this]
  simp [bytesOf, hj]

set_option maxRecDepth 100000 in
set_option maxHeartbeats 2000000 in
theorem digits_walk (w : World) (B : Nat) (b : Value) (lb : List UInt8) (v0 : Nat) (hb : Buf w B b lb) (hB : B ≤ w.heap.size) (hv : v0 ≤ 100000) (hl : lb.length ≤ 1000) :
    Calls Ybaf.prog 15 #[b, .int .i64 v0] w (DEnds w B lb v0) := by
  go_enter Ybaf.func15, Ybaf.ntmps15
  rcases Nat.eq_zero_or_pos v0 with rfl | hp
  · go_wp2_with (at_builtin; refine wpList_push 48 48 rfl rfl _ _ rfl B b lb rfl rfl hb (by omega) hB ?_; intro v' w' X)
    go_ret
    exact ⟨v', [48], rfl, X.buf, rfl, by simp, fun c hc => by simp at hc; subst hc; decide, by simp, X.below⟩
  · have hp' : ¬ (v0 : Int) = 0 := by omega
    have hz0 : ((v0 : Int) == 0) = false := by simp; omega
    go_wp2
    go_loopw [1, 5] (fun v rev wr => DRel w v0 v rev wr) (fun v _ _ => (intOf v).toNat)
    case atStart => exact ⟨v0, [], rfl, buf_nil _ _, rfl, by simp, (fun c hc => by cases hc), Below.refl _ _⟩
    case round =>
      obtain ⟨vn, l, rfl, hbuf, hpar, hsum, hdig, hbw⟩ := hrel
      rcases Nat.eq_zero_or_pos vn with rfl | hvn
      · have hne : l ≠ [] := by
          rintro rfl
          simp [parseUint10] at hpar
          omega
        have hlen : 0 < l.length := List.length_pos_iff.2 hne
        rcases id hbuf.2 with ⟨_, h0⟩ | ⟨g, cap, cur, rfl, hgB, hg, hlc, hcm, _⟩
        · omega
        · have hbB : Below B w wr := hbw.mono hB
          have hbb : Buf wr B b lb := hb.on hbw
          have hbr : Buf wr B (.slice (some ⟨g, 0, none⟩) l.length cap) l := hbuf.weaken hB
          have hgl := (hbuf.lt g rfl).2
          have hbg : b.ownBlock ≠ some g := fun e => by have := (hb.lt g e).2; omega
          have hws := hbw.size
          clear hbuf hg hb
          have hll : l.length ≤ 100000 := by omega
          have hw1 : (0 : Int) ≤ (l.length : Int) - 1 := by omega
          go_wp2
          go_loopw [0, 6] (fun b i wr' => DRel2 w B lb (.slice (some ⟨g, 0, none⟩) l.length cap) g l b i wr') (fun _ i _ => (intOf i + 1).toNat)
          case atStart => exact ⟨l.length, Nat.le_refl _, rfl, by simpa using hbb, hbr, hbg, hbB⟩
          case round =>
            obtain ⟨j, hj, rfl, hb2, hr2, hne2, hbw2⟩ := hrel
            have hbs := hbw2.size
            rcases Nat.eq_zero_or_pos j with rfl | hjp
            · simp only [List.drop_zero] at hb2
              go_wp2
              go_ret
              exact ⟨_, l.reverse, rfl, hb2, hpar, by simpa using hne, (fun c hc => hdig c (List.mem_reverse.1 hc)), by simp; omega, hbw2⟩
            · obtain ⟨j, rfl⟩ : ∃ j', j = j' + 1 := ⟨j - 1, by omega⟩
              have hcell := hr2.byte j (by omega)
              have e1 : (((j + 1 : Nat) : Int) - 1) = (j : Int) := by omega
              have hjl : (j : Int) < l.length := by omega
              rw [e1]
              have hgl2 := (hr2.lt g rfl).2
              go_wp2_with (at_builtin; refine wpList_push _ l[j] rfl rfl _ _ rfl B _ _ rfl rfl hb2 (by simp; omega) (by omega) ?_; intro v' w' X)
              refine ⟨⟨_, _, _, _, _, _, _, _, _, _, _, _, _, (?_ : DRel2 w B lb (.slice (some ⟨g, 0, none⟩) l.length cap) g l v' (.int .i64 ((j : Int) - 1)) w'), rfl⟩, ?_⟩
              · refine ⟨j, by omega, rfl, ?_, hr2.kept (fun g' hg' => ?_), ?_, hbw2.trans X.below⟩
                · rw [drop_rev l j (by omega), ← List.append_assoc]
                  exact X.buf
                · obtain rfl : g = g' := by simpa [Value.ownBlock] using hg'
                  exact X.other _ hgl2 (fun e => hne2 e.symm)
                · intro e
                  rcases X.at_ g e with h | h
                  · exact hne2 h
                  · omega
              · simp [intOf]
      · have hvn' : (0 : Int) < vn := by omega
        have hbws := hbw.size
        go_wp2_with (at_builtin; refine wpList_push (48 + (vn : Int) % 10) (dig vn) (by rw [dig_toNat]; omega) rfl _ _ rfl w.heap.size _ l rfl rfl hbuf (by omega) hbws ?_; intro v' w' X)
        refine ⟨?_, ?_⟩
        · exact ⟨vn / 10, l ++ [dig vn], by simp, X.buf, by rw [List.reverse_append]; simp only [List.reverse_cons, List.reverse_nil, List.nil_append, List.singleton_append]; rw [parse_dig vn _ (by omega)]; exact hpar, by simp; omega, (fun c hc => by rcases List.mem_append.1 hc with h | h; exact hdig c h; simp at h; subst h; rw [dig_toNat]; omega), hbw.trans X.below⟩
        · simp [intOf]; omega
end Go.Proofs.YbulkdducFmt
