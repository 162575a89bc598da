import Derived.Test.Qxb6003730aBytes
namespace Go.Proofs.Qxb6003730a.Bytes
open Go.RowKit

theorem grown_of_below {a b : World} (h : Below a.heap.size a b) (r : Option Nat) : a.grownBy b r := ⟨h.os, h.tape, h.output, h.size, fun k hk _ => h.block k hk⟩
/-- What is known behind the append: the octets that were there, those that were appended, and the copy. -/
structure After (w w3 : World) (ao2 : Option Addr) (g len cap3 : Nat) (bs id : List Int) : Prop where
  out : ∀ i, i < len → w3.cell? ⟨g, i, none⟩ = some (.int .u8 (bs.getD i 0))
  new : ∀ j, j < id.length → w3.cell? ⟨g, len + j, none⟩ = some (.int .u8 (id.getD j 0))
  orig : 0 < len → ∃ g2, ao2 = some ⟨g2, 0, none⟩ ∧ ∀ i, i < len → w3.cell? ⟨g2, i, none⟩ = some (.int .u8 (bs.getD i 0))
  below : Below w.heap.size w w3
  cap : len + id.length ≤ cap3
theorem after {w w1 w2 w3 : World} {ao1 ao2 : Option Addr} {len cap1 cap2 g cap3 : Nat} {bs id : List Int} (hb : bs.length = len)
    (own1 : w1.ownsRow w.heap.size 5 1 (.slice ao1 len cap1) len (bv bs)) (b1 : Below w.heap.size w w1) (own2 : w2.ownsRow w1.heap.size 5 1 (.slice ao2 len cap2) len (bv bs)) (b2 : Below w1.heap.size w1 w2)
    (own3 : w3.ownsRow w.heap.size 5 1 (.slice (some ⟨g, 0, none⟩) (len + id.length) cap3) (len + id.length) (bv (bs ++ id))) (hg3 : w2.grownBy w3 (Value.ownBlock (.slice ao1 len cap1))) : After w w3 ao2 g len cap3 bs id := by
  have hlt := own1.lt
  refine ⟨fun i hi => ?_, fun j hj => ?_, fun h0 => ?_, ?_, ?_⟩
  · have := own_cell own3 (i := i) (by simp; omega)
    rw [this]
    simp only [List.getD]
    rw [List.getElem?_append_left (by omega)]
  · have := own_cell own3 (i := len + j) (by simp; omega)
    rw [this]
    simp only [List.getD]
    rw [List.getElem?_append_right (by omega), hb, Nat.add_sub_cancel_left]
  · obtain ⟨g2, cap, e, h1, h2⟩ := own2.form h0
    cases e
    refine ⟨g2, rfl, fun i hi => ?_⟩
    have hne : Value.ownBlock (.slice (some ⟨g2, 0, none⟩) len cap2) ≠ Value.ownBlock (.slice ao1 len cap1) := by
      intro e
      have := (hlt g2 e.symm).2
      omega
    have own2' := own2.kept hg3 (.inr hne)
    exact own_cell own2' (by omega)
  · refine (b1.trans (b2.mono b1.size)).grown hg3 (Nat.le_trans b1.size b2.size) ?_
    intro k hk
    exact (hlt k hk).1
  · rcases own3.2 with ⟨e, _⟩ | ⟨g', cap', cur, e, _, _, h, _⟩
    · cases e
    · cases e; exact h
theorem new_one {w : World} {b : Nat} (x : Value) (hb : b = w.heap.size) (t : TypeId) : ∀ j u, [x][j]? = some u → (w.alloc (.cells #[x] t)).cell? ((⟨b, 0, none⟩ : Addr).add j) = some u := by
  intro j u hj
  match j, hj with
  | 0, hj =>
    simp at hj
    subst hj hb
    simp [Addr.add]
theorem gtrans {a b c : World} {r : Option Nat} (h : a.grownBy b r) (k : b.grownBy c r) : a.grownBy c r :=
  ⟨k.os.trans h.os, k.tape.trans h.tape, k.output.trans h.output, Nat.le_trans h.size k.size, fun i hi hn => (k.block i (Nat.lt_of_lt_of_le hi h.size) hn).trans (h.block i hi hn)⟩

/-- A store into a block of the call's own. -/
theorem grown_own {w wr : World} {r : Option Nat} (hg : w.grownBy wr r) {b : Nat} (hb : w.heap.size ≤ b) (o : Nat) (v : Value) : w.grownBy (wr.setCell ⟨b, o, none⟩ v) r :=
  ⟨hg.os, hg.tape, hg.output, by simpa using hg.size, fun k hk hn => (Below.heap_setCell wr ⟨b, o, none⟩ v k (by show k ≠ b; omega)).trans (hg.block k hk hn)⟩

theorem own_ne {w : World} {B n cap b : Nat} {ao : Option Addr} {xs : List Value} (h : w.ownsRow B 5 1 (.slice ao n cap) n xs) (hb : w.heap.size ≤ b) : some b ≠ Value.ownBlock (.slice ao n cap) := by
  intro e
  have := (h.lt b e.symm).2
  omega
/-- The cells to be appended second, behind the first append. -/
theorem news2 {X w1 : World} {O : Obj} {r : Option Nat} {G p L : Nat} {nb : List Int} (hg : ((X.alloc O).drew).grownBy w1 r) (hG : G < X.heap.size) (hr : some G ≠ r) (hl : nb.length = L)
    (h : ∀ j, j < L → X.cell? ⟨G, p + j, none⟩ = some (.int .u8 (nb.getD j 0))) : ∀ j u, (bv nb)[j]? = some u → w1.cell? ((⟨G, p, none⟩ : Addr).add j) = some u := by
  intro j u hj
  have hj' : j < nb.length := by
    rcases Nat.lt_or_ge j nb.length with h1 | h1
    · exact h1
    · rw [List.getElem?_eq_none (by rw [bv_length]; exact h1)] at hj; cases hj
  rw [bv_get nb hj'] at hj
  cases hj
  have e : (⟨G, p, none⟩ : Addr).add j = ⟨G, p + j, none⟩ := by unfold Addr.add; split <;> simp_all
  rw [e]
  have h1 : w1.heap[G]? = X.heap[G]? := by
    rw [hg.block G (by show _ < (X.alloc O).heap.size; simp; omega) hr]
    exact Below.heap_alloc X O _ (by omega)
  exact (World.cell?_of_block (a := ⟨G, p + j, none⟩) h1).trans (h j (by omega))
/-- All that has turned between w and w2. -/
theorem grown_two {w X w1 w2 : World} {O : Obj} {r : Option Nat} {g H : Nat} (h0 : w.grownBy X none) (h1 : ((X.alloc O).drew).grownBy w1 r) (h2 : w1.grownBy w2 (some g)) (hat : r = some g ∨ g = H) (hH : w.heap.size ≤ H) : w.grownBy w2 r := by
  have ha0 := World.grownBy_alloc X O none
  have ha : X.grownBy ((X.alloc O).drew) none := ⟨ha0.os, ha0.tape, ha0.output, ha0.size, ha0.block⟩
  refine ⟨h2.os.trans (h1.os.trans (ha.os.trans h0.os)), h2.tape.trans (h1.tape.trans (ha.tape.trans h0.tape)), h2.output.trans (h1.output.trans (ha.output.trans h0.output)), Nat.le_trans h0.size (Nat.le_trans ha.size (Nat.le_trans h1.size h2.size)), fun k hk hn => ?_⟩
  have k1 : k < X.heap.size := Nat.lt_of_lt_of_le hk h0.size
  have k2 : k < ((X.alloc O).drew).heap.size := Nat.lt_of_lt_of_le k1 ha.size
  have k3 : k < w1.heap.size := Nat.lt_of_lt_of_le k2 h1.size
  have hg : some k ≠ some g := by
    rcases hat with rfl | rfl
    · exact hn
    · intro e; cases e; omega
  exact (h2.block k k3 hg).trans ((h1.block k k2 hn).trans ((ha.block k k1 (by simp)).trans (h0.block k hk (by simp))))

end Go.Proofs.Qxb6003730a.Bytes
