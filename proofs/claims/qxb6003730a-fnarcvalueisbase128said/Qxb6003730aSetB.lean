import Derived.Test.Qxb6003730aSetN
namespace Go.Proofs.Qxb6003730a.SetB
open Go.RowKit Bytes Plain

/-- The words of a slice of type nat. -/
def Ws (w : World) (ao : Option Addr) (ws : List Int) : Prop := 0 < ws.length → ∃ g, ao = some ⟨g, 0, none⟩ ∧ ∀ j, j < ws.length → w.cell? ⟨g, j, none⟩ = some (.int .u64 (ws.getD j 0))
/-- A big.Int at the head of block P: not negative, its words ws. -/
structure BigI (w : World) (P : Nat) (ws : List Int) : Prop where
  neg : w.cell? ⟨P, 0, none⟩ = some (.bool false)
  abs : ∃ ao cap, w.cell? ⟨P, 1, none⟩ = some (.slice ao ws.length cap) ∧ Ws w ao ws
  digs : In 18446744073709551616 ws
  norm : Norm ws
  len : ws.length ≤ 65536
  blk : ∃ ca ta, w.heap[P]? = some (.cells ca ta (0, 0))
theorem BigI.lt {w : World} {P : Nat} {ws : List Int} (h : BigI w P ws) : P < w.heap.size := World.block_lt_of_cell? w _ h.neg
/-- Where all old blocks stand, a number stands. -/
theorem BigI.keep {w w' : World} {P : Nat} {ws : List Int} (h : BigI w P ws) (hb : Below w.heap.size w w') : BigI w' P ws := by
  obtain ⟨ao, cap, h1, h2⟩ := h.abs
  refine ⟨(hb.cell (p := ⟨P, 0, none⟩) h.lt).trans h.neg, ⟨ao, cap, (hb.cell (p := ⟨P, 1, none⟩) h.lt).trans h1, fun hl => ?_⟩, h.digs, h.norm, h.len, ?_⟩
  · obtain ⟨g, e, hc⟩ := h2 hl
    exact ⟨g, e, fun j hj => (hb.cell (p := ⟨g, j, none⟩) (World.block_lt_of_cell? w _ (hc j hj))).trans (hc j hj)⟩
  · obtain ⟨ca, ta, hh⟩ := h.blk
    exact ⟨ca, ta, (hb.block P h.lt).trans hh⟩

theorem blk_set {w : World} {P o : Nat} {v : Value} (h : ∃ ca ta, w.heap[P]? = some (.cells ca ta (0, 0))) : ∃ ca ta, (w.setCell ⟨P, o, none⟩ v).heap[P]? = some (.cells ca ta (0, 0)) := by
  obtain ⟨ca, ta, h⟩ := h
  exact ⟨ca.setIfInBounds o v, ta, by simp [World.setCell, Array.getElem?_modify, h]⟩
theorem big_of {w1 : World} {P cap : Nat} {ao : Option Addr} {ws : List Int} {v0 v1 : Value} (c0 : w1.cell? ⟨P, 0, none⟩ = some v0) (c1 : w1.cell? ⟨P, 1, none⟩ = some v1) (hd : In 18446744073709551616 ws) (hn : Norm ws) (hl : ws.length ≤ 65536) (hk : ∃ ca ta, w1.heap[P]? = some (.cells ca ta (0, 0)))
    (hw : 0 < ws.length → ∃ g, g ≠ P ∧ ao = some ⟨g, 0, none⟩ ∧ ∀ j, j < ws.length → w1.cell? ⟨g, j, none⟩ = some (.int .u64 (ws.getD j 0))) :
    BigI ((w1.setCell ⟨P, 1, none⟩ (.slice ao ws.length cap)).setCell ⟨P, 0, none⟩ (.bool false)) P ws := by
  have e0 : (w1.setCell ⟨P, 1, none⟩ (.slice ao ws.length cap)).cell? ⟨P, 0, none⟩ = some v0 := (World.cell?_setCell_other _ _ _ _ (by simp)).trans c0
  refine ⟨World.cell?_setCell_same _ _ _ e0, ⟨ao, cap, (World.cell?_setCell_other _ _ _ _ (by simp)).trans (World.cell?_setCell_same _ _ _ c1), fun h => ?_⟩, hd, hn, hl, blk_set (blk_set hk)⟩
  obtain ⟨g, hg, e, hc⟩ := hw h
  refine ⟨g, e, fun j hj => ?_⟩
  exact (World.cell?_setCell_other _ _ _ _ (fun h => hg (by cases h; rfl))).trans ((World.cell?_setCell_other _ _ _ _ (fun h => hg (by cases h; rfl))).trans (hc j hj))
theorem grown_at {w wr : World} {b : Nat} (hg : w.grownBy wr (some b)) (o : Nat) (v : Value) : w.grownBy (wr.setCell ⟨b, o, none⟩ v) (some b) :=
  ⟨hg.os, hg.tape, hg.output, by simpa using hg.size, fun k hk hn => (Below.heap_setCell wr ⟨b, o, none⟩ v k (by intro e; exact hn (by rw [e]))).trans (hg.block k hk hn)⟩
theorem grown_refl (w : World) (r : Option Nat) : w.grownBy w r := ⟨rfl, rfl, rfl, Nat.le_refl _, fun _ _ _ => rfl⟩

set_option maxHeartbeats 400000 in
theorem setB0 (P : Nat) (ab : Option Addr) (capb : Nat) (x : Bool) (w : World) (c0 : w.cell? ⟨P, 0, none⟩ = some (.bool x)) (c1 : w.cell? ⟨P, 1, none⟩ = some (.slice none 0 0)) (f0 : w.frozen? ⟨P, 0, none⟩ = false) (f1 : w.frozen? ⟨P, 1, none⟩ = false) (hk : ∃ ca ta, w.heap[P]? = some (.cells ca ta (0, 0))) :
    Calls Try.prog 37 #[.pointer (some ⟨P, 0, none⟩), .slice ab 0 capb] w fun e w' => e = .returned (.pointer (some ⟨P, 0, none⟩)) ∧ BigI w' P [] ∧ w.grownBy w' (some P) := by
  have HK : Hid (∃ ca ta, w.heap[P]? = some (.cells ca ta (0, 0))) := hk
  clear hk
  go_enter Try.func37, Try.ntmps37
  go_wp2_with fail
  refine (setBytes0 ab capb _).mono ?_
  rintro e w' ⟨rfl, rfl⟩
  go_wp2
  go_ret
  exact ⟨rfl, big_of (ws := []) c0 c1 (fun _ h => by simp at h) (fun h => by simp at h) (by simp) HK.out (fun h => by simp at h), grown_at (grown_at (grown_refl _ _) _ _) _ _⟩

set_option maxHeartbeats 400000 in
theorem setBN (P b off M capb : Nat) (xs : List Int) (x : Bool) (w : World) (hM : xs.length = M) (h1 : 1 ≤ M) (hm : M ≤ 65536) (hcap : M ≤ capb) (hb : b < w.heap.size) (hin : In 256 xs) (hc : ∀ j, j < M → w.cell? ⟨b, off + j, none⟩ = some (.int .u8 (xs.getD j 0)))
    (c0 : w.cell? ⟨P, 0, none⟩ = some (.bool x)) (c1 : w.cell? ⟨P, 1, none⟩ = some (.slice none 0 0)) (f0 : w.frozen? ⟨P, 0, none⟩ = false) (f1 : w.frozen? ⟨P, 1, none⟩ = false) (hk : ∃ ca ta, w.heap[P]? = some (.cells ca ta (0, 0))) :
    Calls Try.prog 37 #[.pointer (some ⟨P, 0, none⟩), .slice (some ⟨b, off, none⟩) M capb] w fun e w' => e = .returned (.pointer (some ⟨P, 0, none⟩)) ∧ (∃ ws, BigI w' P ws ∧ V ws = vb 256 0 xs) ∧ w.grownBy w' (some P) := by
  have hP : P < w.heap.size := World.block_lt_of_cell? w _ c0
  have HC : Hid (∀ j, j < M → w.cell? ⟨b, off + j, none⟩ = some (.int .u8 (xs.getD j 0))) := hc
  have HK : Hid (∃ ca ta, w.heap[P]? = some (.cells ca ta (0, 0))) := hk
  clear hc hk
  go_enter Try.func37, Try.ntmps37
  go_wp2_with fail
  refine (setBytesN b off M capb xs _ hM h1 hm hcap hb hin HC.out).mono ?_
  rintro e w1 ⟨m, cap, ws, rfl, hl, hmM, hd, hn, hv, hcell, hbel⟩
  have d0 := (hbel.cell (p := ⟨P, 0, none⟩) hP).trans c0
  have d1 := (hbel.cell (p := ⟨P, 1, none⟩) hP).trans c1
  have e0 := (hbel.frozen (p := ⟨P, 0, none⟩) hP).trans f0
  have e1 := (hbel.frozen (p := ⟨P, 1, none⟩) hP).trans f1
  have HW : Hid (∀ j, j < m → w1.cell? ⟨w.heap.size, j, none⟩ = some (.int .u64 (ws.getD j 0))) := hcell
  have HV : Hid (V ws = vb 256 0 xs) := hv
  have hm' : m ≤ 65536 := by omega
  subst hl
  clear hcell hv hM
  have R := big_of (cap := cap) (ao := some ⟨w.heap.size, 0, none⟩) d0 d1 hd hn hm' (by obtain ⟨ca, ta, hh⟩ := HK.out; exact ⟨ca, ta, (hbel.block P hP).trans hh⟩) (fun _ => ⟨w.heap.size, by omega, rfl, HW.out⟩)
  have G := grown_at (grown_at (⟨hbel.os, hbel.tape, hbel.output, hbel.size, fun k hk _ => hbel.block k hk⟩ : w.grownBy w1 (some P)) 1 (.slice (some ⟨w.heap.size, 0, none⟩) ws.length cap)) 0 (.bool false)
  go_wp2
  go_ret
  exact ⟨rfl, ⟨ws, R, HV.out⟩, G⟩
end Go.Proofs.Qxb6003730a.SetB
