import Derived.Test.Qxb6003730aRows
import Derived.WalkKit
import Derived.WalkSpells
import Derived.WalkLawsBesides
import Derived.BigQuiet
import Derived.Outline
import Derived.Deep.OwnRows
import Derived.Deep.AppendLies
import Derived.Deep.RegionLaw
namespace Go.Proofs.Qxb6003730a.Bytes
open Go.RowKit

theorem info5 : (Try.prog.info? 5).map (fun i => (i.zero, i.size, i.bytes)) = some (some (.int .u8 0), 1, 1) := by kernel_rfl

theorem clone_nil (w : World) : Calls Try.prog 8 #[.slice none 0 0] w fun e w' => e = .returned (.slice none 0 0) ∧ w' = w := by
  have heq := fun w => Lib.run_eql_slice_nil (P := Try.prog) w 22 5 none 0 0 0 0 Try.underlying22
  go_enter Try.func8, Try.ntmps8
  go_wp2
  go_ret
  exact ⟨rfl, rfl⟩

/-- A slice without elements that is not nil. -/
theorem clone_zero (x : Addr) (cap : Nat) (w : World) :
    Calls Try.prog 8 #[.slice (some x) 0 cap] w fun e w' => e = .returned (.slice (some ⟨w.heap.size, 0, none⟩) 0 0) ∧ w' = w.alloc (.cells #[] 5) := by
  have mk : ∀ w, (Instr.makeSlice 22 (.int .i64 0) (.int .i64 0)).run Try.prog w = .ok (.slice (some ⟨w.heap.size, 0, none⟩) 0 0) (w.alloc (.cells #[] 5)) := fun w => by kernel_rfl
  have heq := fun w => Lib.run_eql_slice_nil (P := Try.prog) w 22 5 (some x) 0 cap 0 0 Try.underlying22
  go_enter Try.func8, Try.ntmps8
  go_wp2
  go_loop [4] (fun i => i = .int .i64 0) (fun _ => 0)
  case atStart => rfl
  case round =>
    subst hrel
    go_wp2
    go_ret
    exact ⟨rfl, rfl⟩

set_option maxHeartbeats 400000 in
theorem clone_some (b off len cap : Nat) (zs : List Int) (w : World) (hl : len ≤ 65536) (hb : b < w.heap.size) (hc : ∀ i, i < len → w.cell? ⟨b, off + i, none⟩ = some (.int .u8 (zs.getD i 0))) :
    Calls Try.prog 8 #[.slice (some ⟨b, off, none⟩) len cap] w fun e w' => e = .returned (.slice (some ⟨w.heap.size, 0, none⟩) len len) ∧ w'.rowIs w.heap.size 5 len (fun i => .int .u8 (zs.getD i 0)) ∧ Below w.heap.size w w' ∧ w'.heap.size = w.heap.size + 1 := by
  have mk := fun w => run_make_row' (P := Try.prog) 22 5 (.int .u8 0) 1 Try.underlying22 info5 rfl .i64 .i64 len (by omega) (by omega) w
  have heq := fun w => Lib.run_eql_slice_nil (P := Try.prog) w 22 5 (some ⟨b, off, none⟩) len cap 0 0 Try.underlying22
  go_enter Try.func8, Try.ntmps8
  go_wp2
  go_loopw [4] (fun i wr => ∃ k : Nat, k ≤ len ∧ i = .int .i64 k ∧ wr.rowIs w.heap.size 5 len (fun j => .int .u8 (if j < k then zs.getD j 0 else 0)) ∧ Below w.heap.size w wr ∧ wr.heap.size = w.heap.size + 1) (fun i _ => len - (intOf i).toNat)
  case atStart =>
    refine ⟨0, Nat.zero_le _, rfl, (World.rowIs_made w (.int .u8 0) len 5).congr (fun i _ => by simp), (Below.refl _ _).alloc (Nat.le_refl _) _, by simp⟩
  case round =>
    obtain ⟨k, hk, rfl, hrow, hbel, hz⟩ := hrel
    by_cases hlt : k < len
    · have q0 := (hbel.cell (p := ⟨b, off + k, none⟩) hb).trans (hc k hlt)
      have q1 := hrow.cell hlt
      have q2 := hrow.frozen k
      have l1 : (k : Int) < (len : Int) := by omega
      have R : (wr.setCell ⟨w.heap.size, k, none⟩ (.int .u8 (zs.getD k 0))).rowIs w.heap.size 5 len (fun j => .int .u8 (if j < k + 1 then zs.getD j 0 else 0)) := by
        refine (hrow.set k (.int .u8 (zs.getD k 0))).congr fun j _ => ?_
        by_cases e : j = k
        · subst e; simp
        · by_cases e2 : j < k
          · simp [e, e2, show j < k + 1 by omega]
          · simp [e, e2, show ¬ j < k + 1 by omega]
      go_wp2
      go_roundw
      case rel => exact ⟨k + 1, by omega, by go_num, R, hbel.setCell (Nat.le_refl _) _, by simp; omega⟩
      case measure => simp [intOf]; omega
    · obtain rfl : k = len := by omega
      have R := hrow.congr (g := fun i => .int .u8 (zs.getD i 0)) fun j hj => by simp [hj]
      go_wp2
      go_ret
      exact ⟨rfl, R, hbel, hz⟩

/-- Bytes as cells. -/
def bv (bs : List Int) : List Value := bs.map (Value.int .u8)
theorem bv_append (a b : List Int) : bv (a ++ b) = bv a ++ bv b := by simp [bv]
theorem bv_length (a : List Int) : (bv a).length = a.length := by simp [bv]
theorem bv_get (bs : List Int) {i : Nat} (hi : i < bs.length) : (bv bs)[i]? = some (.int .u8 (bs.getD i 0)) := by
  simp [bv, List.getD, List.getElem?_eq_getElem hi]
theorem bv_one (bs : List Int) : ∀ u ∈ bv bs, u.oneCell' = true := by
  intro u hu
  obtain ⟨x, _, rfl⟩ := List.mem_map.1 hu
  rfl
/-- The slice 'ao' reads as bs. -/
def Src (w : World) (ao : Option Addr) (len cap : Nat) (bs : List Int) : Prop :=
  bs.length = len ∧ ((ao = none ∧ len = 0 ∧ cap = 0) ∨ (∃ x, ao = some x ∧ len = 0) ∨ ∃ b off, ao = some ⟨b, off, none⟩ ∧ b < w.heap.size ∧ ∀ i, i < len → w.cell? ⟨b, off + i, none⟩ = some (.int .u8 (bs.getD i 0)))

theorem own_of_row {w : World} {B b len : Nat} {bs : List Int} (h : w.rowIs b 5 len (fun i => .int .u8 (bs.getD i 0))) (hb : B ≤ b) (hl : bs.length = len) (hm : len ≤ 65536) :
    w.ownsRow B 5 1 (.slice (some ⟨b, 0, none⟩) len len) len (bv bs) := by
  obtain ⟨c, h1, h2, h3⟩ := h
  refine ⟨by rw [bv_length]; omega, .inr ⟨b, len, c, rfl, hb, h1, Nat.le_refl _, by unfold maxLen; omega, by omega, ?_⟩⟩
  apply List.ext_getElem?
  intro i
  by_cases hi : i < len
  · rw [bv_get bs (by omega), List.getElem?_take, if_pos (by omega)]
    simpa using h3 i hi
  · rw [List.getElem?_eq_none (by simp; omega), List.getElem?_eq_none (by rw [bv_length]; omega)]

theorem own_cell {w : World} {B g n cap : Nat} {bs : List Int} (h : w.ownsRow B 5 1 (.slice (some ⟨g, 0, none⟩) n cap) n (bv bs)) {i : Nat} (hi : i < bs.length) : w.cell? ⟨g, i, none⟩ = some (.int .u8 (bs.getD i 0)) := by
  have h1 := h.cells (g := g) rfl i _ (bv_get bs hi)
  rw [← h1]
  congr 1
  unfold Addr.add
  split <;> simp_all

theorem src_of_own {w : World} {B n cap : Nat} {ao : Option Addr} {bs : List Int} (h : w.ownsRow B 5 1 (.slice ao n cap) n (bv bs)) : Src w ao n cap bs := by
  have h1 := h.1
  rw [bv_length] at h1
  refine ⟨by omega, ?_⟩
  rcases h.2 with ⟨e, rfl⟩ | ⟨g, cap', cur, e, hb, hg, _⟩
  · cases e; exact .inl ⟨rfl, rfl, rfl⟩
  · cases e
    exact .inr (.inr ⟨g, 0, rfl, (Array.getElem?_eq_some_iff.1 hg).1, fun i hi => by rw [Nat.zero_add]; exact own_cell h (by omega)⟩)

theorem clone (ao : Option Addr) (len cap : Nat) (bs : List Int) (w : World) (h : Src w ao len cap bs) (hl : len ≤ 65536) :
    Calls Try.prog 8 #[.slice ao len cap] w fun e w' => ∃ ao' cap', e = .returned (.slice ao' len cap') ∧ w'.ownsRow w.heap.size 5 1 (.slice ao' len cap') len (bv bs) ∧ Below w.heap.size w w' := by
  obtain ⟨h1, ⟨rfl, rfl, rfl⟩ | ⟨x, rfl, rfl⟩ | ⟨b, off, rfl, hb, hc⟩⟩ := h
  · refine (clone_nil w).mono ?_
    rintro e w' ⟨rfl, rfl⟩
    obtain rfl := List.length_eq_zero_iff.1 h1
    exact ⟨_, _, rfl, World.ownsRow_nil _ _ _ _, Below.refl _ _⟩
  · refine (clone_zero x cap w).mono ?_
    rintro e w' ⟨rfl, rfl⟩
    obtain rfl := List.length_eq_zero_iff.1 h1
    refine ⟨_, _, rfl, own_of_row (bs := []) ?_ (Nat.le_refl _) rfl (by omega), (Below.refl _ _).alloc (Nat.le_refl _) _⟩
    exact World.rowIs_alloc w #[] 5 _ (by intro i hi; simp at hi)
  · refine (clone_some b off len cap bs w hl hb hc).mono ?_
    rintro e w' ⟨rfl, hr, hbel, _⟩
    exact ⟨_, _, rfl, own_of_row hr (Nat.le_refl _) h1 hl, hbel⟩
end Go.Proofs.Qxb6003730a.Bytes
