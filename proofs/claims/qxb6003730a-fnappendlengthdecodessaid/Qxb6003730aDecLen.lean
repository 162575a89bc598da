import Derived.Test.Qxb6003730aLength
namespace Go.Proofs.Qxb6003730a.Length
open Go.RowKit Bytes Plain

set_option maxRecDepth 100000 in
set_option maxHeartbeats 400000 in
theorem decode_short (g off len cap : Nat) (F : Nat) (w : World) (hl : len = 1) (hF : F < 128) (hcell : w.cell? ⟨g, off, none⟩ = some (.int .u8 F)) :
    Calls Try.prog 13 #[.slice (some ⟨g, off, none⟩) len cap] w fun e w' => e = .returned (.tuple #[.int .u64 F, .int .i64 len, .bool true]) ∧ w' = w := by
  subst hl
  go_enter Try.func13, Try.ntmps13
  go_wp2
  go_ret3
  exact ⟨rfl, rfl⟩

theorem mask127 (d : Int) (h0 : 0 ≤ d) (h1 : d < 256) : bits .and .u8 d 127 = d % 128 := by
  obtain ⟨x, rfl⟩ := Int.eq_ofNat_of_zero_le h0
  have := u8_and_nat x 127 (by omega) (by decide)
  rw [nat_mask7] at this
  simpa using this
theorem or8b (a d : Int) (h0 : 0 ≤ a) (h1 : a * 256 < 18446744073709551616) (h2 : 0 ≤ d) (h3 : d < 256) : bits .or .u64 (a * 256) d = a * 256 + d := by
  obtain ⟨x, rfl⟩ := Int.eq_ofNat_of_zero_le h0
  obtain ⟨y, rfl⟩ := Int.eq_ofNat_of_zero_le h2
  have := u64_or_nat (x * 256) y (by omega) (by omega)
  rw [nat_join 8 (x * 256) y (by omega) (by omega)] at this
  simpa using this

set_option maxRecDepth 100000 in
set_option maxHeartbeats 1000000 in
theorem decode_long (g off len cap : Nat) (num : Nat) (ds : List Int) (w : World) (hl : len = 1 + ds.length) (hG : Good num ds) (h128 : 128 ≤ num) (hnum : num ≤ 9223372036854775807) (hcell : w.cell? ⟨g, off, none⟩ = some (.int .u8 (128 + ds.length))) (hc : ∀ j, j < ds.length → w.cell? ⟨g, off + (1 + j), none⟩ = some (.int .u8 (ds.getD j 0))) :
    Calls Try.prog 13 #[.slice (some ⟨g, off, none⟩) len cap] w fun e w' => e = .returned (.tuple #[.int .u64 num, .int .i64 len, .bool true]) ∧ w' = w := by
  obtain ⟨l1, l2⟩ := hG.len
  have HL : Hid (len = 1 + ds.length) := hl
  have l3 : 0 < len := by omega
  have l4 : 1 < len := by omega
  have l5 : ¬ (len : Int) < 1 + ds.length := by omega
  have HLi : Hid ((1 : Int) + ds.length = len) := by show _ = _; omega
  clear hl
  have l0 : ((len : Int) == 0) = false := by rw [beq_eq_false_iff_ne]; omega
  have m1 := mask127 (128 + (ds.length : Int)) (by omega) (by omega)
  rw [show (128 + (ds.length : Int)) % 128 = ds.length by omega] at m1
  have n1 : ((ds.length : Int) == 0) = false := by rw [beq_eq_false_iff_ne]; omega
  have q0 := hc 0 (by omega)
  have n2 : (ds.getD 0 0 == 0) = false := by have := hG.head; rw [beq_eq_false_iff_ne]; omega
  have HC : Hid (∀ j, j < ds.length → w.cell? ⟨g, off + (1 + j), none⟩ = some (.int .u8 (ds.getD j 0))) := hc
  clear hc
  generalize hd0 : ds.getD 0 0 = D0 at *
  clear hd0
  generalize hK : ds.length = K at *
  have HK : Hid (ds.length = K) := hK
  clear hK
  go_enter Try.func13, Try.ntmps13
  go_wp2
  go_loop [2, 7] (fun x i => ∃ t : Nat, t ≤ K ∧ i = .int .i64 (1 + t : Nat) ∧ x = .int .u64 (vb 256 0 (ds.take t))) (fun _ i => 9 - (intOf i).toNat)
  case atStart => exact ⟨0, by omega, rfl, rfl⟩
  case round =>
    obtain ⟨t, ht, rfl, rfl⟩ := hrel
    obtain ⟨v1, v2⟩ := vb_take 256 ds (by decide) hG.digs t
    by_cases hlt : t < K
    · have q := HC.out t hlt
      obtain ⟨v3, v4⟩ := hG.digs.get (k := t) (by rw [HK.out]; exact hlt)
      have HV : Hid (vb 256 0 (ds.take (t + 1)) = vb 256 0 (ds.take t) * 256 + ds.getD t 0) := by rw [take_snoc ds (by rw [HK.out]; exact hlt), vb_snoc]; exact rfl
      have v6 : vb 256 0 (ds.take t) * 256 + ds.getD t 0 ≤ num := by
        have := (vb_take 256 ds (by decide) hG.digs (t + 1)).2
        rw [HV.out, hG.val] at this
        exact this
      have o1 := or8b (vb 256 0 (ds.take t)) (ds.getD t 0) v1 (by omega) v3 v4
      generalize vb 256 0 (ds.take t) = V at *
      generalize ds.getD t 0 = D at *
      clear v2
      have t2 : (1 : Int) + t < len := by have := HLi.out; omega
      go_wp2
      go_round
      case rel => exact ⟨t + 1, by omega, by go_num, by rw [HV.out]⟩
      case measure => simp [intOf]; omega
    · obtain rfl : t = K := by omega
      have hv : vb 256 0 (ds.take t) = num := by rw [List.take_of_length_le (by rw [HK.out]; exact Nat.le_refl _), hG.val]
      have HVN : Hid (vb 256 0 (ds.take t) = num) := hv
      rw [hv] at v1 v2
      have n3 : ¬ vb 256 0 (ds.take t) < 128 := by rw [hv]; omega
      clear hv
      generalize vb 256 0 (ds.take t) = V at *
      go_wp2
      go_ret3
      exact ⟨by simp [HVN.out, HLi.out], rfl⟩

theorem decode (g off len cap num : Nat) (id : List Int) (w : World) (hid : IsLen num id) (hnum : num ≤ 9223372036854775807) (hl : len = id.length) (hcell : ∀ j, j < id.length → w.cell? ⟨g, off + j, none⟩ = some (.int .u8 (id.getD j 0))) :
    Calls Try.prog 13 #[.slice (some ⟨g, off, none⟩) len cap] w fun e w' => e = .returned (.tuple #[.int .u64 num, .int .i64 len, .bool true]) ∧ w' = w := by
  rcases hid with ⟨h, rfl⟩ | ⟨h, ds, hG, rfl⟩
  · refine decode_short g off len cap num w hl h ?_
    have := hcell 0 (by simp)
    simpa using this
  · refine decode_long g off len cap num ds w ?_ hG h hnum ?_ ?_
    · rw [hl, List.length_append]; rfl
    · have := hcell 0 (by simp)
      simpa using this
    · intro j hj
      have := hcell (1 + j) (by rw [List.length_append]; simp; omega)
      rw [this]
      simp [List.getD, Nat.add_comm 1 j]
end Go.Proofs.Qxb6003730a.Length
