import Derived.Test.Qxb6003730aIdent
namespace Go.Proofs.Qxb6003730a.Ident
open Go.RowKit Bytes Plain

theorem res10 : Try.f10.results = #[.tmp 2, .tmp 3, .tmp 4, .tmp 5, .tmp 6] := by kernel_rfl
set_option maxRecDepth 100000 in
set_option maxHeartbeats 400000 in
theorem decode_short (g off len cap : Nat) (F c num : Nat) (k : Bool) (w : World) (hl : len = 1) (hcell : w.cell? ⟨g, off, none⟩ = some (.int .u8 F)) (h1 : (F : Int) / 64 = c) (h2 : (bits .and .u8 (F : Int) 32 != 0) = k) (h3 : bits .and .u8 (F : Int) 31 = num) (hnum : num < 31) :
    Calls Try.prog 10 #[.slice (some ⟨g, off, none⟩) len cap] w fun e w' => e = .returned (.tuple #[.int .u8 c, .bool k, .int .u32 num, .int .i64 len, .bool true]) ∧ w' = w := by
  subst hl
  have h4 : ((num : Int) != 31) = true := by rw [bne_iff_ne]; omega
  go_enter Try.func10, Try.ntmps10
  go_wp2
  exact bodyPost_ret (v := .tuple #[.int .u8 c, .bool k, .int .u32 num, .int .i64 1, .bool true]) (by simp [results, Try.results10, go_sem]) rfl ⟨rfl, rfl⟩

theorem mask127 (d : Int) (h0 : 0 ≤ d) (h1 : d < 256) : bits .and .u8 d 127 = d % 128 := by
  obtain ⟨x, rfl⟩ := Int.eq_ofNat_of_zero_le h0
  have := u8_and_nat x 127 (by omega) (by decide)
  rw [nat_mask7] at this
  simpa using this
theorem bit128 (d : Int) (h0 : 0 ≤ d) (h1 : d < 256) : bits .and .u8 d 128 = d / 128 * 128 := by
  obtain ⟨x, rfl⟩ := Int.eq_ofNat_of_zero_le h0
  have h2 := u8_and_nat x 128 (by omega) (by decide)
  have h3 := nat_bit 7 x
  rw [show 2 ^ 7 = 128 from rfl] at h3
  rw [h3] at h2
  have e : ((x / 128 % 2 * 128 : Nat) : Int) = (x : Int) / 128 * 128 := by omega
  rw [e] at h2
  exact h2
theorem or7 (a d : Int) (h0 : 0 ≤ a) (h1 : a * 128 < 18446744073709551616) (h2 : 0 ≤ d) (h3 : d < 128) : bits .or .u64 (a * 128) d = a * 128 + d := by
  obtain ⟨x, rfl⟩ := Int.eq_ofNat_of_zero_le h0
  obtain ⟨y, rfl⟩ := Int.eq_ofNat_of_zero_le h2
  have := u64_or_nat (x * 128) y (by omega) (by omega)
  rw [nat_join 7 (x * 128) y (by omega) (by omega)] at this
  simpa using this

set_option maxRecDepth 100000 in
set_option maxHeartbeats 1000000 in
theorem decode_long (g off len cap : Nat) (F c num : Nat) (ds : List Int) (k : Bool) (w : World) (hl : len = 1 + ds.length) (hG : Good num ds) (h31 : 31 ≤ num) (hnum : num < 4294967296) (hcell : w.cell? ⟨g, off, none⟩ = some (.int .u8 F)) (hc : ∀ j, j < ds.length → w.cell? ⟨g, off + (1 + j), none⟩ = some (.int .u8 (gbf ds j)))
    (h1 : (F : Int) / 64 = c) (h2 : (bits .and .u8 (F : Int) 32 != 0) = k) (h3 : bits .and .u8 (F : Int) 31 = 31) :
    Calls Try.prog 10 #[.slice (some ⟨g, off, none⟩) len cap] w fun e w' => e = .returned (.tuple #[.int .u8 c, .bool k, .int .u32 num, .int .i64 len, .bool true]) ∧ w' = w := by
  obtain ⟨l1, l2⟩ := hG.len
  have HL : Hid (len = 1 + ds.length) := hl
  have l3 : 0 < len := by omega
  have l4 : 1 < len := by omega
  clear hl
  have l0 : ((len : Int) == 0) = false := by rw [beq_eq_false_iff_ne]; omega
  go_enter Try.func10, Try.ntmps10
  have HC : Hid (∀ j, j < ds.length → w.cell? ⟨g, off + (1 + j), none⟩ = some (.int .u8 (gbf ds j))) := hc
  clear hc
  go_wp2
  go_loop [2, 3, 9, 10] (fun y z x i => ∃ t : Nat, t < ds.length ∧ y = .int .u8 c ∧ z = .bool k ∧ i = .int .i64 (1 + t : Nat) ∧ x = .int .u64 (vb 128 0 (ds.take t))) (fun _ _ _ i => 7 - (intOf i).toNat)
  case atStart => exact ⟨0, by omega, rfl, rfl, rfl, rfl⟩
  case round =>
    obtain ⟨t, ht, rfl, rfl, rfl, rfl⟩ := hrel
    have q := HC.out t ht
    obtain ⟨v1, v2⟩ := vb_take 128 ds (by decide) hG.digs t
    obtain ⟨v3, v4⟩ := hG.digs.get ht
    have HV : Hid (vb 128 0 (ds.take (t + 1)) = vb 128 0 (ds.take t) * 128 + ds.getD t 0) := by rw [take_snoc ds ht, vb_snoc]; exact rfl
    have HW : Hid (vb 128 0 ds = num) := hG.val
    have v5 : vb 128 0 (ds.take t) ≤ num := by rw [← hG.val]; exact v2
    have o1 := or7 (vb 128 0 (ds.take t)) (ds.getD t 0) v1 (by omega) v3 v4
    have t1 : ¬ (5 : Int) < 1 + (t : Int) := by omega
    have t2 : (1 : Int) + t < len := by have := HL.out; omega
    have hq : gbf ds t = if t + 1 < ds.length then ds.getD t 0 + 128 else ds.getD t 0 := rfl
    rw [hq] at q
    clear hq
    have hhead := hG.head
    have hd0 : t = 0 → 1 ≤ ds.getD t 0 := fun e => by subst e; exact hhead
    clear hhead
    generalize hVe : vb 128 0 (ds.take t) = V at *
    have HVe : Hid (vb 128 0 (ds.take t) = V) := hVe
    clear hVe
    by_cases hlast : t + 1 < ds.length
    · rw [if_pos hlast] at q
      have m1 := mask127 (ds.getD t 0 + 128) (by omega) (by omega)
      rw [show (ds.getD t 0 + 128) % 128 = ds.getD t 0 by omega] at m1
      have m2 := bit128 (ds.getD t 0 + 128) (by omega) (by omega)
      rw [show (ds.getD t 0 + 128) / 128 * 128 = 128 by omega] at m2
      generalize ds.getD t 0 = D at *
      clear v2
      by_cases h0 : t = 0
      · have g2 : (D + 128 == 128) = false := by have := hd0 h0; rw [beq_eq_false_iff_ne]; omega
        subst h0
        clear hd0
        go_wp2
        go_round
        case rel => exact ⟨0 + 1, by omega, rfl, rfl, by go_num, by rw [HV.out]⟩
        case measure => simp [intOf]
      · have g1 : ((1 : Int) + t == 1) = false := by rw [beq_eq_false_iff_ne]; omega
        clear hd0 h0
        go_wp2
        go_round
        case rel => exact ⟨t + 1, by omega, rfl, rfl, by go_num, by rw [HV.out]⟩
        case measure => simp [intOf]; omega
    · rw [if_neg hlast] at q
      have m1 := mask127 (ds.getD t 0) (by omega) (by omega)
      rw [show ds.getD t 0 % 128 = ds.getD t 0 by omega] at m1
      have m2 := bit128 (ds.getD t 0) (by omega) (by omega)
      rw [show ds.getD t 0 / 128 * 128 = 0 by omega] at m2
      have HN : Hid (V * 128 + ds.getD t 0 = num) := by
        rw [← HV.out, ← HW.out, List.take_of_length_le (by omega)]
        exact rfl
      have n1 : ¬ V * 128 + ds.getD t 0 < 31 := by rw [HN.out]; omega
      have n2 : ¬ 4294967295 < V * 128 + ds.getD t 0 := by rw [HN.out]; omega
      have HK : Hid ((1 : Int) + t + 1 = len) := by have := HL.out; show _ = _; omega
      generalize ds.getD t 0 = D at *
      clear v2
      by_cases h0 : t = 0
      · have g2 : (D == 128) = false := by rw [beq_eq_false_iff_ne]; omega
        have HK' : Hid ((2 : Int) = len) := by have := HK.out; show _ = _; omega
        subst h0
        clear hd0
        go_wp2
        refine bodyPost_ret (v := .tuple #[.int .u8 c, .bool k, .int .u32 (V * 128 + D), .int .i64 2, .bool true]) (by simp [results, Try.results10, go_sem]) rfl ⟨?_, rfl⟩
        rw [HN.out, HK'.out]
      · have g1 : ((1 : Int) + t == 1) = false := by rw [beq_eq_false_iff_ne]; omega
        clear hd0 h0
        go_wp2
        refine bodyPost_ret (v := .tuple #[.int .u8 c, .bool k, .int .u32 (V * 128 + D), .int .i64 (1 + t + 1), .bool true]) (by simp [results, Try.results10, go_sem]) rfl ⟨?_, rfl⟩
        rw [HN.out, HK.out]

theorem lead (c : Nat) (k : Bool) (y : Nat) (hc : c ≤ 3) (hy : y < 32) :
    ((fst c k + y : Nat) : Int) / 64 = c ∧ (bits .and .u8 ((fst c k + y : Nat) : Int) 32 != 0) = k ∧ bits .and .u8 ((fst c k + y : Nat) : Int) 31 = y := by
  have hF : fst c k + y < 256 := by have := fst_bd c k hc; omega
  have a1 := u8_and_nat (fst c k + y) 32 hF (by decide)
  have a2 := u8_and_nat (fst c k + y) 31 hF (by decide)
  have a3 := nat_bit 5 (fst c k + y)
  rw [show 2 ^ 5 = 32 from rfl] at a3
  rw [a3] at a1
  rw [nat_mask5] at a2
  have b1 : bits .and .u8 ((fst c k + y : Nat) : Int) 32 = (((fst c k + y) / 32 % 2 * 32 : Nat) : Int) := a1
  have b2 : bits .and .u8 ((fst c k + y : Nat) : Int) 31 = (((fst c k + y) % 32 : Nat) : Int) := a2
  rw [b1, b2]
  unfold fst
  cases k
  · have e1 : (c * 64 + (if false = true then 32 else 0) + y) / 32 % 2 = 0 := by simp; omega
    rw [e1]
    refine ⟨by simp; omega, rfl, by simp; omega⟩
  · have e1 : (c * 64 + (if true = true then 32 else 0) + y) / 32 % 2 = 1 := by simp; omega
    rw [e1]
    refine ⟨by simp; omega, rfl, by simp; omega⟩

theorem decode (g off len cap c num : Nat) (k : Bool) (id : List Int) (w : World) (hid : IsIdent c k num id) (hc : c ≤ 3) (hnum : num < 4294967296) (hl : len = id.length) (hcell : ∀ j, j < id.length → w.cell? ⟨g, off + j, none⟩ = some (.int .u8 (id.getD j 0))) :
    Calls Try.prog 10 #[.slice (some ⟨g, off, none⟩) len cap] w fun e w' => e = .returned (.tuple #[.int .u8 c, .bool k, .int .u32 num, .int .i64 len, .bool true]) ∧ w' = w := by
  rcases hid with ⟨h, rfl⟩ | ⟨h, ds, hG, rfl⟩
  · obtain ⟨l1, l2, l3⟩ := lead c k num hc (by omega)
    refine decode_short g off len cap (fst c k + num) c num k w hl ?_ l1 l2 l3 h
    have := hcell 0 (by simp)
    simpa using this
  · obtain ⟨l1, l2, l3⟩ := lead c k 31 hc (by omega)
    refine decode_long g off len cap (fst c k + 31) c num ds k w ?_ hG h hnum ?_ ?_ l1 l2 l3
    · rw [hl, List.length_append, gb_length]; rfl
    · have := hcell 0 (by simp)
      simpa using this
    · intro j hj
      have := hcell (1 + j) (by rw [List.length_append, gb_length]; simp; omega)
      rw [this, ← gb_get ds hj]
      simp [List.getD, Nat.add_comm 1 j]
end Go.Proofs.Qxb6003730a.Ident
