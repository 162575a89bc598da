import Derived.Test.Qxb6003730aAfter
import Derived.Test.Qxb6003730aPlain
import Derived.OwnWalk
namespace Go.Proofs.Qxb6003730a.Word
open Go.RowKit Bytes Plain

theorem orj (i : Nat) (a c : Int) (h0 : 0 ≤ a) (h1 : a < 2 ^ i) (h2 : 0 ≤ c) (h3 : c % 2 ^ i = 0) (h4 : c < 18446744073709551616) (hi : i ≤ 64) : bits .or .u64 a c = c + a := by
  obtain ⟨x, rfl⟩ := Int.eq_ofNat_of_zero_le h0
  obtain ⟨y, rfl⟩ := Int.eq_ofNat_of_zero_le h2
  have e1 : x < 2 ^ i := by
    have : ((x : Nat) : Int) < ((2 ^ i : Nat) : Int) := by simpa using h1
    omega
  have e2 : y % 2 ^ i = 0 := by
    have : ((y % 2 ^ i : Nat) : Int) = 0 := by simpa using h3
    omega
  have e3 : x < 18446744073709551616 := Nat.lt_of_lt_of_le e1 (Nat.le_trans (Nat.pow_le_pow_right (by omega) hi) (by decide))
  have := u64_or_nat x y e3 (by omega)
  rw [Nat.or_comm, nat_join i y x e2 e1] at this
  simpa using this
theorem wr64 (d : Int) (h0 : 0 ≤ d) (h1 : d < 18446744073709551616) : IntKind.u64.wrap d = d := by rw [IntKind.wrap_u64]; omega

/-- Eight bytes, as BEUint64 joins them. -/
def beW (d0 d1 d2 d3 d4 d5 d6 d7 : Int) : Int :=
  bits BinOp.or IntKind.u64 (bits BinOp.or IntKind.u64 (bits BinOp.or IntKind.u64 (bits BinOp.or IntKind.u64 (bits BinOp.or IntKind.u64 (bits BinOp.or IntKind.u64 (bits BinOp.or IntKind.u64 (IntKind.u64.wrap d7)
    (IntKind.u64.wrap (IntKind.u64.wrap d6 * 256))) (IntKind.u64.wrap (IntKind.u64.wrap d5 * 65536))) (IntKind.u64.wrap (IntKind.u64.wrap d4 * 16777216))) (IntKind.u64.wrap (IntKind.u64.wrap d3 * 4294967296)))
    (IntKind.u64.wrap (IntKind.u64.wrap d2 * 1099511627776))) (IntKind.u64.wrap (IntKind.u64.wrap d1 * 281474976710656))) (IntKind.u64.wrap (IntKind.u64.wrap d0 * 72057594037927936))
def By (d : Int) : Prop := 0 ≤ d ∧ d < 256
theorem beW_eq (d0 d1 d2 d3 d4 d5 d6 d7 : Int) (h0 : By d0) (h1 : By d1) (h2 : By d2) (h3 : By d3) (h4 : By d4) (h5 : By d5) (h6 : By d6) (h7 : By d7) :
    beW d0 d1 d2 d3 d4 d5 d6 d7 = vb 256 0 [d0, d1, d2, d3, d4, d5, d6, d7] := by
  obtain ⟨_, _⟩ := h0; obtain ⟨_, _⟩ := h1; obtain ⟨_, _⟩ := h2; obtain ⟨_, _⟩ := h3; obtain ⟨_, _⟩ := h4; obtain ⟨_, _⟩ := h5; obtain ⟨_, _⟩ := h6; obtain ⟨_, _⟩ := h7
  unfold beW
  rw [wr64 d0 (by omega) (by omega), wr64 d1 (by omega) (by omega), wr64 d2 (by omega) (by omega), wr64 d3 (by omega) (by omega), wr64 d4 (by omega) (by omega), wr64 d5 (by omega) (by omega), wr64 d6 (by omega) (by omega), wr64 d7 (by omega) (by omega)]
  rw [wr64 (d0 * _) (by omega) (by omega), wr64 (d1 * _) (by omega) (by omega), wr64 (d2 * _) (by omega) (by omega), wr64 (d3 * _) (by omega) (by omega), wr64 (d4 * _) (by omega) (by omega), wr64 (d5 * _) (by omega) (by omega), wr64 (d6 * _) (by omega) (by omega)]
  rw [orj 8 d7 _ (by omega) (by omega) (by omega) (by omega) (by omega) (by omega)]
  rw [orj 16 (_ + d7) _ (by omega) (by omega) (by omega) (by omega) (by omega) (by omega)]
  rw [orj 24 (_ + _) _ (by omega) (by omega) (by omega) (by omega) (by omega) (by omega)]
  rw [orj 32 (_ + _) _ (by omega) (by omega) (by omega) (by omega) (by omega) (by omega)]
  rw [orj 40 (_ + _) _ (by omega) (by omega) (by omega) (by omega) (by omega) (by omega)]
  rw [orj 48 (_ + _) _ (by omega) (by omega) (by omega) (by omega) (by omega) (by omega)]
  rw [orj 56 (_ + _) _ (by omega) (by omega) (by omega) (by omega) (by omega) (by omega)]
  simp only [vb, List.foldl]
  omega

set_option maxRecDepth 100000 in
set_option maxHeartbeats 1000000 in
theorem be64 (b off cap : Nat) (d0 d1 d2 d3 d4 d5 d6 d7 : Int) (w : World)
    (c0 : w.cell? ⟨b, off, none⟩ = some (.int .u8 d0)) (c1 : w.cell? ⟨b, off + 1, none⟩ = some (.int .u8 d1)) (c2 : w.cell? ⟨b, off + 2, none⟩ = some (.int .u8 d2)) (c3 : w.cell? ⟨b, off + 3, none⟩ = some (.int .u8 d3))
    (c4 : w.cell? ⟨b, off + 4, none⟩ = some (.int .u8 d4)) (c5 : w.cell? ⟨b, off + 5, none⟩ = some (.int .u8 d5)) (c6 : w.cell? ⟨b, off + 6, none⟩ = some (.int .u8 d6)) (c7 : w.cell? ⟨b, off + 7, none⟩ = some (.int .u8 d7)) :
    Calls Try.prog 45 #[.slice (some ⟨b, off, none⟩) 8 cap] w fun e w' => e = .returned (.int .u64 (beW d0 d1 d2 d3 d4 d5 d6 d7)) ∧ ∃ n, w' = w.drewN n := by
  go_enter Try.func45, Try.ntmps45
  go_wp2
  go_quiet (fail)
  go_wp2
  go_ret
  exact ⟨rfl, _, rfl⟩

/-- math/big.bigEndianWord at eight bytes. -/
theorem word (b off cap : Nat) (xs : List Int) (w : World) (hl : xs.length = 8) (hin : In 256 xs) (hc : ∀ j, j < 8 → w.cell? ⟨b, off + j, none⟩ = some (.int .u8 (xs.getD j 0))) :
    Calls Try.prog 43 #[.slice (some ⟨b, off, none⟩) 8 cap] w fun e w' => e = .returned (.int .u64 (vb 256 0 xs)) ∧ ∃ n, w' = w.drewN n := by
  match xs, hl with
  | [d0, d1, d2, d3, d4, d5, d6, d7], _ =>
    have e := beW_eq d0 d1 d2 d3 d4 d5 d6 d7 (hin d0 (by simp)) (hin d1 (by simp)) (hin d2 (by simp)) (hin d3 (by simp)) (hin d4 (by simp)) (hin d5 (by simp)) (hin d6 (by simp)) (hin d7 (by simp))
    have C := be64 b off cap d0 d1 d2 d3 d4 d5 d6 d7 w (hc 0 (by omega)) (hc 1 (by omega)) (hc 2 (by omega)) (hc 3 (by omega)) (hc 4 (by omega)) (hc 5 (by omega)) (hc 6 (by omega)) (hc 7 (by omega))
    rw [e] at C
    generalize vb 256 0 [d0, d1, d2, d3, d4, d5, d6, d7] = V at *
    have HC : Hid (Calls Try.prog 45 #[.slice (some ⟨b, off, none⟩) 8 cap] w fun e w' => e = .returned (.int .u64 V) ∧ ∃ n, w' = w.drewN n) := C
    clear C e hc
    go_enter Try.func43, Try.ntmps43
    go_wp2_with fail
    refine (HC.out).mono ?_
    rintro e w' ⟨rfl, n, rfl⟩
    go_wp2
    go_ret
    exact ⟨rfl, _, rfl⟩
end Go.Proofs.Qxb6003730a.Word
