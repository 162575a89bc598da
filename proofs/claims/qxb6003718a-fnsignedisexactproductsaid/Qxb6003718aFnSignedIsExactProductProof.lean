import Derived.Test.Qxb6003718aRows
import Derived.WalkKit
import Derived.WalkSpells
import Derived.WalkLawsBesides
import Derived.BigQuiet
import Derived.Outline
import Derived.Lib.Mul64
import Derived.Laws.Bits64b
import Derived.ProofKit
import Derived.OpenShut
import Derived.ShutString
namespace Go.Proofs.Qxb6003718a.fnSignedIsExactProduct
open Go.RowKit

theorem maskN (a : Nat) (ha : a < 18446744073709551616) : bits .and .u64 (a : Int) 4294967295 = ((a % 4294967296 : Nat) : Int) := by
  have h := bits_and_u64_nat a 4294967295 ha (by omega)
  have e : a &&& 4294967295 = a % 4294967296 := Nat.and_two_pow_sub_one_eq_mod a 32
  rw [e] at h
  exact h
theorem divN (a : Nat) : (a : Int) / 4294967296 = ((a / 4294967296 : Nat) : Int) := by omega
theorem mulN (a b : Nat) : (a : Int) * (b : Int) = ((a * b : Nat) : Int) := (Int.natCast_mul a b).symm
theorem addN (a b : Nat) : (a : Int) + (b : Int) = ((a + b : Nat) : Int) := (Int.natCast_add a b).symm
theorem wrapN (a : Nat) (ha : a < 18446744073709551616) : IntKind.u64.wrap (a : Int) = (a : Int) := by rw [IntKind.wrap_u64]; omega
theorem wrapM (a : Nat) : IntKind.u64.wrap (a : Int) = ((a % 18446744073709551616 : Nat) : Int) := by rw [IntKind.wrap_u64]; omega

set_option maxHeartbeats 1000000 in
theorem mul64N (x y : Nat) (hx : x < 18446744073709551616) (hy : y < 18446744073709551616) (w : World) :
    Calls Try.prog 17 #[.int .u64 x, .int .u64 y] w fun e w' => e = .returned (.tuple #[.int .u64 ((x * y / 18446744073709551616 : Nat) : Int), .int .u64 ((x * y % 18446744073709551616 : Nat) : Int)]) ∧ w' = w := by
  obtain ⟨bd, bt, bw, hhi⟩ := Lib.mul64_hi x y hx hy
  have ba := Lib.half_mul_le (a := x / 4294967296) (b := y / 4294967296) (by omega) (by omega)
  have bb := Lib.half_mul_le (a := x / 4294967296) (b := y % 4294967296) (by omega) (by omega)
  have bc := Lib.half_mul_le (a := x % 4294967296) (b := y / 4294967296) (by omega) (by omega)
  have ba' : x / 4294967296 * (y / 4294967296) < 18446744073709551616 := by omega
  have bb' : x / 4294967296 * (y % 4294967296) < 18446744073709551616 := by omega
  have bc' : x % 4294967296 * (y / 4294967296) < 18446744073709551616 := by omega
  have bh1 : x / 4294967296 * (y / 4294967296) + (x / 4294967296 * (y % 4294967296) + x % 4294967296 * (y % 4294967296) / 4294967296) / 4294967296 < 18446744073709551616 := by omega
  have bh : x / 4294967296 * (y / 4294967296) + (x / 4294967296 * (y % 4294967296) + x % 4294967296 * (y % 4294967296) / 4294967296) / 4294967296 + ((x / 4294967296 * (y % 4294967296) + x % 4294967296 * (y % 4294967296) / 4294967296) % 4294967296 + x % 4294967296 * (y / 4294967296)) / 4294967296 < 18446744073709551616 := by omega
  go_enter Try.func17, Try.ntmps17
  go_wp2
  simp only [maskN x hx, maskN y hy, divN, mulN, addN, wrapN _ bd, wrapN _ bb', wrapN _ bt, maskN _ bt, wrapN _ bc', wrapN _ bw, wrapN _ ba', wrapN _ bh1, wrapN _ bh, wrapM (x * y)]
  rw [hhi]
  go_ret2
  exact ⟨rfl, rfl⟩

def U64 (x : Int) : Prop := 0 ≤ x ∧ x < 18446744073709551616

/-- The product fits: the high word is 0, the low word the product. -/
theorem mul_fit (x y : Int) (hx : U64 x) (hy : U64 y) (hp : x * y < 18446744073709551616) (w : World) :
    Calls Try.prog 17 #[.int .u64 x, .int .u64 y] w fun e w' => e = .returned (.tuple #[.int .u64 0, .int .u64 (x * y)]) ∧ w' = w := by
  obtain ⟨X, rfl⟩ := Int.eq_ofNat_of_zero_le hx.1
  obtain ⟨Y, rfl⟩ := Int.eq_ofNat_of_zero_le hy.1
  obtain ⟨_, hx⟩ := hx
  obtain ⟨_, hy⟩ := hy
  have hp' : X * Y < 18446744073709551616 := by
    have : ((X * Y : Nat) : Int) < 18446744073709551616 := by simpa using hp
    omega
  refine (mul64N X Y (by omega) (by omega) w).mono ?_
  rintro e w' ⟨rfl, rfl⟩
  refine ⟨?_, rfl⟩
  rw [Nat.div_eq_of_lt hp', Nat.mod_eq_of_lt hp']
  simp
/-- It does not: the high word is positive, whatever the low one. -/
theorem mul_over (x y : Int) (hx : U64 x) (hy : U64 y) (hp : 18446744073709551616 ≤ x * y) (w : World) :
    Calls Try.prog 17 #[.int .u64 x, .int .u64 y] w fun e w' => (∃ h l : Int, 0 < h ∧ e = .returned (.tuple #[.int .u64 h, .int .u64 l])) ∧ w' = w := by
  obtain ⟨X, rfl⟩ := Int.eq_ofNat_of_zero_le hx.1
  obtain ⟨Y, rfl⟩ := Int.eq_ofNat_of_zero_le hy.1
  obtain ⟨_, hx⟩ := hx
  obtain ⟨_, hy⟩ := hy
  have hp' : 18446744073709551616 ≤ X * Y := by
    have : 18446744073709551616 ≤ ((X * Y : Nat) : Int) := by simpa using hp
    omega
  refine (mul64N X Y (by omega) (by omega) w).mono ?_
  rintro e w' ⟨rfl, rfl⟩
  refine ⟨⟨_, _, ?_, rfl⟩, rfl⟩
  have := Nat.div_le_div_right (c := 18446744073709551616) hp'
  omega

def sg (neg : Bool) (p : Int) : Int := if neg then -p else p

set_option maxHeartbeats 400000 in
theorem signed_yes (neg : Bool) (x y : Int) (hx : U64 x) (hy : U64 y) (h0 : 0 ≤ x * y) (hp : x * y ≤ 9223372036854775807) (w : World) :
    Calls Try.prog 15 #[.bool neg, .int .u64 x, .int .u64 y] w fun e w' => e = .returned (.tuple #[.int .i64 (sg neg (x * y)), .bool true]) ∧ w' = w := by
  cases neg
  all_goals
    go_enter Try.func15, Try.ntmps15
    go_wp2_with (go_at_call 17; refine (mul_fit x y hx hy (by omega) _).mono ?_; rintro e w' ⟨rfl, rfl⟩)
    go_ret2
    exact ⟨rfl, rfl⟩
set_option maxHeartbeats 400000 in
theorem signed_no (neg : Bool) (x y : Int) (hx : U64 x) (hy : U64 y) (hp : 9223372036854775807 < x * y) (w : World) :
    Calls Try.prog 15 #[.bool neg, .int .u64 x, .int .u64 y] w fun e w' => e = .returned (.tuple #[.int .i64 0, .bool false]) ∧ w' = w := by
  by_cases h : x * y < 18446744073709551616
  · go_enter Try.func15, Try.ntmps15
    go_wp2_with (go_at_call 17; refine (mul_fit x y hx hy (by omega) _).mono ?_; rintro e w' ⟨rfl, rfl⟩)
    go_ret2
    exact ⟨rfl, rfl⟩
  · go_enter Try.func15, Try.ntmps15
    go_wp2_with (go_at_call 17; refine (mul_over x y hx hy (by omega) _).mono ?_; rintro e w' ⟨⟨hh, ll, hpos, rfl⟩, rfl⟩; have hne : (hh != 0) = true := (by rw [bne_iff_ne]; omega))
    go_ret2
    exact ⟨rfl, rfl⟩
theorem zz_yes (neg : Bool) (x y : Int) (hx : U64 x) (hy : U64 y) (h0 : 0 ≤ x * y) (hp : x * y ≤ 9223372036854775807) (w : World) :
    Calls Try.prog 11 #[.bool neg, .int .u64 x, .int .u64 y] w fun e w' => e = .returned (.tuple #[.int .i64 (sg neg (x * y)), .bool true]) ∧ w' = w := by
  go_enter Try.func11, Try.ntmps11
  go_wp2_with (go_at_call 15; refine (signed_yes neg x y hx hy h0 hp _).mono ?_; rintro e w' ⟨rfl, rfl⟩)
  go_ret2
  exact ⟨rfl, rfl⟩
theorem zz_no (neg : Bool) (x y : Int) (hx : U64 x) (hy : U64 y) (hp : 9223372036854775807 < x * y) (w : World) :
    Calls Try.prog 11 #[.bool neg, .int .u64 x, .int .u64 y] w fun e w' => e = .returned (.tuple #[.int .i64 0, .bool false]) ∧ w' = w := by
  go_enter Try.func11, Try.ntmps11
  go_wp2_with (go_at_call 15; refine (signed_no neg x y hx hy hp _).mono ?_; rintro e w' ⟨rfl, rfl⟩)
  go_ret2
  exact ⟨rfl, rfl⟩

set_option maxHeartbeats 400000 in
theorem law_no (neg : Bool) (x y : Int) (hx : U64 x) (hy : U64 y) (hp : 9223372036854775807 < x * y) (w : World) :
    Calls Try.prog 5 #[.bool neg, .int .u64 x, .int .u64 y] w fun e w' => e = .returned (.bool true) ∧ w' = w := by
  have C1 : Hid (∀ w, Calls Try.prog 11 #[.bool neg, .int .u64 x, .int .u64 y] w fun e w' => e = .returned (.tuple #[.int .i64 0, .bool false]) ∧ w' = w) := zz_no neg x y hx hy hp
  have C2 : Hid (∀ w, Calls Try.prog 11 #[.bool neg, .int .u64 y, .int .u64 x] w fun e w' => e = .returned (.tuple #[.int .i64 0, .bool false]) ∧ w' = w) := zz_no neg y x hy hx (by rw [Int.mul_comm]; exact hp)
  have hx0 : 0 < x := by
    rcases Int.lt_or_eq_of_le hx.1 with h | h
    · exact h
    · rw [← h] at hp; simp at hp
  have hx1 : (x == 0) = false := by rw [beq_eq_false_iff_ne]; omega
  have hd : ¬ y ≤ 9223372036854775807 / x := by
    rw [Int.le_ediv_iff_mul_le hx0, Int.mul_comm]; omega
  clear hp
  go_enter Try.func5, Try.ntmps5
  go_wp2_with fail
  refine (C1.out _).mono ?_
  rintro e w' ⟨rfl, rfl⟩
  go_wp2_with fail
  refine (C2.out _).mono ?_
  rintro e w' ⟨rfl, rfl⟩
  go_wp2
  go_ret
  exact ⟨rfl, rfl⟩

set_option maxHeartbeats 400000 in
theorem law_yes (neg : Bool) (x y : Int) (hx : U64 x) (hy : U64 y) (h0 : 0 ≤ x * y) (hp : x * y ≤ 9223372036854775807) (w : World) :
    Calls Try.prog 5 #[.bool neg, .int .u64 x, .int .u64 y] w fun e w' => e = .returned (.bool true) ∧ w' = w := by
  have C1 : Hid (∀ w, Calls Try.prog 11 #[.bool neg, .int .u64 x, .int .u64 y] w fun e w' => e = .returned (.tuple #[.int .i64 (sg neg (x * y)), .bool true]) ∧ w' = w) := zz_yes neg x y hx hy h0 hp
  have C2 : Hid (∀ w, Calls Try.prog 11 #[.bool neg, .int .u64 y, .int .u64 x] w fun e w' => e = .returned (.tuple #[.int .i64 (sg neg (x * y)), .bool true]) ∧ w' = w) := by
    have := zz_yes neg y x hy hx (by rw [Int.mul_comm]; exact h0) (by rw [Int.mul_comm]; exact hp)
    rw [Int.mul_comm y x] at this
    exact this
  have e1 : (sg true (x * y) == -(x * y)) = true := by simp [sg]
  have e2 : (sg false (x * y) == x * y) = true := by simp [sg]
  obtain ⟨x1, x2⟩ := hx
  rcases Int.lt_or_eq_of_le x1 with hx0 | hx0
  · have hx1 : (x == 0) = false := by rw [beq_eq_false_iff_ne]; omega
    have hd : y ≤ 9223372036854775807 / x := by rw [Int.le_ediv_iff_mul_le hx0, Int.mul_comm]; omega
    cases neg
    all_goals
      go_enter Try.func5, Try.ntmps5
      go_wp2_with fail
      refine (C1.out _).mono ?_
      rintro e w' ⟨rfl, rfl⟩
      go_wp2_with fail
      refine (C2.out _).mono ?_
      rintro e w' ⟨rfl, rfl⟩
      go_wp2
      go_ret
      exact ⟨rfl, rfl⟩
  · have hx1 : (x == 0) = true := by rw [beq_iff_eq]; omega
    clear hx0
    cases neg
    all_goals
      go_enter Try.func5, Try.ntmps5
      go_wp2_with fail
      refine (C1.out _).mono ?_
      rintro e w' ⟨rfl, rfl⟩
      go_wp2_with fail
      refine (C2.out _).mono ?_
      rintro e w' ⟨rfl, rfl⟩
      go_wp2
      go_ret
      exact ⟨rfl, rfl⟩
open Go.ChangeShapes Go.WideShapes Go.ChangeAt Go.RowKit
open Go.ChangeMaps (open_string shut_string)
set_option linter.unusedVariables false

theorem own : ownKnob Try.prog.godebug = none := by kernel_rfl

set_option maxHeartbeats 1000000 in
theorem walk (a0 : Bool) (a1 : Int) (a2 : Int) (w1 : (Lit.int .u64 a1).wf = true) (w2 : (Lit.int .u64 a2).wf = true) (w : World) :
    Calls Try.prog 5 #[.bool a0, .int .u64 a1, .int .u64 a2] w fun e w' => e = .returned (.bool true) ∧ Grown w w' := by
  have hx : U64 a1 := by
    simp [Lit.wf, IntKind.min, IntKind.max, IntKind.signed, IntKind.bits] at w1
    exact ⟨by omega, by omega⟩
  have hy : U64 a2 := by
    simp [Lit.wf, IntKind.min, IntKind.max, IntKind.signed, IntKind.bits] at w2
    exact ⟨by omega, by omega⟩
  by_cases h : a1 * a2 ≤ 9223372036854775807
  · refine (law_yes a0 a1 a2 hx hy (Int.mul_nonneg hx.1 hy.1) h w).mono ?_
    rintro e w' ⟨rfl, rfl⟩
    exact ⟨rfl, Grown.refl _⟩
  · refine (law_no a0 a1 a2 hx hy (by omega) w).mono ?_
    rintro e w' ⟨rfl, rfl⟩
    exact ⟨rfl, Grown.refl _⟩

/-! ### THE ROW's STEP: WRITTEN OUT: LEAVE IT -/
set_option maxRecDepth 100000 in
theorem lifted (os : Os) (started : os.Started) (H : Type) (enc : TypeId × Value → H) :
    ReturnsInHanded {} Try.checked os 5 .any (Rows.fnSignedIsExactProductSpec.pre6 enc Try.prog Try.f5 Rows.fnSignedIsExactProductRow.domain false) (Rows.fnSignedIsExactProductSpec.post enc Try.prog Try.f5 false true false false) := by
  refine returnsInHanded_of_change (C := Try.checked) own started (by kernel_rfl) Try.func5
    (ChangeSpec.witness6 (enc := enc) (C := Try.checked) false ⟨#[], #[.bool false, .int .u64 0, .int .u64 0], []⟩ 8 (by kernel_rfl) (by kernel_rfl) (by kernel_rfl) (by kernel_rfl)) ?_
  intro W base args ds gs before hval0 hW hcnd _
  have hval : ∀ (j : Nat) t v, Try.f5.params[j]? = some t → args[j]? = some v → Value.okWide Try.prog W .any base t v := hval0
  have hW' := hW
  obtain ⟨p, q, hA0, hV, rfl, hfz, hnd⟩ := hW
  have hA : DataW.TrodAll enc Try.prog W 0 (fun _ => true) true Try.f5.params.toList args.toList ds p := hA0
  rw [Try.params5] at hA hval
  obtain ⟨v0, vs0, d0, ds0, p0, q0, hargs, rfl, rfl, h0, r0⟩ := trodAll_cons hA
  obtain ⟨v1, vs1, d1, ds1, p1, q1, rfl, rfl, rfl, h1, r1⟩ := trodAll_cons r0
  obtain ⟨v2, vs2, d2, ds2, p2, q2, rfl, rfl, rfl, h2, r2⟩ := trodAll_cons r1
  obtain ⟨rfl, rfl, rfl⟩ := trodAll_nil r2
  obtain rfl : args = #[v0, v1, v2] := by cases args; simp_all
  obtain ⟨rfl, rfl⟩ := trodVars_none hV
  obtain ⟨a0, rfl, rfl, rfl⟩ := open_bool Try.underlying4 (hval 0 4 v0 rfl rfl) h0
  obtain ⟨a1, rfl, rfl, rfl, w1⟩ := open_int Try.underlying24 (hval 1 24 v1 rfl rfl) h1
  obtain ⟨a2, rfl, rfl, rfl, w2⟩ := open_int Try.underlying24 (hval 2 24 v2 rfl rfl) h2
  clear hA0 hval0
  simp only [List.append_nil] at hW'
  refine (walk a0 a1 a2 w1 w2 W).mono fun e W' ⟨he, hg⟩ => ?_
  subst he
  exact ⟨_, rfl, post_of_same (pa := []) (pv := []) hW' (fun _ _ _ => (trodAll_cons_mk (shut_bool Try.underlying4 _) trodAll_mk0)) (fun sp _ => (trodAll_cons_mk (shut_bool Try.underlying4 _) (trodAll_cons_mk (shut_int Try.underlying24 w1) (trodAll_cons_mk (shut_int Try.underlying24 w2) trodAll_mk0)))) (fun _ _ => rfl) rfl
    (hg.frame _) hg.2.1 (ok_one (by kernel_rfl) rfl (okWide_bool_mk Try.underlying4 _))⟩

theorem over : Rows.fnSignedIsExactProductRow.holds Try.pinned (OpenSpec.ofChange Rows.fnSignedIsExactProductSpec) :=
  OpenClaim.holds_of_wide 5 Try.f5 rfl rfl rfl rfl rfl rfl rfl ⟨rfl, rfl, rfl, rfl, rfl⟩ rfl rfl rfl rfl rfl (by kernel_rfl) Try.func5 (by kernel_rfl)
    (of_decide_eq_true (by kernel_rfl)) (by unfold Func.isWrapper; first | (rw [if_pos (by decide +kernel)]; kernel_rfl) | (rw [if_neg (by decide +kernel)]; exact ⟨rfl, rfl⟩))
    (fun os started H enc _ => lifted os started H enc)

/-- ████ THE STATEMENT ████ -/
theorem proved : Rows.FnSignedIsExactProductSaid :=
  over
#print axioms proved
end Go.Proofs.Qxb6003718a.fnSignedIsExactProduct
