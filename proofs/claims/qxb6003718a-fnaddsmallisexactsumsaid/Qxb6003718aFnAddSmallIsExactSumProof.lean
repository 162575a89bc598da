import Derived.Test.Qxb6003718aRows
import Derived.WalkKit
import Derived.WalkSpells
import Derived.WalkLawsBesides
import Derived.BigQuiet
import Derived.Outline
import Derived.ProofKit
import Derived.OpenShut
import Derived.ShutString
namespace Go.Proofs.Qxb6003718a.fnAddSmallIsExactSum
open Go.RowKit
def I64 (x : Int) : Prop := -9223372036854775808 ≤ x ∧ x ≤ 9223372036854775807
set_option maxHeartbeats 400000 in
theorem add_yes (a b : Int) (ha : I64 a) (hb : I64 b) (h1 : -9223372036854775808 < a + b) (h2 : a + b ≤ 9223372036854775807) (w : World) :
    Calls Try.prog 16 #[.int .i64 a, .int .i64 b] w fun e w' => e = .returned (.tuple #[.int .i64 (a + b), .bool true]) ∧ w' = w := by
  obtain ⟨a1, a2⟩ := ha
  obtain ⟨b1, b2⟩ := hb
  by_cases ca : 0 ≤ a <;> by_cases cb : 0 ≤ b <;> by_cases cs : 0 ≤ a + b <;> try omega
  all_goals
    go_enter Try.func16, Try.ntmps16
    go_wp2
    go_ret2
    exact ⟨rfl, rfl⟩
set_option maxHeartbeats 400000 in
theorem add_no (a b : Int) (ha : I64 a) (hb : I64 b) (h : a + b ≤ -9223372036854775808 ∨ 9223372036854775807 < a + b) (w : World) :
    Calls Try.prog 16 #[.int .i64 a, .int .i64 b] w fun e w' => e = .returned (.tuple #[.int .i64 0, .bool false]) ∧ w' = w := by
  obtain ⟨a1, a2⟩ := ha
  obtain ⟨b1, b2⟩ := hb
  rcases h with h | h
  · by_cases h' : a + b = -9223372036854775808
    · have e0 : (a + b == -9223372036854775808) = true := by simp [h']
      have e1 : (wrap64 (a + b) == -9223372036854775808) = true := by rw [beq_iff_eq]; unfold wrap64; omega
      have e2 : wrap64 (a + b) < 0 := by unfold wrap64; omega
      have e3 : a + b < 0 := by omega
      have e4 : -9223372036854775808 ≤ a + b := by omega
      clear h'
      by_cases ca : 0 ≤ a <;> by_cases cb : 0 ≤ b <;> try omega
      all_goals
        go_enter Try.func16, Try.ntmps16
        go_wp2
        go_ret2
        exact ⟨rfl, rfl⟩
    · have e2 : 0 ≤ wrap64 (a + b) := by unfold wrap64; omega
      have ca : a < 0 := by omega
      have cb : b < 0 := by omega
      clear h h'
      go_enter Try.func16, Try.ntmps16
      go_wp2
      go_ret2
      exact ⟨rfl, rfl⟩
  · have e2 : wrap64 (a + b) < 0 := by unfold wrap64; omega
    have ca : 0 ≤ a := by omega
    have cb : 0 ≤ b := by omega
    clear h
    go_enter Try.func16, Try.ntmps16
    go_wp2
    go_ret2
    exact ⟨rfl, rfl⟩

theorem zz_yes (a b : Int) (ha : I64 a) (hb : I64 b) (h1 : -9223372036854775808 < a + b) (h2 : a + b ≤ 9223372036854775807) (w : World) :
    Calls Try.prog 12 #[.int .i64 a, .int .i64 b] w fun e w' => e = .returned (.tuple #[.int .i64 (a + b), .bool true]) ∧ w' = w := by
  go_enter Try.func12, Try.ntmps12
  go_wp2_with (go_at_call 16; refine (add_yes a b ha hb h1 h2 _).mono ?_; rintro e w' ⟨rfl, rfl⟩)
  go_ret2
  exact ⟨rfl, rfl⟩
theorem zz_no (a b : Int) (ha : I64 a) (hb : I64 b) (h : a + b ≤ -9223372036854775808 ∨ 9223372036854775807 < a + b) (w : World) :
    Calls Try.prog 12 #[.int .i64 a, .int .i64 b] w fun e w' => e = .returned (.tuple #[.int .i64 0, .bool false]) ∧ w' = w := by
  go_enter Try.func12, Try.ntmps12
  go_wp2_with (go_at_call 16; refine (add_no a b ha hb h _).mono ?_; rintro e w' ⟨rfl, rfl⟩)
  go_ret2
  exact ⟨rfl, rfl⟩

set_option maxHeartbeats 400000 in
theorem law_yes (a b : Int) (ha : I64 a) (hb : I64 b) (h1 : -9223372036854775808 < a + b) (h2 : a + b ≤ 9223372036854775807) (w : World) :
    Calls Try.prog 6 #[.int .i64 a, .int .i64 b] w fun e w' => e = .returned (.bool true) ∧ w' = w := by
  have c1 := zz_yes a b ha hb h1 h2
  have c2 := zz_yes b a hb ha (by omega) (by omega)
  rw [Int.add_comm b a] at c2
  have C1 : Hid (∀ w, Calls Try.prog 12 #[.int .i64 a, .int .i64 b] w fun e w' => e = .returned (.tuple #[.int .i64 (a + b), .bool true]) ∧ w' = w) := c1
  have C2 : Hid (∀ w, Calls Try.prog 12 #[.int .i64 b, .int .i64 a] w fun e w' => e = .returned (.tuple #[.int .i64 (a + b), .bool true]) ∧ w' = w) := c2
  clear c1 c2
  obtain ⟨a1, a2⟩ := ha
  obtain ⟨b1, b2⟩ := hb
  have n1 : (a + b != -9223372036854775808) = true := by rw [bne_iff_ne]; omega
  have n2 : (a + b - a == b) = true := by rw [beq_iff_eq]; omega
  rcases Int.lt_trichotomy b 0 with hb | hb | hb
  · have l1 : ¬ 0 < b := by omega
    have l2 : ¬ a < -9223372036854775808 - b := by omega
    go_enter Try.func6, Try.ntmps6
    go_wp2_with fail
    refine (C1.out _).mono ?_
    rintro e w' ⟨rfl, rfl⟩
    go_wp2_with fail
    refine (C2.out _).mono ?_
    rintro e w' ⟨rfl, rfl⟩
    go_wp2
    go_ret
    exact ⟨rfl, rfl⟩
  · have l1 : ¬ 0 < b := by omega
    have l2 : ¬ b < 0 := by omega
    clear hb
    go_enter Try.func6, Try.ntmps6
    go_wp2_with fail
    refine (C1.out _).mono ?_
    rintro e w' ⟨rfl, rfl⟩
    go_wp2_with fail
    refine (C2.out _).mono ?_
    rintro e w' ⟨rfl, rfl⟩
    go_wp2
    go_ret
    exact ⟨rfl, rfl⟩
  · have l2 : ¬ 9223372036854775807 - b < a := by omega
    go_enter Try.func6, Try.ntmps6
    go_wp2_with fail
    refine (C1.out _).mono ?_
    rintro e w' ⟨rfl, rfl⟩
    go_wp2_with fail
    refine (C2.out _).mono ?_
    rintro e w' ⟨rfl, rfl⟩
    go_wp2
    go_ret
    exact ⟨rfl, rfl⟩

set_option maxHeartbeats 400000 in
theorem law_no (a b : Int) (ha : I64 a) (hb : I64 b) (h : a + b ≤ -9223372036854775808 ∨ 9223372036854775807 < a + b) (w : World) :
    Calls Try.prog 6 #[.int .i64 a, .int .i64 b] w fun e w' => e = .returned (.bool true) ∧ w' = w := by
  have c1 := zz_no a b ha hb h
  have c2 := zz_no b a hb ha (by omega)
  have C1 : Hid (∀ w, Calls Try.prog 12 #[.int .i64 a, .int .i64 b] w fun e w' => e = .returned (.tuple #[.int .i64 0, .bool false]) ∧ w' = w) := c1
  have C2 : Hid (∀ w, Calls Try.prog 12 #[.int .i64 b, .int .i64 a] w fun e w' => e = .returned (.tuple #[.int .i64 0, .bool false]) ∧ w' = w) := c2
  clear c1 c2
  obtain ⟨a1, a2⟩ := ha
  obtain ⟨b1, b2⟩ := hb
  rcases h with h | h
  · by_cases h' : a + b < -9223372036854775808
    · have l0 : b < 0 := by omega
      have l1 : ¬ 0 < b := by omega
      have l2 : a < -9223372036854775808 - b := by omega
      clear h
      go_enter Try.func6, Try.ntmps6
      go_wp2_with fail
      refine (C1.out _).mono ?_
      rintro e w' ⟨rfl, rfl⟩
      go_wp2_with fail
      refine (C2.out _).mono ?_
      rintro e w' ⟨rfl, rfl⟩
      go_wp2
      go_ret
      exact ⟨rfl, rfl⟩
    · have l3 : (a + b != -9223372036854775808) = false := by
        have e : a + b = -9223372036854775808 := by omega
        rw [e]; rfl
      by_cases l0 : b < 0
      · have l1 : ¬ 0 < b := by omega
        have l2 : ¬ a < -9223372036854775808 - b := by omega
        go_enter Try.func6, Try.ntmps6
        go_wp2_with fail
        refine (C1.out _).mono ?_
        rintro e w' ⟨rfl, rfl⟩
        go_wp2_with fail
        refine (C2.out _).mono ?_
        rintro e w' ⟨rfl, rfl⟩
        go_wp2
        go_ret
        exact ⟨rfl, rfl⟩
      · have l1 : ¬ 0 < b := by omega
        go_enter Try.func6, Try.ntmps6
        go_wp2_with fail
        refine (C1.out _).mono ?_
        rintro e w' ⟨rfl, rfl⟩
        go_wp2_with fail
        refine (C2.out _).mono ?_
        rintro e w' ⟨rfl, rfl⟩
        go_wp2
        go_ret
        exact ⟨rfl, rfl⟩
  · have l1 : 0 < b := by omega
    have l2 : 9223372036854775807 - b < a := by omega
    go_enter Try.func6, Try.ntmps6
    go_wp2_with fail
    refine (C1.out _).mono ?_
    rintro e w' ⟨rfl, rfl⟩
    go_wp2_with fail
    refine (C2.out _).mono ?_
    rintro e w' ⟨rfl, rfl⟩
    go_wp2
    go_ret
    exact ⟨rfl, rfl⟩
open Go.ChangeShapes Go.WideShapes Go.ChangeAt Go.RowKit
open Go.ChangeMaps (open_string shut_string)
set_option linter.unusedVariables false

theorem own : ownKnob Try.prog.godebug = none := by kernel_rfl

set_option maxHeartbeats 1000000 in
theorem walk (a0 : Int) (a1 : Int) (w0 : (Lit.int .i64 a0).wf = true) (w1 : (Lit.int .i64 a1).wf = true) (w : World) :
    Calls Try.prog 6 #[.int .i64 a0, .int .i64 a1] w fun e w' => e = .returned (.bool true) ∧ Grown w w' := by
  have ha : I64 a0 := by
    simp [Lit.wf, IntKind.min, IntKind.max, IntKind.signed, IntKind.bits] at w0
    exact ⟨by omega, by omega⟩
  have hb : I64 a1 := by
    simp [Lit.wf, IntKind.min, IntKind.max, IntKind.signed, IntKind.bits] at w1
    exact ⟨by omega, by omega⟩
  by_cases h : -9223372036854775808 < a0 + a1 ∧ a0 + a1 ≤ 9223372036854775807
  · refine (law_yes a0 a1 ha hb h.1 h.2 w).mono ?_
    rintro e w' ⟨rfl, rfl⟩
    exact ⟨rfl, Grown.refl _⟩
  · refine (law_no a0 a1 ha hb (by omega) w).mono ?_
    rintro e w' ⟨rfl, rfl⟩
    exact ⟨rfl, Grown.refl _⟩

/-! ### THE ROW's STEP: WRITTEN OUT: LEAVE IT -/
set_option maxRecDepth 100000 in
theorem lifted (os : Os) (started : os.Started) (H : Type) (enc : TypeId × Value → H) :
    ReturnsInHanded {} Try.checked os 6 .any (Rows.fnAddSmallIsExactSumSpec.pre6 enc Try.prog Try.f6 Rows.fnAddSmallIsExactSumRow.domain false) (Rows.fnAddSmallIsExactSumSpec.post enc Try.prog Try.f6 false true false false) := by
  refine returnsInHanded_of_change (C := Try.checked) own started (by kernel_rfl) Try.func6
    (ChangeSpec.witness6 (enc := enc) (C := Try.checked) false ⟨#[], #[.int .i64 0, .int .i64 0], []⟩ 8 (by kernel_rfl) (by kernel_rfl) (by kernel_rfl) (by kernel_rfl)) ?_
  intro W base args ds gs before hval0 hW hcnd _
  have hval : ∀ (j : Nat) t v, Try.f6.params[j]? = some t → args[j]? = some v → Value.okWide Try.prog W .any base t v := hval0
  have hW' := hW
  obtain ⟨p, q, hA0, hV, rfl, hfz, hnd⟩ := hW
  have hA : DataW.TrodAll enc Try.prog W 0 (fun _ => true) true Try.f6.params.toList args.toList ds p := hA0
  rw [Try.params6] at hA hval
  obtain ⟨v0, vs0, d0, ds0, p0, q0, hargs, rfl, rfl, h0, r0⟩ := trodAll_cons hA
  obtain ⟨v1, vs1, d1, ds1, p1, q1, rfl, rfl, rfl, h1, r1⟩ := trodAll_cons r0
  obtain ⟨rfl, rfl, rfl⟩ := trodAll_nil r1
  obtain rfl : args = #[v0, v1] := by cases args; simp_all
  obtain ⟨rfl, rfl⟩ := trodVars_none hV
  obtain ⟨a0, rfl, rfl, rfl, w0⟩ := open_int Try.underlying2 (hval 0 2 v0 rfl rfl) h0
  obtain ⟨a1, rfl, rfl, rfl, w1⟩ := open_int Try.underlying2 (hval 1 2 v1 rfl rfl) h1
  clear hA0 hval0
  simp only [List.append_nil] at hW'
  refine (walk a0 a1 w0 w1 W).mono fun e W' ⟨he, hg⟩ => ?_
  subst he
  exact ⟨_, rfl, post_of_same (pa := []) (pv := []) hW' (fun _ _ _ => (trodAll_cons_mk (shut_bool Try.underlying4 _) trodAll_mk0)) (fun sp _ => (trodAll_cons_mk (shut_int Try.underlying2 w0) (trodAll_cons_mk (shut_int Try.underlying2 w1) trodAll_mk0))) (fun _ _ => rfl) rfl
    (hg.frame _) hg.2.1 (ok_one (by kernel_rfl) rfl (okWide_bool_mk Try.underlying4 _))⟩

theorem over : Rows.fnAddSmallIsExactSumRow.holds Try.pinned (OpenSpec.ofChange Rows.fnAddSmallIsExactSumSpec) :=
  OpenClaim.holds_of_wide 6 Try.f6 rfl rfl rfl rfl rfl rfl rfl ⟨rfl, rfl, rfl, rfl, rfl⟩ rfl rfl rfl rfl rfl (by kernel_rfl) Try.func6 (by kernel_rfl)
    (of_decide_eq_true (by kernel_rfl)) (by unfold Func.isWrapper; first | (rw [if_pos (by decide +kernel)]; kernel_rfl) | (rw [if_neg (by decide +kernel)]; exact ⟨rfl, rfl⟩))
    (fun os started H enc _ => lifted os started H enc)

/-- ████ THE STATEMENT ████ -/
theorem proved : Rows.FnAddSmallIsExactSumSaid :=
  over
#print axioms proved
end Go.Proofs.Qxb6003718a.fnAddSmallIsExactSum
