import Derived.Test.Qxb6003730aRows
import Derived.WalkKit
import Derived.WalkSpells
import Derived.WalkLawsBesides
import Derived.BigQuiet
import Derived.Outline
import Derived.Laws.RangeAny
import Derived.ProofKit
import Derived.OpenShut
import Derived.ShutString
namespace Go.Proofs.Qxb6003730a.fnAllDigitsBytewiseAndConcatenation
open Go.RowKit

def dg (b : UInt8) : Bool := decide (48 ≤ b.toNat) && decide (b.toNat ≤ 57)
/-- Every byte is one of '0'..'9'. -/
def ad (s : ByteArray) : Bool := s.data.toList.all dg
theorem ad_append (a b : ByteArray) : ad (a ++ b) = (ad a && ad b) := by simp [ad, ByteArray.data_append]
/-- The first k bytes are digits. -/
def Upto (s : ByteArray) (k : Nat) : Prop := ∀ j (h : j < s.size), j < k → dg (s[j]'h) = true
theorem Upto.zero (s : ByteArray) : Upto s 0 := fun _ _ h => absurd h (by omega)
theorem Upto.step {s : ByteArray} {k : Nat} (h : Upto s k) (hk : k < s.size) (hd : dg (s[k]'hk) = true) : Upto s (k + 1) := by
  intro j hj hjk
  by_cases e : j = k
  · subst e; exact hd
  · exact h j hj (by omega)
theorem mem_get (s : ByteArray) (j : Nat) (h : j < s.size) : s[j] ∈ s.data.toList := by
  have h' : j < s.data.toList.length := by simpa using h
  have := List.getElem_mem h'
  exact this
theorem ad_yes {s : ByteArray} (h : Upto s s.size) : ad s = true := by
  unfold ad
  rw [List.all_eq_true]
  intro b hb
  obtain ⟨j, hj, rfl⟩ := List.getElem_of_mem hb
  have hj' : j < s.size := by simpa using hj
  exact h j hj' hj'
theorem ad_no {s : ByteArray} {k : Nat} (hk : k < s.size) (hd : dg (s[k]'hk) = false) : ad s = false := by
  unfold ad
  rw [List.all_eq_false]
  exact ⟨_, mem_get s k hk, by simp [hd]⟩
theorem dg_no_lo {b : UInt8} (h : (b.toNat : Int) < 48) : dg b = false := by unfold dg; simp; omega
theorem dg_no_hi {b : UInt8} (h : 57 < (b.toNat : Int)) : dg b = false := by unfold dg; simp; omega
theorem dg_yes {b : UInt8} (h : 48 ≤ (b.toNat : Int)) (h' : (b.toNat : Int) ≤ 57) : dg b = true := by unfold dg; simp; omega

set_option maxHeartbeats 400000 in
theorem bytewise (s : ByteArray) (w : World) (hs : s.size ≤ 1048576) :
    Calls Try.prog 23 #[.string s] w fun e w' => e = .returned (.bool (ad s)) ∧ w' = w := by
  go_enter Try.func23, Try.ntmps23
  go_wp2
  go_loop [3] (fun i => ∃ k : Nat, k ≤ s.size ∧ i = .int .i64 k ∧ Upto s k) (fun i => s.size - (intOf i).toNat)
  case atStart => exact ⟨0, Nat.zero_le _, rfl, Upto.zero s⟩
  case round =>
    obtain ⟨k, hk, rfl, hU⟩ := hrel
    by_cases hlt : k < s.size
    · by_cases c1 : (s[k].toNat : Int) < 48
      · have HN : Hid (ad s = false) := ad_no hlt (dg_no_lo c1)
        go_wp2
        go_ret
        exact ⟨by rw [HN.out]; rfl, rfl⟩
      by_cases c2 : 57 < (s[k].toNat : Int)
      · have HN : Hid (ad s = false) := ad_no hlt (dg_no_hi c2)
        go_wp2
        go_ret
        exact ⟨by rw [HN.out]; rfl, rfl⟩
      · have hU' := hU.step hlt (dg_yes (by omega) (by omega))
        go_wp2
        go_round
        case rel => exact ⟨k + 1, by omega, by go_num, hU'⟩
        case measure => simp [intOf]; omega
    · obtain rfl : k = s.size := by omega
      have HN : Hid (ad s = true) := ad_yes hU
      go_wp2
      go_ret
      exact ⟨by rw [HN.out]; rfl, rfl⟩
set_option maxHeartbeats 400000 in
theorem allDigits (s : ByteArray) (w : World) :
    Calls Try.prog 36 #[.string s] w fun e w' => e = .returned (.bool (ad s)) ∧ Below w.heap.size w w' := by
  go_enter Try.func36, Try.ntmps36
  go_wp2
  go_loopw [] (fun wr => ∃ k : Nat, k ≤ s.size ∧ wr = w.iter s k ∧ Upto s k) (fun wr => s.size - wr.iterPos w.heap.size)
  case atStart => exact ⟨0, Nat.zero_le _, rfl, Upto.zero s⟩
  case round =>
    obtain ⟨k, hk, rfl, hU⟩ := hrel
    by_cases hlt : k < s.size
    · by_cases ha : s[k].toNat < 128
      · have hnx := fun ty => run_next_ascii (P := Try.prog) w s k ty hlt ha
        by_cases c1 : (s[k].toNat : Int) < 48
        · have HN : Hid (ad s = false) := ad_no hlt (dg_no_lo c1)
          go_wp2
          go_ret
          exact ⟨by rw [HN.out]; rfl, (Below.refl _ _).alloc (Nat.le_refl _) _⟩
        by_cases c2 : 57 < (s[k].toNat : Int)
        · have HN : Hid (ad s = false) := ad_no hlt (dg_no_hi c2)
          go_wp2
          go_ret
          exact ⟨by rw [HN.out]; rfl, (Below.refl _ _).alloc (Nat.le_refl _) _⟩
        · have hU' := hU.step hlt (dg_yes (by omega) (by omega))
          go_wp2
          go_roundw
          case rel => exact ⟨k + 1, by omega, rfl, hU'⟩
          case measure => simp; omega
      · have hnx := fun ty => run_next_any (P := Try.prog) w s k ty hlt
        obtain ⟨d1, d2⟩ := decode_high s k hlt (by omega)
        have d3 := decode_le s k
        have HN : Hid (ad s = false) := ad_no hlt (dg_no_hi (by omega))
        go_wp2
        go_ret
        exact ⟨by rw [HN.out]; rfl, (Below.refl _ _).alloc (Nat.le_refl _) _⟩
    · obtain rfl : k = s.size := by omega
      have hnx := fun ty => run_next_end (P := Try.prog) w s s.size ty (by omega)
      have HN : Hid (ad s = true) := ad_yes hU
      go_wp2
      go_ret
      exact ⟨by rw [HN.out]; rfl, (Below.refl _ _).alloc (Nat.le_refl _) _⟩

theorem zzAll (s : ByteArray) (w : World) :
    Calls Try.prog 22 #[.string s] w fun e w' => e = .returned (.bool (ad s)) ∧ Below w.heap.size w w' := by
  go_enter Try.func22, Try.ntmps22
  go_wp2_with (go_at_call 36; refine (allDigits s _).mono ?_; rintro e w' ⟨rfl, hb⟩)
  go_ret
  exact ⟨rfl, hb⟩

set_option maxHeartbeats 1000000 in
theorem main (a b : ByteArray) (w : World) (h1 : a.size ≤ 524288) (h2 : b.size ≤ 524288) (h3 : a.size + b.size ≤ 1048576) :
    Calls Try.prog 6 #[.string a, .string b] w fun e w' => e = .returned (.bool true) ∧ Below w.heap.size w w' := by
  have C1 : Hid (∀ w, Calls Try.prog 22 #[.string a] w fun e w' => e = .returned (.bool (ad a)) ∧ Below w.heap.size w w') := zzAll a
  have C2 : Hid (∀ w, Calls Try.prog 22 #[.string b] w fun e w' => e = .returned (.bool (ad b)) ∧ Below w.heap.size w w') := zzAll b
  have C3 : Hid (∀ w, Calls Try.prog 22 #[.string (a ++ b)] w fun e w' => e = .returned (.bool (ad a && ad b)) ∧ Below w.heap.size w w') := by
    have := zzAll (a ++ b)
    rw [ad_append] at this
    exact this
  have C4 : Hid (∀ w, Calls Try.prog 23 #[.string a] w fun e w' => e = .returned (.bool (ad a)) ∧ w' = w) := fun w => bytewise a w (by omega)
  have C5 : Hid (∀ w, Calls Try.prog 23 #[.string b] w fun e w' => e = .returned (.bool (ad b)) ∧ w' = w) := fun w => bytewise b w (by omega)
  generalize ad a = p at *
  generalize ad b = q at *
  have k1 : ¬ (1048576 : Int) < a.size := by omega
  have k2 : ¬ (1048576 : Int) < b.size := by omega
  have k3 : ¬ (1048576 : Int) < (a.size : Int) + b.size := by omega
  have k4 : decide ((524288 : Int) < a.size) = false := by simp; omega
  have k5 : decide ((524288 : Int) < b.size) = false := by simp; omega
  cases p <;> cases q
  all_goals
    go_enter Try.func6, Try.ntmps6
    go_wp2_with (first | (go_at_call 21; go_in) | fail)
    refine (C1.out _).mono ?_
    rintro e w1 ⟨rfl, b1⟩
    go_wp2_with fail
    refine (C2.out _).mono ?_
    rintro e w2 ⟨rfl, b2⟩
    go_wp2_with fail
    refine (C4.out _).mono ?_
    rintro e w3 ⟨rfl, rfl⟩
    go_wp2_with fail
    refine (C5.out _).mono ?_
    rintro e w3 ⟨rfl, rfl⟩
    go_wp2_with fail
    refine (C3.out _).mono ?_
    rintro e w4 ⟨rfl, b4⟩
    go_wp2
    go_ret
    exact ⟨rfl, (b1.trans (b2.mono b1.size)).trans (b4.mono (Nat.le_trans b1.size b2.size))⟩
open Go.ChangeShapes Go.WideShapes Go.ChangeAt Go.RowKit
open Go.ChangeMaps (open_string shut_string)
set_option linter.unusedVariables false

theorem own : ownKnob Try.prog.godebug = none := by kernel_rfl

set_option maxHeartbeats 1000000 in
theorem walk (a0 : ByteArray) (a1 : ByteArray) (w0 : a0.size ≤ maxLen) (w1 : a1.size ≤ maxLen) (w : World) :
    Calls Try.prog 6 #[.string a0, .string a1] w fun e w' => e = .returned (.bool true) ∧ Below w.heap.size w w' := by
  by_cases c1 : (1048576 : Int) < a0.size
  · go_enter Try.func6, Try.ntmps6
    go_wp2
    go_ret
    exact ⟨rfl, Below.refl _ _⟩
  by_cases c2 : (1048576 : Int) < a1.size
  · go_enter Try.func6, Try.ntmps6
    go_wp2
    go_ret
    exact ⟨rfl, Below.refl _ _⟩
  by_cases c3 : (1048576 : Int) < (a0.size : Int) + a1.size
  · go_enter Try.func6, Try.ntmps6
    go_wp2
    go_ret
    exact ⟨rfl, Below.refl _ _⟩
  by_cases c4 : (524288 : Int) < a0.size
  · go_enter Try.func6, Try.ntmps6
    go_wp2
    go_ret
    exact ⟨rfl, Below.refl _ _⟩
  by_cases c5 : (524288 : Int) < a1.size
  · go_enter Try.func6, Try.ntmps6
    go_wp2
    go_ret
    exact ⟨rfl, Below.refl _ _⟩
  exact main a0 a1 w (by omega) (by omega) (by omega)

/-! ### THE ROW's STEP: WRITTEN OUT: LEAVE IT -/
set_option maxRecDepth 100000 in
theorem lifted (os : Os) (started : os.Started) (H : Type) (enc : TypeId × Value → H) :
    ReturnsInHanded {} Try.checked os 6 .any (Rows.fnAllDigitsBytewiseAndConcatenationSpec.pre6 enc Try.prog Try.f6 Rows.fnAllDigitsBytewiseAndConcatenationRow.domain false) (Rows.fnAllDigitsBytewiseAndConcatenationSpec.post enc Try.prog Try.f6 false true false false) := by
  refine returnsInHanded_of_change (C := Try.checked) own started (by kernel_rfl) Try.func6
    (ChangeSpec.witness6 (enc := enc) (C := Try.checked) false ⟨#[], #[.string ByteArray.empty, .string ByteArray.empty], []⟩ 8 (by kernel_rfl) (by kernel_rfl) (by kernel_rfl) (by kernel_rfl)) ?_
  intro W base args ds gs before hval0 hW hcnd _
  have hval : ∀ (j : Nat) t v, Try.f6.params[j]? = some t → args[j]? = some v → Value.okWide Try.prog W .any base t v := hval0
  have hW' := hW
  obtain ⟨p, q, hA0, hV, rfl, hfz, hnd⟩ := hW
  have hA : DataW.TrodAll enc Try.prog W 0 (fun _ => true) true Try.f6.params.toList args.toList ds p := hA0
  rw [Try.params6] at hA hval
  obtain ⟨v0, vs0, d0, ds0, p0, q0, hargs, rfl, rfl, h0, r0⟩ := trodAll_cons hA
  obtain ⟨v1, vs1, d1, ds1, p1, q1, rfl, rfl, rfl, h1, r1⟩ := trodAll_cons r0
  obtain ⟨rfl, rfl, rfl⟩ := trodAll_nil r1
  obtain rfl : args = #[v0, v1] := by cases args; simp_all
  obtain ⟨rfl, rfl⟩ := trodVars_none hV
  obtain ⟨a0, rfl, rfl, rfl, w0⟩ := open_string Try.underlying9 (hval 0 9 v0 rfl rfl) h0
  obtain ⟨a1, rfl, rfl, rfl, w1⟩ := open_string Try.underlying9 (hval 1 9 v1 rfl rfl) h1
  clear hA0 hval0
  simp only [List.append_nil] at hW'
  refine (walk a0 a1 w0 w1 W).mono fun e W' ⟨he, hg⟩ => ?_
  subst he
  exact ⟨_, rfl, _, _, _, [], [], [], hW', trodAll_mk1 (shut_bool Try.underlying4 _), (trodAll_cons_mk (shut_string Try.underlying9 w0) (trodAll_cons_mk (shut_string Try.underlying9 w1) trodAll_mk0)), rfl, hg.frame _, fun h => by cases h⟩

theorem over : Rows.fnAllDigitsBytewiseAndConcatenationRow.holds Try.pinned (OpenSpec.ofChange Rows.fnAllDigitsBytewiseAndConcatenationSpec) :=
  OpenClaim.holds_of_wide 6 Try.f6 rfl rfl rfl rfl rfl rfl rfl ⟨rfl, rfl, rfl, rfl, rfl⟩ rfl rfl rfl rfl rfl (by kernel_rfl) Try.func6 (by kernel_rfl)
    (of_decide_eq_true (by kernel_rfl)) (by unfold Func.isWrapper; first | (rw [if_pos (by decide +kernel)]; kernel_rfl) | (rw [if_neg (by decide +kernel)]; exact ⟨rfl, rfl⟩))
    (fun os started H enc _ => lifted os started H enc)

/-- ████ THE STATEMENT ████ -/
theorem proved : Rows.FnAllDigitsBytewiseAndConcatenationSaid :=
  over
#print axioms proved
end Go.Proofs.Qxb6003730a.fnAllDigitsBytewiseAndConcatenation
