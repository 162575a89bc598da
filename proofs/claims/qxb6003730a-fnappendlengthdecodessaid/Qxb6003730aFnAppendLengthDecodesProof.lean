import Derived.Test.Qxb6003730aDecLen
import Derived.Test.Qxb6003730aAfter
import Derived.OpenShut
import Derived.Test.Qxb6003730aRows
import Derived.WalkKit
import Derived.ProofKit
import Derived.ShutString
import Derived.ChangeOld
import Derived.Below
namespace Go.Proofs.Qxb6003730a.fnAppendLengthDecodes
open Go.RowKit Bytes Plain Length

set_option maxRecDepth 100000 in
set_option maxHeartbeats 1000000 in
theorem main (ao : Option Addr) (len cap : Nat) (bs : List Int) (num : Nat) (w : World) (hsrc : Src w ao len cap bs) (hl : len ≤ 65536) (hnum : num ≤ 9223372036854775807) :
    Calls Try.prog 4 #[.slice ao len cap, .int .i64 num] w fun e w' => e = .returned (.bool true) ∧ Below w.heap.size w w' := by
  have k1 : ¬ (1048576 : Int) < len := by omega
  have k2 : ¬ (65536 : Int) < len := by omega
  have HB : Hid (bs.length = len) := hsrc.1
  go_enter Try.func4, Try.ntmps4
  go_wp2_with (first | (go_at_call 11; go_in) | fail)
  refine (clone ao len cap bs w hsrc hl).mono ?_
  rintro e w1 ⟨ao1, cap1, rfl, own1, b1⟩
  go_wp2_with fail
  refine (clone ao1 len cap1 bs w1 (src_of_own own1) hl).mono ?_
  rintro e w2 ⟨ao2, cap2, rfl, own2, b2⟩
  have own1' := own1.kept (grown_of_below b2 none) (by cases ao1 <;> simp [Value.ownBlock])
  go_wp2_with fail
  refine (zzLen ao1 len cap1 bs num w.heap.size w2 hl hnum (Nat.le_trans b1.size b2.size) own1').mono ?_
  rintro e w3 ⟨id, g, cap3, rfl, hid, own3, hg3⟩
  have hA := after HB.out own1 b1 own2 b2 own3 hg3
  clear own1 own1' own2 own3 hg3 b1 b2 hsrc
  have hcap := hA.cap
  have hpos : 1 ≤ id.length := by
    rcases hid with ⟨_, rfl⟩ | ⟨_, ds, _, rfl⟩
    · simp
    · simp
  go_wp2
  go_loopw [7] (fun i wr => ∃ t : Nat, t ≤ len ∧ i = .int .i64 t ∧ Below w3.heap.size w3 wr) (fun i _ => len - (intOf i).toNat)
  case atStart => exact ⟨0, Nat.zero_le _, rfl, Below.refl _ _⟩
  case round =>
    obtain ⟨t, ht, rfl, hal⟩ := hrel
    by_cases hlt : t < len
    · obtain ⟨g2, rfl, ho⟩ := hA.orig (by omega)
      have q0 := (hal.cell (World.block_lt_of_cell? w3 ⟨g, t, none⟩ (hA.out t hlt))).trans (hA.out t hlt)
      have q1 := (hal.cell (World.block_lt_of_cell? w3 ⟨g2, t, none⟩ (ho t hlt))).trans (ho t hlt)
      have l1 : (t : Int) < (len : Int) + id.length := by omega
      have l2 : (t : Int) < (len : Int) := by omega
      have HAL : Hid (Below w3.heap.size w3 wr) := hal
      clear hal ho
      go_wp2
      go_quiet (fail)
      go_wp2
      go_roundw
      case rel => exact ⟨t + 1, by omega, by go_num, ⟨HAL.out.os, HAL.out.tape, HAL.out.output, HAL.out.size, HAL.out.block⟩⟩
      case measure => simp [intOf]; omega
    · obtain rfl : t = len := by omega
      have HAL : Hid (Below w3.heap.size w3 wr) := hal
      clear hal
      go_wp2_with fail
      refine (Length.decode g t id.length (cap3 - t) num id wr hid hnum rfl (fun j hj => (HAL.out.cell (World.block_lt_of_cell? w3 ⟨g, t + j, none⟩ (hA.new j hj))).trans (hA.new j hj))).mono ?_
      rintro e w4 ⟨rfl, rfl⟩
      go_wp2
      go_ret
      exact ⟨rfl, hA.below.trans (HAL.out.mono hA.below.size)⟩
open Go.ChangeShapes Go.WideShapes Go.ChangeAt Go.RowKit
open Go.ChangeMaps (open_string shut_string)
set_option linter.unusedVariables false

theorem own : ownKnob Try.prog.godebug = none := by kernel_rfl
theorem laidOut : laidOutB Try.prog = true := by kernel_rfl

/-- WHAT THE WALK IS TOLD OF A SLICE OF INTEGERS THAT CAME IN: it is nil; or it leads to a row of 'cap' cells, the numbers 'zs' (the first 'len' are its elements, the rest its spare room), each fitting its kind. -/
def IsRow (k : IntKind) (w : World) (a : Option Addr) (len cap : Nat) (zs : List Int) : Prop :=
  (a = none ∧ len = 0 ∧ cap = 0 ∧ zs = []) ∨
  ∃ x, a = some x ∧ len ≤ cap ∧ cap ≤ maxLen ∧ zs.length = cap ∧ (∀ i, i < zs.length → w.cell? (x.add i) = some (.int k (zs.getD i 0))) ∧ ∀ n ∈ zs, (Lit.int k n).wf = true

set_option maxHeartbeats 1000000 in
theorem walk (a0 : Option Addr) (len0 cap0 : Nat) (z0 : List Int) (a1 : Int) (w : World) (w0 : IsRow .u8 w a0 len0 cap0 z0) (w1 : (Lit.int .i64 a1).wf = true) :
    Calls Try.prog 4 #[.slice a0 len0 cap0, .int .i64 a1] w fun e w' => e = .returned (.bool true) ∧ Below w.heap.size w w' := by
  have hm1 : a1 ≤ 9223372036854775807 := by
    simp [Lit.wf, IntKind.min, IntKind.max, IntKind.signed, IntKind.bits] at w1
    omega
  have hm : len0 ≤ 9223372036854775807 := by
    rcases w0 with ⟨_, rfl, _, _⟩ | ⟨x, _, h1, h2, _⟩
    · omega
    · unfold maxLen at h2; omega
  by_cases c1 : (1048576 : Int) < len0
  · go_enter Try.func4, Try.ntmps4
    go_wp2
    go_ret
    exact ⟨rfl, Below.refl _ _⟩
  by_cases c2 : (65536 : Int) < len0
  · go_enter Try.func4, Try.ntmps4
    go_wp2
    go_ret
    exact ⟨rfl, Below.refl _ _⟩
  by_cases c3 : a1 < 0
  · go_enter Try.func4, Try.ntmps4
    go_wp2
    go_ret
    exact ⟨rfl, Below.refl _ _⟩
  obtain ⟨num, rfl⟩ := Int.eq_ofNat_of_zero_le (by omega : 0 ≤ a1)
  have hsrc : Src w a0 len0 cap0 (z0.take len0) := by
    rcases w0 with ⟨rfl, rfl, rfl, rfl⟩ | ⟨x, rfl, h1, h2, h3, h4, _⟩
    · exact ⟨rfl, .inl ⟨rfl, rfl, rfl⟩⟩
    · refine ⟨by rw [List.length_take]; omega, ?_⟩
      by_cases hz : len0 = 0
      · exact .inr (.inl ⟨x, rfl, hz⟩)
      · obtain ⟨b, off, rfl, hcell⟩ := ints_at h4 (by omega)
        refine .inr (.inr ⟨b, off, rfl, World.block_lt_of_cell? w ⟨b, off + 0, none⟩ (hcell 0 (by omega)), fun i hi => ?_⟩)
        rw [hcell i (by omega)]
        simp only [List.getD]
        rw [List.getElem?_take, if_pos hi]
  exact main a0 len0 cap0 (z0.take len0) num w hsrc (by omega) (by omega)

/-! ### THE ROW's STEP: WRITTEN OUT: LEAVE IT -/
set_option maxRecDepth 100000 in
theorem lifted (os : Os) (started : os.Started) (H : Type) (enc : TypeId × Value → H) :
    ReturnsInHanded {} Try.checked os 4 .any (Rows.fnAppendLengthDecodesSpec.pre6 enc Try.prog Try.f4 Rows.fnAppendLengthDecodesRow.domain false) (Rows.fnAppendLengthDecodesSpec.post enc Try.prog Try.f4 false true false false) := by
  refine returnsInHanded_of_change (C := Try.checked) own started (by kernel_rfl) Try.func4
    (ChangeSpec.witness6 (enc := enc) (C := Try.checked) false ⟨#[], #[.slice none 0 0, .int .i64 0], []⟩ 8 (by kernel_rfl) (by kernel_rfl) (by kernel_rfl) (by kernel_rfl)) ?_
  intro W base args ds gs before hval0 hW hcnd _
  have hval : ∀ (j : Nat) t v, Try.f4.params[j]? = some t → args[j]? = some v → Value.okWide Try.prog W .any base t v := hval0
  have hW' := hW
  obtain ⟨p, q, hA0, hV, rfl, hfz, hnd⟩ := hW
  have hA : DataW.TrodAll enc Try.prog W 0 (fun _ => true) true Try.f4.params.toList args.toList ds p := hA0
  rw [Try.params4] at hA hval
  obtain ⟨v0, vs0, d0, ds0, p0, q0, hargs, rfl, rfl, h0, r0⟩ := trodAll_cons hA
  obtain ⟨v1, vs1, d1, ds1, p1, q1, rfl, rfl, rfl, h1, r1⟩ := trodAll_cons r0
  obtain ⟨rfl, rfl, rfl⟩ := trodAll_nil r1
  obtain rfl : args = #[v0, v1] := by cases args; simp_all
  obtain ⟨rfl, rfl⟩ := trodVars_none hV
  obtain ⟨a0, len0, cap0, rfl⟩ := okWide_slice Try.underlying22 (hval 0 22 v0 rfl rfl)
  have k0 := h0
  have lt0 : ∀ x ∈ p0, x.block < W.heap.size := by obtain ⟨m, hm⟩ := k0; exact DataW.trod_lt m _ _ _ hm
  obtain ⟨z0, w0⟩ : ∃ zs, IsRow .u8 W a0 len0 cap0 zs := by
    obtain ⟨fuel, hf⟩ := h0
    rcases open_ints Try.underlying22 Try.underlying5 (by kernel_rfl) hf with ⟨hcs, _⟩ | ⟨x, l, c, zs, hcs, _, hl, hm, hz, _, hcell, hwz⟩
    · simp [Value.cells] at hcs
      obtain ⟨rfl, rfl, rfl⟩ := hcs
      exact ⟨[], .inl ⟨rfl, rfl, rfl, rfl⟩⟩
    · simp [Value.cells] at hcs
      obtain ⟨rfl, rfl, rfl⟩ := hcs
      exact ⟨zs, .inr ⟨_, rfl, hl, hm, by simpa using hz, hcell, hwz⟩⟩
  obtain ⟨a1, rfl, rfl, rfl, w1⟩ := open_int Try.underlying3 (hval 1 3 v1 rfl rfl) h1
  clear hA0 hval0
  refine (walk a0 len0 cap0 z0 a1 W w0 w1).mono fun e W' ⟨he, bel⟩ => ?_
  subst he
  exact ⟨_, rfl, _, _, _, [], _, [], hW', trodAll_mk1 (shut_bool Try.underlying4 _), (trodAll_cons_mk (Below.trod laidOut (by kernel_rfl) (of_decide_eq_true (by kernel_rfl)) k0 bel lt0) (trodAll_cons_mk (shut_int Try.underlying3 w1) trodAll_mk0)), rfl, bel.frame _, fun h => by cases h⟩

theorem over : Rows.fnAppendLengthDecodesRow.holds Try.pinned (OpenSpec.ofChange Rows.fnAppendLengthDecodesSpec) :=
  OpenClaim.holds_of_wide 4 Try.f4 rfl rfl rfl rfl rfl rfl rfl ⟨rfl, rfl, rfl, rfl, rfl⟩ rfl rfl rfl rfl rfl (by kernel_rfl) Try.func4 (by kernel_rfl)
    (of_decide_eq_true (by kernel_rfl)) (by unfold Func.isWrapper; first | (rw [if_pos (by decide +kernel)]; kernel_rfl) | (rw [if_neg (by decide +kernel)]; exact ⟨rfl, rfl⟩))
    (fun os started H enc _ => lifted os started H enc)

/-- ████ THE STATEMENT ████ -/
theorem proved : Rows.FnAppendLengthDecodesSaid := over
#print axioms proved
end Go.Proofs.Qxb6003730a.fnAppendLengthDecodes
