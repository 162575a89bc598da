import Derived.Test.Qxb6003730aArc
import Derived.Test.Qxb6003730aBig
import Derived.Laws.BytesArg
import Derived.OpenShut
import Derived.Test.Qxb6003730aRows
import Derived.WalkKit
import Derived.ProofKit
import Derived.ShutString
namespace Go.Proofs.Qxb6003730a.fnArcValueIsBase128
open Go.RowKit Bytes Plain SetB Arc

/-- The bytes with the top bit turned. -/
def flp (s : ByteArray) : List Int := s.data.toList.map fun b => ((b.toNat : Int) + 128) % 256
theorem flp_length (s : ByteArray) : (flp s).length = s.size := by simp only [flp, List.length_map, Array.length_toList]; rfl
theorem flp_get (s : ByteArray) (k : Nat) (h : k < s.size) : (flp s).getD k 0 = ((s[k].toNat : Int) + 128) % 256 := by
  have h' : k < s.data.toList.length := by simpa using h
  simp only [flp, List.getD, List.getElem?_map, List.getElem?_eq_getElem h', Option.map_some]
  rfl
theorem gl_flp (s : ByteArray) : gl (strOfNums (flp s)) = gl s := by
  unfold gl
  rw [strOfNums_data]
  unfold flp
  rw [List.map_map, List.map_map]
  apply List.map_congr_left
  intro b _
  have := b.toNat_lt
  simp
  omega
theorem flp_size (s : ByteArray) : (strOfNums (flp s)).size = s.size := by rw [strOfNums_size, flp_length]
set_option maxRecDepth 100000 in
theorem xorF : ∀ y : Fin 256, y.val ^^^ 128 = (y.val + 128) % 256 := by decide
theorem xor128 (b : UInt8) : bits .xor .u8 (b.toNat : Int) 128 = ((b.toNat : Int) + 128) % 256 := by
  have h1 := u8_xor_nat b.toNat 128 b.toNat_lt (by decide)
  have h2 := xorF ⟨b.toNat, b.toNat_lt⟩
  simp only at h2
  rw [h2] at h1
  have e : (((b.toNat + 128) % 256 : Nat) : Int) = ((b.toNat : Int) + 128) % 256 := by omega
  rw [e] at h1
  exact h1
/-- The row so far. -/
def fr (s : ByteArray) (k j : Nat) : Value := .int .u8 (if j < k then (flp s).getD j 0 else 0)
theorem fr_step {w : World} {g M : Nat} {s : ByteArray} {k : Nat} (h : w.rowIs g 5 M (fr s k)) : (w.setCell ⟨g, k, none⟩ (.int .u8 ((flp s).getD k 0))).rowIs g 5 M (fr s (k + 1)) := by
  refine (h.set k _).congr fun j _ => ?_
  unfold fr
  by_cases e : j = k
  · subst e; simp
  · by_cases e2 : j < k
    · simp [e, e2, show j < k + 1 by omega]
    · simp [e, e2, show ¬ j < k + 1 by omega]

theorem V_lt7 (s : ByteArray) {ws : List Int} (h : V ws = vb 128 0 (gl s)) : V ws < 2 ^ (7 * s.size) := by
  have h1 := vb_lt 128 (gl s) (by decide) (gl_in s)
  rw [gl_length] at h1
  rw [h, Int.pow_mul]
  exact h1
theorem V_lt63 (s : ByteArray) (h9 : s.size ≤ 9) : vb 128 0 (gl s) < 9223372036854775808 := by
  have h1 := vb_lt 128 (gl s) (by decide) (gl_in s)
  rw [gl_length] at h1
  have h2 : (128 : Int) ^ s.size ≤ 128 ^ 9 := by
    have : 128 ^ s.size ≤ 128 ^ 9 := Nat.pow_le_pow_right (by decide) h9
    have e : ((128 ^ s.size : Nat) : Int) = 128 ^ s.size := by simp
    omega
  have e : (128 : Int) ^ 9 = 9223372036854775808 := by decide
  omega
theorem one_word {ws : List Int} (hd : In 18446744073709551616 ws) (hn : Norm ws) (h : V ws < 9223372036854775808) : ws.length ≤ 1 := by
  rcases Nat.lt_or_ge ws.length 2 with h1 | h1
  · omega
  · have h2 := V_top ws hd (by omega)
    have h3 := hn (by omega)
    have h4 : (18446744073709551616 : Int) ≤ 18446744073709551616 ^ (ws.length - 1) := by
      have : 18446744073709551616 ^ 1 ≤ 18446744073709551616 ^ (ws.length - 1) := Nat.pow_le_pow_right (by decide) (by omega)
      have e : ((18446744073709551616 ^ (ws.length - 1) : Nat) : Int) = 18446744073709551616 ^ (ws.length - 1) := by simp
      omega
    have h5 : 1 * 18446744073709551616 ^ (ws.length - 1) ≤ ws.getD (ws.length - 1) 0 * 18446744073709551616 ^ (ws.length - 1) := Int.mul_le_mul_of_nonneg_right h3 (by omega)
    omega

set_option maxRecDepth 100000 in
set_option maxHeartbeats 1000000 in
theorem main (s : ByteArray) (w : World) (hs : s.size ≤ 65536) :
    Calls Try.prog 5 #[.string s] w fun e w' => e = .returned (.bool true) ∧ Below w.heap.size w w' := by
  have k1 : ¬ (1048576 : Int) < s.size := by omega
  have k2 : ¬ (65536 : Int) < s.size := by omega
  have mk := fun w => run_make_row' (P := Try.prog) 22 5 (.int .u8 0) 1 Try.underlying22 info5 rfl .i64 .i64 s.size (by omega) (by omega) w
  go_enter Try.func5, Try.ntmps5
  go_wp2
  go_loopw [4] (fun i wr => ∃ k : Nat, k ≤ s.size ∧ i = .int .i64 k ∧ wr.rowIs w.heap.size 5 s.size (fr s k) ∧ Below w.heap.size w wr ∧ wr.heap.size = w.heap.size + 1) (fun i _ => s.size - (intOf i).toNat)
  case atStart => exact ⟨0, Nat.zero_le _, rfl, (World.rowIs_made w (.int .u8 0) s.size 5).congr (fun i _ => by simp [fr]), (Below.refl _ _).alloc (Nat.le_refl _) _, by simp⟩
  case round =>
    obtain ⟨k, hk, rfl, hrow, hbel, hz⟩ := hrel
    by_cases hlt : k < s.size
    · have hx := xor128 s[k]
      have q1 := hrow.cell hlt
      have q2 := hrow.frozen k
      unfold fr at q1
      have R := fr_step hrow
      rw [flp_get s k hlt] at R
      go_wp2
      go_roundw
      case rel => exact ⟨k + 1, by omega, by go_num, R, hbel.setCell (Nat.le_refl _) _, by simp; omega⟩
      case measure => simp [intOf]; omega
    · obtain rfl : k = s.size := by omega
      have HR : Hid (wr.rowIs w.heap.size 5 s.size (fr s s.size)) := hrow
      clear hrow
      go_wp2_with fail
      refine (zzArc s wr hs).mono ?_
      rintro e w1 ⟨P, rfl, hP0, ⟨ws, hB1, hV1⟩, b1⟩
      have hrow1 : w1.rowIs w.heap.size 5 s.size (fr s s.size) := HR.out.of_block (b1.block _ (by omega))
      have hcv := run_convert_bytes_arg (P := Try.prog) w1 22 5 Try.underlying22 Try.underlying5 w.heap.size 0 s.size s.size (flp s) (flp_length s) (fun i hi => by rw [Nat.zero_add, hrow1.cell hi]; simp [fr, hi]) 9 Try.underlying9
      have HV : Hid (V ws = vb 128 0 (gl s)) := hV1
      clear hrow1 hV1
      go_wp2_with fail
      refine (zzArc (strOfNums (flp s)) w1 (by rw [flp_size]; exact hs)).mono ?_
      rintro e w2 ⟨Q, rfl, hQ0, ⟨ws2, hB2, hV2⟩, b2⟩
      rw [gl_flp, ← HV.out] at hV2
      obtain rfl := V_inj ws2 ws hB2.digs hB1.digs hB2.norm hB1.norm hV2
      have hPQ : P ≠ Q := by have := hB1.lt; omega
      have hB3 := hB1.keep b2
      have bel : Below w.heap.size w w2 := (hbel.trans (b1.mono hbel.size)).trans (b2.mono (Nat.le_trans hbel.size b1.size))
      clear hcv hV2 hbel b1 b2 hB1 hP0 hQ0 hz
      go_wp2_with fail
      refine (Big.Cmp P Q ws2 w2 hPQ hB3 hB2).mono ?_
      rintro e w3 ⟨rfl, nd, rfl⟩
      have hB4 : BigI (w2.drewN nd) P ws2 := hB3.keep ⟨rfl, rfl, rfl, Nat.le_refl _, fun _ _ => rfl⟩
      have bel4 : Below w.heap.size w (w2.drewN nd) := ⟨bel.os, bel.tape, bel.output, bel.size, bel.block⟩
      generalize w2.drewN nd = W at *
      clear hB3 hB2 bel
      have hlt7 := V_lt7 s HV.out
      go_wp2_with fail
      refine (Big.Sign P ws2 W hB4).mono ?_
      rintro e w3 ⟨⟨sg, hsg, rfl⟩, rfl⟩
      go_wp2_with fail
      refine (Big.BitLen P ws2 _ hB4 (7 * s.size) hlt7).mono ?_
      rintro e w3 ⟨⟨L, hL, rfl⟩, rfl⟩
      have hL' : L ≤ 7 * (s.size : Int) := by omega
      by_cases h9 : s.size ≤ 9
      · have HIN := gl_in s
        have hb9 := V_lt63 s h9
        have hone := one_word hB4.digs hB4.norm (by rw [HV.out]; exact hb9)
        have HL : Hid ((gl s).length = s.size) := gl_length s
        go_wp2
        go_loop [7, 8] (fun x i => ∃ k : Nat, k ≤ s.size ∧ i = .int .i64 k ∧ x = .int .u64 (vb 128 0 ((gl s).take k))) (fun _ i => s.size - (intOf i).toNat)
        case atStart => exact ⟨0, Nat.zero_le _, rfl, rfl⟩
        case round =>
          obtain ⟨k, hk, rfl, rfl⟩ := hrel
          obtain ⟨v1, v2⟩ := vb_take 128 (gl s) (by decide) HIN k
          by_cases hlt : k < s.size
          · have hm := mask7 s[k]
            have HS : Hid (vb 128 0 ((gl s).take (k + 1)) = vb 128 0 ((gl s).take k) * 128 + (s[k].toNat : Int) % 128) := by
              rw [take_snoc (gl s) (by rw [HL.out]; exact hlt), vb_snoc, gl_get s k hlt]
              exact rfl
            have v3 : vb 128 0 ((gl s).take k) * 128 + (s[k].toNat : Int) % 128 < 9223372036854775808 := by
              have := (vb_take 128 (gl s) (by decide) HIN (k + 1)).2
              rw [HS.out] at this
              omega
            generalize vb 128 0 ((gl s).take k) = D at *
            clear v2
            go_wp2
            go_round
            case rel => exact ⟨k + 1, by omega, by go_num, by rw [HS.out]⟩
            case measure => simp [intOf]; omega
          · obtain rfl : k = s.size := by omega
            have HT : Hid (vb 128 0 ((gl s).take s.size) = V ws2) := by
              rw [List.take_of_length_le (by rw [HL.out]; exact Nat.le_refl _), ← HV.out]
              exact rfl
            rw [HT.out]
            clear v1 v2
            go_wp2_with fail
            refine (Big.IsU P ws2 w3 hB4 hone).mono ?_
            rintro e w4 ⟨rfl, rfl⟩
            go_wp2_with fail
            refine (Big.U64 P ws2 _ hB4 hone).mono ?_
            rintro e w4 ⟨rfl, rfl⟩
            go_wp2
            go_ret
            exact ⟨rfl, bel4⟩
      · go_wp2
        go_ret
        exact ⟨rfl, bel4⟩
open Go.ChangeShapes Go.WideShapes Go.ChangeAt Go.RowKit
open Go.ChangeMaps (open_string shut_string)
set_option linter.unusedVariables false

theorem own : ownKnob Try.prog.godebug = none := by kernel_rfl

set_option maxHeartbeats 1000000 in
theorem walk (a0 : ByteArray) (w0 : a0.size ≤ maxLen) (w : World) :
    Calls Try.prog 5 #[.string a0] w fun e w' => e = .returned (.bool true) ∧ Below w.heap.size w w' := by
  by_cases c1 : (1048576 : Int) < a0.size
  · go_enter Try.func5, Try.ntmps5
    go_wp2
    go_ret
    exact ⟨rfl, Below.refl _ _⟩
  by_cases c2 : (65536 : Int) < a0.size
  · go_enter Try.func5, Try.ntmps5
    go_wp2
    go_ret
    exact ⟨rfl, Below.refl _ _⟩
  exact main a0 w (by omega)

/-! ### THE ROW's STEP: WRITTEN OUT: LEAVE IT -/
set_option maxRecDepth 100000 in
theorem lifted (os : Os) (started : os.Started) (H : Type) (enc : TypeId × Value → H) :
    ReturnsInHanded {} Try.checked os 5 .any (Rows.fnArcValueIsBase128Spec.pre6 enc Try.prog Try.f5 Rows.fnArcValueIsBase128Row.domain false) (Rows.fnArcValueIsBase128Spec.post enc Try.prog Try.f5 false true false false) := by
  refine returnsInHanded_of_change (C := Try.checked) own started (by kernel_rfl) Try.func5
    (ChangeSpec.witness6 (enc := enc) (C := Try.checked) false ⟨#[], #[.string ByteArray.empty], []⟩ 8 (by kernel_rfl) (by kernel_rfl) (by kernel_rfl) (by kernel_rfl)) ?_
  intro W base args ds gs before hval0 hW hcnd _
  have hval : ∀ (j : Nat) t v, Try.f5.params[j]? = some t → args[j]? = some v → Value.okWide Try.prog W .any base t v := hval0
  have hW' := hW
  obtain ⟨p, q, hA0, hV, rfl, hfz, hnd⟩ := hW
  have hA : DataW.TrodAll enc Try.prog W 0 (fun _ => true) true Try.f5.params.toList args.toList ds p := hA0
  rw [Try.params5] at hA hval
  obtain ⟨v0, vs0, d0, ds0, p0, q0, hargs, rfl, rfl, h0, r0⟩ := trodAll_cons hA
  obtain ⟨rfl, rfl, rfl⟩ := trodAll_nil r0
  obtain rfl : args = #[v0] := by cases args; simp_all
  obtain ⟨rfl, rfl⟩ := trodVars_none hV
  obtain ⟨a0, rfl, rfl, rfl, w0⟩ := open_string Try.underlying9 (hval 0 9 v0 rfl rfl) h0
  clear hA0 hval0
  simp only [List.append_nil] at hW'
  refine (walk a0 w0 W).mono fun e W' ⟨he, hg⟩ => ?_
  subst he
  exact ⟨_, rfl, _, _, _, [], [], [], hW', trodAll_mk1 (shut_bool Try.underlying4 _), (trodAll_cons_mk (shut_string Try.underlying9 w0) trodAll_mk0), rfl, hg.frame _, fun h => by cases h⟩

theorem over : Rows.fnArcValueIsBase128Row.holds Try.pinned (OpenSpec.ofChange Rows.fnArcValueIsBase128Spec) :=
  OpenClaim.holds_of_wide 5 Try.f5 rfl rfl rfl rfl rfl rfl rfl ⟨rfl, rfl, rfl, rfl, rfl⟩ rfl rfl rfl rfl rfl (by kernel_rfl) Try.func5 (by kernel_rfl)
    (of_decide_eq_true (by kernel_rfl)) (by unfold Func.isWrapper; first | (rw [if_pos (by decide +kernel)]; kernel_rfl) | (rw [if_neg (by decide +kernel)]; exact ⟨rfl, rfl⟩))
    (fun os started H enc _ => lifted os started H enc)

/-- ████ THE STATEMENT ████ -/
theorem proved : Rows.FnArcValueIsBase128Said :=
  over
#print axioms proved
end Go.Proofs.Qxb6003730a.fnArcValueIsBase128
