import Derived.Test.Qxb6003718aRows
import Derived.Test.Qxb6003718aDig
import Derived.WalkKit
import Derived.WalkSpells
import Derived.WalkLawsBesides
import Derived.BigQuiet
import Derived.Outline
import Derived.ProofKit
import Derived.OpenShut
import Derived.ShutString
namespace Go.Proofs.Qxb6003718a.fnAppendDigitsReadsDecimalText
open Go.RowKit Dig

set_option maxHeartbeats 400000 in
theorem isDigits_yes (s : ByteArray) (w : World) (h0 : 0 < s.size) (hs : s.size ≤ 1000) (hd : Digs (bl s)) :
    Calls Try.prog 13 #[.string s] w fun e w' => e = .returned (.bool true) ∧ w' = w := by
  have hne : (s.toList.isEmpty) = false := by
    have h1 := bl_length s
    rw [ByteArray.toList_eq, List.isEmpty_eq_false_iff]
    intro e
    simp [bl, e] at h1
    omega
  go_enter Try.func13, Try.ntmps13
  go_wp2
  go_loop [8, 3] (fun i _ => ∃ k : Nat, k ≤ s.size ∧ i = .int .i64 k) (fun i _ => s.size - (intOf i).toNat)
  case atStart => exact ⟨0, Nat.zero_le _, rfl⟩
  case round =>
    obtain ⟨k, hk, rfl⟩ := hrel
    by_cases hlt : k < s.size
    · have hb := hd _ (List.mem_of_getElem? (bl_get s k hlt))
      obtain ⟨b1, b2⟩ := hb
      go_wp2
      go_round
      case rel => exact ⟨k + 1, by omega, by go_num⟩
      case measure => simp [intOf]; omega
    · go_wp2
      go_ret
      exact ⟨rfl, rfl⟩

set_option maxHeartbeats 400000 in
theorem appendDigits (c : Int) (s : ByteArray) (w : World) (hc : 0 ≤ c) (hs : s.size ≤ 1000) (hd : Digs (bl s)) (hb : hor c (bl s) ≤ 1000000000000000000) :
    Calls Try.prog 14 #[.int .i64 c, .string s] w fun e w' => e = .returned (.int .i64 (hor c (bl s))) ∧ w' = w := by
  go_enter Try.func14, Try.ntmps14
  go_wp2
  go_loop [0, 8, 5] (fun x i _ => ∃ k : Nat, k ≤ s.size ∧ i = .int .i64 k ∧ x = .int .i64 (hor c ((bl s).take k))) (fun _ i _ => s.size - (intOf i).toNat)
  case atStart => exact ⟨0, Nat.zero_le _, rfl, rfl⟩
  case round =>
    obtain ⟨k, hk, rfl, rfl⟩ := hrel
    by_cases hlt : k < s.size
    · obtain ⟨b1, b2⟩ := hd _ (List.mem_of_getElem? (bl_get s k hlt))
      obtain ⟨t1, t2⟩ := hor_take c (bl s) hc hd k
      obtain ⟨t3, t4⟩ := hor_take c (bl s) hc hd (k + 1)
      have HS : Hid (hor c ((bl s).take (k + 1)) = hor c ((bl s).take k) * 10 + ((s[k].toNat : Int) - 48)) := by rw [bl_snoc s k hlt, hor_snoc]; exact rfl
      have t5 : hor c ((bl s).take k) * 10 + ((s[k].toNat : Int) - 48) ≤ 1000000000000000000 := by rw [← HS.out]; omega
      clear t3 t4
      go_wp2
      go_round
      case rel => exact ⟨k + 1, by omega, by go_num, by rw [HS.out]⟩
      case measure => simp [intOf]; omega
    · have e : (bl s).take k = bl s := List.take_of_length_le (by rw [bl_length]; omega)
      have HE : Hid ((bl s).take k = bl s) := e
      clear e
      go_wp2
      go_ret
      exact ⟨by simp [HE.out], rfl⟩

/-- What the loop of itoa has laid: the digits 'acc' at the array's end, 'm' still to be written. -/
structure Mid (n m : Nat) (acc : List Int) : Prop where
  digs : Digs acc
  len : acc.length ≤ 17
  small : m < 10 ^ (17 - acc.length)
  val : (m : Int) * 10 ^ acc.length + hor 0 acc = n

theorem Mid.start (n : Nat) (h : n < 100000000000000000) : Mid n n [] := ⟨fun _ h => by simp at h, by simp, by simpa using h, by simp [hor]⟩
theorem Mid.room {n m : Nat} {acc : List Int} (h : Mid n m acc) (hm : 0 < m) : acc.length ≤ 16 := by
  rcases Nat.lt_or_ge acc.length 17 with h1 | h1
  · omega
  · have := h.small
    rw [show 17 - acc.length = 0 by omega] at this
    simp at this
    omega
theorem Mid.step {n m : Nat} {acc : List Int} (h : Mid n m acc) (hm : 0 < m) : Mid n (m / 10) ((48 + (m : Int) % 10) :: acc) := by
  have hr := h.room hm
  refine ⟨?_, by simp; omega, ?_, ?_⟩
  · intro b hb
    rcases List.mem_cons.1 hb with rfl | hb
    · omega
    · exact h.digs b hb
  · have h1 := h.small
    rw [show 17 - acc.length = (17 - (acc.length + 1)) + 1 by omega, Nat.pow_succ] at h1
    simp only [List.length_cons]
    omega
  · have h1 := h.val
    rw [hor_cons, hor_lin, List.length_cons, Int.pow_succ, ← h1]
    have e : (m : Int) = ((m / 10 : Nat) : Int) * 10 + (m : Int) % 10 := by omega
    generalize (10 : Int) ^ acc.length = q
    generalize hor 0 acc = r
    have e2 : (m : Int) * q = (((m / 10 : Nat) : Int) * 10 + (m : Int) % 10) * q := by rw [← e]
    have e3 : 0 * 10 + (48 + (m : Int) % 10 - 48) = (m : Int) % 10 := by omega
    rw [e3, e2, Int.add_mul, Int.mul_assoc, Int.mul_comm 10 q]
    omega
theorem Mid.lt {n m : Nat} {acc : List Int} (h : Mid n m acc) : m < 100000000000000000 := by
  have h1 := h.small
  have h2 : 10 ^ (17 - acc.length) ≤ 10 ^ 17 := Nat.pow_le_pow_right (by omega) (by omega)
  omega

theorem twenty (j : Nat) (hj : j < 20) : (#[Value.int IntKind.u8 0, Value.int IntKind.u8 0, Value.int IntKind.u8 0, Value.int IntKind.u8 0, Value.int IntKind.u8 0, Value.int IntKind.u8 0, Value.int IntKind.u8 0, Value.int IntKind.u8 0, Value.int IntKind.u8 0, Value.int IntKind.u8 0, Value.int IntKind.u8 0, Value.int IntKind.u8 0, Value.int IntKind.u8 0, Value.int IntKind.u8 0, Value.int IntKind.u8 0, Value.int IntKind.u8 0, Value.int IntKind.u8 0, Value.int IntKind.u8 0, Value.int IntKind.u8 0, Value.int IntKind.u8 0] : Array Value)[j]? = some (Value.int IntKind.u8 0) := by
  have h : (#[Value.int IntKind.u8 0, Value.int IntKind.u8 0, Value.int IntKind.u8 0, Value.int IntKind.u8 0, Value.int IntKind.u8 0, Value.int IntKind.u8 0, Value.int IntKind.u8 0, Value.int IntKind.u8 0, Value.int IntKind.u8 0, Value.int IntKind.u8 0, Value.int IntKind.u8 0, Value.int IntKind.u8 0, Value.int IntKind.u8 0, Value.int IntKind.u8 0, Value.int IntKind.u8 0, Value.int IntKind.u8 0, Value.int IntKind.u8 0, Value.int IntKind.u8 0, Value.int IntKind.u8 0, Value.int IntKind.u8 0] : Array Value) = Array.replicate 20 (Value.int IntKind.u8 0) := rfl
  rw [h]
  simp [hj]

theorem step_cells {wr : World} {B p : Nat} {acc : List Int} {d v : Int} (hp : p + acc.length = 20) (h1 : 1 ≤ p) (hv : wr.cell? ⟨B, p - 1, none⟩ = some (.int .u8 v))
    (hc : ∀ j, j < acc.length → wr.cell? ⟨B, p + j, none⟩ = some (.int .u8 (acc.getD j 0))) (hall : ∀ j, j < 20 → ∃ v : Int, wr.cell? ⟨B, j, none⟩ = some (.int .u8 v)) :
    (∀ j, j < (d :: acc).length → (wr.setCell ⟨B, p - 1, none⟩ (.int .u8 d)).cell? ⟨B, p - 1 + j, none⟩ = some (.int .u8 ((d :: acc).getD j 0))) ∧ (∀ j, j < 20 → ∃ v : Int, (wr.setCell ⟨B, p - 1, none⟩ (.int .u8 d)).cell? ⟨B, j, none⟩ = some (.int .u8 v)) := by
  refine ⟨fun j hj => ?_, fun j hj => ?_⟩
  · match j with
    | 0 => exact World.cell?_setCell_same _ _ _ hv
    | j + 1 =>
      refine (World.cell?_setCell_other _ _ _ _ (by simp)).trans ?_
      have := hc j (by simp at hj; omega)
      rw [show p - 1 + (j + 1) = p + j by omega, this]
      simp
  · by_cases e : j = p - 1
    · subst e
      exact ⟨d, World.cell?_setCell_same _ _ _ hv⟩
    · obtain ⟨v', hv'⟩ := hall j hj
      exact ⟨v', (World.cell?_setCell_other _ _ _ _ (fun h => e (by cases h; rfl))).trans hv'⟩

theorem len33 : Try.prog.arrayLen 33 = 20 := by kernel_rfl
theorem arr33 : Try.prog.underlying 33 = some (.array (Try.prog.arrayLen 33) (Try.prog.elem 33)) := by kernel_rfl
theorem size33 (w : World) : (sizeOf (Try.prog.elem 33)).run Try.prog w = .ok 1 w := by kernel_rfl
theorem tail33 (b p : Nat) (hp : p < 20) (w : World) : (Instr.sliceAt 33 (.pointer (some ⟨b, 0, none⟩)) (some (.int .i64 p)) none none).run Try.prog w = .ok (.slice (some ⟨b, p, none⟩) (20 - p) (20 - p)) w := by
  rw [run_sliceAt_array_l (P := Try.prog) w 33 _ arr33 .i64 p (by omega) (by rw [len33]; omega), size33]
  simp only [Result.andThen, slicedAt, len33, Int.toNat_natCast, Nat.mul_one]
  rw [if_neg (by omega)]
  simp [Addr.add]
  omega
theorem Mid.ne {n : Nat} {acc : List Int} (h : Mid n 0 acc) (hn : 0 < n) : 0 < acc.length := by
  rcases Nat.eq_zero_or_pos acc.length with h1 | h1
  · have h2 := h.val
    rw [List.length_eq_zero_iff] at h1
    subst h1
    simp [hor] at h2
    omega
  · exact h1

set_option maxHeartbeats 400000 in
theorem itoa_pos (n : Nat) (w : World) (h0 : 0 < n) (hn : n < 100000000000000000) :
    Calls Try.prog 9 #[.int .u64 n] w fun e w' => ∃ acc : List Int, e = .returned (.string (strOfNums acc)) ∧ Mid n 0 acc ∧ Below w.heap.size w w' := by
  have hne : ((n : Int) == 0) = false := by rw [beq_eq_false_iff_ne]; omega
  go_enter Try.func9, Try.ntmps9
  go_wp2
  go_loopw [0, 4] (fun x i wr => ∃ (m p : Nat) (acc : List Int), p + acc.length = 20 ∧ x = .int .u64 m ∧ i = .int .i64 p ∧ Mid n m acc ∧ (∀ j, j < acc.length → wr.cell? ⟨w.heap.size, p + j, none⟩ = some (.int .u8 (acc.getD j 0))) ∧ (∀ j, j < 20 → ∃ v : Int, wr.cell? ⟨w.heap.size, j, none⟩ = some (.int .u8 v)) ∧ (∀ j, j < 20 → wr.frozen? ⟨w.heap.size, j, none⟩ = false) ∧ Below w.heap.size w wr) (fun _ i _ => (intOf i).toNat)
  case atStart =>
    refine ⟨n, 20, [], rfl, rfl, rfl, Mid.start n hn, fun j hj => by simp at hj, ?_, ?_, ?_⟩
    · intro j hj
      rw [World.cell?_alloc_new]
      exact ⟨0, twenty j hj⟩
    · intro j hj
      exact World.frozen?_alloc_new _ _ _ _
    · exact (Below.refl _ _).alloc (Nat.le_refl _) _
  case round =>
    obtain ⟨m, p, acc, hp, rfl, rfl, hmid, hc, hall, hfz, hbel⟩ := hrel
    by_cases hlt : 0 < m
    · have hr := hmid.room hlt
      obtain ⟨v, hv⟩ := hall (p - 1) (by omega)
      have hf := hfz (p - 1) (by omega)
      have hml := hmid.lt
      have R := step_cells (d := 48 + (m : Int) % 10) hp (by omega) hv hc hall
      have S := hmid.step hlt
      go_wp2
      go_roundw
      case rel => exact ⟨m / 10, p - 1, (48 + (m : Int) % 10) :: acc, by simp; omega, by go_num, by go_num, S, R.1, R.2, fun j hj => (World.frozen?_setCell _ _ _ _).trans (hfz j hj), hbel.setCell (Nat.le_refl _) _⟩
      case measure => simp [intOf]; omega
    · obtain rfl : m = 0 := by omega
      have hcv := run_convert_bytes_arg (P := Try.prog) wr 34 5 Try.underlying34 Try.underlying5 w.heap.size p (20 - p) (20 - p) acc (by omega) (fun i hi => hc i (by omega)) 9 Try.underlying9
      have hp2 : p < 20 := by have := hmid.ne h0; omega
      have hsl := tail33 w.heap.size p hp2 wr
      go_wp2
      go_ret
      exact ⟨acc, rfl, hmid, hbel⟩

theorem bl_nums (acc : List Int) (h : Digs acc) : bl (strOfNums acc) = acc := by
  unfold bl
  rw [strOfNums_data, List.map_map]
  refine (List.map_congr_left fun x hx => ?_).trans (List.map_id acc)
  obtain ⟨h1, h2⟩ := h x hx
  simp
  omega

/-- What itoa gives: digits that read as n. -/
structure Text (n : Nat) (s : ByteArray) : Prop where
  digs : Digs (bl s)
  pos : 0 < s.size
  len : s.size ≤ 17
  val : hor 0 (bl s) = n

theorem Mid.text {n : Nat} {acc : List Int} (h : Mid n 0 acc) (hn : 0 < n) : Text n (strOfNums acc) := by
  have e := bl_nums acc h.digs
  have h1 := h.val
  refine ⟨by rw [e]; exact h.digs, by rw [strOfNums_size]; exact h.ne hn, by rw [strOfNums_size]; exact h.len, ?_⟩
  rw [e]
  simpa using h1

theorem text0 : Text 0 ⟨#[48]⟩ := ⟨by intro b hb; simp [bl] at hb; omega, by decide, by decide, by decide⟩

theorem itoa (n : Nat) (w : World) (hn : n < 100000000000000000) :
    Calls Try.prog 9 #[.int .u64 n] w fun e w' => ∃ s : ByteArray, e = .returned (.string s) ∧ Text n s ∧ Below w.heap.size w w' := by
  by_cases h : 0 < n
  · refine (itoa_pos n w h hn).mono ?_
    rintro e w' ⟨acc, rfl, h1, h2⟩
    exact ⟨_, rfl, h1.text h, h2⟩
  · obtain rfl : n = 0 := by omega
    go_enter Try.func9, Try.ntmps9
    go_wp2
    go_ret
    exact ⟨_, rfl, text0, Below.refl _ _⟩

theorem zzIs (s : ByteArray) (w : World) (h0 : 0 < s.size) (hs : s.size ≤ 1000) (hd : Digs (bl s)) :
    Calls Try.prog 8 #[.string s] w fun e w' => e = .returned (.bool true) ∧ w' = w := by
  go_enter Try.func8, Try.ntmps8
  go_wp2_with (go_at_call 13; refine (isDigits_yes s _ h0 hs hd).mono ?_; rintro e w' ⟨rfl, rfl⟩)
  go_ret
  exact ⟨rfl, rfl⟩
theorem zzApp (c : Int) (s : ByteArray) (w : World) (hc : 0 ≤ c) (hs : s.size ≤ 1000) (hd : Digs (bl s)) (hb : hor c (bl s) ≤ 1000000000000000000) :
    Calls Try.prog 10 #[.int .i64 c, .string s] w fun e w' => e = .returned (.int .i64 (hor c (bl s))) ∧ w' = w := by
  go_enter Try.func10, Try.ntmps10
  go_wp2_with (go_at_call 14; refine (appendDigits c s _ hc hs hd hb).mono ?_; rintro e w' ⟨rfl, rfl⟩)
  go_ret
  exact ⟨rfl, rfl⟩

def pw (k : Nat) : Int := 10 ^ k
theorem pw_succ (k : Nat) : pw (k + 1) = pw k * 10 := Int.pow_succ 10 k
theorem pw_bd (k : Nat) (h : k ≤ 17) : 1 ≤ pw k ∧ pw k ≤ 100000000000000000 := by
  have h1 : 10 ^ k ≤ 10 ^ 17 := Nat.pow_le_pow_right (by omega) h
  have h2 : 0 < 10 ^ k := Nat.pow_pos (by omega)
  have e : pw k = ((10 ^ k : Nat) : Int) := by simp [pw]
  rw [e]
  omega
theorem bl_zero (s : ByteArray) : bl (ByteArray.mk #[48] ++ s) = 48 :: bl s := by rw [bl_append]; rfl
theorem Text.hor {n : Nat} {s : ByteArray} (h : Text n s) (c : Int) : Dig.hor c (bl s) = c * pw s.size + n := by
  rw [hor_lin, h.val, bl_length]; rfl

set_option maxHeartbeats 1000000 in
theorem main (c n : Nat) (hc : c ≤ 9) (hn : n < 100000000000000000) (w : World) :
    Calls Try.prog 4 #[.int .i64 c, .int .u64 n] w fun e w' => e = .returned (.bool true) ∧ Below w.heap.size w w' := by
  have n2 : ¬ (100000000000000000 : Int) ≤ n := by omega
  have n3 : decide ((c : Int) < 0) = false := by simp
  have n4 : decide (9 < (c : Int)) = false := by simp; omega
  go_enter Try.func4, Try.ntmps4
  go_wp2_with fail
  refine (itoa n _ hn).mono ?_
  rintro e w1 ⟨s, rfl, hT, hbel⟩
  have hz : Digs (bl (ByteArray.mk #[48] ++ s)) := by
    rw [bl_zero]
    intro b hb
    rcases List.mem_cons.1 hb with rfl | hb
    · omega
    · exact hT.digs b hb
  have hzs : (ByteArray.mk #[48] ++ s).size = 1 + s.size := by rw [ByteArray.size_append]; rfl
  have hlen := hT.len
  have hpos := hT.pos
  obtain ⟨q1, q2⟩ := pw_bd s.size hlen
  have q3 : 0 ≤ (c : Int) * pw s.size := Int.mul_nonneg (by omega) (by omega)
  have q4 : (c : Int) * pw s.size ≤ 9 * 100000000000000000 := Int.mul_le_mul (by omega) q2 (by omega) (by omega)
  have e1 := hT.hor (c : Int)
  have e2 : Dig.hor 0 (bl (ByteArray.mk #[48] ++ s)) = n := by rw [bl_zero, hor_cons]; exact hT.val
  have C1 : Hid (∀ w, Calls Try.prog 10 #[.int .i64 (c : Int), .string s] w fun e w' => e = .returned (.int .i64 ((c : Int) * pw s.size + n)) ∧ w' = w) := fun w => by
    have := zzApp c s w (by omega) (by omega) hT.digs (by rw [e1]; omega)
    rw [e1] at this
    exact this
  have C2 : Hid (∀ w, Calls Try.prog 10 #[.int .i64 0, .string (ByteArray.mk #[48] ++ s)] w fun e w' => e = .returned (.int .i64 (n : Int)) ∧ w' = w) := fun w => by
    have := zzApp 0 (ByteArray.mk #[48] ++ s) w (by omega) (by omega) hz (by rw [e2]; omega)
    rw [e2] at this
    exact this
  clear e1 e2
  go_wp2_with fail
  refine (zzIs s _ hpos (by omega) hT.digs).mono ?_
  rintro e w2 ⟨rfl, rfl⟩
  go_wp2_with fail
  refine (zzIs _ _ (by omega) (by omega) hz).mono ?_
  rintro e w2 ⟨rfl, rfl⟩
  go_wp2
  go_loop [6, 7] (fun x i => ∃ k : Nat, k ≤ s.size ∧ i = .int .i64 k ∧ x = .int .i64 (pw k)) (fun _ i => s.size - (intOf i).toNat)
  case atStart => exact ⟨0, Nat.zero_le _, rfl, rfl⟩
  case round =>
    obtain ⟨k, hk, rfl, rfl⟩ := hrel
    obtain ⟨p1, p2⟩ := pw_bd k (by omega)
    by_cases hlt : k < s.size
    · go_wp2
      go_round
      case rel => exact ⟨k + 1, by omega, by go_num, by rw [pw_succ]⟩
      case measure => simp [intOf]; omega
    · obtain rfl : k = s.size := by omega
      go_wp2_with fail
      refine (C1.out _).mono ?_
      rintro e w3 ⟨rfl, rfl⟩
      go_wp2_with fail
      refine (C2.out _).mono ?_
      rintro e w3 ⟨rfl, rfl⟩
      go_wp2_with fail
      refine (zzApp c ⟨#[]⟩ _ (by omega) (by decide) (by intro b hb; simp [bl] at hb) (by show (c : Int) ≤ _; omega)).mono ?_
      rintro e w3 ⟨rfl, rfl⟩
      have e3 : (Dig.hor (c : Int) (bl ⟨#[]⟩) == (c : Int)) = true := by rw [beq_iff_eq]; rfl
      go_wp2
      go_ret
      exact ⟨rfl, hbel⟩
open Go.ChangeShapes Go.WideShapes Go.ChangeAt Go.RowKit
open Go.ChangeMaps (open_string shut_string)
set_option linter.unusedVariables false

theorem own : ownKnob Try.prog.godebug = none := by kernel_rfl

set_option maxHeartbeats 1000000 in
theorem walk (a0 : Int) (a1 : Int) (w0 : (Lit.int .i64 a0).wf = true) (w1 : (Lit.int .u64 a1).wf = true) (w : World) :
    Calls Try.prog 4 #[.int .i64 a0, .int .u64 a1] w fun e w' => e = .returned (.bool true) ∧ Below w.heap.size w w' := by
  have hb : 0 ≤ a1 := by
    simp [Lit.wf, IntKind.min, IntKind.max, IntKind.signed, IntKind.bits] at w1
    omega
  by_cases c1 : a0 < 0
  · go_enter Try.func4, Try.ntmps4
    go_wp2
    go_ret
    exact ⟨rfl, Below.refl _ _⟩
  by_cases c2 : 9 < a0
  · go_enter Try.func4, Try.ntmps4
    go_wp2
    go_ret
    exact ⟨rfl, Below.refl _ _⟩
  by_cases c3 : 100000000000000000 ≤ a1
  · go_enter Try.func4, Try.ntmps4
    go_wp2
    go_ret
    exact ⟨rfl, Below.refl _ _⟩
  obtain ⟨c, rfl⟩ := Int.eq_ofNat_of_zero_le (by omega : 0 ≤ a0)
  obtain ⟨n, rfl⟩ := Int.eq_ofNat_of_zero_le hb
  exact main c n (by omega) (by omega) w

/-! ### THE ROW's STEP: WRITTEN OUT: LEAVE IT -/
set_option maxRecDepth 100000 in
theorem lifted (os : Os) (started : os.Started) (H : Type) (enc : TypeId × Value → H) :
    ReturnsInHanded {} Try.checked os 4 .any (Rows.fnAppendDigitsReadsDecimalTextSpec.pre6 enc Try.prog Try.f4 Rows.fnAppendDigitsReadsDecimalTextRow.domain false) (Rows.fnAppendDigitsReadsDecimalTextSpec.post enc Try.prog Try.f4 false true false false) := by
  refine returnsInHanded_of_change (C := Try.checked) own started (by kernel_rfl) Try.func4
    (ChangeSpec.witness6 (enc := enc) (C := Try.checked) false ⟨#[], #[.int .i64 0, .int .u64 0], []⟩ 8 (by kernel_rfl) (by kernel_rfl) (by kernel_rfl) (by kernel_rfl)) ?_
  intro W base args ds gs before hval0 hW hcnd _
  have hval : ∀ (j : Nat) t v, Try.f4.params[j]? = some t → args[j]? = some v → Value.okWide Try.prog W .any base t v := hval0
  have hW' := hW
  obtain ⟨p, q, hA0, hV, rfl, hfz, hnd⟩ := hW
  have hA : DataW.TrodAll enc Try.prog W 0 (fun _ => true) true Try.f4.params.toList args.toList ds p := hA0
  rw [Try.params4] at hA hval
  obtain ⟨v0, vs0, d0, ds0, p0, q0, hargs, rfl, rfl, h0, r0⟩ := trodAll_cons hA
  obtain ⟨v1, vs1, d1, ds1, p1, q1, rfl, rfl, rfl, h1, r1⟩ := trodAll_cons r0
  obtain ⟨rfl, rfl, rfl⟩ := trodAll_nil r1
  obtain rfl : args = #[v0, v1] := by cases args; simp_all
  obtain ⟨rfl, rfl⟩ := trodVars_none hV
  obtain ⟨a0, rfl, rfl, rfl, w0⟩ := open_int Try.underlying2 (hval 0 2 v0 rfl rfl) h0
  obtain ⟨a1, rfl, rfl, rfl, w1⟩ := open_int Try.underlying24 (hval 1 24 v1 rfl rfl) h1
  clear hA0 hval0
  simp only [List.append_nil] at hW'
  refine (walk a0 a1 w0 w1 W).mono fun e W' ⟨he, hg⟩ => ?_
  subst he
  exact ⟨_, rfl, _, _, _, [], [], [], hW', trodAll_mk1 (shut_bool Try.underlying4 _), (trodAll_cons_mk (shut_int Try.underlying2 w0) (trodAll_cons_mk (shut_int Try.underlying24 w1) trodAll_mk0)), rfl, hg.frame _, fun h => by cases h⟩

theorem over : Rows.fnAppendDigitsReadsDecimalTextRow.holds Try.pinned (OpenSpec.ofChange Rows.fnAppendDigitsReadsDecimalTextSpec) :=
  OpenClaim.holds_of_wide 4 Try.f4 rfl rfl rfl rfl rfl rfl rfl ⟨rfl, rfl, rfl, rfl, rfl⟩ rfl rfl rfl rfl rfl (by kernel_rfl) Try.func4 (by kernel_rfl)
    (of_decide_eq_true (by kernel_rfl)) (by unfold Func.isWrapper; first | (rw [if_pos (by decide +kernel)]; kernel_rfl) | (rw [if_neg (by decide +kernel)]; exact ⟨rfl, rfl⟩))
    (fun os started H enc _ => lifted os started H enc)

/-- ████ THE STATEMENT ████ -/
theorem proved : Rows.FnAppendDigitsReadsDecimalTextSaid :=
  over
#print axioms proved
end Go.Proofs.Qxb6003718a.fnAppendDigitsReadsDecimalText
