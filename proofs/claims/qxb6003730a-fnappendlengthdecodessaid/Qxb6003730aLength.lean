import Derived.Test.Qxb6003730aAfter
import Derived.Test.Qxb6003730aPlain
import Derived.OwnWalk
namespace Go.Proofs.Qxb6003730a.Length
open Go.RowKit Bytes Plain

set_option maxRecDepth 100000 in
set_option maxHeartbeats 400000 in
theorem len_short (ao : Option Addr) (n cap : Nat) (bs : List Int) (num : Nat) (B : Nat) (w : World) (hn : n ≤ 65536) (hnum : num < 128) (hB : B ≤ w.heap.size)
    (hown : w.ownsRow B 5 1 (.slice ao n cap) n (bv bs)) :
    Calls Try.prog 25 #[.slice ao n cap, .int .i64 num] w fun e w' => ∃ g cap', e = .returned (.slice (some ⟨g, 0, none⟩) (n + 1) cap') ∧ w'.ownsRow B 5 1 (.slice (some ⟨g, 0, none⟩) (n + 1) cap') (n + 1) (bv (bs ++ [(num : Int)])) ∧ w.grownBy w' (Value.ownBlock (.slice ao n cap)) := by
  obtain ⟨i0, hi, hz0, hz1, hz2⟩ := info_parts info5
  go_enter Try.func25, Try.ntmps25
  go_wp2_with (at_builtin; refine wpList_append_lies _ rfl (.tmp 9) (.tmp 12) 22 rfl B 5 i0 (.int .u8 0) 1 1 Try.underlying22 hi hz0 hz1 hz2 rfl (by decide) (.slice ao n cap) n (bv bs) rfl (hown.alloc _) ⟨w.heap.size, 0, none⟩ 1 1 [.int .u8 (num : Int)] rfl rfl ?c1 ?c2 (by decide) ?c3 ?c4 ?c5 _ rfl ?_)
  case c1 => exact new_one _ rfl _
  case c2 => exact bv_one [_]
  case c3 => unfold maxLen; omega
  case c4 => omega
  case c5 => simp; omega
  · intro g cap' w1 ho hg hat hlt
    have R1 : w1.ownsRow B 5 1 (.slice (some ⟨g, 0, none⟩) (n + 1) cap') (n + 1) (bv (bs ++ [(num : Int)])) := by rw [bv_append]; exact ho
    have R2 := gtrans (World.grownBy_alloc w _ _) hg
    clear ho hg hat hlt
    go_wp2
    go_ret
    exact ⟨g, cap', rfl, R1, R2⟩

theorem len54 : Try.prog.arrayLen 54 = 8 := by kernel_rfl
theorem arr54 : Try.prog.underlying 54 = some (.array (Try.prog.arrayLen 54) (Try.prog.elem 54)) := by kernel_rfl
theorem size54 (w : World) : (sizeOf (Try.prog.elem 54)).run Try.prog w = .ok 1 w := by kernel_rfl
theorem tail54 (b p : Nat) (hp : p < 8) (w : World) : (Instr.sliceAt 54 (.pointer (some ⟨b, 0, none⟩)) (some (.int .i64 p)) none none).run Try.prog w = .ok (.slice (some ⟨b, p, none⟩) (8 - p) (8 - p)) w := by
  rw [run_sliceAt_array_l (P := Try.prog) w 54 _ arr54 .i64 p (by omega) (by rw [len54]; omega), size54]
  simp only [Result.andThen, slicedAt, len54, Int.toNat_natCast, Nat.mul_one]
  rw [if_neg (by omega)]
  simp [Addr.add]
  omega
/-- The row of octets: 'acc' from p on. -/
def or8 (p : Nat) (acc : List Int) (j : Nat) : Value := .int .u8 (if p ≤ j then acc.getD (j - p) 0 else 0)
theorem or8_step {wr : World} {G p : Nat} {acc : List Int} {d : Int} (h : wr.rowIs G 54 8 (or8 p acc)) (hp : p + acc.length = 8) (h1 : 1 ≤ p) :
    (wr.setCell ⟨G, p - 1, none⟩ (.int .u8 d)).rowIs G 54 8 (or8 (p - 1) (d :: acc)) := by
  refine (h.set (p - 1) _).congr fun j hj => ?_
  unfold or8
  by_cases e : j = p - 1
  · subst e; simp
  · by_cases e2 : p ≤ j
    · obtain ⟨t, rfl⟩ : ∃ t, j = p + t := ⟨j - p, by omega⟩
      have e3 : p + t - (p - 1) = t + 1 := by omega
      have e4 : p - 1 ≤ p + t := by omega
      simp [e, e3, e4]
    · have e4 : ¬ p - 1 ≤ j := by omega
      simp [e, e2, e4]
theorem or8_start {w : World} {G : Nat} (h : G = w.heap.size) : (w.alloc (.cells #[.int .u8 0, .int .u8 0, .int .u8 0, .int .u8 0, .int .u8 0, .int .u8 0, .int .u8 0, .int .u8 0] 54)).rowIs G 54 8 (or8 8 []) := by
  subst h
  refine World.rowIs_alloc w _ 54 _ ?_
  intro i hi
  have h8 : i < 8 := hi
  have : i = 0 ∨ i = 1 ∨ i = 2 ∨ i = 3 ∨ i = 4 ∨ i = 5 ∨ i = 6 ∨ i = 7 := by omega
  rcases this with rfl | rfl | rfl | rfl | rfl | rfl | rfl | rfl <;> rfl
theorem or128' (d : Int) (h0 : 0 ≤ d) (h1 : d < 128) : bits .or .u8 128 d = 128 + d := by
  obtain ⟨x, rfl⟩ := Int.eq_ofNat_of_zero_le h0
  have := u8_or_nat 128 x (by decide) (by omega)
  rw [nat_join 7 128 x (by decide) (by omega)] at this
  have e : ((128 + x : Nat) : Int) = 128 + (x : Int) := by omega
  rw [e] at this
  exact this

/-- The octets of a number: base 256, no leading zero, at most eight. -/
structure Good (num : Nat) (ds : List Int) : Prop where
  digs : In 256 ds
  val : vb 256 0 ds = num
  len : 1 ≤ ds.length ∧ ds.length ≤ 8
  head : 1 ≤ ds.getD 0 0

set_option maxRecDepth 100000 in
set_option maxHeartbeats 1000000 in
theorem len_long (ao : Option Addr) (n cap : Nat) (bs : List Int) (num : Nat) (B : Nat) (w : World) (hn : n ≤ 65536) (h128 : 128 ≤ num) (hnum : num ≤ 9223372036854775807) (hB : B ≤ w.heap.size)
    (hown : w.ownsRow B 5 1 (.slice ao n cap) n (bv bs)) :
    Calls Try.prog 25 #[.slice ao n cap, .int .i64 num] w fun e w' => ∃ ds g cap', e = .returned (.slice (some ⟨g, 0, none⟩) (n + 1 + ds.length) cap') ∧ w'.ownsRow B 5 1 (.slice (some ⟨g, 0, none⟩) (n + 1 + ds.length) cap') (n + 1 + ds.length) (bv (bs ++ [(128 : Int) + ds.length] ++ ds)) ∧ Good num ds ∧ w.grownBy w' (Value.ownBlock (.slice ao n cap)) := by
  obtain ⟨i0, hi, hz0, hz1, hz2⟩ := info_parts info5
  have h128' : ¬ (num : Int) < 128 := by omega
  go_enter Try.func25, Try.ntmps25
  go_wp2
  go_loopw [1, 6] (fun x i wr => ∃ (m p : Nat) (acc : List Int), p + acc.length = 8 ∧ i = .int .i64 p ∧ x = .int .i64 m ∧ (m = 0 → 1 ≤ acc.length ∧ 1 ≤ acc.getD 0 0) ∧ Mid 256 num m acc ∧ wr.rowIs w.heap.size 54 8 (or8 p acc) ∧ w.grownBy wr none ∧ wr.heap.size = w.heap.size + 1) (fun _ i _ => (intOf i).toNat)
  case atStart => exact ⟨num, 8, [], rfl, rfl, rfl, fun h => by omega, Mid.start _ _, or8_start rfl, World.grownBy_alloc _ _ _, by simp⟩
  case round =>
    obtain ⟨m, p, acc, hp, rfl, rfl, hm0, hmid, hrow, hg, hz⟩ := hrel
    have hml := hmid.le (by decide)
    have HP : Hid (p + acc.length = 8) := hp
    by_cases hm : 0 < m
    · have hlen : acc.length ≤ 7 := len_of_pow (hmid.pow_le (by decide) hm) (by omega) (by decide)
      have p1 : 1 ≤ p := by omega
      have p2 : p ≤ 8 := by omega
      clear hp
      obtain ⟨v, q1⟩ : ∃ v : Int, wr.cell? ⟨w.heap.size, p - 1, none⟩ = some (.int .u8 v) := ⟨_, hrow.cell (by omega)⟩
      have q2 := hrow.frozen (p - 1)
      have R := or8_step (d := (m : Int) % 256) hrow HP.out p1
      have M := hmid.step (by decide)
      go_wp2
      go_roundw
      case rel => exact ⟨m / 256, p - 1, (m : Int) % 256 :: acc, by have := HP.out; simp; omega, by go_num, by go_num, fun h => ⟨by simp, by simp; omega⟩, M, R, grown_own hg (Nat.le_refl _) _ _, by simp; omega⟩
      case measure => simp [intOf]; omega
    · obtain rfl : m = 0 := by omega
      obtain ⟨h1, h2⟩ := hm0 rfl
      clear hm0
      have p1 : p < 8 := by omega
      clear hp
      have hG : Good num acc := ⟨hmid.digs, hmid.done, ⟨h1, by have := HP.out; omega⟩, h2⟩
      have HD : Hid (acc.length = 8 - p) := by have := HP.out; show _ = _; omega
      have HDi : Hid ((acc.length : Int) = 8 - (p : Int)) := by have := HP.out; show _ = _; omega
      have HO : Hid (bits .or .u8 128 (IntKind.u8.wrap (IntKind.i64.wrap (8 - (p : Int)))) = 128 + (8 - (p : Int))) := by
        have e : IntKind.u8.wrap (IntKind.i64.wrap (8 - (p : Int))) = 8 - (p : Int) := by
          rw [IntKind.wrap_u8']
          simp [IntKind.wrap, IntKind.bits, IntKind.signed]
          omega
        rw [e]
        exact or128' _ (by omega) (by omega)
      have hownX : wr.ownsRow B 5 1 (.slice ao n cap) n (bv bs) := hown.kept hg (by cases ao <;> simp [Value.ownBlock])
      have hne := own_ne hown (b := w.heap.size) (Nat.le_refl _)
      have HR : Hid (∀ j, j < 8 - p → wr.cell? ⟨w.heap.size, p + j, none⟩ = some (.int .u8 (acc.getD j 0))) := fun j hj => by
        rw [hrow.cell (i := p + j) (by omega)]
        unfold or8
        rw [if_pos (by omega), Nat.add_sub_cancel_left]
      have hsl := fun w' => tail54 w.heap.size p p1 w'
      clear hrow hmid
      go_wp2
      go_region_law (first
        | (refine step_append_lies _ rfl (.tmp 24) (.tmp 29) 22 rfl B 5 i0 (.int .u8 0) 1 1 Try.underlying22 hi hz0 hz1 hz2 rfl (by decide) (.slice ao n cap) n (bv bs) rfl (hownX.alloc _) ⟨w.heap.size + 1, 0, none⟩ 1 1 [.int .u8 (bits .or .u8 128 (IntKind.u8.wrap (IntKind.i64.wrap (8 - (p : Int)))))] rfl rfl (new_one _ hz.symm 5) (bv_one [_]) (by decide) (by unfold maxLen; omega) (by omega) (by show B ≤ (wr.alloc _).heap.size; simp; omega) _ rfl ?_; intro g1 cap1 w1 ho1 hg1 hat1 hlt1)
        | (refine step_append_lies _ rfl (.tmp 30) (.tmp 32) 22 rfl B 5 i0 (.int .u8 0) 1 1 Try.underlying22 hi hz0 hz1 hz2 rfl (by decide) (.slice (some ⟨g1, 0, none⟩) (n + 1) cap1) (n + 1) _ rfl ho1 ⟨w.heap.size, p, none⟩ (8 - p) (8 - p) (bv acc) rfl (by rw [bv_length, HD.out]; omega) (news2 hg1 (by omega) hne HD.out HR.out) (bv_one _) (by omega) (by unfold maxLen; omega) (by omega) (by have := hg1.size; simp at this; omega) _ rfl ?_; intro g2 cap2 w2 ho2 hg2 hat2 hlt2))
      have R1 : w2.ownsRow B 5 1 (.slice (some ⟨g2, 0, none⟩) (n + 1 + acc.length) cap2) (n + 1 + acc.length) (bv (bs ++ [(128 : Int) + acc.length] ++ acc)) := by
        rw [HDi.out, HD.out, ← HO.out, bv_append, bv_append]
        exact ho2
      have R2 := grown_two hg hg1 hg2 hat1 (by show w.heap.size ≤ (wr.alloc _).heap.size; simp; omega)
      clear ho1 hg1 hat1 hlt1 ho2 hg2 hat2 hlt2
      go_wp2
      go_ret
      exact ⟨acc, g2, cap2, by rw [HD.out]; rfl, R1, hG, R2⟩

/-- The octets of a length. -/
def IsLen (num : Nat) (id : List Int) : Prop := (num < 128 ∧ id = [(num : Int)]) ∨ (128 ≤ num ∧ ∃ ds, Good num ds ∧ id = [(128 : Int) + ds.length] ++ ds)

theorem leng (ao : Option Addr) (n cap : Nat) (bs : List Int) (num : Nat) (B : Nat) (w : World) (hn : n ≤ 65536) (hnum : num ≤ 9223372036854775807) (hB : B ≤ w.heap.size)
    (hown : w.ownsRow B 5 1 (.slice ao n cap) n (bv bs)) :
    Calls Try.prog 25 #[.slice ao n cap, .int .i64 num] w fun e w' => ∃ id g cap', e = .returned (.slice (some ⟨g, 0, none⟩) (n + id.length) cap') ∧ IsLen num id ∧ w'.ownsRow B 5 1 (.slice (some ⟨g, 0, none⟩) (n + id.length) cap') (n + id.length) (bv (bs ++ id)) ∧ w.grownBy w' (Value.ownBlock (.slice ao n cap)) := by
  by_cases h : num < 128
  · refine (len_short ao n cap bs num B w hn h hB hown).mono ?_
    rintro e w' ⟨g, cap', rfl, h1, h2⟩
    exact ⟨[_], g, cap', rfl, .inl ⟨h, rfl⟩, h1, h2⟩
  · refine (len_long ao n cap bs num B w hn (by omega) hnum hB hown).mono ?_
    rintro e w' ⟨ds, g, cap', rfl, h1, h2, h3⟩
    have e1 : ([(128 : Int) + ds.length] ++ ds).length = 1 + ds.length := by rw [List.length_append]; rfl
    refine ⟨[(128 : Int) + ds.length] ++ ds, g, cap', ?_, .inr ⟨by omega, ds, h2, rfl⟩, ?_, h3⟩
    · rw [e1, Nat.add_assoc]
    · rw [e1, ← Nat.add_assoc, ← List.append_assoc]; exact h1

theorem zzLen (ao : Option Addr) (n cap : Nat) (bs : List Int) (num : Nat) (B : Nat) (w : World) (hn : n ≤ 65536) (hnum : num ≤ 9223372036854775807) (hB : B ≤ w.heap.size)
    (hown : w.ownsRow B 5 1 (.slice ao n cap) n (bv bs)) :
    Calls Try.prog 12 #[.slice ao n cap, .int .i64 num] w fun e w' => ∃ id g cap', e = .returned (.slice (some ⟨g, 0, none⟩) (n + id.length) cap') ∧ IsLen num id ∧ w'.ownsRow B 5 1 (.slice (some ⟨g, 0, none⟩) (n + id.length) cap') (n + id.length) (bv (bs ++ id)) ∧ w.grownBy w' (Value.ownBlock (.slice ao n cap)) := by
  go_enter Try.func12, Try.ntmps12
  go_wp2_with fail
  refine (leng ao n cap bs num B _ hn hnum hB hown).mono ?_
  rintro e w' ⟨id, g, cap', rfl, h1, h2, h3⟩
  go_wp2
  go_ret
  exact ⟨id, g, cap', rfl, h1, h2, h3⟩
end Go.Proofs.Qxb6003730a.Length
