import Derived.Test.Qxb6003730aAfter
import Derived.Test.Qxb6003730aPlain
import Derived.OwnWalk
namespace Go.Proofs.Qxb6003730a.Ident
open Go.RowKit Bytes Plain

theorem or8 (i : Nat) (x y : Nat) (hx : x % 2 ^ i = 0) (hy : y < 2 ^ i) (h1 : x < 256) (h2 : y < 256) : bits .or .u8 (x : Int) (y : Int) = (x : Int) + y := by
  rw [u8_or_nat x y h1 h2, nat_join i x y hx hy]
  simp
/-- The leading octet's high three bits. -/
def fst (c : Nat) (k : Bool) : Nat := c * 64 + if k then 32 else 0
theorem fst_or (c : Nat) (hc : c ≤ 3) : bits .or .u8 ((c : Int) * 64) 32 = (fst c true : Int) := by
  have h := or8 6 (c * 64) 32 (by omega) (by decide) (by omega) (by decide)
  simp only [fst]
  simpa using h
theorem fst_false (c : Nat) : (c : Int) * 64 = (fst c false : Int) := by simp [fst]
theorem fst_bd (c : Nat) (k : Bool) (hc : c ≤ 3) : fst c k % 32 = 0 ∧ fst c k ≤ 224 := by
  unfold fst; cases k <;> simp <;> omega
theorem fst_num (c : Nat) (k : Bool) (hc : c ≤ 3) (y : Nat) (hy : y < 32) : bits .or .u8 (fst c k : Int) (y : Int) = (fst c k : Int) + y := by
  obtain ⟨h1, h2⟩ := fst_bd c k hc
  exact or8 5 _ _ h1 hy (by omega) (by omega)

set_option maxHeartbeats 400000 in
theorem ident_short (ao : Option Addr) (n cap : Nat) (bs : List Int) (c num : Nat) (k : Bool) (B : Nat) (w : World) (hn : n ≤ 65536) (hc : c ≤ 3) (hnum : num < 31) (hB : B ≤ w.heap.size)
    (hown : w.ownsRow B 5 1 (.slice ao n cap) n (bv bs)) :
    Calls Try.prog 24 #[.slice ao n cap, .agg #[.int .u8 c, .bool k, .int .u32 num]] w fun e w' => ∃ g cap', e = .returned (.slice (some ⟨g, 0, none⟩) (n + 1) cap') ∧ w'.ownsRow B 5 1 (.slice (some ⟨g, 0, none⟩) (n + 1) cap') (n + 1) (bv (bs ++ [(fst c k : Int) + num])) ∧ w.grownBy w' (Value.ownBlock (.slice ao n cap)) := by
  obtain ⟨i0, hi, hz0, hz1, hz2⟩ := info_parts info5
  have e3 := fst_num c k hc num (by omega)
  cases k
  · have e2 := fst_false c
    go_enter Try.func24, Try.ntmps24
    go_wp2_with (at_builtin; refine wpList_append_lies _ rfl (.tmp 19) (.tmp 25) 22 rfl B 5 i0 (.int .u8 0) 1 1 Try.underlying22 hi hz0 hz1 hz2 rfl (by decide) (.slice ao n cap) n (bv bs) rfl ((hown.alloc _).alloc _) ⟨w.heap.size + 1, 0, none⟩ 1 1 [.int .u8 ((fst c false : Int) + num)] rfl rfl ?c1 ?c2 (by decide) ?c3 ?c4 ?c5 _ rfl ?_)
    case c1 => exact new_one _ (by simp) _
    case c2 => exact bv_one [_]
    case c3 => unfold maxLen; omega
    case c4 => omega
    case c5 => simp; omega
    · intro g cap' w1 ho hg hat hlt
      have R1 : w1.ownsRow B 5 1 (.slice (some ⟨g, 0, none⟩) (n + 1) cap') (n + 1) (bv (bs ++ [(fst c false : Int) + num])) := by rw [bv_append]; exact ho
      have R2 := gtrans (gtrans (World.grownBy_alloc w (.cells #[.int .u8 c, .bool false, .int .u32 num] 29) _) (World.grownBy_alloc _ _ _)) hg
      clear ho hg hat hlt
      go_wp2
      go_ret
      exact ⟨g, cap', rfl, R1, R2⟩
  · have e1 := fst_or c hc
    go_enter Try.func24, Try.ntmps24
    go_wp2_with (at_builtin; refine wpList_append_lies _ rfl (.tmp 19) (.tmp 25) 22 rfl B 5 i0 (.int .u8 0) 1 1 Try.underlying22 hi hz0 hz1 hz2 rfl (by decide) (.slice ao n cap) n (bv bs) rfl ((hown.alloc _).alloc _) ⟨w.heap.size + 1, 0, none⟩ 1 1 [.int .u8 ((fst c true : Int) + num)] rfl rfl ?c1 ?c2 (by decide) ?c3 ?c4 ?c5 _ rfl ?_)
    case c1 => exact new_one _ (by simp) _
    case c2 => exact bv_one [_]
    case c3 => unfold maxLen; omega
    case c4 => omega
    case c5 => simp; omega
    · intro g cap' w1 ho hg hat hlt
      have R1 : w1.ownsRow B 5 1 (.slice (some ⟨g, 0, none⟩) (n + 1) cap') (n + 1) (bv (bs ++ [(fst c true : Int) + num])) := by rw [bv_append]; exact ho
      have R2 := gtrans (gtrans (World.grownBy_alloc w (.cells #[.int .u8 c, .bool true, .int .u32 num] 29) _) (World.grownBy_alloc _ _ _)) hg
      clear ho hg hat hlt
      go_wp2
      go_ret
      exact ⟨g, cap', rfl, R1, R2⟩

theorem len53 : Try.prog.arrayLen 53 = 5 := by kernel_rfl
theorem arr53 : Try.prog.underlying 53 = some (.array (Try.prog.arrayLen 53) (Try.prog.elem 53)) := by kernel_rfl
theorem size53 (w : World) : (sizeOf (Try.prog.elem 53)).run Try.prog w = .ok 1 w := by kernel_rfl
theorem tail53 (b p : Nat) (hp : p < 5) (w : World) : (Instr.sliceAt 53 (.pointer (some ⟨b, 0, none⟩)) (some (.int .i64 p)) none none).run Try.prog w = .ok (.slice (some ⟨b, p, none⟩) (5 - p) (5 - p)) w := by
  rw [run_sliceAt_array_l (P := Try.prog) w 53 _ arr53 .i64 p (by omega) (by rw [len53]; omega), size53]
  simp only [Result.andThen, slicedAt, len53, Int.toNat_natCast, Nat.mul_one]
  rw [if_neg (by omega)]
  simp [Addr.add]
  omega
/-- The row of groups: 'acc' from p on, each with its top bit set. -/
def gr (p : Nat) (acc : List Int) (j : Nat) : Value := .int .u8 (if p ≤ j then acc.getD (j - p) 0 + 128 else 0)
theorem and127 (m : Nat) (h : m < 4294967296) : bits .and .u32 (m : Int) 127 = (m : Int) % 128 := by
  have := u32_and_nat m 127 h (by decide)
  rw [nat_mask7] at this
  simpa using this
theorem or128 (d : Int) (h0 : 0 ≤ d) (h1 : d < 128) : bits .or .u8 d 128 = d + 128 := by
  obtain ⟨x, rfl⟩ := Int.eq_ofNat_of_zero_le h0
  have := u8_or_nat x 128 (by omega) (by decide)
  rw [Nat.or_comm, nat_join 7 128 x (by decide) (by omega)] at this
  have e : ((128 + x : Nat) : Int) = (x : Int) + 128 := by omega
  rw [e] at this
  exact this
theorem clear128 (d : Int) (h0 : 0 ≤ d) (h1 : d < 128) : bits .andNot .u8 (d + 128) 128 = d := by
  obtain ⟨x, rfl⟩ := Int.eq_ofNat_of_zero_le h0
  have := u8_andNot_nat (x + 128) 128 (by omega) (by decide)
  rw [show 255 - 128 = 127 from rfl, nat_mask7] at this
  have e : (((x + 128) % 128 : Nat) : Int) = (x : Int) := by omega
  rw [e] at this
  exact this

/-- The groups as they are appended: the top bit set but on the last. -/
def gbf (ds : List Int) (j : Nat) : Int := if j + 1 < ds.length then ds.getD j 0 + 128 else ds.getD j 0
def gb (ds : List Int) : List Int := (List.range ds.length).map (gbf ds)
theorem gb_length (ds : List Int) : (gb ds).length = ds.length := by simp [gb]
theorem gb_get (ds : List Int) {j : Nat} (hj : j < ds.length) : (gb ds).getD j 0 = gbf ds j := by
  simp [gb, List.getD, hj]

theorem gr_step {wr : World} {G p : Nat} {acc : List Int} {d : Int} (h : wr.rowIs G 53 5 (gr p acc)) (hp : p + acc.length = 5) (h1 : 1 ≤ p) :
    (wr.setCell ⟨G, p - 1, none⟩ (.int .u8 (d + 128))).rowIs G 53 5 (gr (p - 1) (d :: acc)) := by
  refine (h.set (p - 1) _).congr fun j hj => ?_
  unfold gr
  by_cases e : j = p - 1
  · subst e; simp
  · by_cases e2 : p ≤ j
    · obtain ⟨t, rfl⟩ : ∃ t, j = p + t := ⟨j - p, by omega⟩
      have e3 : p + t - (p - 1) = t + 1 := by omega
      have e4 : p - 1 ≤ p + t := by omega
      simp [e, e3, e4]
    · have e4 : ¬ p - 1 ≤ j := by omega
      simp [e, e2, e4]

theorem gr_start {w : World} {G : Nat} (h : G = w.heap.size) : (w.alloc (.cells #[.int .u8 0, .int .u8 0, .int .u8 0, .int .u8 0, .int .u8 0] 53)).rowIs G 53 5 (gr 5 []) := by
  subst h
  refine World.rowIs_alloc w _ 53 _ ?_
  intro i hi
  have h5 : i < 5 := hi
  have : i = 0 ∨ i = 1 ∨ i = 2 ∨ i = 3 ∨ i = 4 := by omega
  rcases this with rfl | rfl | rfl | rfl | rfl <;> rfl
/-- The groups of a number: base 128, no leading zero, at most five. -/
structure Good (num : Nat) (ds : List Int) : Prop where
  digs : In 128 ds
  val : vb 128 0 ds = num
  len : 1 ≤ ds.length ∧ ds.length ≤ 5
  head : 1 ≤ ds.getD 0 0
theorem good_end {num m : Nat} {acc : List Int} (h : Mid 128 num m acc) (hm : 0 < m) (hlt : m < 128) (hl : acc.length ≤ 4) : Good num ((m : Int) % 128 :: acc) := by
  have h1 := h.step (by decide)
  rw [Nat.div_eq_of_lt hlt] at h1
  exact ⟨h1.digs, h1.done, ⟨by simp, by simp; omega⟩, by simp; omega⟩
/-- The row behind the last store: the last group's top bit is cleared. -/
theorem gr_last {W : World} {G p : Nat} {ds : List Int} (h : W.rowIs G 53 5 (gr p ds)) (hp : p + ds.length = 5) (hd : 0 < ds.length) :
    ∀ j, j < ds.length → (W.setCell ⟨G, 4, none⟩ (.int .u8 (ds.getD (4 - p) 0))).cell? ⟨G, p + j, none⟩ = some (.int .u8 ((gb ds).getD j 0)) := by
  intro j hj
  rw [(h.set 4 (.int .u8 (ds.getD (4 - p) 0))).cell (by omega), gb_get ds hj]
  unfold gbf gr
  by_cases e : j + 1 < ds.length
  · have e1 : ¬ p + j = 4 := by omega
    have e2 : p + j - p = j := by omega
    have e3 : p ≤ p + j := by omega
    simp [e, e1, e2, e3]
  · have e1 : p + j = 4 := by omega
    have e2 : 4 - p = j := by omega
    simp [e, e1, e2]

set_option maxRecDepth 100000 in
set_option maxHeartbeats 1000000 in
theorem ident_long (ao : Option Addr) (n cap : Nat) (bs : List Int) (c num : Nat) (k : Bool) (B : Nat) (w : World) (hn : n ≤ 65536) (hc : c ≤ 3) (h31 : 31 ≤ num) (hnum : num < 4294967296) (hB : B ≤ w.heap.size)
    (hown : w.ownsRow B 5 1 (.slice ao n cap) n (bv bs)) :
    Calls Try.prog 24 #[.slice ao n cap, .agg #[.int .u8 c, .bool k, .int .u32 num]] w fun e w' => ∃ ds g cap', e = .returned (.slice (some ⟨g, 0, none⟩) (n + 1 + ds.length) cap') ∧ w'.ownsRow B 5 1 (.slice (some ⟨g, 0, none⟩) (n + 1 + ds.length) cap') (n + 1 + ds.length) (bv (bs ++ [(fst c k : Int) + 31] ++ gb ds)) ∧ Good num ds ∧ w.grownBy w' (Value.ownBlock (.slice ao n cap)) := by
  obtain ⟨i0, hi, hz0, hz1, hz2⟩ := info_parts info5
  have h31' : ¬ (num : Int) < 31 := by omega
  have e3 : bits .or .u8 (fst c k : Int) 31 = (fst c k : Int) + 31 := fst_num c k hc 31 (by omega)
  cases k
  · have e2 := fst_false c
    go_enter Try.func24, Try.ntmps24
    go_wp2
    go_loopw [7, 8] (fun i x wr => ∃ (m p : Nat) (acc : List Int), p + acc.length = 5 ∧ i = .int .i64 p ∧ x = .int .u32 m ∧ 0 < m ∧ Mid 128 num m acc ∧ wr.rowIs (w.heap.size + 1) 53 5 (gr p acc) ∧ w.grownBy wr none ∧ wr.heap.size = w.heap.size + 2) (fun i _ _ => (intOf i).toNat)
    case atStart =>
      refine ⟨num, 5, [], rfl, rfl, rfl, by omega, Mid.start _ _, gr_start (by simp), gtrans (World.grownBy_alloc _ _ _) (World.grownBy_alloc _ _ _), by simp⟩
    case round =>
      obtain ⟨m, p, acc, hp, rfl, rfl, hm, hmid, hrow, hg, hz⟩ := hrel
      have hlen : acc.length ≤ 4 := len_of_pow (hmid.pow_le (by decide) hm) (by omega) (by decide)
      have hml := hmid.le (by decide)
      have a1 := and127 m (by omega)
      have a2 := or128 ((m : Int) % 128) (by omega) (by omega)
      obtain ⟨v, q1⟩ : ∃ v : Int, wr.cell? ⟨w.heap.size + 1, p - 1, none⟩ = some (.int .u8 v) := ⟨_, hrow.cell (by omega)⟩
      have q2 := hrow.frozen (p - 1)
      have HP : Hid (p + acc.length = 5) := hp
      have p1 : 1 ≤ p := by omega
      have p2 : p ≤ 5 := by omega
      clear hp
      have R := gr_step (d := (m : Int) % 128) hrow HP.out p1
      by_cases hlt : m < 128
      · have hL : 0 ≤ ((m : Int) % 128 :: acc).getD (5 - p) 0 ∧ ((m : Int) % 128 :: acc).getD (5 - p) 0 < 128 := (hmid.step (by decide)).digs.get (k := 5 - p) (by have := HP.out; simp; omega)
        have q3 := R.cell (i := 4) (by omega)
        have q4 := R.frozen 4
        unfold gr at q3
        rw [if_pos (by omega), show 4 - (p - 1) = 5 - p by omega] at q3
        have hG : Good num ((m : Int) % 128 :: acc) := good_end hmid hm hlt hlen
        have HD : Hid (((m : Int) % 128 :: acc).length = 5 - (p - 1)) := by have := HP.out; show _ + 1 = _; omega
        have RX := gr_last R (by have := HP.out; simp; omega) (by simp)
        rw [show 4 - (p - 1) = 5 - p by omega] at RX
        generalize hLe : ((m : Int) % 128 :: acc).getD (5 - p) 0 = L at q3 hL RX
        clear hLe
        have c128 := clear128 L (by omega) (by omega)
        have hgX := grown_own (grown_own hg (b := w.heap.size + 1) (by omega) (p - 1) (.int .u8 ((m : Int) % 128 + 128))) (b := w.heap.size + 1) (by omega) 4 (.int .u8 L)
        have hzX : ((wr.setCell ⟨w.heap.size + 1, p - 1, none⟩ (.int .u8 ((m : Int) % 128 + 128))).setCell ⟨w.heap.size + 1, 4, none⟩ (.int .u8 L)).heap.size = w.heap.size + 2 := by simp; omega
        have hsl : ∀ w', (Instr.sliceAt 53 (.pointer (some ⟨w.heap.size + 1, 0, none⟩)) (some (.int .i64 ((p : Int) - 1))) none none).run Try.prog w' = .ok (.slice (some ⟨w.heap.size + 1, p - 1, none⟩) (5 - (p - 1)) (5 - (p - 1))) w' := fun w' => by
          have := tail53 (w.heap.size + 1) (p - 1) (by omega) w'
          rwa [show ((p - 1 : Nat) : Int) = (p : Int) - 1 by omega] at this
        go_wp2
        generalize ((wr.setCell ⟨w.heap.size + 1, p - 1, none⟩ (.int .u8 ((m : Int) % 128 + 128))).setCell ⟨w.heap.size + 1, 4, none⟩ (.int .u8 L)) = X at *
        clear q1 q2 q3 q4 R hrow hg hz hmid
        have hownX : X.ownsRow B 5 1 (.slice ao n cap) n (bv bs) := hown.kept hgX (by cases ao <;> simp [Value.ownBlock])
        generalize ((m : Int) % 128 :: acc) = ds at *
        have hne := own_ne hown (b := w.heap.size + 1) (by omega)
        have hgl := gb_length ds
        have hl1 := hG.len
        have HD1 : Hid ((gb ds).length = 5 - (p - 1)) := by rw [gb_length]; exact HD.out
        have RX' : ∀ j, j < 5 - (p - 1) → X.cell? ⟨w.heap.size + 1, p - 1 + j, none⟩ = some (.int .u8 ((gb ds).getD j 0)) := fun j hj => RX j (by rw [HD.out]; exact hj)
        clear RX
        have HR : Hid (∀ j, j < 5 - (p - 1) → X.cell? ⟨w.heap.size + 1, p - 1 + j, none⟩ = some (.int .u8 ((gb ds).getD j 0))) := RX'
        clear RX'
        go_region_law (first
          | (refine step_append_lies _ rfl (.tmp 45) (.tmp 48) 22 rfl B 5 i0 (.int .u8 0) 1 1 Try.underlying22 hi hz0 hz1 hz2 rfl (by decide) (.slice ao n cap) n (bv bs) rfl (hownX.alloc _) ⟨w.heap.size + 2, 0, none⟩ 1 1 [.int .u8 ((fst c false : Int) + 31)] rfl rfl (new_one _ hzX.symm 5) (bv_one [_]) (by decide) (by unfold maxLen; omega) (by omega) (by show B ≤ (X.alloc _).heap.size; simp; omega) _ rfl ?_; intro g1 cap1 w1 ho1 hg1 hat1 hlt1)
          | (refine step_append_lies _ rfl (.tmp 49) (.tmp 51) 22 rfl B 5 i0 (.int .u8 0) 1 1 Try.underlying22 hi hz0 hz1 hz2 rfl (by decide) (.slice (some ⟨g1, 0, none⟩) (n + 1) cap1) (n + 1) _ rfl ho1 ⟨w.heap.size + 1, p - 1, none⟩ (5 - (p - 1)) (5 - (p - 1)) (bv (gb ds)) rfl (by rw [bv_length, HD1.out]; omega) (news2 hg1 (by omega) hne HD1.out HR.out) (bv_one _) (by omega) (by unfold maxLen; omega) (by omega) (by have := hg1.size; simp at this; omega) _ rfl ?_; intro g2 cap2 w2 ho2 hg2 hat2 hlt2))
        have R1 : w2.ownsRow B 5 1 (.slice (some ⟨g2, 0, none⟩) (n + 1 + ds.length) cap2) (n + 1 + ds.length) (bv (bs ++ [(fst c false : Int) + 31] ++ gb ds)) := by
          rw [HD.out, bv_append, bv_append]
          exact ho2
        have R2 := grown_two hgX hg1 hg2 hat1 (by show w.heap.size ≤ (X.alloc _).heap.size; simp; omega)
        clear ho1 hg1 hat1 hlt1 ho2 hg2 hat2 hlt2
        go_wp2
        go_ret
        exact ⟨ds, g2, cap2, by rw [HD.out]; rfl, R1, hG, R2⟩
      · go_wp2
        go_roundw
        case rel => exact ⟨m / 128, p - 1, (m : Int) % 128 :: acc, by have := HP.out; simp; omega, by go_num, by go_num, by omega, hmid.step (by decide), R, grown_own hg (by omega) _ _, by simp; omega⟩
        case measure => simp [intOf]; omega
  · have e1 := fst_or c hc
    go_enter Try.func24, Try.ntmps24
    go_wp2
    go_loopw [7, 8] (fun i x wr => ∃ (m p : Nat) (acc : List Int), p + acc.length = 5 ∧ i = .int .i64 p ∧ x = .int .u32 m ∧ 0 < m ∧ Mid 128 num m acc ∧ wr.rowIs (w.heap.size + 1) 53 5 (gr p acc) ∧ w.grownBy wr none ∧ wr.heap.size = w.heap.size + 2) (fun i _ _ => (intOf i).toNat)
    case atStart =>
      refine ⟨num, 5, [], rfl, rfl, rfl, by omega, Mid.start _ _, gr_start (by simp), gtrans (World.grownBy_alloc _ _ _) (World.grownBy_alloc _ _ _), by simp⟩
    case round =>
      obtain ⟨m, p, acc, hp, rfl, rfl, hm, hmid, hrow, hg, hz⟩ := hrel
      have hlen : acc.length ≤ 4 := len_of_pow (hmid.pow_le (by decide) hm) (by omega) (by decide)
      have hml := hmid.le (by decide)
      have a1 := and127 m (by omega)
      have a2 := or128 ((m : Int) % 128) (by omega) (by omega)
      obtain ⟨v, q1⟩ : ∃ v : Int, wr.cell? ⟨w.heap.size + 1, p - 1, none⟩ = some (.int .u8 v) := ⟨_, hrow.cell (by omega)⟩
      have q2 := hrow.frozen (p - 1)
      have HP : Hid (p + acc.length = 5) := hp
      have p1 : 1 ≤ p := by omega
      have p2 : p ≤ 5 := by omega
      clear hp
      have R := gr_step (d := (m : Int) % 128) hrow HP.out p1
      by_cases hlt : m < 128
      · have hL : 0 ≤ ((m : Int) % 128 :: acc).getD (5 - p) 0 ∧ ((m : Int) % 128 :: acc).getD (5 - p) 0 < 128 := (hmid.step (by decide)).digs.get (k := 5 - p) (by have := HP.out; simp; omega)
        have q3 := R.cell (i := 4) (by omega)
        have q4 := R.frozen 4
        unfold gr at q3
        rw [if_pos (by omega), show 4 - (p - 1) = 5 - p by omega] at q3
        have hG : Good num ((m : Int) % 128 :: acc) := good_end hmid hm hlt hlen
        have HD : Hid (((m : Int) % 128 :: acc).length = 5 - (p - 1)) := by have := HP.out; show _ + 1 = _; omega
        have RX := gr_last R (by have := HP.out; simp; omega) (by simp)
        rw [show 4 - (p - 1) = 5 - p by omega] at RX
        generalize hLe : ((m : Int) % 128 :: acc).getD (5 - p) 0 = L at q3 hL RX
        clear hLe
        have c128 := clear128 L (by omega) (by omega)
        have hgX := grown_own (grown_own hg (b := w.heap.size + 1) (by omega) (p - 1) (.int .u8 ((m : Int) % 128 + 128))) (b := w.heap.size + 1) (by omega) 4 (.int .u8 L)
        have hzX : ((wr.setCell ⟨w.heap.size + 1, p - 1, none⟩ (.int .u8 ((m : Int) % 128 + 128))).setCell ⟨w.heap.size + 1, 4, none⟩ (.int .u8 L)).heap.size = w.heap.size + 2 := by simp; omega
        have hsl : ∀ w', (Instr.sliceAt 53 (.pointer (some ⟨w.heap.size + 1, 0, none⟩)) (some (.int .i64 ((p : Int) - 1))) none none).run Try.prog w' = .ok (.slice (some ⟨w.heap.size + 1, p - 1, none⟩) (5 - (p - 1)) (5 - (p - 1))) w' := fun w' => by
          have := tail53 (w.heap.size + 1) (p - 1) (by omega) w'
          rwa [show ((p - 1 : Nat) : Int) = (p : Int) - 1 by omega] at this
        go_wp2
        generalize ((wr.setCell ⟨w.heap.size + 1, p - 1, none⟩ (.int .u8 ((m : Int) % 128 + 128))).setCell ⟨w.heap.size + 1, 4, none⟩ (.int .u8 L)) = X at *
        clear q1 q2 q3 q4 R hrow hg hz hmid
        have hownX : X.ownsRow B 5 1 (.slice ao n cap) n (bv bs) := hown.kept hgX (by cases ao <;> simp [Value.ownBlock])
        generalize ((m : Int) % 128 :: acc) = ds at *
        have hne := own_ne hown (b := w.heap.size + 1) (by omega)
        have hgl := gb_length ds
        have hl1 := hG.len
        have HD1 : Hid ((gb ds).length = 5 - (p - 1)) := by rw [gb_length]; exact HD.out
        have RX' : ∀ j, j < 5 - (p - 1) → X.cell? ⟨w.heap.size + 1, p - 1 + j, none⟩ = some (.int .u8 ((gb ds).getD j 0)) := fun j hj => RX j (by rw [HD.out]; exact hj)
        clear RX
        have HR : Hid (∀ j, j < 5 - (p - 1) → X.cell? ⟨w.heap.size + 1, p - 1 + j, none⟩ = some (.int .u8 ((gb ds).getD j 0))) := RX'
        clear RX'
        go_region_law (first
          | (refine step_append_lies _ rfl (.tmp 45) (.tmp 48) 22 rfl B 5 i0 (.int .u8 0) 1 1 Try.underlying22 hi hz0 hz1 hz2 rfl (by decide) (.slice ao n cap) n (bv bs) rfl (hownX.alloc _) ⟨w.heap.size + 2, 0, none⟩ 1 1 [.int .u8 ((fst c true : Int) + 31)] rfl rfl (new_one _ hzX.symm 5) (bv_one [_]) (by decide) (by unfold maxLen; omega) (by omega) (by show B ≤ (X.alloc _).heap.size; simp; omega) _ rfl ?_; intro g1 cap1 w1 ho1 hg1 hat1 hlt1)
          | (refine step_append_lies _ rfl (.tmp 49) (.tmp 51) 22 rfl B 5 i0 (.int .u8 0) 1 1 Try.underlying22 hi hz0 hz1 hz2 rfl (by decide) (.slice (some ⟨g1, 0, none⟩) (n + 1) cap1) (n + 1) _ rfl ho1 ⟨w.heap.size + 1, p - 1, none⟩ (5 - (p - 1)) (5 - (p - 1)) (bv (gb ds)) rfl (by rw [bv_length, HD1.out]; omega) (news2 hg1 (by omega) hne HD1.out HR.out) (bv_one _) (by omega) (by unfold maxLen; omega) (by omega) (by have := hg1.size; simp at this; omega) _ rfl ?_; intro g2 cap2 w2 ho2 hg2 hat2 hlt2))
        have R1 : w2.ownsRow B 5 1 (.slice (some ⟨g2, 0, none⟩) (n + 1 + ds.length) cap2) (n + 1 + ds.length) (bv (bs ++ [(fst c true : Int) + 31] ++ gb ds)) := by
          rw [HD.out, bv_append, bv_append]
          exact ho2
        have R2 := grown_two hgX hg1 hg2 hat1 (by show w.heap.size ≤ (X.alloc _).heap.size; simp; omega)
        clear ho1 hg1 hat1 hlt1 ho2 hg2 hat2 hlt2
        go_wp2
        go_ret
        exact ⟨ds, g2, cap2, by rw [HD.out]; rfl, R1, hG, R2⟩
      · go_wp2
        go_roundw
        case rel => exact ⟨m / 128, p - 1, (m : Int) % 128 :: acc, by have := HP.out; simp; omega, by go_num, by go_num, by omega, hmid.step (by decide), R, grown_own hg (by omega) _ _, by simp; omega⟩
        case measure => simp [intOf]; omega

/-- The octets of an identifier. -/
def IsIdent (c : Nat) (k : Bool) (num : Nat) (id : List Int) : Prop := (num < 31 ∧ id = [(fst c k : Int) + num]) ∨ (31 ≤ num ∧ ∃ ds, Good num ds ∧ id = [(fst c k : Int) + 31] ++ gb ds)

theorem ident (ao : Option Addr) (n cap : Nat) (bs : List Int) (c num : Nat) (k : Bool) (B : Nat) (w : World) (hn : n ≤ 65536) (hc : c ≤ 3) (hnum : num < 4294967296) (hB : B ≤ w.heap.size)
    (hown : w.ownsRow B 5 1 (.slice ao n cap) n (bv bs)) :
    Calls Try.prog 24 #[.slice ao n cap, .agg #[.int .u8 c, .bool k, .int .u32 num]] w fun e w' => ∃ id g cap', e = .returned (.slice (some ⟨g, 0, none⟩) (n + id.length) cap') ∧ IsIdent c k num id ∧ w'.ownsRow B 5 1 (.slice (some ⟨g, 0, none⟩) (n + id.length) cap') (n + id.length) (bv (bs ++ id)) ∧ w.grownBy w' (Value.ownBlock (.slice ao n cap)) := by
  by_cases h : num < 31
  · refine (ident_short ao n cap bs c num k B w hn hc h hB hown).mono ?_
    rintro e w' ⟨g, cap', rfl, h1, h2⟩
    exact ⟨[_], g, cap', rfl, .inl ⟨h, rfl⟩, h1, h2⟩
  · refine (ident_long ao n cap bs c num k B w hn hc (by omega) hnum hB hown).mono ?_
    rintro e w' ⟨ds, g, cap', rfl, h1, h2, h3⟩
    have e1 : ([(fst c k : Int) + 31] ++ gb ds).length = 1 + ds.length := by rw [List.length_append, gb_length]; rfl
    refine ⟨[(fst c k : Int) + 31] ++ gb ds, g, cap', ?_, .inr ⟨by omega, ds, h2, rfl⟩, ?_, h3⟩
    · rw [e1, Nat.add_assoc]
    · rw [e1, ← Nat.add_assoc, ← List.append_assoc]; exact h1

theorem zzIdent (ao : Option Addr) (n cap : Nat) (bs : List Int) (c num : Nat) (k : Bool) (B : Nat) (w : World) (hn : n ≤ 65536) (hc : c ≤ 3) (hnum : num < 4294967296) (hB : B ≤ w.heap.size)
    (hown : w.ownsRow B 5 1 (.slice ao n cap) n (bv bs)) :
    Calls Try.prog 9 #[.slice ao n cap, .agg #[.int .u8 c, .bool k, .int .u32 num]] w fun e w' => ∃ id g cap', e = .returned (.slice (some ⟨g, 0, none⟩) (n + id.length) cap') ∧ IsIdent c k num id ∧ w'.ownsRow B 5 1 (.slice (some ⟨g, 0, none⟩) (n + id.length) cap') (n + id.length) (bv (bs ++ id)) ∧ w.grownBy w' (Value.ownBlock (.slice ao n cap)) := by
  go_enter Try.func9, Try.ntmps9
  go_wp2_with fail
  refine (ident ao n cap bs c num k B _ hn hc hnum (by simp; omega) (hown.alloc _)).mono ?_
  rintro e w' ⟨id, g, cap', rfl, h1, h2, h3⟩
  have h4 := gtrans (World.grownBy_alloc w _ _) h3
  clear h3
  go_wp2
  go_ret
  exact ⟨id, g, cap', rfl, h1, h2, h4⟩
end Go.Proofs.Qxb6003730a.Ident
