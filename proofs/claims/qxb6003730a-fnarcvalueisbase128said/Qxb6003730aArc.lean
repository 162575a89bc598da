import Derived.Test.Qxb6003730aSetB
namespace Go.Proofs.Qxb6003730a.Arc
open Go.RowKit Bytes Plain SetB

/-- The groups of a string: the low seven bits of each byte. -/
def gl (s : ByteArray) : List Int := s.data.toList.map fun b => ((b.toNat : Int) % 128)
theorem gl_length (s : ByteArray) : (gl s).length = s.size := by simp only [gl, List.length_map, Array.length_toList]; rfl
theorem gl_get (s : ByteArray) (k : Nat) (h : k < s.size) : (gl s).getD k 0 = (s[k].toNat : Int) % 128 := by
  have h' : k < s.data.toList.length := by simpa using h
  simp only [gl, List.getD, List.getElem?_map, List.getElem?_eq_getElem h', Option.map_some]
  rfl
theorem gl_in (s : ByteArray) : In 128 (gl s) := by
  intro d hd
  obtain ⟨b, _, rfl⟩ := List.mem_map.1 hd
  exact ⟨by omega, by omega⟩

/-- What the loop has packed: 'acc' in octets, p bits B beside them; q groups are still to come. -/
structure Pack (gs : List Int) (q p : Nat) (B : Int) (acc : List Int) : Prop where
  digs : In 256 acc
  b0 : 0 ≤ B
  b1 : B < 2 ^ p
  p7 : p ≤ 7
  le : q ≤ gs.length
  count : p + 8 * acc.length = 7 * (gs.length - q)
  val : B * 256 ^ acc.length + vb 256 0 acc = vb 128 0 (gs.drop q)
theorem Pack.start (gs : List Int) : Pack gs gs.length 0 0 [] := ⟨fun _ h => by simp at h, by omega, by decide, by omega, Nat.le_refl _, by simp, by simp [vb]⟩
theorem p2 (p : Nat) (h : p ≤ 7) : (1 : Int) ≤ 2 ^ p ∧ (2 : Int) ^ p ≤ 128 := by
  have : p = 0 ∨ p = 1 ∨ p = 2 ∨ p = 3 ∨ p = 4 ∨ p = 5 ∨ p = 6 ∨ p = 7 := by omega
  rcases this with rfl | rfl | rfl | rfl | rfl | rfl | rfl | rfl <;> decide
/-- One group more, before a flush. -/
theorem Pack.add {gs : List Int} {q p : Nat} {B : Int} {acc : List Int} (h : Pack gs q p B acc) (hin : In 128 gs) (hq : 0 < q) :
    (B + gs.getD (q - 1) 0 * 2 ^ p) * 256 ^ acc.length + vb 256 0 acc = vb 128 0 (gs.drop (q - 1)) ∧ 0 ≤ B + gs.getD (q - 1) 0 * 2 ^ p ∧ B + gs.getD (q - 1) 0 * 2 ^ p < 128 * 2 ^ p := by
  have hle := h.le
  obtain ⟨g0, g1⟩ := hin.get (k := q - 1) (by omega)
  have e : gs.drop (q - 1) = gs.getD (q - 1) 0 :: gs.drop q := by
    rw [List.drop_eq_getElem_cons (by omega : q - 1 < gs.length), Nat.sub_add_cancel hq]
    congr 1
    simp [List.getD, List.getElem?_eq_getElem (by omega : q - 1 < gs.length)]
  have hpw : (128 : Int) ^ (gs.drop q).length = 2 ^ p * 256 ^ acc.length := by
    rw [List.length_drop]
    have e1 : (128 : Int) ^ (gs.length - q) = 2 ^ (7 * (gs.length - q)) := by rw [Int.pow_mul]; rfl
    have e2 : (256 : Int) ^ acc.length = 2 ^ (8 * acc.length) := by rw [Int.pow_mul]; rfl
    rw [e1, e2, ← h.count, Int.pow_add]
  have hv := h.val
  have b0 := h.b0
  have b1 := h.b1
  obtain ⟨t1, t2⟩ := p2 p h.p7
  refine ⟨?_, ?_, ?_⟩
  · rw [e, vb_cons, vb_lin 128 (0 * 128 + gs.getD (q - 1) 0), hpw, ← hv, Int.add_mul, Int.zero_mul, Int.zero_add, Int.mul_assoc]
    omega
  · have := Int.mul_nonneg g0 (by omega : (0 : Int) ≤ 2 ^ p)
    omega
  · have : gs.getD (q - 1) 0 * 2 ^ p ≤ 127 * 2 ^ p := Int.mul_le_mul_of_nonneg_right (by omega) (by omega)
    omega
theorem Pack.keep {gs : List Int} {q : Nat} {B : Int} {acc : List Int} (h : Pack gs q 0 B acc) (hin : In 128 gs) (hq : 0 < q) : Pack gs (q - 1) 7 (B + gs.getD (q - 1) 0 * 2 ^ 0) acc := by
  obtain ⟨h1, h2, h3⟩ := h.add hin hq
  have hc := h.count
  have hle := h.le
  exact ⟨h.digs, h2, by omega, by omega, by omega, by omega, h1⟩
theorem Pack.flush {gs : List Int} {q p : Nat} {B : Int} {acc : List Int} (h : Pack gs q (p + 1) B acc) (hin : In 128 gs) (hq : 0 < q) :
    Pack gs (q - 1) p ((B + gs.getD (q - 1) 0 * 2 ^ (p + 1)) / 256) ((B + gs.getD (q - 1) 0 * 2 ^ (p + 1)) % 256 :: acc) := by
  obtain ⟨h1, h2, h3⟩ := h.add hin hq
  have hc := h.count
  have hle := h.le
  have hp := h.p7
  generalize B + gs.getD (q - 1) 0 * 2 ^ (p + 1) = C at *
  rw [Int.pow_succ] at h3
  refine ⟨h.digs.cons (by omega) (by omega), by omega, by omega, by omega, by omega, by simp; omega, ?_⟩
  rw [vb_cons, vb_lin 256 (0 * 256 + _), List.length_cons, Int.pow_succ, ← h1, Int.zero_mul, Int.zero_add]
  have e : C = C / 256 * 256 + C % 256 := by omega
  generalize (256 : Int) ^ acc.length = Q
  generalize vb 256 0 acc = r
  generalize C / 256 = u at *
  generalize C % 256 = v at *
  rw [e, Int.add_mul, Int.mul_assoc, Int.mul_comm 256 Q]
  omega
/-- All groups are in. -/
theorem Pack.full {gs : List Int} {p : Nat} {B : Int} {acc : List Int} (h : Pack gs 0 p B acc) (_hp : 0 < p) : vb 256 0 (B :: acc) = vb 128 0 gs := by
  have := h.val
  rw [List.drop_zero] at this
  rw [vb_cons, vb_lin 256 (0 * 256 + B), Int.zero_mul, Int.zero_add]
  exact this
theorem Pack.whole {gs : List Int} {B : Int} {acc : List Int} (h : Pack gs 0 0 B acc) : vb 256 0 acc = vb 128 0 gs := by
  have h1 := h.val
  have h2 := h.b0
  have h3 := h.b1
  rw [List.drop_zero] at h1
  have : B = 0 := by
    have e : (2 : Int) ^ 0 = 1 := rfl
    omega
  rw [← h1, this]
  simp
theorem or16 (p : Nat) (B g : Int) (hp : p ≤ 7) (b0 : 0 ≤ B) (b1 : B < 2 ^ p) (g0 : 0 ≤ g) (g1 : g < 128) : bits .or .u16 B (IntKind.u16.wrap (g * 2 ^ p)) = B + g * 2 ^ p := by
  obtain ⟨t1, t2⟩ := p2 p hp
  have h0 := Int.mul_nonneg g0 (by omega : (0 : Int) ≤ 2 ^ p)
  have h1 : g * 2 ^ p ≤ 127 * 128 := Int.mul_le_mul (by omega) t2 (by omega) (by omega)
  rw [IntKind.wrap_u16, Int.emod_eq_of_lt h0 (by omega)]
  obtain ⟨x, rfl⟩ := Int.eq_ofNat_of_zero_le b0
  obtain ⟨y, rfl⟩ := Int.eq_ofNat_of_zero_le g0
  have e1 : x < 2 ^ p := by
    have : ((x : Nat) : Int) < ((2 ^ p : Nat) : Int) := by simpa using b1
    omega
  have e2 : ((y * 2 ^ p : Nat) : Int) = (y : Int) * 2 ^ p := by simp
  have := u16_or_nat x (y * 2 ^ p) (by omega) (by omega)
  rw [Nat.or_comm, nat_join p (y * 2 ^ p) x (by simp) e1, e2] at this
  rw [this, Int.natCast_add, e2]
  omega

/-- The row of octets: 'acc' from e on. -/
def oc (e : Nat) (acc : List Int) (j : Nat) : Value := .int .u8 (if e ≤ j then acc.getD (j - e) 0 else 0)
theorem oc_start {w : World} {M : Nat} : (w.alloc (.cells (madeCells #[.int .u8 0] M) 5)).rowIs w.heap.size 5 M (oc M []) :=
  (World.rowIs_made w (.int .u8 0) M 5).congr fun i hi => by simp [oc]
theorem oc_step {wr : World} {G e M : Nat} {acc : List Int} {d : Int} (h : wr.rowIs G 5 M (oc e acc)) (h1 : 1 ≤ e) :
    (wr.setCell ⟨G, e - 1, none⟩ (.int .u8 d)).rowIs G 5 M (oc (e - 1) (d :: acc)) := by
  refine (h.set (e - 1) _).congr fun j hj => ?_
  unfold oc
  by_cases e0 : j = e - 1
  · subst e0; simp
  · by_cases e2 : e ≤ j
    · obtain ⟨t, rfl⟩ : ∃ t, j = e + t := ⟨j - e, by omega⟩
      have e3 : e + t - (e - 1) = t + 1 := by omega
      have e4 : e - 1 ≤ e + t := by omega
      simp [e0, e3, e4]
    · have e4 : ¬ e - 1 ≤ j := by omega
      simp [e0, e2, e4]
theorem mask7 (d : UInt8) : bits .and .u8 (d.toNat : Int) 127 = (d.toNat : Int) % 128 := by
  have := u8_and_nat d.toNat 127 d.toNat_lt (by decide)
  rw [nat_mask7] at this
  simpa using this

theorem fin {w X : World} {M : Nat} {xs gs : List Int} (hrow : X.rowIs w.heap.size 5 M (oc 0 xs)) (hbel : Below w.heap.size w X) (hz : X.heap.size = w.heap.size + 1) (hl : xs.length = M) (hm : M ≤ 65536) (hi : In 256 xs) (hv : vb 256 0 xs = vb 128 0 gs) :
    Calls Try.prog 37 #[.pointer (some ⟨w.heap.size + 1, 0, none⟩), .slice (some ⟨w.heap.size, 0, none⟩) M M] (X.alloc (.cells #[.bool false, .slice none 0 0] 50)) fun e w' =>
      e = .returned (.pointer (some ⟨w.heap.size + 1, 0, none⟩)) ∧ (∃ ws, BigI w' (w.heap.size + 1) ws ∧ V ws = vb 128 0 gs) ∧ Below w.heap.size w w' := by
  have c0 : (X.alloc (.cells #[.bool false, .slice none 0 0] 50)).cell? ⟨w.heap.size + 1, 0, none⟩ = some (.bool false) := World.cell?_alloc_at _ 50 _ 0 hz.symm
  have c1 : (X.alloc (.cells #[.bool false, .slice none 0 0] 50)).cell? ⟨w.heap.size + 1, 1, none⟩ = some (.slice none 0 0) := World.cell?_alloc_at _ 50 _ 1 hz.symm
  have f0 : (X.alloc (.cells #[.bool false, .slice none 0 0] 50)).frozen? ⟨w.heap.size + 1, 0, none⟩ = false := World.frozen?_alloc_at _ 50 _ 0 hz.symm
  have f1 : (X.alloc (.cells #[.bool false, .slice none 0 0] 50)).frozen? ⟨w.heap.size + 1, 1, none⟩ = false := World.frozen?_alloc_at _ 50 _ 1 hz.symm
  have hb : Below w.heap.size w (X.alloc (.cells #[.bool false, .slice none 0 0] 50)) := hbel.alloc (by omega) _
  have hk : ∃ ca ta, (X.alloc (.cells #[.bool false, .slice none 0 0] 50)).heap[w.heap.size + 1]? = some (.cells ca ta (0, 0)) := by
    refine ⟨#[.bool false, .slice none 0 0], 50, ?_⟩
    rw [← hz]
    show (X.heap.push _)[X.heap.size]? = _
    simp
  have hbel2 : ∀ w', (X.alloc (.cells #[.bool false, .slice none 0 0] 50)).grownBy w' (some (w.heap.size + 1)) → Below w.heap.size w w' := fun w' hg => hb.grown hg (by simp; omega) (by intro k hk; cases hk; omega)
  by_cases h0 : M = 0
  · subst h0
    obtain rfl := List.length_eq_zero_iff.1 hl
    refine (setB0 (w.heap.size + 1) _ 0 false _ c0 c1 f0 f1 hk).mono ?_
    rintro e w' ⟨rfl, h1, h2⟩
    exact ⟨rfl, ⟨[], h1, by rw [← hv]; rfl⟩, hbel2 w' h2⟩
  · have hr := hrow.alloc (.cells #[.bool false, .slice none 0 0] 50)
    refine (setBN (w.heap.size + 1) w.heap.size 0 M M xs false _ hl (by omega) hm (Nat.le_refl _) (by simp; omega) hi (fun j hj => ?_) c0 c1 f0 f1 hk).mono ?_
    · rw [Nat.zero_add, hr.cell hj]
      simp [oc]
    rintro e w' ⟨rfl, ⟨ws, h1, h3⟩, h2⟩
    exact ⟨rfl, ⟨ws, h1, h3.trans hv⟩, hbel2 w' h2⟩

set_option maxRecDepth 100000 in
set_option maxHeartbeats 1000000 in
theorem arc (s : ByteArray) (w : World) (hs : s.size ≤ 65536) :
    Calls Try.prog 26 #[.string s] w fun e w' => e = .returned (.pointer (some ⟨w.heap.size + 1, 0, none⟩)) ∧ (∃ ws, BigI w' (w.heap.size + 1) ws ∧ V ws = vb 128 0 (gl s)) ∧ Below w.heap.size w w' := by
  obtain ⟨M, hM⟩ : ∃ M : Nat, ((s.size : Int) * 7 + 7) / 8 = M := ⟨(s.size * 7 + 7) / 8, by omega⟩
  have m1 : 7 * s.size ≤ 8 * M := by omega
  have m2 : 8 * M ≤ 7 * s.size + 7 := by omega
  have mk : ∀ w, (Instr.makeSlice 22 (.int .i64 (((s.size : Int) * 7 + 7) / 8)) (.int .i64 (((s.size : Int) * 7 + 7) / 8))).run Try.prog w = .ok (.slice (some ⟨w.heap.size, 0, none⟩) M M) (w.alloc (.cells (madeCells #[.int .u8 0] M) 5)) := fun w => by
    rw [hM]
    exact run_make_row' (P := Try.prog) 22 5 (.int .u8 0) 1 Try.underlying22 info5 rfl .i64 .i64 M (by omega) (by omega) w
  have hin := gl_in s
  have HL : Hid ((gl s).length = s.size) := gl_length s
  clear hM
  go_enter Try.func26, Try.ntmps26
  go_wp2
  go_loopw [4, 5, 6, 7] (fun ve vb vp vi wr => ∃ (q p e : Nat) (B : Int) (acc : List Int), Pack (gl s) q p B acc ∧ e + acc.length = M ∧ ve = .int .i64 e ∧ vb = .int .u16 B ∧ vp = .int .i64 p ∧ vi = .int .i64 ((q : Int) - 1) ∧ wr.rowIs w.heap.size 5 M (oc e acc) ∧ Below w.heap.size w wr ∧ wr.heap.size = w.heap.size + 1) (fun _ _ _ i _ => (intOf i + 1).toNat)
  case atStart => exact ⟨s.size, 0, M, 0, [], by rw [← HL.out]; exact Pack.start _, rfl, rfl, rfl, rfl, rfl, oc_start, (Below.refl _ _).alloc (Nat.le_refl _) _, by simp⟩
  case round =>
    obtain ⟨q, p, e, B, acc, hP, hE, rfl, rfl, rfl, rfl, hrow, hbel, hz⟩ := hrel
    have hle := hP.le
    rw [HL.out] at hle
    have hp7 := hP.p7
    have hb0 := hP.b0
    have hb1 := hP.b1
    by_cases hq : 0 < q
    · have hlt : q - 1 < s.size := by omega
      have k7 := mask7 s[q - 1]
      have hg := gl_get s (q - 1) hlt
      have o1 := or16 p B ((s[q - 1].toNat : Int) % 128) hp7 hb0 hb1 (by omega) (by omega)
      have hcnt := hP.count
      rw [HL.out] at hcnt
      have HE : Hid (e + acc.length = M) := hE
      obtain ⟨t1, t2⟩ := p2 p hp7
      by_cases hp : p = 0
      · subst hp
        have hK := hP.keep hin hq
        rw [hg] at hK
        have o0 : bits .or .u16 B ((s[q - 1].toNat : Int) % 128) = B + (s[q - 1].toNat : Int) % 128 * 2 ^ 0 := by
          rw [← o1, IntKind.wrap_u16]
          congr 1
          simp
          omega
        clear hE hcnt hg o1 t1 t2 hb1
        go_wp2
        go_roundw
        case rel => exact ⟨q - 1, 7, e, _, acc, hK, HE.out, rfl, by simp, rfl, by go_num, hrow, hbel, hz⟩
        case measure => simp [intOf]; omega
      · obtain ⟨p, rfl⟩ : ∃ p', p = p' + 1 := ⟨p - 1, by omega⟩
        have hF := hP.flush hin hq
        obtain ⟨_, f1, f2⟩ := hP.add hin hq
        rw [hg] at hF f1 f2
        have e1 : 1 ≤ e := by omega
        have e2 : e ≤ M := by omega
        obtain ⟨v, q1⟩ : ∃ v : Int, wr.cell? ⟨w.heap.size, e - 1, none⟩ = some (.int .u8 v) := ⟨_, hrow.cell (by omega)⟩
        have q2 := hrow.frozen (e - 1)
        have f3 : B + (s[q - 1].toNat : Int) % 128 * 2 ^ (p + 1) < 16384 := by omega
        generalize B + (s[q - 1].toNat : Int) % 128 * 2 ^ (p + 1) = C at *
        have R := oc_step (d := C % 256) hrow e1
        clear hE hcnt hg t1 t2 hb1 f2 hP
        go_wp2
        go_roundw
        case rel => exact ⟨q - 1, p, e - 1, C / 256, C % 256 :: acc, hF, by have := HE.out; simp; omega, by go_num, rfl, by go_num, by go_num, R, hbel.setCell (Nat.le_refl _) _, by simp; omega⟩
        case measure => simp [intOf]; omega
    · obtain rfl : q = 0 := by omega
      have hcnt := hP.count
      rw [HL.out] at hcnt
      obtain ⟨t1, t2⟩ := p2 p hp7
      by_cases hp : 0 < p
      · have e1 : e = 1 := by omega
        have hv := hP.full hp
        have hi := hP.digs.cons hb0 (by omega)
        have hl : (B :: acc).length = M := by simp; omega
        subst e1
        have HX : Hid ((B :: acc).length = M) := hl
        have HV : Hid (vb 256 0 (B :: acc) = vb 128 0 (gl s)) := hv
        have hM1 : 1 ≤ M := by omega
        obtain ⟨v, q1⟩ : ∃ v : Int, wr.cell? ⟨w.heap.size, 0, none⟩ = some (.int .u8 v) := ⟨_, hrow.cell (by omega)⟩
        have q2 := hrow.frozen 0
        have R := oc_step (d := B) hrow (by omega)
        have hb2 : B < 256 := by omega
        clear hE hcnt hl hv t1 t2 hb1 hP
        have hb3 : Below w.heap.size w (wr.setCell ⟨w.heap.size, 0, none⟩ (.int .u8 B)) := hbel.setCell (Nat.le_refl _) _
        have hz3 : (wr.setCell ⟨w.heap.size, 0, none⟩ (.int .u8 B)).heap.size = w.heap.size + 1 := by simp; exact hz
        go_wp2_with fail
        refine (fin R hb3 hz3 HX.out (by omega) hi HV.out).mono ?_
        rintro e w' ⟨rfl, h1, h2⟩
        go_wp2
        go_ret
        exact ⟨rfl, h1, h2⟩
      · obtain rfl : p = 0 := by omega
        have e1 : e = 0 := by omega
        have HV : Hid (vb 256 0 acc = vb 128 0 (gl s)) := hP.whole
        have hi := hP.digs
        have HX : Hid (acc.length = M) := by show _ = _; omega
        subst e1
        clear hE hcnt t1 t2 hb1 hP
        go_wp2_with fail
        refine (fin hrow hbel hz HX.out (by omega) hi HV.out).mono ?_
        rintro e w' ⟨rfl, h1, h2⟩
        go_wp2
        go_ret
        exact ⟨rfl, h1, h2⟩

theorem zzArc (s : ByteArray) (w : World) (hs : s.size ≤ 65536) :
    Calls Try.prog 15 #[.string s] w fun e w' => ∃ P, e = .returned (.pointer (some ⟨P, 0, none⟩)) ∧ w.heap.size ≤ P ∧ (∃ ws, BigI w' P ws ∧ V ws = vb 128 0 (gl s)) ∧ Below w.heap.size w w' := by
  go_enter Try.func15, Try.ntmps15
  go_wp2_with (go_at_call 26; refine (arc s _ hs).mono ?_; rintro e w' ⟨rfl, h1, h2⟩)
  go_ret
  exact ⟨_, rfl, by omega, h1, h2⟩
end Go.Proofs.Qxb6003730a.Arc
