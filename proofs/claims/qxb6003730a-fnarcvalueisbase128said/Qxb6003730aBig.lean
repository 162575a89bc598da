import Derived.Test.Qxb6003730aLen
import Derived.LaidEqlPtr
namespace Go.Proofs.Qxb6003730a.Big
open Go.RowKit Bytes Plain SetB

/-- Two slices of no word. -/
theorem cmp0 (ao bo : Option Addr) (ca cb : Nat) (w : World) : Calls Try.prog 33 #[.slice ao 0 ca, .slice bo 0 cb] w fun e w' => e = .returned (.int .i64 0) ∧ ∃ n, w' = w.drewN n := by
  go_enter Try.func33, Try.ntmps33
  go_wp2
  go_ret
  exact ⟨rfl, 0, rfl⟩

set_option maxRecDepth 100000 in
set_option maxHeartbeats 1000000 in
theorem cmpN (g h n ca cb : Nat) (ws : List Int) (w : World) (hl : ws.length = n) (hn : n ≤ 65536) (h1 : 1 ≤ n) (cg : ∀ j, j < n → w.cell? ⟨g, j, none⟩ = some (.int .u64 (ws.getD j 0))) (ch : ∀ j, j < n → w.cell? ⟨h, j, none⟩ = some (.int .u64 (ws.getD j 0))) :
    Calls Try.prog 33 #[.slice (some ⟨g, 0, none⟩) n ca, .slice (some ⟨h, 0, none⟩) n cb] w fun e w' => e = .returned (.int .i64 0) ∧ ∃ n, w' = w.drewN n := by
  have n0 : ((n : Int) == 0) = false := by rw [beq_eq_false_iff_ne]; omega
  have CG : Hid (∀ j, j < n → w.cell? ⟨g, j, none⟩ = some (.int .u64 (ws.getD j 0))) := cg
  have CH : Hid (∀ j, j < n → w.cell? ⟨h, j, none⟩ = some (.int .u64 (ws.getD j 0))) := ch
  clear cg ch hl
  go_enter Try.func33, Try.ntmps33
  go_wp2
  go_loopw [7] (fun i wr => ∃ t m : Nat, t < n ∧ i = .int .i64 t ∧ wr = w.drewN m) (fun i _ => (intOf i).toNat)
  case atStart => exact ⟨n - 1, 0, by omega, by go_num, rfl⟩
  case round =>
    obtain ⟨t, m, ht, rfl, rfl⟩ := hrel
    have q0 := CG.out t ht
    have q1 := CH.out t ht
    have l1 : (t : Int) < n := by omega
    generalize ws.getD t 0 = D at *
    by_cases h0 : 0 < t
    · have d0 : decide (0 < (t : Int)) = true := by simp; omega
      go_wp2
      go_quiet (fail)
      go_wp2
      go_roundw
      case rel => exact ⟨t - 1, _, by omega, by go_num, rfl⟩
      case measure => simp [intOf]; omega
    · obtain rfl : t = 0 := by omega
      have d0 : decide (0 < ((0 : Nat) : Int)) = false := by simp
      go_wp2
      go_quiet (fail)
      go_wp2
      go_quiet (fail)
      go_wp2
      go_quiet (fail)
      go_wp2
      go_ret
      exact ⟨rfl, _, by rw [World.drewN_drewN, World.drewN_drewN, World.drewN_drewN]⟩

theorem info50 : ∃ j, Try.prog.info? 50 = some j ∧ j.size ≠ 0 := ⟨_, rfl, by decide⟩

set_option maxRecDepth 100000 in
set_option maxHeartbeats 1000000 in
theorem Cmp (P Q : Nat) (ws : List Int) (w : World) (hPQ : P ≠ Q) (hP : BigI w P ws) (hQ : BigI w Q ws) :
    Calls Try.prog 16 #[.pointer (some ⟨P, 0, none⟩), .pointer (some ⟨Q, 0, none⟩)] w fun e w' => e = .returned (.int .i64 0) ∧ ∃ n, w' = w.drewN n := by
  have p0 := hP.neg
  have q0 := hQ.neg
  obtain ⟨ao, ca, p1, pw⟩ := hP.abs
  obtain ⟨bo, cb, q1, qw⟩ := hQ.abs
  have hC : ∀ w', (∀ a, w'.cell? a = w.cell? a) → Calls Try.prog 33 #[.slice ao ws.length ca, .slice bo ws.length cb] w' fun e w'' => e = .returned (.int .i64 0) ∧ ∃ n, w'' = w'.drewN n := by
    intro w' hw'
    by_cases h0 : ws.length = 0
    · rw [h0]
      exact cmp0 ao bo ca cb w'
    · obtain ⟨g, rfl, hg⟩ := pw (by omega)
      obtain ⟨h, rfl, hh⟩ := qw (by omega)
      exact cmpN g h ws.length ca cb ws w' rfl hP.len (by omega) (fun j hj => (hw' _).trans (hg j hj)) (fun j hj => (hw' _).trans (hh j hj))
  have HC : Hid (∀ w', (∀ a, w'.cell? a = w.cell? a) → Calls Try.prog 33 #[.slice ao ws.length ca, .slice bo ws.length cb] w' fun e w'' => e = .returned (.int .i64 0) ∧ ∃ n, w'' = w'.drewN n) := hC
  obtain ⟨j, hj, hs⟩ := info50
  obtain ⟨c1, t1, b1⟩ := hP.blk
  obtain ⟨c2, t2, b2⟩ := hQ.blk
  have heq := run_eql_ptr_other (P := Try.prog) w (tp := 38) (te := 50) (a := ⟨P, 0, none⟩) (b := ⟨Q, 0, none⟩) Try.underlying38 hj hs (by intro e; cases e; exact hPQ rfl) b1 b2
  clear hC pw qw b1 b2 hj hs hP hQ
  go_enter Try.func16, Try.ntmps16
  go_wp2
  go_quiet (fail)
  go_wp2
  have HW : Hid (∀ a, (w.drewN nq).cell? a = w.cell? a) := fun _ => rfl
  have p0' : (w.drewN nq).cell? ⟨P, 0, none⟩ = some (.bool false) := p0
  have p1' : (w.drewN nq).cell? ⟨P, 1, none⟩ = some (.slice ao ws.length ca) := p1
  have q1' : (w.drewN nq).cell? ⟨Q, 1, none⟩ = some (.slice bo ws.length cb) := q1
  have HX : Hid (∃ n, w.drewN nq = w.drewN n) := ⟨nq, rfl⟩
  generalize w.drewN nq = W at *
  clear p0 p1 q0 q1
  go_quiet ((go_at_call 33; exact Calls.quiet_of (HC.out _ (fun a => HW.out a))))
  go_wp2
  go_ret
  refine ⟨rfl, ?_⟩
  obtain ⟨n, hn⟩ := HX.out
  exact ⟨n + nq, by rw [hn, World.drewN_drewN]⟩

theorem Sign (P : Nat) (ws : List Int) (w : World) (hP : BigI w P ws) :
    Calls Try.prog 17 #[.pointer (some ⟨P, 0, none⟩)] w fun e w' => (∃ s : Int, 0 ≤ s ∧ e = .returned (.int .i64 s)) ∧ w' = w := by
  have p0 := hP.neg
  obtain ⟨ao, ca, p1, pw⟩ := hP.abs
  have hl := hP.len
  by_cases h0 : ws.length = 0
  · rw [h0] at p1
    go_enter Try.func17, Try.ntmps17
    go_wp2
    go_ret
    exact ⟨⟨0, by omega, rfl⟩, rfl⟩
  · have n0 : ((ws.length : Int) == 0) = false := by rw [beq_eq_false_iff_ne]; omega
    generalize ws.length = n at *
    go_enter Try.func17, Try.ntmps17
    go_wp2
    go_ret
    exact ⟨⟨1, by omega, rfl⟩, rfl⟩

theorem IsU (P : Nat) (ws : List Int) (w : World) (hP : BigI w P ws) (h1 : ws.length ≤ 1) :
    Calls Try.prog 19 #[.pointer (some ⟨P, 0, none⟩)] w fun e w' => e = .returned (.bool true) ∧ w' = w := by
  have p0 := hP.neg
  obtain ⟨ao, ca, p1, pw⟩ := hP.abs
  have n1 : (ws.length : Int) ≤ 1 := by omega
  clear pw
  generalize ws.length = n at *
  go_enter Try.func19, Try.ntmps19
  go_wp2
  go_ret
  exact ⟨rfl, rfl⟩

theorem low0 (ao : Option Addr) (ca : Nat) (w : World) : Calls Try.prog 35 #[.slice ao 0 ca] w fun e w' => e = .returned (.int .u64 0) ∧ w' = w := by
  go_enter Try.func35, Try.ntmps35
  go_wp2
  go_ret
  exact ⟨rfl, rfl⟩
theorem low1 (g ca : Nat) (x : Int) (w : World) (hc : w.cell? ⟨g, 0, none⟩ = some (.int .u64 x)) : Calls Try.prog 35 #[.slice (some ⟨g, 0, none⟩) 1 ca] w fun e w' => e = .returned (.int .u64 x) ∧ w' = w := by
  go_enter Try.func35, Try.ntmps35
  go_wp2
  go_ret
  exact ⟨rfl, rfl⟩
theorem U64 (P : Nat) (ws : List Int) (w : World) (hP : BigI w P ws) (h1 : ws.length ≤ 1) :
    Calls Try.prog 20 #[.pointer (some ⟨P, 0, none⟩)] w fun e w' => e = .returned (.int .u64 (V ws)) ∧ w' = w := by
  obtain ⟨ao, ca, p1, pw⟩ := hP.abs
  match ws, h1 with
  | [], _ =>
    have p1' : w.cell? ⟨P, 1, none⟩ = some (.slice ao 0 ca) := p1
    clear p1 pw
    go_enter Try.func20, Try.ntmps20
    go_wp2_with (go_at_call 35; refine (low0 ao ca _).mono ?_; rintro e w' ⟨rfl, rfl⟩)
    go_ret
    exact ⟨rfl, rfl⟩
  | [x], _ =>
    obtain ⟨g, rfl, hc⟩ := pw (by simp)
    have c := hc 0 (by simp)
    have c' : w.cell? ⟨g, 0, none⟩ = some (.int .u64 x) := c
    have p1' : w.cell? ⟨P, 1, none⟩ = some (.slice (some ⟨g, 0, none⟩) 1 ca) := p1
    have e : V [x] = x := by simp [V]
    rw [e]
    clear p1 pw hc c e hP
    go_enter Try.func20, Try.ntmps20
    go_wp2_with (go_at_call 35; refine (low1 g ca x _ c').mono ?_; rintro e w' ⟨rfl, rfl⟩)
    go_ret
    exact ⟨rfl, rfl⟩

theorem len (x : Int) (w : World) (h0 : 0 ≤ x) (h1 : x ≤ 18446744073709551615) :
    Calls Try.prog 38 #[.int .u64 x] w fun e w' => e = .returned (.int .i64 (Lib.bitLen x.toNat)) ∧ w' = w := by
  go_enter Try.func38, Try.ntmps38
  go_wp2_with (go_at_call 41; refine (len64 x _ h0 h1).mono ?_; rintro e w' ⟨rfl, rfl⟩)
  go_ret
  exact ⟨rfl, rfl⟩

/-- One step of the smear: no bit above the topmost. -/
theorem smear (X m : Nat) (hX : X < 18446744073709551616) : ∃ Y : Nat, bits .or .u64 (X : Int) ((X : Int) / (m : Int)) = Y ∧ Y < 18446744073709551616 ∧ ∀ b, X < 2 ^ b → Y < 2 ^ b := by
  have hm : X / m ≤ X := Nat.div_le_self X m
  have := u64_or_nat X (X / m) hX (by omega)
  refine ⟨X ||| X / m, by rw [← this]; simp, ?_, fun b hb => ?_⟩
  · have := Nat.or_lt_two_pow (n := 64) (x := X) (y := X / m) hX (by omega)
    exact this
  · exact Nat.or_lt_two_pow hb (by omega)

theorem top_bits (X n N : Nat) (hX : 1 ≤ X) (hV : (X : Int) * 18446744073709551616 ^ (n - 1) < 2 ^ N) : 64 * (n - 1) ≤ N ∧ X < 2 ^ (N - 64 * (n - 1)) := by
  have e : ((X * 2 ^ (64 * (n - 1)) : Nat) : Int) = (X : Int) * 18446744073709551616 ^ (n - 1) := by
    have : (2 : Nat) ^ (64 * (n - 1)) = 18446744073709551616 ^ (n - 1) := by rw [Nat.pow_mul]
    rw [this]
    simp
  have h1 : X * 2 ^ (64 * (n - 1)) < 2 ^ N := by
    have : ((X * 2 ^ (64 * (n - 1)) : Nat) : Int) < ((2 ^ N : Nat) : Int) := by rw [e]; simpa using hV
    omega
  have h2 : 2 ^ (64 * (n - 1)) < 2 ^ N := Nat.lt_of_le_of_lt (Nat.le_mul_of_pos_left _ hX) h1
  have h3 : 64 * (n - 1) < N := (Nat.pow_lt_pow_iff_right (by decide)).1 h2
  refine ⟨by omega, ?_⟩
  have h4 : 2 ^ N = 2 ^ (N - 64 * (n - 1)) * 2 ^ (64 * (n - 1)) := by rw [← Nat.pow_add]; congr 1; omega
  rw [h4] at h1
  exact Nat.lt_of_mul_lt_mul_right h1
theorem bl0 (ao : Option Addr) (ca : Nat) (w : World) : Calls Try.prog 34 #[.slice ao 0 ca] w fun e w' => e = .returned (.int .i64 0) ∧ w' = w := by
  go_enter Try.func34, Try.ntmps34
  go_wp2
  go_ret
  exact ⟨rfl, rfl⟩

set_option maxHeartbeats 1000000 in
theorem blN (g n ca : Nat) (X : Nat) (w : World) (hn : n ≤ 65536) (h1 : 1 ≤ n) (hX : X < 18446744073709551616) (hc : w.cell? ⟨g, n - 1, none⟩ = some (.int .u64 X)) :
    Calls Try.prog 34 #[.slice (some ⟨g, 0, none⟩) n ca] w fun e w' => (∃ L : Nat, (∀ b, X < 2 ^ b → L ≤ b) ∧ e = .returned (.int .i64 (((n : Int) - 1) * 64 + L))) ∧ w' = w := by
  obtain ⟨X1, e1, x1, y1⟩ := smear X 2 hX
  obtain ⟨X2, e2, x2, y2⟩ := smear X1 4 x1
  obtain ⟨X3, e3, x3, y3⟩ := smear X2 16 x2
  obtain ⟨X4, e4, x4, y4⟩ := smear X3 256 x3
  obtain ⟨X5, e5, x5, y5⟩ := smear X4 65536 x4
  obtain ⟨X6, e6, x6, y6⟩ := smear X5 4294967296 x5
  have hb : ∀ b, X < 2 ^ b → X6 < 2 ^ b := fun b hb => y6 b (y5 b (y4 b (y3 b (y2 b (y1 b hb)))))
  have f1 : bits .or .u64 (X : Int) ((X : Int) / 2) = X1 := e1
  have f2 : bits .or .u64 (X1 : Int) ((X1 : Int) / 4) = X2 := e2
  have f3 : bits .or .u64 (X2 : Int) ((X2 : Int) / 16) = X3 := e3
  have f4 : bits .or .u64 (X3 : Int) ((X3 : Int) / 256) = X4 := e4
  have f5 : bits .or .u64 (X4 : Int) ((X4 : Int) / 65536) = X5 := e5
  have f6 : bits .or .u64 (X5 : Int) ((X5 : Int) / 65536 / 65536) = X6 := by
    rw [show (X5 : Int) / 65536 / 65536 = (X5 : Int) / 4294967296 by omega]
    exact e6
  have hl := bitLen_le X6 64 x6
  have HB : Hid (∀ b, X < 2 ^ b → Lib.bitLen X6 ≤ b) := fun b h => bitLen_le X6 b (hb b h)
  clear e1 e2 e3 e4 e5 e6 y1 y2 y3 y4 y5 y6 hb
  go_enter Try.func34, Try.ntmps34
  go_wp2_with fail
  refine (len (X6 : Int) _ (by omega) (by omega)).mono ?_
  rintro e w' ⟨rfl, rfl⟩
  rw [Int.toNat_natCast]
  go_wp2
  go_ret
  exact ⟨⟨Lib.bitLen X6, HB.out, rfl⟩, rfl⟩

/-- BitLen: the length of the words below, and no more of the top word than it takes. -/
theorem BitLen (P : Nat) (ws : List Int) (w : World) (hP : BigI w P ws) (N : Nat) (hV : V ws < 2 ^ N) :
    Calls Try.prog 18 #[.pointer (some ⟨P, 0, none⟩)] w fun e w' => (∃ L : Int, L ≤ N ∧ e = .returned (.int .i64 L)) ∧ w' = w := by
  obtain ⟨ao, ca, p1, pw⟩ := hP.abs
  by_cases h0 : ws.length = 0
  · rw [h0] at p1
    clear pw
    go_enter Try.func18, Try.ntmps18
    go_wp2_with (go_at_call 34; refine (bl0 ao ca _).mono ?_; rintro e w' ⟨rfl, rfl⟩)
    go_ret
    exact ⟨⟨0, by omega, rfl⟩, rfl⟩
  · obtain ⟨g, rfl, hc⟩ := pw (by omega)
    obtain ⟨d1, d2⟩ := hP.digs.get (k := ws.length - 1) (by omega)
    have hn := hP.norm (by omega)
    have ht := V_top ws hP.digs (by omega)
    have hcell := hc (ws.length - 1) (by omega)
    have hl := hP.len
    obtain ⟨X, hX⟩ := Int.eq_ofNat_of_zero_le d1
    rw [hX] at d2 hn ht hcell
    have hb := top_bits X ws.length N (by omega) (by omega)
    have hb' : Hid (64 * (ws.length - 1) ≤ N ∧ X < 2 ^ (N - 64 * (ws.length - 1))) := hb
    clear pw hc hX hn ht d1 hb hP hV
    generalize ws.length = n at *
    go_enter Try.func18, Try.ntmps18
    go_wp2_with (go_at_call 34; refine (blN g n ca X _ hl (by omega) (by omega) hcell).mono ?_; rintro e w' ⟨⟨L, hL, rfl⟩, rfl⟩)
    go_ret
    refine ⟨⟨((n : Int) - 1) * 64 + L, ?_, rfl⟩, rfl⟩
    have := hL _ hb'.out.2
    have := hb'.out.1
    omega
end Go.Proofs.Qxb6003730a.Big
