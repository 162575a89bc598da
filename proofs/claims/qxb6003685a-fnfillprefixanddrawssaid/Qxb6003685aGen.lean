import Derived.Test.Qxb6003685aRows
import Derived.WalkKit
import Derived.WalkSpells
import Derived.WalkLawsBesides
import Derived.BigQuiet
import Derived.Deep.QuietTactic
import Derived.Outline
import Derived.Lib.Mul64
import Derived.Laws.Bits64b
import Derived.Laws.Externs
namespace Go.Proofs.Qxb6003685a
open Go.RowKit Go.Lib

theorem maskN (a : Nat) (ha : a < 18446744073709551616) : bits .and .u64 (a : Int) 4294967295 = ((a % 4294967296 : Nat) : Int) := by
  have h := bits_and_u64_nat a 4294967295 ha (by omega)
  have e : a &&& 4294967295 = a % 4294967296 := Nat.and_two_pow_sub_one_eq_mod a 32
  rw [e] at h
  exact h
theorem divN (a : Nat) : (a : Int) / 4294967296 = ((a / 4294967296 : Nat) : Int) := by omega
theorem mulN (a b : Nat) : (a : Int) * (b : Int) = ((a * b : Nat) : Int) := (Int.natCast_mul a b).symm
theorem addN (a b : Nat) : (a : Int) + (b : Int) = ((a + b : Nat) : Int) := (Int.natCast_add a b).symm
theorem wrapN (a : Nat) (ha : a < 18446744073709551616) : IntKind.u64.wrap (a : Int) = (a : Int) := by rw [IntKind.wrap_u64]; omega
theorem wrapM (a : Nat) : IntKind.u64.wrap (a : Int) = ((a % 18446744073709551616 : Nat) : Int) := by rw [IntKind.wrap_u64]; omega

set_option maxHeartbeats 1000000 in
theorem mul64N (x y : Nat) (hx : x < 18446744073709551616) (hy : y < 18446744073709551616) (w : World) :
    Calls Try.prog 12 #[.int .u64 x, .int .u64 y] w fun e w' => e = .returned (.tuple #[.int .u64 ((x * y / 18446744073709551616 : Nat) : Int), .int .u64 ((x * y % 18446744073709551616 : Nat) : Int)]) ∧ w' = w := by
  obtain ⟨bd, bt, bw, hhi⟩ := Lib.mul64_hi x y hx hy
  have ba := Lib.half_mul_le (a := x / 4294967296) (b := y / 4294967296) (by omega) (by omega)
  have bb := Lib.half_mul_le (a := x / 4294967296) (b := y % 4294967296) (by omega) (by omega)
  have bc := Lib.half_mul_le (a := x % 4294967296) (b := y / 4294967296) (by omega) (by omega)
  have ba' : x / 4294967296 * (y / 4294967296) < 18446744073709551616 := by omega
  have bb' : x / 4294967296 * (y % 4294967296) < 18446744073709551616 := by omega
  have bc' : x % 4294967296 * (y / 4294967296) < 18446744073709551616 := by omega
  have bh1 : x / 4294967296 * (y / 4294967296) + (x / 4294967296 * (y % 4294967296) + x % 4294967296 * (y % 4294967296) / 4294967296) / 4294967296 < 18446744073709551616 := by omega
  have bh : x / 4294967296 * (y / 4294967296) + (x / 4294967296 * (y % 4294967296) + x % 4294967296 * (y % 4294967296) / 4294967296) / 4294967296 + ((x / 4294967296 * (y % 4294967296) + x % 4294967296 * (y % 4294967296) / 4294967296) % 4294967296 + x % 4294967296 * (y / 4294967296)) / 4294967296 < 18446744073709551616 := by omega
  go_enter Try.func12, Try.ntmps12
  go_wp2
  simp only [maskN x hx, maskN y hy, divN, mulN, addN, wrapN _ bd, wrapN _ bb', wrapN _ bt, maskN _ bt, wrapN _ bc', wrapN _ bw, wrapN _ ba', wrapN _ bh1, wrapN _ bh, wrapM (x * y)]
  rw [hhi]
  go_ret2
  exact ⟨rfl, rfl⟩


def mHi (x y : Int) : Int := x * y / 18446744073709551616
def mLo (x y : Int) : Int := x * y % 18446744073709551616
def aS (x y c : Int) : Int := (x + y + c) % 18446744073709551616
def aC (x y c : Int) : Int := (x + y + c) / 18446744073709551616
def Word (x : Int) : Prop := 0 ≤ x ∧ x < 18446744073709551616

theorem mHi_word {x y : Int} (hx : Word x) (hy : Word y) : Word (mHi x y) := by
  unfold mHi; obtain ⟨a, b⟩ := hx; obtain ⟨c, d⟩ := hy
  have h0 : 0 ≤ x * y := Int.mul_nonneg a c
  have h1 : x * y ≤ 18446744073709551615 * 18446744073709551615 := Int.mul_le_mul (by omega) (by omega) c (by omega)
  refine ⟨by omega, by omega⟩
theorem mLo_word (x y : Int) : Word (mLo x y) := by unfold mLo; exact ⟨by omega, by omega⟩
theorem aS_word (x y c : Int) : Word (aS x y c) := by unfold aS; exact ⟨by omega, by omega⟩
theorem wrap_word (x : Int) : Word (IntKind.u64.wrap x) := by rw [IntKind.wrap_u64]; exact ⟨by omega, by omega⟩
theorem aC_bd {x y : Int} (hx : Word x) (hy : Word y) : 0 ≤ aC x y 0 ∧ aC x y 0 ≤ 1 := by
  unfold aC; obtain ⟨a, b⟩ := hx; obtain ⟨c, d⟩ := hy; exact ⟨by omega, by omega⟩

theorem mul64 (x y : Int) (hx : Word x) (hy : Word y) (w : World) :
    Calls Try.prog 12 #[.int .u64 x, .int .u64 y] w fun e w' => e = .returned (.tuple #[.int .u64 (mHi x y), .int .u64 (mLo x y)]) ∧ w' = w := by
  obtain ⟨X, rfl⟩ := Int.eq_ofNat_of_zero_le hx.1
  obtain ⟨Y, rfl⟩ := Int.eq_ofNat_of_zero_le hy.1
  obtain ⟨_, hx⟩ := hx
  obtain ⟨_, hy⟩ := hy
  refine (mul64N X Y (by omega) (by omega) w).mono ?_
  rintro e w' ⟨rfl, rfl⟩
  refine ⟨?_, rfl⟩
  simp [mHi, mLo]

theorem add64 (x y c : Int) (hx : 0 ≤ x) (hy : 0 ≤ y) (hc0 : 0 ≤ c) (hc : c ≤ 1) (w : World) : (callFunc 13 #[.int .u64 x, .int .u64 y, .int .u64 c]).run Try.prog w =
    .ok (.value (.tuple #[.int .u64 (aS x y c), .int .u64 (aC x y c)])) w := by
  rw [run_callFunc_extern Try.func13 (by kernel_rfl) (by kernel_rfl) (by kernel_rfl) (e := add64Entry) (by kernel_rfl), run_add64 x y c hx hy hc0 hc]
  rfl

def nLo1 (lo : Int) : Int := mLo lo 4865540595714422341
def nHi1 (hi lo : Int) : Int := IntKind.u64.wrap (mHi lo 4865540595714422341 + IntKind.u64.wrap (IntKind.u64.wrap (hi * 4865540595714422341) + IntKind.u64.wrap (lo * 2549297995355413924)))
def nLo (lo : Int) : Int := aS (nLo1 lo) 1442695040888963407 0
def nHi (hi lo : Int) : Int := aS (nHi1 hi lo) 6364136223846793005 (aC (nLo1 lo) 1442695040888963407 0)

set_option maxHeartbeats 400000 in
theorem next (hi lo : Int) (hl : Word lo) (b : Nat) (w : World) (h0 : w.cell? ⟨b, 0, none⟩ = some (.int .u64 hi)) (h1 : w.cell? ⟨b, 1, none⟩ = some (.int .u64 lo)) (f0 : w.frozen? ⟨b, 0, none⟩ = false) (f1 : w.frozen? ⟨b, 1, none⟩ = false) :
    Calls Try.prog 10 #[.pointer (some ⟨b, 0, none⟩)] w fun e w' => e = .returned (.tuple #[.int .u64 (nHi hi lo), .int .u64 (nLo lo)]) ∧ ∃ n, w' = ((w.setCell ⟨b, 1, none⟩ (.int .u64 (nLo lo))).setCell ⟨b, 0, none⟩ (.int .u64 (nHi hi lo))).drewN n := by
  have k1 := (mLo_word lo 4865540595714422341).1
  have k2 := (wrap_word (mHi lo 4865540595714422341 + IntKind.u64.wrap (IntKind.u64.wrap (hi * 4865540595714422341) + IntKind.u64.wrap (lo * 2549297995355413924)))).1
  have k3 := aC_bd (mLo_word lo 4865540595714422341) (y := 1442695040888963407) ⟨by decide, by decide⟩
  obtain ⟨k4, k5⟩ := k3
  have A1 := fun w => add64 (mLo lo 4865540595714422341) 1442695040888963407 0 k1 (by decide) (by decide) (by decide) w
  have A2 := fun w => add64 _ 6364136223846793005 _ k2 (by decide) k4 k5 w
  go_enter Try.func10, Try.ntmps10
  go_wp2_with (go_at_call 12; refine (mul64 _ _ hl ⟨by decide, by decide⟩ _).mono ?_; rintro e w' ⟨rfl, rfl⟩)
  go_quiet (fail)
  go_wp2
  go_ret2
  exact ⟨rfl, _, rfl⟩

/-- The DXSM output of a state. -/
def dx1 (hi : Int) : Int := IntKind.u64.wrap (bits BinOp.xor IntKind.u64 hi (hi / 4294967296) * 15750249268501108917)
def dxsm (hi lo : Int) : Int := IntKind.u64.wrap (bits BinOp.xor IntKind.u64 (dx1 hi) (dx1 hi / 281474976710656) * bits BinOp.or IntKind.u64 lo 1)

set_option maxHeartbeats 400000 in
theorem uint64_raw (hi lo : Int) (hl : Word lo) (b : Nat) (w : World) (h0 : w.cell? ⟨b, 0, none⟩ = some (.int .u64 hi)) (h1 : w.cell? ⟨b, 1, none⟩ = some (.int .u64 lo)) (f0 : w.frozen? ⟨b, 0, none⟩ = false) (f1 : w.frozen? ⟨b, 1, none⟩ = false) :
    Calls Try.prog 7 #[.pointer (some ⟨b, 0, none⟩)] w fun e w' => e = .returned (.int .u64 (dxsm (nHi hi lo) (nLo lo))) ∧ ∃ n, w' = ((w.setCell ⟨b, 1, none⟩ (.int .u64 (nLo lo))).setCell ⟨b, 0, none⟩ (.int .u64 (nHi hi lo))).drewN n := by
  go_enter Try.func7, Try.ntmps7
  go_wp2_with (go_at_call 10; refine (next hi lo hl b _ h0 h1 f0 f1).mono ?_; rintro e w' ⟨rfl, n, rfl⟩)
  go_ret
  exact ⟨rfl, _, rfl⟩

/-! ### The vocabulary: a generator in memory; what a step may touch -/
/-- The next state; what a draw gives. -/
def nx (s : Int × Int) : Int × Int := (nHi s.1 s.2, nLo s.2)
def draw (s : Int × Int) : Int := dxsm (nHi s.1 s.2) (nLo s.2)
theorem draw_word (s : Int × Int) : Word (draw s) := wrap_word _

/-- Block b begins with the generator s. -/
structure Gen (w : World) (b : Nat) (s : Int × Int) : Prop where
  c0 : w.cell? ⟨b, 0, none⟩ = some (.int .u64 s.1)
  c1 : w.cell? ⟨b, 1, none⟩ = some (.int .u64 s.2)
  f0 : w.frozen? ⟨b, 0, none⟩ = false
  f1 : w.frozen? ⟨b, 1, none⟩ = false
  lo : Word s.2

/-- Of the blocks that were there, at most those in 'bs' have turned; no mark has. -/
structure Only (bs : List Nat) (w w' : World) : Prop where
  os : w'.os = w.os
  tape : w'.tape = w.tape
  output : w'.output = w.output
  size : w.heap.size ≤ w'.heap.size
  block : ∀ k, k < w.heap.size → k ∉ bs → w'.heap[k]? = w.heap[k]?
  frozen : ∀ p : Addr, p.block < w.heap.size → w'.frozen? p = w.frozen? p

theorem Only.refl (bs : List Nat) (w : World) : Only bs w w := ⟨rfl, rfl, rfl, Nat.le_refl _, fun _ _ _ => rfl, fun _ _ => rfl⟩
theorem Only.trans {bs : List Nat} {a b c : World} (h : Only bs a b) (k : Only bs b c) : Only bs a c :=
  ⟨k.os.trans h.os, k.tape.trans h.tape, k.output.trans h.output, Nat.le_trans h.size k.size, fun i hi hn => (k.block i (Nat.lt_of_lt_of_le hi h.size) hn).trans (h.block i hi hn), fun p hp => (k.frozen p (Nat.lt_of_lt_of_le hp h.size)).trans (h.frozen p hp)⟩
theorem Only.cell {bs : List Nat} {w w' : World} (h : Only bs w w') {p : Addr} (hp : p.block < w.heap.size) (hn : p.block ∉ bs) : w'.cell? p = w.cell? p := World.cell?_of_block (w := w) (h.block p.block hp hn)
theorem Only.wide {bs cs : List Nat} {w w' : World} (h : Only bs w w') (hs : ∀ b, b ∈ bs → b < w.heap.size → b ∈ cs) : Only cs w w' :=
  ⟨h.os, h.tape, h.output, h.size, fun k hk hn => h.block k hk (fun hb => hn (hs k hb hk)), h.frozen⟩
theorem Only.drew {bs : List Nat} {a w : World} (h : Only bs a w) : Only bs a w.drew := ⟨h.os, h.tape, h.output, h.size, h.block, h.frozen⟩
theorem Only.drewN {bs : List Nat} {a w : World} (h : Only bs a w) (n : Nat) : Only bs a (w.drewN n) := ⟨h.os, h.tape, h.output, h.size, h.block, h.frozen⟩
theorem Only.setCell {bs : List Nat} {a w : World} (h : Only bs a w) {p : Addr} (hp : p.block < a.heap.size → p.block ∈ bs) (u : Value) : Only bs a (w.setCell p u) := by
  refine ⟨h.os, h.tape, h.output, by simpa [World.setCell] using h.size, fun k hk hn => ?_, fun q hq => ?_⟩
  · rw [Below.heap_setCell w p u k (fun e => hn (by rw [e]; exact hp (by omega)))]
    exact h.block k hk hn
  · rw [World.frozen?_setCell]
    exact h.frozen q hq
theorem Only.alloc {bs : List Nat} {a w : World} (h : Only bs a w) (o : Obj) : Only bs a (w.alloc o) := by
  have hs := h.size
  refine ⟨h.os, h.tape, h.output, by simp; omega, fun k hk hn => ?_, fun q hq => ?_⟩
  · rw [Below.heap_alloc _ _ _ (by omega)]
    exact h.block k hk hn
  · rw [World.frozen?_alloc_old _ _ _ (by omega)]
    exact h.frozen q hq
/-- All that has turned lies from B on. -/
theorem Only.below {bs : List Nat} {B : Nat} {w w1 w2 : World} (hb : Below B w w1) (h : Only bs w1 w2) (hB : B ≤ w1.heap.size) (hs : ∀ b, b ∈ bs → B ≤ b) : Below B w w2 :=
  hb.trans ⟨h.os, h.tape, h.output, h.size, fun k hk => h.block k (by omega) (fun hm => by have := hs k hm; omega)⟩

theorem Gen.lt {w : World} {b : Nat} {s : Int × Int} (g : Gen w b s) : b < w.heap.size := World.block_lt_of_cell? w _ g.c0
/-- A generator that is not touched stays. -/
theorem Gen.keep {bs : List Nat} {w w' : World} {b : Nat} {s : Int × Int} (g : Gen w b s) (h : Only bs w w') (hn : b ∉ bs) : Gen w' b s :=
  ⟨(h.cell (p := ⟨b, 0, none⟩) g.lt hn).trans g.c0, (h.cell (p := ⟨b, 1, none⟩) g.lt hn).trans g.c1, (h.frozen ⟨b, 0, none⟩ g.lt).trans g.f0, (h.frozen ⟨b, 1, none⟩ g.lt).trans g.f1, g.lo⟩

/-- (*PCG).Uint64: the draw; the generator steps; nothing else turns. -/
theorem uint64 (s : Int × Int) (b : Nat) (w : World) (g : Gen w b s) :
    Calls Try.prog 7 #[.pointer (some ⟨b, 0, none⟩)] w fun e w' => e = .returned (.int .u64 (draw s)) ∧ Gen w' b (nx s) ∧ Only [b] w w' ∧ w'.heap.size = w.heap.size := by
  refine (uint64_raw s.1 s.2 g.lo b w g.c0 g.c1 g.f0 g.f1).mono ?_
  rintro e w' ⟨rfl, n, rfl⟩
  have e1 : (w.setCell ⟨b, 1, none⟩ (.int .u64 (nLo s.2))).cell? ⟨b, 0, none⟩ = some (.int .u64 s.1) := (World.cell?_setCell_other _ _ _ _ (by simp)).trans g.c0
  refine ⟨rfl, ⟨?_, ?_, ?_, ?_, aS_word _ _ _⟩, ?_, ?_⟩
  · exact World.cell?_setCell_same _ _ _ e1
  · refine (World.cell?_setCell_other _ _ _ _ (by simp)).trans ?_
    exact World.cell?_setCell_same _ _ _ g.c1
  · exact (World.frozen?_setCell _ _ _ _).trans ((World.frozen?_setCell _ _ _ _).trans g.f0)
  · exact (World.frozen?_setCell _ _ _ _).trans ((World.frozen?_setCell _ _ _ _).trans g.f1)
  · exact (((Only.refl _ _).setCell (by simp) _).setCell (by simp) _).drewN n
  · show ((w.setCell _ _).setCell _ _).heap.size = _
    simp
end Go.Proofs.Qxb6003685a
