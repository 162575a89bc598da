import Derived.Test.Qxb6003685aGen
import Derived.RegionTactic
namespace Go.Proofs.Qxb6003685a
open Go.RowKit Go.Lib

/-- k steps of the generator. -/
def it : Nat → Int × Int → Int × Int
  | 0, s => s
  | k + 1, s => nx (it k s)
/-- The i-th word that 'fill' lays. -/
def word (s : Int × Int) (i : Nat) : Int := if i % 2 = 0 then draw (it (i / 2) s) % 4294967296 else draw (it (i / 2) s) / 4294967296 % 4294967296

/-- Row b: n words f. -/
structure Row (w : World) (b n : Nat) (f : Nat → Int) : Prop where
  cell : ∀ i, i < n → w.cell? ⟨b, i, none⟩ = some (.int .u32 (f i))
  free : ∀ i, i < n → w.frozen? ⟨b, i, none⟩ = false
theorem Row.keep {bs : List Nat} {w w' : World} {b n : Nat} {f : Nat → Int} (r : Row w b n f) (hb : b < w.heap.size) (h : Only bs w w') (hn : b ∉ bs) : Row w' b n f :=
  ⟨fun i hi => (h.cell (p := ⟨b, i, none⟩) hb hn).trans (r.cell i hi), fun i hi => (h.frozen ⟨b, i, none⟩ hb).trans (r.free i hi)⟩
theorem Row.congr {w : World} {b n : Nat} {f g : Nat → Int} (r : Row w b n f) (h : ∀ i, i < n → f i = g i) : Row w b n g :=
  ⟨fun i hi => by rw [← h i hi]; exact r.cell i hi, r.free⟩
theorem Row.set {w : World} {b n : Nat} {f : Nat → Int} (r : Row w b n f) {j : Nat} (hj : j < n) (x : Int) : Row (w.setCell ⟨b, j, none⟩ (.int .u32 x)) b n (fun i => if i = j then x else f i) := by
  refine ⟨fun i hi => ?_, fun i hi => (World.frozen?_setCell _ _ _ _).trans (r.free i hi)⟩
  by_cases h : i = j
  · subst h
    simp only [if_true]
    exact World.cell?_setCell_same _ _ _ (r.cell i hi)
  · rw [if_neg h]
    exact (World.cell?_setCell_other _ _ _ _ (fun e => h (by cases e; rfl))).trans (r.cell i hi)

/-- What the loop of 'fill' has laid when i words are done. -/
def mix (s : Int × Int) (f : Nat → Int) (m i : Nat) : Int := if i < m then word s i else f i

theorem mix_all (s : Int × Int) (f : Nat → Int) (n : Nat) : ∀ i, i < n → mix s f n i = word s i := fun i hi => by simp [mix, hi]
theorem mix_two (s : Int × Int) (f : Nat → Int) (k i : Nat) :
    (if i = 2 * k + 1 then draw (it k s) / 4294967296 % 4294967296 else if i = 2 * k then draw (it k s) % 4294967296 else mix s f (2 * k) i) = mix s f (2 * (k + 1)) i := by
  unfold mix word
  by_cases h1 : i = 2 * k + 1
  · subst h1
    rw [if_pos rfl, if_pos (by omega), if_neg (by omega), show (2 * k + 1) / 2 = k by omega]
  · rw [if_neg h1]
    by_cases h2 : i = 2 * k
    · subst h2
      rw [if_pos rfl, if_pos (by omega), if_pos (by omega), show 2 * k / 2 = k by omega]
    · rw [if_neg h2]
      by_cases h3 : i < 2 * k
      · have h4 : i < 2 * (k + 1) := by omega
        simp only [h3, h4, if_true]
      · rw [if_neg h3, if_neg (by omega)]
theorem mix_one (s : Int × Int) (f : Nat → Int) (k i : Nat) (hi : i < 2 * k + 1) :
    (if i = 2 * k then draw (it k s) % 4294967296 else mix s f (2 * k) i) = word s i := by
  unfold mix word
  by_cases h2 : i = 2 * k
  · subst h2
    rw [if_pos rfl, if_pos (by omega), show 2 * k / 2 = k by omega]
  · rw [if_neg h2, if_pos (by omega)]

/-- A store into another block keeps a generator. -/
theorem Gen.set {w : World} {b : Nat} {s : Int × Int} (g : Gen w b s) {p : Addr} (hp : p.block ≠ b) (u : Value) : Gen (w.setCell p u) b s :=
  ⟨(World.cell?_setCell_other _ _ _ _ (fun e => hp (by rw [e]))).trans g.c0, (World.cell?_setCell_other _ _ _ _ (fun e => hp (by rw [e]))).trans g.c1, (World.frozen?_setCell _ _ _ _).trans g.f0, (World.frozen?_setCell _ _ _ _).trans g.f1, g.lo⟩
theorem Gen.setBoth {w : World} {b : Nat} {s : Int × Int} (g : Gen w b s) (t : Int × Int) (ht : Word t.2) : Gen ((w.setCell ⟨b, 0, none⟩ (.int .u64 t.1)).setCell ⟨b, 1, none⟩ (.int .u64 t.2)) b t := by
  have e1 : (w.setCell ⟨b, 0, none⟩ (.int .u64 t.1)).cell? ⟨b, 1, none⟩ = some (.int .u64 s.2) := (World.cell?_setCell_other _ _ _ _ (by simp)).trans g.c1
  refine ⟨?_, World.cell?_setCell_same _ _ _ e1, (World.frozen?_setCell _ _ _ _).trans ((World.frozen?_setCell _ _ _ _).trans g.f0), (World.frozen?_setCell _ _ _ _).trans ((World.frozen?_setCell _ _ _ _).trans g.f1), ht⟩
  exact (World.cell?_setCell_other _ _ _ _ (by simp)).trans (World.cell?_setCell_same _ _ _ g.c0)
theorem Row.other {w : World} {b n : Nat} {f : Nat → Int} (r : Row w b n f) {p : Addr} (hp : p.block ≠ b) (u : Value) : Row (w.setCell p u) b n f :=
  ⟨fun i hi => (World.cell?_setCell_other _ _ _ _ (fun e => hp (by rw [e]))).trans (r.cell i hi), fun i hi => (World.frozen?_setCell _ _ _ _).trans (r.free i hi)⟩

theorem step_two {w wr w1 : World} {n bb gb k : Nat} {f : Nat → Int} {s : Int × Int} (hbb : bb < w.heap.size) (hgb : gb < w.heap.size) (hne : bb ≠ gb) (hlt : 2 * k + 1 < n)
    (ho : Only [bb] w wr) (hz : wr.heap.size = w.heap.size + 1) (hg : Gen wr gb s) (hp1 : Gen w1 w.heap.size (nx (it k s))) (ho1 : Only [w.heap.size] wr w1) (hz1 : w1.heap.size = wr.heap.size) (r1 : Row w1 bb n (mix s f (2 * k))) :
    Row ((w1.setCell ⟨bb, 2 * k, none⟩ (.int .u32 (draw (it k s) % 4294967296))).setCell ⟨bb, 2 * k + 1, none⟩ (.int .u32 (draw (it k s) / 4294967296 % 4294967296))) bb n (mix s f (2 * (k + 1))) ∧
    Gen ((w1.setCell ⟨bb, 2 * k, none⟩ (.int .u32 (draw (it k s) % 4294967296))).setCell ⟨bb, 2 * k + 1, none⟩ (.int .u32 (draw (it k s) / 4294967296 % 4294967296))) w.heap.size (it (k + 1) s) ∧
    Gen ((w1.setCell ⟨bb, 2 * k, none⟩ (.int .u32 (draw (it k s) % 4294967296))).setCell ⟨bb, 2 * k + 1, none⟩ (.int .u32 (draw (it k s) / 4294967296 % 4294967296))) gb s ∧
    Only [bb] w ((w1.setCell ⟨bb, 2 * k, none⟩ (.int .u32 (draw (it k s) % 4294967296))).setCell ⟨bb, 2 * k + 1, none⟩ (.int .u32 (draw (it k s) / 4294967296 % 4294967296))) ∧
    ((w1.setCell ⟨bb, 2 * k, none⟩ (.int .u32 (draw (it k s) % 4294967296))).setCell ⟨bb, 2 * k + 1, none⟩ (.int .u32 (draw (it k s) / 4294967296 % 4294967296))).heap.size = w.heap.size + 1 := by
  refine ⟨((r1.set (by omega) _).set hlt _).congr fun i _ => mix_two s f k i, (hp1.set (by show bb ≠ w.heap.size; omega) _).set (by show bb ≠ w.heap.size; omega) _, ?_, ?_, by simp; omega⟩
  · exact ((hg.keep ho1 (by simp; omega)).set (by show bb ≠ gb; omega) _).set (by show bb ≠ gb; omega) _
  · have hq : Only [bb] w w1 := ⟨ho1.os.trans ho.os, ho1.tape.trans ho.tape, ho1.output.trans ho.output, by omega, fun i hi hn => (ho1.block i (by omega) (by simp; omega)).trans (ho.block i hi hn), fun p hp => (ho1.frozen p (by omega)).trans (ho.frozen p hp)⟩
    exact (hq.setCell (by simp) _).setCell (by simp) _

theorem only_mid {w wr w1 : World} {bb : Nat} (ho : Only [bb] w wr) (hz : wr.heap.size = w.heap.size + 1) (ho1 : Only [w.heap.size] wr w1) (hz1 : w1.heap.size = wr.heap.size) : Only [bb] w w1 :=
  ⟨ho1.os.trans ho.os, ho1.tape.trans ho.tape, ho1.output.trans ho.output, by omega, fun i hi hn => (ho1.block i (by omega) (by simp; omega)).trans (ho.block i hi hn), fun p hp => (ho1.frozen p (by omega)).trans (ho.frozen p hp)⟩

set_option maxHeartbeats 400000 in
theorem fill (n bb gb : Nat) (f : Nat → Int) (s : Int × Int) (w : World) (hn : n ≤ 65536) (hne : bb ≠ gb) (hbb : bb < w.heap.size) (r : Row w bb n f) (g : Gen w gb s) :
    Calls Try.prog 9 #[.slice (some ⟨bb, 0, none⟩) n n, .pointer (some ⟨gb, 0, none⟩)] w fun e w' =>
      e = .returned (.tuple #[]) ∧ Row w' bb n (word s) ∧ Gen w' gb (it ((n + 1) / 2) s) ∧ Only [bb, gb] w w' ∧ w'.heap.size = w.heap.size + 1 := by
  have g0 := g.c0
  have g1 := g.c1
  go_enter Try.func9, Try.ntmps9
  go_wp2
  go_loopw [5] (fun i wr => ∃ k : Nat, 2 * k ≤ n ∧ i = .int .i64 (2 * k : Nat) ∧ Row wr bb n (mix s f (2 * k)) ∧ Gen wr w.heap.size (it k s) ∧ Gen wr gb s ∧ Only [bb] w wr ∧ wr.heap.size = w.heap.size + 1)
    (fun i _ => n - (intOf i).toNat)
  case atStart =>
    refine ⟨0, Nat.zero_le _, rfl, ?_, ⟨by simp [it], by simp [it], by simp, by simp, g.lo⟩, g.keep ((Only.refl [] w).alloc _) (by simp), (Only.refl [bb] w).alloc _, by simp⟩
    exact (r.keep hbb ((Only.refl [] w).alloc _) (by simp)).congr fun i _ => by simp [mix]
  case round =>
    obtain ⟨k, hk, rfl, hr, hp, hg, ho, hz⟩ := hrel
    have hgb := g.lt
    by_cases hlt : 2 * k + 1 < n
    · go_wp2_with (go_at_call 7; refine (uint64 (it k s) w.heap.size wr hp).mono ?_; rintro e w1 ⟨rfl, hp1, ho1, hz1⟩; have r1 := hr.keep (by omega) ho1 (by simp; omega); have q0 := r1.cell (2 * k) (by omega); have q1 := r1.cell (2 * k + 1) (by omega); have v0 := r1.free (2 * k) (by omega); have v1 := r1.free (2 * k + 1) (by omega))
      have R := step_two hbb hgb hne hlt ho hz hg hp1 ho1 hz1 r1
      go_roundw
      case rel => exact ⟨k + 1, by omega, by go_num, R⟩
      case measure => simp [intOf]; omega
    · by_cases h2 : 2 * k < n
      · go_wp2_with (go_at_call 7; refine (uint64 (it k s) w.heap.size wr hp).mono ?_; rintro e w1 ⟨rfl, hp1, ho1, hz1⟩; have r1 := hr.keep (by omega) ho1 (by simp; omega); have q0 := r1.cell (2 * k) (by omega); have v0 := r1.free (2 * k) (by omega); have hg1 := hg.keep ho1 (by simp; omega); have y0 := hp1.c0; have y1 := hp1.c1; have y2 := hg1.c0; have y3 := hg1.c1; have y4 := hg1.f0; have y5 := hg1.f1)
        have hd : (n + 1) / 2 = k + 1 := by omega
        have R1 := (((r1.set (j := 2 * k) (by omega) (draw (it k s) % 4294967296)).other (p := ⟨gb, 0, none⟩) (fun e => hne e.symm) (.int .u64 (nx (it k s)).1)).other (p := ⟨gb, 1, none⟩) (fun e => hne e.symm) (.int .u64 (nx (it k s)).2)).congr fun i hi => mix_one s f k i (by omega)
        have R2 := (hg1.set (p := ⟨bb, 2 * k, none⟩) hne (.int .u32 (draw (it k s) % 4294967296))).setBoth (nx (it k s)) hp1.lo
        have R3 := ((((only_mid ho hz ho1 hz1).wide (cs := [bb, gb]) (by simp)).setCell (p := ⟨bb, 2 * k, none⟩) (by simp) (.int .u32 (draw (it k s) % 4294967296))).setCell (p := ⟨gb, 0, none⟩) (by simp) (.int .u64 (nx (it k s)).1)).setCell (p := ⟨gb, 1, none⟩) (by simp) (.int .u64 (nx (it k s)).2)
        go_end0
        exact ⟨rfl, R1, by rw [hd]; exact R2, R3, by simp; omega⟩
      · have y0 := hp.c0; have y1 := hp.c1; have y2 := hg.c0; have y3 := hg.c1; have y4 := hg.f0; have y5 := hg.f1
        go_wp2
        have hd : (n + 1) / 2 = k := by omega
        have R1 := ((hr.other (p := ⟨gb, 0, none⟩) (fun e => hne e.symm) (.int .u64 (it k s).1)).other (p := ⟨gb, 1, none⟩) (fun e => hne e.symm) (.int .u64 (it k s).2)).congr fun i hi => (mix_all s f (2 * k) i (by omega))
        have R2 := hg.setBoth (it k s) hp.lo
        have R3 := ((ho.wide (cs := [bb, gb]) (by simp)).setCell (p := ⟨gb, 0, none⟩) (by simp) (.int .u64 (it k s).1)).setCell (p := ⟨gb, 1, none⟩) (by simp) (.int .u64 (it k s).2)
        go_end0
        exact ⟨rfl, R1, by rw [hd]; exact R2, R3, by simp; omega⟩
end Go.Proofs.Qxb6003685a
