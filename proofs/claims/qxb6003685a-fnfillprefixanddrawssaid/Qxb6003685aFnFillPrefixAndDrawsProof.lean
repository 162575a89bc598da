import Derived.Test.Qxb6003685aFill
import Derived.Deep.OwnRows
import Derived.ProofKit
import Derived.OpenShut
import Derived.ShutString
namespace Go.Proofs.Qxb6003685a.fnFillPrefixAndDraws
open Go.ChangeShapes Go.WideShapes Go.ChangeAt Go.RowKit
set_option linter.unusedVariables false

theorem newpcg (x y : Int) (w : World) : Calls Try.prog 5 #[.int .u64 x, .int .u64 y] w fun e w' => e = .returned (.pointer (some ⟨w.heap.size, 0, none⟩)) ∧ w' = w.alloc (.cells #[.int .u64 x, .int .u64 y] 30) := by
  go_enter Try.func5, Try.ntmps5
  go_wp2
  go_ret
  exact ⟨rfl, rfl⟩
theorem zzfill (n bb gb : Nat) (f : Nat → Int) (s : Int × Int) (w : World) (hn : n ≤ 65536) (hne : bb ≠ gb) (hbb : bb < w.heap.size) (r : Row w bb n f) (g : Gen w gb s) :
    Calls Try.prog 6 #[.slice (some ⟨bb, 0, none⟩) n n, .pointer (some ⟨gb, 0, none⟩)] w fun e w' =>
      e = .returned (.tuple #[]) ∧ Row w' bb n (word s) ∧ Gen w' gb (it ((n + 1) / 2) s) ∧ Only [bb, gb] w w' ∧ w'.heap.size = w.heap.size + 1 := by
  go_enter Try.func6, Try.ntmps6
  go_wp2_with (go_at_call 9; refine (fill n bb gb f s _ hn hne hbb r g).mono ?_; rintro e w' ⟨rfl, h1, h2, h3, h4⟩)
  go_end0
  exact ⟨rfl, h1, h2, h3, h4⟩
theorem info27 : (Try.prog.info? 27).map (fun i => (i.zero, i.size, i.bytes)) = some (some (.int .u32 0), 1, 4) := by kernel_rfl

theorem made_row (w : World) (n : Nat) : Row (w.alloc (.cells (madeCells #[.int .u32 0] n) 27)) w.heap.size n (fun _ => 0) :=
  ⟨fun i hi => by rw [World.cell?_alloc_new]; simp [madeCells, hi, Nat.mod_one], fun i _ => World.frozen?_alloc_new _ _ _ _⟩
theorem made_gen (w : World) (x y : Int) (hy : Word y) : Gen (w.alloc (.cells #[.int .u64 x, .int .u64 y] 30)) w.heap.size (x, y) :=
  ⟨by simp, by simp, by simp, by simp, hy⟩


theorem nm2 {a b c : Nat} (h : a ≠ b) (k : a ≠ c) : a ∉ [b, c] := by simp [h, k]
theorem nm1 {a b : Nat} (h : a ≠ b) : a ∉ [b] := by simp [h]
theorem le2 {B b c : Nat} (h : B ≤ b) (k : B ≤ c) : ∀ x, x ∈ [b, c] → B ≤ x := by simp [h, k]
theorem le1 {B b : Nat} (h : B ≤ b) : ∀ x, x ∈ [b] → B ≤ x := by simp [h]
theorem le0 {B : Nat} : ∀ x, x ∈ ([] : List Nat) → B ≤ x := by simp
theorem four (w : World) (x y : Int) (hy : Word y) (n m : Nat) :
    let W := ((((w.alloc (.cells (madeCells #[.int .u32 0] n) 27)).alloc (.cells (madeCells #[.int .u32 0] m) 27)).alloc (.cells #[.int .u64 x, .int .u64 y] 30)).alloc (.cells #[.int .u64 x, .int .u64 y] 30))
    Row W w.heap.size n (fun _ => 0) ∧ Row W (w.heap.size + 1) m (fun _ => 0) ∧ Gen W (w.heap.size + 1 + 1) (x, y) ∧ Gen W (w.heap.size + 1 + 1 + 1) (x, y) ∧ Below w.heap.size w W ∧ W.heap.size = w.heap.size + 4 := by
  have a1 := made_row w n
  have a2 := made_row (w.alloc (.cells (madeCells #[.int .u32 0] n) 27)) m
  have a3 := made_gen ((w.alloc (.cells (madeCells #[.int .u32 0] n) 27)).alloc (.cells (madeCells #[.int .u32 0] m) 27)) x y hy
  have a4 := made_gen (((w.alloc (.cells (madeCells #[.int .u32 0] n) 27)).alloc (.cells (madeCells #[.int .u32 0] m) 27)).alloc (.cells #[.int .u64 x, .int .u64 y] 30)) x y hy
  simp only [World.size_alloc] at a2 a3 a4
  refine ⟨?_, ?_, ?_, a4, ?_, by simp⟩
  · exact a1.keep (by simp) ((((Only.refl [] _).alloc _).alloc _).alloc _) (by simp)
  · exact a2.keep (by simp) (((Only.refl [] _).alloc _).alloc _) (by simp)
  · exact a3.keep ((Only.refl [] _).alloc _) (by simp)
  · exact ((((Below.refl _ _).alloc (Nat.le_refl _) _).alloc (by simp) _).alloc (by simp; omega) _).alloc (by simp; omega) _

theorem it_add (a b : Nat) (s : Int × Int) : it a (it b s) = it (a + b) s := by
  induction a with
  | zero => simp [it]
  | succ a ih => rw [Nat.add_right_comm]; simp only [it, ih]
theorem word_shift (s : Int × Int) (n i : Nat) (he : n % 2 = 0) : word (it ((n + 1) / 2) s) i = word s (n + i) := by
  unfold word
  rw [it_add, show (n + i) % 2 = i % 2 by omega, show i / 2 + (n + 1) / 2 = (n + i) / 2 by omega]
theorem it_rest (s : Int × Int) (n m : Nat) (he : n % 2 = 0) (h : n ≤ m) : it ((m - n + 1) / 2) (it ((n + 1) / 2) s) = it ((m + 1) / 2) s := by
  rw [it_add, show (m - n + 1) / 2 + (n + 1) / 2 = (m + 1) / 2 by omega]

theorem last {w wr : World} {m d : Nat} {f : Nat → Int} {s t : Int × Int} (q : Nat) (r1 : Row wr (w.heap.size + 1) m f) (g2 : Gen wr (w.heap.size + 1 + 1) s) (g3 : Gen wr (w.heap.size + 1 + 1 + 1) t) (b0 : Below w.heap.size w wr) (hz : wr.heap.size = w.heap.size + 7) :
    let W := ((wr.drewN q).alloc (.cells (madeCells #[.int .u32 0] d) 27))
    Row W (w.heap.size + 7) d (fun _ => 0) ∧ Row W (w.heap.size + 1) m f ∧ Gen W (w.heap.size + 1 + 1) s ∧ Gen W (w.heap.size + 1 + 1 + 1) t ∧ Below w.heap.size w W ∧ W.heap.size = w.heap.size + 8 := by
  have hq : (wr.drewN q).heap.size = w.heap.size + 7 := hz
  have c0 := made_row (wr.drewN q) d
  rw [hq] at c0
  have o : Only [] wr ((wr.drewN q).alloc (.cells (madeCells #[.int .u32 0] d) 27)) := ((Only.refl [] wr).drewN q).alloc _
  exact ⟨c0, r1.keep (by omega) o (by simp), g2.keep o (by simp), g3.keep o (by simp), o.below b0 (by omega) le0, by simp; exact hz⟩

set_option maxHeartbeats 1000000 in
theorem main (x y : Int) (n m : Nat) (hy : Word y) (hnm : n ≤ m) (hm : m ≤ 65536) (w : World) :
    Calls Try.prog 3 #[.int .u64 x, .int .u64 y, .int .i64 n, .int .i64 m] w fun e w' => e = .returned (.bool true) ∧ Below w.heap.size w w' := by
  have mk1 := fun w => run_make_row' (P := Try.prog) 23 27 (.int .u32 0) 4 Try.underlying23 info27 rfl .i64 .i64 n (by omega) (by omega) w
  have mk2 := fun w => run_make_row' (P := Try.prog) 23 27 (.int .u32 0) 4 Try.underlying23 info27 rfl .i64 .i64 m (by omega) (by omega) w
  have mk3 : ∀ w, (Instr.makeSlice 23 (.int .i64 ((m : Int) - n)) (.int .i64 ((m : Int) - n))).run Try.prog w = .ok (.slice (some ⟨w.heap.size, 0, none⟩) (m - n) (m - n)) (w.alloc (.cells (madeCells #[.int .u32 0] (m - n)) 27)) := fun w => by
    have := run_make_row' (P := Try.prog) 23 27 (.int .u32 0) 4 Try.underlying23 info27 rfl .i64 .i64 (m - n) (by omega) (by omega) w
    rwa [show ((m - n : Nat) : Int) = (m : Int) - n by omega] at this
  have d1 : decide ((n : Int) < 0) = false := by simp
  have d2 : decide ((m : Int) < 0) = false := by simp
  have d3 : decide (65536 < (n : Int)) = false := by simp; omega
  have d4 : decide (65536 < (m : Int)) = false := by simp; omega
  have d5 : decide ((m : Int) < (n : Int)) = false := by simp; omega
  obtain ⟨r0, r1, g2, g3, b0, z0⟩ := four w x y hy n m
  go_enter Try.func3, Try.ntmps3
  go_wp2_with (first | (go_at_call 5; refine (newpcg _ _ _).mono ?_; rintro e w' ⟨rfl, rfl⟩) | fail)
  generalize ((((w.alloc (.cells (madeCells #[.int .u32 0] n) 27)).alloc (.cells (madeCells #[.int .u32 0] m) 27)).alloc (.cells #[.int .u64 x, .int .u64 y] 30)).alloc (.cells #[.int .u64 x, .int .u64 y] 30)) = W at *
  refine (zzfill n w.heap.size (w.heap.size + 1 + 1) _ (x, y) W (by omega) (by omega) (by omega) r0 g2).mono ?_
  rintro e V1 ⟨rfl, r0, g2, o1, z1⟩
  replace r1 := r1.keep (by omega) o1 (nm2 (by omega) (by omega))
  replace g3 := g3.keep o1 (nm2 (by omega) (by omega))
  replace b0 := o1.below b0 (by omega) (le2 (by omega) (by omega))
  clear o1
  go_wp2_with fail
  refine (zzfill m (w.heap.size + 1) (w.heap.size + 1 + 1 + 1) _ (x, y) V1 (by omega) (by omega) (by omega) r1 g3).mono ?_
  rintro e V2 ⟨rfl, r1, g3, o2, z2⟩
  replace r0 := r0.keep (by omega) o2 (nm2 (by omega) (by omega))
  replace g2 := g2.keep o2 (nm2 (by omega) (by omega))
  replace b0 := o2.below b0 (by omega) (le2 (by omega) (by omega))
  clear o2
  go_wp2
  go_loopw [13] (fun i wr => ∃ k : Nat, k ≤ n ∧ i = .int .i64 k ∧ Only [] V2 wr ∧ wr.heap.size = V2.heap.size) (fun i _ => n - (intOf i).toNat)
  case atStart => exact ⟨0, Nat.zero_le _, rfl, Only.refl _ _, rfl⟩
  case round =>
    obtain ⟨k, hk, rfl, ho, hz⟩ := hrel
    by_cases hlt : k < n
    · have q0 := (r0.keep (by omega) ho (by simp)).cell k hlt
      have q1 := (r1.keep (by omega) ho (by simp)).cell k (by omega)
      have l1 : (k : Int) < (n : Int) := by omega
      have l2 : (k : Int) < (m : Int) := by omega
      go_wp2
      go_quiet (fail)
      go_wp2
      go_roundw
      case rel => exact ⟨k + 1, by omega, by go_num, ho.drewN _, hz⟩
      case measure => simp [intOf]; omega
    · replace r0 := r0.keep (by omega) ho (by simp)
      replace r1 := r1.keep (by omega) ho (by simp)
      replace g2 := g2.keep ho (by simp)
      replace g3 := g3.keep ho (by simp)
      replace b0 := ho.below b0 (by omega) le0
      clear ho
      have g4 := made_gen wr x y hy
      have zz : wr.heap.size = w.heap.size + 4 + 1 + 1 := by omega
      rw [zz] at g4
      replace r0 := r0.keep (by omega) ((Only.refl [] _).alloc (.cells #[.int .u64 x, .int .u64 y] 30)) (by simp)
      replace r1 := r1.keep (by omega) ((Only.refl [] _).alloc (.cells #[.int .u64 x, .int .u64 y] 30)) (by simp)
      replace g2 := g2.keep ((Only.refl [] _).alloc (.cells #[.int .u64 x, .int .u64 y] 30)) (by simp)
      replace g3 := g3.keep ((Only.refl [] _).alloc (.cells #[.int .u64 x, .int .u64 y] 30)) (by simp)
      replace b0 := b0.alloc (by omega) (.cells #[.int .u64 x, .int .u64 y] 30)
      have zu : (wr.alloc (.cells #[.int .u64 x, .int .u64 y] 30)).heap.size = w.heap.size + 7 := by simp; omega
      go_wp2_with (go_at_call 5; refine (newpcg _ _ _).mono ?_; rintro e w' ⟨rfl, rfl⟩)
      generalize (wr.alloc (.cells #[.int .u64 x, .int .u64 y] 30)) = U at *
      go_loopw [15] (fun i wq => ∃ j : Nat, j ≤ (n + 1) / 2 ∧ i = .int .i64 j ∧ Gen wq (w.heap.size + 4 + 1 + 1) (it j (x, y)) ∧ Only [w.heap.size + 4 + 1 + 1] U wq ∧ wq.heap.size = U.heap.size) (fun i _ => (n + 1) / 2 - (intOf i).toNat)
      case atStart => exact ⟨0, Nat.zero_le _, rfl, g4, Only.refl _ _, rfl⟩
      case round =>
        obtain ⟨j, hj, rfl, h4, ho, hzq⟩ := hrel
        by_cases hlt : j < (n + 1) / 2
        · go_wp2_with (go_at_call 7; refine (uint64 _ _ _ h4).mono ?_; rintro e w1 ⟨rfl, h41, ho1, hz1⟩)
          go_roundw
          case rel => exact ⟨j + 1, by omega, by go_num, h41, ho.trans ho1, by omega⟩
          case measure => simp [intOf]; omega
        · obtain rfl : j = (n + 1) / 2 := by omega
          replace r0 := r0.keep (by omega) ho (nm1 (by omega))
          replace r1 := r1.keep (by omega) ho (nm1 (by omega))
          replace g2 := g2.keep ho (nm1 (by omega))
          replace g3 := g3.keep ho (nm1 (by omega))
          replace b0 := ho.below b0 (by omega) (le1 (by omega))
          clear ho g4
          have p0 := h4.c0
          have p1 := h4.c1
          have p2 := g2.c0
          have p3 := g2.c1
          have p4 := g3.c0
          have p5 := g3.c1
          have hgu : ∃ b : Bool, ((((n : Int) + 1) / 2 == ((m : Int) + 1) / 2) = b) ∧ (b = true → (n + 1) / 2 = (m + 1) / 2) := ⟨_, rfl, fun h => by simp at h; omega⟩
          obtain ⟨b, hgu, hb⟩ := hgu
          have hmod : ∃ b : Bool, (((n : Int) % 2 == 0) = b) ∧ (b = true → n % 2 = 0) := ⟨_, rfl, fun h => by simp at h; omega⟩
          obtain ⟨b2, hmo, hb2⟩ := hmod
          go_wp2
          go_quiet (fail)
          go_wp2
          cases b
          case' true => rw [← hb rfl] at p4 p5
          all_goals
            clear hb
            cases b2
            · go_quiet (fail)
              go_wp2
              go_ret
              exact ⟨rfl, ⟨b0.os, b0.tape, b0.output, b0.size, b0.block⟩⟩
            · have hev := hb2 rfl
              clear hb2
              have zw : wr.heap.size = w.heap.size + 7 := by omega
              have L := fun q => last (d := m - n) q r1 g2 g3 b0 zw
              go_quiet (fail)
              go_wp2_with fail
              refine (zzfill (m - n) (w.heap.size + 7) (w.heap.size + 1 + 1) (fun _ => 0) (it ((n + 1) / 2) (x, y)) _ (by omega) (by omega) (by rw [(L _).2.2.2.2.2]; omega) (by exact (L _).1) (by exact (L _).2.2.1)).mono ?_
              rintro e V3 ⟨rfl, c0, g2, o3, z3⟩
              replace r1 := (L _).2.1.keep (by rw [(L _).2.2.2.2.2]; omega) o3 (nm2 (by omega) (by omega))
              replace g3 := (L _).2.2.2.1.keep o3 (nm2 (by omega) (by omega))
              replace b0 := o3.below (L _).2.2.2.2.1 (by rw [(L _).2.2.2.2.2]; omega) (le2 (by omega) (by omega))
              replace z3 := z3.trans (congrArg (· + 1) (L _).2.2.2.2.2)
              replace c0 := c0.congr fun i _ => word_shift (x, y) n i hev
              rw [it_rest (x, y) n m hev hnm] at g2
              clear L o3 p0 p1 p2 p3 p4 p5 r0
              go_wp2
              go_loopw [17] (fun i wl => ∃ k : Nat, k ≤ m - n ∧ i = .int .i64 k ∧ Only [] V3 wl ∧ wl.heap.size = V3.heap.size) (fun i _ => (m - n) - (intOf i).toNat)
              case atStart => exact ⟨0, Nat.zero_le _, rfl, Only.refl _ _, rfl⟩
              case round =>
                obtain ⟨l, hl, rfl, ho, hzl⟩ := hrel
                by_cases hlt : l < m - n
                · have q0 := (c0.keep (by omega) ho (by simp)).cell l hlt
                  have q1 := (r1.keep (by omega) ho (by simp)).cell (n + l) (by omega)
                  have l1 : (l : Int) < ((m - n : Nat) : Int) := by omega
                  have l2 : (n : Int) + (l : Int) < (m : Int) := by omega
                  go_wp2
                  go_quiet (fail)
                  go_wp2
                  go_roundw
                  case rel => exact ⟨l + 1, by omega, by go_num, ho.drewN _, hzl⟩
                  case measure => simp [intOf]; omega
                · have p2 := (g2.keep ho (by simp)).c0
                  have p3 := (g2.keep ho (by simp)).c1
                  have p4 := (g3.keep ho (by simp)).c0
                  have p5 := (g3.keep ho (by simp)).c1
                  replace b0 := ho.below b0 (by omega) le0
                  go_wp2
                  go_quiet (fail)
                  go_wp2
                  go_ret
                  exact ⟨rfl, ⟨b0.os, b0.tape, b0.output, b0.size, b0.block⟩⟩

theorem own : ownKnob Try.prog.godebug = none := by kernel_rfl

set_option maxHeartbeats 1000000 in
theorem walk (a0 : Int) (a1 : Int) (a2 : Int) (a3 : Int) (w0 : (Lit.int .u64 a0).wf = true) (w1 : (Lit.int .u64 a1).wf = true) (w2 : (Lit.int .i64 a2).wf = true) (w3 : (Lit.int .i64 a3).wf = true) (w : World) :
    Calls Try.prog 3 #[.int .u64 a0, .int .u64 a1, .int .i64 a2, .int .i64 a3] w fun e w' => e = .returned (.bool true) ∧ Below w.heap.size w w' := by
  have hy : Word a1 := by
    simp [Lit.wf, IntKind.min, IntKind.max, IntKind.signed, IntKind.bits] at w1
    exact ⟨by omega, by omega⟩
  by_cases c1 : a2 < 0
  · go_enter Try.func3, Try.ntmps3
    go_wp2
    go_ret
    exact ⟨rfl, Below.refl _ _⟩
  by_cases c2 : a3 < 0
  · go_enter Try.func3, Try.ntmps3
    go_wp2
    go_ret
    exact ⟨rfl, Below.refl _ _⟩
  by_cases c3 : 65536 < a2
  · go_enter Try.func3, Try.ntmps3
    go_wp2
    go_ret
    exact ⟨rfl, Below.refl _ _⟩
  by_cases c4 : 65536 < a3
  · go_enter Try.func3, Try.ntmps3
    go_wp2
    go_ret
    exact ⟨rfl, Below.refl _ _⟩
  by_cases c5 : a3 < a2
  · go_enter Try.func3, Try.ntmps3
    go_wp2
    go_ret
    exact ⟨rfl, Below.refl _ _⟩
  obtain ⟨n, rfl⟩ := Int.eq_ofNat_of_zero_le (by omega : 0 ≤ a2)
  obtain ⟨m, rfl⟩ := Int.eq_ofNat_of_zero_le (by omega : 0 ≤ a3)
  exact main a0 a1 n m hy (by omega) (by omega) w

/-! ### THE ROW's STEP: WRITTEN OUT: LEAVE IT -/
set_option maxRecDepth 100000 in
theorem lifted (os : Os) (started : os.Started) (H : Type) (enc : TypeId × Value → H) :
    ReturnsInHanded {} Try.checked os 3 .any (Rows.fnFillPrefixAndDrawsSpec.pre6 enc Try.prog Try.f3 Rows.fnFillPrefixAndDrawsRow.domain false) (Rows.fnFillPrefixAndDrawsSpec.post enc Try.prog Try.f3 false true false false) := by
  refine returnsInHanded_of_change (C := Try.checked) own started (by kernel_rfl) Try.func3
    (ChangeSpec.witness6 (enc := enc) (C := Try.checked) false ⟨#[], #[.int .u64 0, .int .u64 0, .int .i64 0, .int .i64 0], []⟩ 8 (by kernel_rfl) (by kernel_rfl) (by kernel_rfl) (by kernel_rfl)) ?_
  intro W base args ds gs before hval0 hW hcnd _
  have hval : ∀ (j : Nat) t v, Try.f3.params[j]? = some t → args[j]? = some v → Value.okWide Try.prog W .any base t v := hval0
  have hW' := hW
  obtain ⟨p, q, hA0, hV, rfl, hfz, hnd⟩ := hW
  have hA : DataW.TrodAll enc Try.prog W 0 (fun _ => true) true Try.f3.params.toList args.toList ds p := hA0
  rw [Try.params3] at hA hval
  obtain ⟨v0, vs0, d0, ds0, p0, q0, hargs, rfl, rfl, h0, r0⟩ := trodAll_cons hA
  obtain ⟨v1, vs1, d1, ds1, p1, q1, rfl, rfl, rfl, h1, r1⟩ := trodAll_cons r0
  obtain ⟨v2, vs2, d2, ds2, p2, q2, rfl, rfl, rfl, h2, r2⟩ := trodAll_cons r1
  obtain ⟨v3, vs3, d3, ds3, p3, q3, rfl, rfl, rfl, h3, r3⟩ := trodAll_cons r2
  obtain ⟨rfl, rfl, rfl⟩ := trodAll_nil r3
  obtain rfl : args = #[v0, v1, v2, v3] := by cases args; simp_all
  obtain ⟨rfl, rfl⟩ := trodVars_none hV
  obtain ⟨a0, rfl, rfl, rfl, w0⟩ := open_int Try.underlying22 (hval 0 22 v0 rfl rfl) h0
  obtain ⟨a1, rfl, rfl, rfl, w1⟩ := open_int Try.underlying22 (hval 1 22 v1 rfl rfl) h1
  obtain ⟨a2, rfl, rfl, rfl, w2⟩ := open_int Try.underlying3 (hval 2 3 v2 rfl rfl) h2
  obtain ⟨a3, rfl, rfl, rfl, w3⟩ := open_int Try.underlying3 (hval 3 3 v3 rfl rfl) h3
  clear hA0 hval0
  simp only [List.append_nil] at hW'
  refine (walk a0 a1 a2 a3 w0 w1 w2 w3 W).mono fun e W' ⟨he, bel⟩ => ?_
  subst he
  exact ⟨_, rfl, _, _, _, [], [], [], hW', trodAll_mk1 (shut_bool Try.underlying4 _), (trodAll_cons_mk (shut_int Try.underlying22 w0) (trodAll_cons_mk (shut_int Try.underlying22 w1) (trodAll_cons_mk (shut_int Try.underlying3 w2) (trodAll_cons_mk (shut_int Try.underlying3 w3) trodAll_mk0)))), rfl, bel.frame _, fun h => by cases h⟩

theorem over : Rows.fnFillPrefixAndDrawsRow.holds Try.pinned (OpenSpec.ofChange Rows.fnFillPrefixAndDrawsSpec) :=
  OpenClaim.holds_of_wide 3 Try.f3 rfl rfl rfl rfl rfl rfl rfl ⟨rfl, rfl, rfl, rfl, rfl⟩ rfl rfl rfl rfl rfl (by kernel_rfl) Try.func3 (by kernel_rfl)
    (of_decide_eq_true (by kernel_rfl)) (by unfold Func.isWrapper; first | (rw [if_pos (by decide +kernel)]; kernel_rfl) | (rw [if_neg (by decide +kernel)]; exact ⟨rfl, rfl⟩))
    (fun os started H enc _ => lifted os started H enc)

/-- ████ THE STATEMENT ████ -/
theorem proved : Rows.FnFillPrefixAndDrawsSaid :=
  over
#print axioms proved
end Go.Proofs.Qxb6003685a.fnFillPrefixAndDraws
