import Derived.Test.Qxb6003730aWord
import Derived.Test.Qxb6003730aWords
namespace Go.Proofs.Qxb6003730a.SetB
open Go.RowKit Bytes Plain

theorem info57 : (Try.prog.info? 57).map (fun i => (i.zero, i.size, i.bytes)) = some (some (.int .u64 0), 1, 8) := by kernel_rfl

theorem make0 (w : World) : Calls Try.prog 42 #[.slice none 0 0, .int .i64 0] w fun e w' => e = .returned (.slice none 0 0) ∧ w' = w := by
  go_enter Try.func42, Try.ntmps42
  go_wp2
  go_ret
  exact ⟨rfl, rfl⟩
theorem make1 (w : World) : Calls Try.prog 42 #[.slice none 0 0, .int .i64 1] w fun e w' => e = .returned (.slice (some ⟨w.heap.size, 0, none⟩) 1 1) ∧ w' = w.alloc (.cells (madeCells #[.int .u64 0] 1) 57) := by
  have mk : ∀ w, (Instr.makeSlice 48 (.int .i64 1) (.int .i64 1)).run Try.prog w = .ok (.slice (some ⟨w.heap.size, 0, none⟩) 1 1) (w.alloc (.cells (madeCells #[.int .u64 0] 1) 57)) := fun w => run_make_row' (P := Try.prog) 48 57 (.int .u64 0) 8 Try.underlying48 info57 rfl .i64 .i64 1 (by omega) (by omega) w
  go_enter Try.func42, Try.ntmps42
  go_wp2
  go_ret
  exact ⟨rfl, rfl⟩
theorem makeN (n : Nat) (w : World) (h2 : 2 ≤ n) (hn : n ≤ 65536) : Calls Try.prog 42 #[.slice none 0 0, .int .i64 n] w fun e w' => e = .returned (.slice (some ⟨w.heap.size, 0, none⟩) n (n + 4)) ∧ w' = w.alloc (.cells (madeCells #[.int .u64 0] (n + 4)) 57) := by
  have n1 : ((n : Int) == 1) = false := by rw [beq_eq_false_iff_ne]; omega
  have n2 : ¬ (n : Int) ≤ 0 := by omega
  obtain ⟨i0, hi, hz0, hz1, hz2⟩ := info_parts info57
  have mk : ∀ w, (Instr.makeSlice 48 (.int .i64 n) (.int .i64 ((n : Int) + 4))).run Try.prog w = .ok (.slice (some ⟨w.heap.size, 0, none⟩) n (n + 4)) (w.alloc (.cells (madeCells #[.int .u64 0] (n + 4)) 57)) := fun w => by
    have := run_make (P := Try.prog) w 48 57 i0 (.int .u64 0) Try.underlying48 hi hz0 .i64 .i64 n ((n : Int) + 4) (by omega) (by omega) (by rw [hz2]; omega) (by omega)
    rw [this]
    have e : ((n : Int) + 4).toNat = n + 4 := by omega
    rw [e, hz1]
    simp
    rfl
  go_enter Try.func42, Try.ntmps42
  go_wp2
  go_ret
  exact ⟨rfl, rfl⟩
/-- (nat).make at nil and at least one word. -/
theorem make (n : Nat) (w : World) (h1 : 1 ≤ n) (hn : n ≤ 65536) : Calls Try.prog 42 #[.slice none 0 0, .int .i64 n] w fun e w' => ∃ cap, n ≤ cap ∧ cap ≤ n + 4 ∧ e = .returned (.slice (some ⟨w.heap.size, 0, none⟩) n cap) ∧ w' = w.alloc (.cells (madeCells #[.int .u64 0] cap) 57) := by
  by_cases h : n = 1
  · subst h
    refine (make1 w).mono ?_
    rintro e w' ⟨rfl, rfl⟩
    exact ⟨1, by omega, by omega, rfl, rfl⟩
  · refine (makeN n w (by omega) hn).mono ?_
    rintro e w' ⟨rfl, rfl⟩
    exact ⟨n + 4, by omega, by omega, rfl, rfl⟩

theorem norm0 (w : World) : Calls Try.prog 44 #[.slice none 0 0] w fun e w' => e = .returned (.slice none 0 0) ∧ w' = w := by
  go_enter Try.func44, Try.ntmps44
  go_wp2
  go_loop [3] (fun i => i = .int .i64 0) (fun _ => 0)
  case atStart => rfl
  case round =>
    subst hrel
    go_wp2
    go_ret
    exact ⟨rfl, rfl⟩

set_option maxHeartbeats 400000 in
theorem norm (g n cap : Nat) (ws : List Int) (w : World) (hl : ws.length = n) (hn : n ≤ 65536) (hcap : n ≤ cap) (hpos : 0 < n) (hin : In 18446744073709551616 ws) (hc : ∀ j, j < n → w.cell? ⟨g, j, none⟩ = some (.int .u64 (ws.getD j 0))) :
    Calls Try.prog 44 #[.slice (some ⟨g, 0, none⟩) n cap] w fun e w' => ∃ m, m ≤ n ∧ e = .returned (.slice (some ⟨g, 0, none⟩) m cap) ∧ Norm (ws.take m) ∧ V (ws.take m) = V ws ∧ w' = w := by
  have HL : Hid (ws.length = n) := hl
  have HC : Hid (∀ j, j < n → w.cell? ⟨g, j, none⟩ = some (.int .u64 (ws.getD j 0))) := hc
  clear hl hc
  go_enter Try.func44, Try.ntmps44
  go_wp2
  go_loop [3] (fun i => ∃ m : Nat, m ≤ n ∧ i = .int .i64 m ∧ V (ws.take m) = V ws) (fun i => (intOf i).toNat)
  case atStart => exact ⟨n, Nat.le_refl _, rfl, by rw [List.take_of_length_le (by rw [HL.out]; exact Nat.le_refl _)]⟩
  case round =>
    obtain ⟨m, hm, rfl, hv⟩ := hrel
    have HV : Hid (V (ws.take m) = V ws) := hv
    clear hv
    by_cases h0 : 0 < m
    · have q := HC.out (m - 1) (by omega)
      by_cases hz : ws.getD (m - 1) 0 = 0
      · rw [hz] at q
        have HV' : Hid (V (ws.take (m - 1)) = V ws) := by
          have e := take_snoc ws (k := m - 1) (by rw [HL.out]; omega)
          rw [Nat.sub_add_cancel h0, hz] at e
          rw [← HV.out, e, V_append]
          simp [V, Hid]
        clear hz
        go_wp2
        go_round
        case rel => exact ⟨m - 1, by omega, by go_num, HV'.out⟩
        case measure => simp [intOf]; omega
      · have hz' : (ws.getD (m - 1) 0 == 0) = false := by simpa using hz
        have hN : Norm (ws.take m) := by
          intro _
          rw [List.length_take, HL.out, Nat.min_eq_left hm]
          have e : (ws.take m).getD (m - 1) 0 = ws.getD (m - 1) 0 := by
            simp only [List.getD]
            rw [List.getElem?_take, if_pos (by omega)]
          rw [e]
          have := (hin.get (k := m - 1) (by rw [HL.out]; omega)).1
          omega
        clear hz
        generalize ws.getD (m - 1) 0 = D at *
        go_wp2
        go_ret
        exact ⟨m, hm, rfl, hN, HV.out, rfl⟩
    · obtain rfl : m = 0 := by omega
      go_wp2
      go_ret
      exact ⟨0, by omega, rfl, fun h => by simp at h, HV.out, rfl⟩
end Go.Proofs.Qxb6003730a.SetB
