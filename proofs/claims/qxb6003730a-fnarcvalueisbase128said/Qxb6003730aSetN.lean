import Derived.Test.Qxb6003730aSetA
namespace Go.Proofs.Qxb6003730a.SetB
open Go.RowKit Bytes Plain

set_option maxHeartbeats 400000 in
theorem setBytes0 (ab : Option Addr) (capb : Nat) (w : World) : Calls Try.prog 39 #[.slice none 0 0, .slice ab 0 capb] w fun e w' => e = .returned (.slice none 0 0) ∧ w' = w := by
  go_enter Try.func39, Try.ntmps39
  go_wp2_with fail
  refine (make0 _).mono ?_
  rintro e w' ⟨rfl, rfl⟩
  go_wp2
  go_loop [5, 6] (fun i _ => i = .int .i64 0) (fun _ _ => 0)
  case atStart => rfl
  case round =>
    subst hrel
    go_wp2_with fail
    refine (norm0 _).mono ?_
    rintro e w' ⟨rfl, rfl⟩
    go_wp2
    go_ret
    exact ⟨rfl, rfl⟩

/-- The words laid so far. -/
def wd (ws : List Int) (j : Nat) : Value := .int .u64 (ws.getD j 0)
theorem wd_start {w : World} {cap : Nat} : (w.alloc (.cells (madeCells #[.int .u64 0] cap) 57)).rowIs w.heap.size 57 cap (wd []) :=
  (World.rowIs_made w (.int .u64 0) cap 57).congr fun i _ => by simp [wd]
theorem wd_step {w : World} {g cap : Nat} {ws : List Int} {x : Int} (h : w.rowIs g 57 cap (wd ws)) : (w.setCell ⟨g, ws.length, none⟩ (.int .u64 x)).rowIs g 57 cap (wd (ws ++ [x])) := by
  refine (h.set ws.length _).congr fun j _ => ?_
  unfold wd
  by_cases e : j = ws.length
  · subst e; simp
  · by_cases e2 : j < ws.length
    · simp [e, List.getD, List.getElem?_append_left e2]
    · have e3 : ws.length + 1 ≤ j := by omega
      simp [e, List.getD, List.getElem?_eq_none (show ws.length ≤ j by omega), List.getElem?_eq_none (show (ws ++ [x]).length ≤ j by simp; omega)]

/-- What loop 1 has read: the last words of xs. -/
structure Got (xs : List Int) (i : Nat) (ws : List Int) : Prop where
  len : i + 8 * ws.length = xs.length
  digs : In 18446744073709551616 ws
  val : V ws = vb 256 0 (xs.drop i)

/-- The eight bytes ahead of place r. -/
def ch (xs : List Int) (r : Nat) : List Int := (xs.drop (r - 8)).take 8
theorem ch_len {xs : List Int} {r : Nat} (h8 : 8 ≤ r) (hr : r ≤ xs.length) : (ch xs r).length = 8 := by unfold ch; rw [List.length_take, List.length_drop]; omega
theorem ch_in {xs : List Int} {r : Nat} (h : In 256 xs) : In 256 (ch xs r) := (h.drop _).take _
theorem ch_get (xs : List Int) (r j : Nat) (hj : j < 8) : (ch xs r).getD j 0 = xs.getD (r - 8 + j) 0 := by
  unfold ch
  simp only [List.getD]
  rw [List.getElem?_take, if_pos hj, List.getElem?_drop]
theorem Got.step {xs : List Int} {r : Nat} {ws : List Int} (h : Got xs r ws) (h8 : 8 ≤ r) (hin : In 256 xs) : Got xs (r - 8) (ws ++ [vb 256 0 (ch xs r)]) := by
  have hl := h.len
  have c1 := ch_len h8 (by omega : r ≤ xs.length)
  refine ⟨by simp; omega, ?_, ?_⟩
  · intro d hd
    rcases List.mem_append.1 hd with hd | hd
    · exact h.digs d hd
    · simp at hd
      subst hd
      have h1 := vb_nonneg 256 (ch xs r) (by decide) (ch_in hin)
      have h2 := vb_lt 256 (ch xs r) (by decide) (ch_in hin)
      rw [c1] at h2
      exact ⟨h1, by omega⟩
  · have e : xs.drop (r - 8) = ch xs r ++ xs.drop r := by
      unfold ch
      have := (List.take_append_drop 8 (xs.drop (r - 8))).symm
      rwa [List.drop_drop, show r - 8 + 8 = r by omega] at this
    have hdl : (xs.drop r).length = 8 * ws.length := by rw [List.length_drop]; omega
    rw [e, vb_split, hdl, pow256, V_append, h.val]
    have e3 : V [vb 256 0 (ch xs r)] = vb 256 0 (ch xs r) := by simp [V]
    rw [e3, Int.mul_comm]
    omega

theorem pow2_256 (k : Nat) : (2 : Int) ^ (8 * k) = 256 ^ k := by rw [Int.pow_mul]; rfl
/-- One byte more of the topmost word, which is not full. -/
theorem part_step {xs : List Int} {r q : Nat} (hin : In 256 xs) (hr : r ≤ xs.length) (h8 : r < 8) (hq : q ≤ r) (h0 : 0 < q) :
    bits .or .u64 (vb 256 0 ((xs.take r).drop q)) (IntKind.u64.wrap (xs.getD (q - 1) 0 * 2 ^ (8 * (r - q)))) = vb 256 0 ((xs.take r).drop (q - 1)) := by
  have hI : In 256 ((xs.take r).drop q) := (hin.take _).drop _
  have e : (xs.take r).drop (q - 1) = xs.getD (q - 1) 0 :: (xs.take r).drop q := by
    have hl : q - 1 < (xs.take r).length := by rw [List.length_take]; omega
    rw [List.drop_eq_getElem_cons hl, Nat.sub_add_cancel h0]
    congr 1
    simp only [List.getElem_take, List.getD]
    rw [List.getElem?_eq_getElem (by omega)]
    rfl
  have hl : ((xs.take r).drop q).length = r - q := by rw [List.length_drop, List.length_take]; omega
  have h1 := vb_nonneg 256 _ (by decide) hI
  have h2 := vb_lt 256 _ (by decide) hI
  obtain ⟨x1, x2⟩ := hin.get (k := q - 1) (by omega)
  have ev : vb 256 0 ((xs.take r).drop (q - 1)) = xs.getD (q - 1) 0 * 256 ^ (r - q) + vb 256 0 ((xs.take r).drop q) := by
    rw [e, vb_cons, vb_lin, hl]
    simp
  rw [ev]
  rw [hl] at h2
  clear e ev
  generalize vb 256 0 ((xs.take r).drop q) = D at *
  generalize xs.getD (q - 1) 0 = X at *
  rw [← pow2_256] at h2 ⊢
  have hp : (1 : Int) ≤ 2 ^ (8 * (r - q)) := by
    have : 0 < 2 ^ (8 * (r - q)) := Nat.pow_pos (by decide)
    have e : ((2 ^ (8 * (r - q)) : Nat) : Int) = 2 ^ (8 * (r - q)) := by simp
    omega
  have hp2 : (2 : Int) ^ (8 * (r - q)) ≤ 281474976710656 := by
    have : 2 ^ (8 * (r - q)) ≤ 2 ^ 48 := Nat.pow_le_pow_right (by decide) (by omega)
    have e : ((2 ^ (8 * (r - q)) : Nat) : Int) = 2 ^ (8 * (r - q)) := by simp
    omega
  have g0 : 0 ≤ X * 2 ^ (8 * (r - q)) := Int.mul_nonneg x1 (by omega)
  have g1 : X * 2 ^ (8 * (r - q)) ≤ 255 * 281474976710656 := Int.mul_le_mul (by omega) hp2 (by omega) (by omega)
  rw [Word.wr64 _ g0 (by omega)]
  rw [Word.orj (8 * (r - q)) D _ h1 h2 g0 (Int.mul_emod_left _ _) (by omega) (by omega)]
theorem Got.last {xs : List Int} {r : Nat} {ws : List Int} (h : Got xs r ws) (h8 : r < 8) (hin : In 256 xs) : V (ws ++ [vb 256 0 (xs.take r)]) = vb 256 0 xs ∧ In 18446744073709551616 (ws ++ [vb 256 0 (xs.take r)]) := by
  have hl := h.len
  refine ⟨?_, ?_⟩
  · have hdl : (xs.drop r).length = 8 * ws.length := by rw [List.length_drop]; omega
    have e : vb 256 0 xs = vb 256 0 (xs.take r ++ xs.drop r) := by rw [List.take_append_drop]
    rw [e, vb_split, hdl, pow256, V_append, h.val]
    have e3 : V [vb 256 0 (xs.take r)] = vb 256 0 (xs.take r) := by simp [V]
    rw [e3, Int.mul_comm]
    omega
  · intro d hd
    rcases List.mem_append.1 hd with hd | hd
    · exact h.digs d hd
    · simp at hd
      subst hd
      have h1 := vb_nonneg 256 (xs.take r) (by decide) (hin.take r)
      have h2 := vb_lt 256 (xs.take r) (by decide) (hin.take r)
      have h3 : (256 : Int) ^ (xs.take r).length ≤ 256 ^ 8 := by
        have : 256 ^ (xs.take r).length ≤ 256 ^ 8 := Nat.pow_le_pow_right (by decide) (by rw [List.length_take]; omega)
        have e : ((256 ^ (xs.take r).length : Nat) : Int) = 256 ^ (xs.take r).length := by simp
        omega
      exact ⟨h1, by omega⟩

set_option maxRecDepth 100000 in
set_option maxHeartbeats 1000000 in
theorem setBytesN (b off M capb : Nat) (xs : List Int) (w : World) (hM : xs.length = M) (h1 : 1 ≤ M) (hm : M ≤ 65536) (hcap : M ≤ capb) (hb : b < w.heap.size) (hin : In 256 xs) (hc : ∀ j, j < M → w.cell? ⟨b, off + j, none⟩ = some (.int .u8 (xs.getD j 0))) :
    Calls Try.prog 39 #[.slice none 0 0, .slice (some ⟨b, off, none⟩) M capb] w fun e w' => ∃ m cap ws, e = .returned (.slice (some ⟨w.heap.size, 0, none⟩) m cap) ∧ ws.length = m ∧ m ≤ M ∧ In 18446744073709551616 ws ∧ Norm ws ∧ V ws = vb 256 0 xs ∧ (∀ j, j < m → w'.cell? ⟨w.heap.size, j, none⟩ = some (.int .u64 (ws.getD j 0))) ∧ Below w.heap.size w w' := by
  have HM : Hid (xs.length = M) := hM
  have HC : Hid (∀ j, j < M → w.cell? ⟨b, off + j, none⟩ = some (.int .u8 (xs.getD j 0))) := hc
  clear hM hc
  go_enter Try.func39, Try.ntmps39
  go_wp2_with fail
  obtain ⟨N, hN⟩ : ∃ N : Nat, ((M : Int) + 8 - 1) / 8 = N := ⟨(M + 7) / 8, by omega⟩
  have n1 : M ≤ 8 * N := by omega
  have n2 : 8 * N ≤ M + 7 := by omega
  rw [hN]
  clear hN
  refine (make N _ (by omega) (by omega)).mono ?_
  rintro e w' ⟨cap, c1, c2, rfl, rfl⟩
  go_wp2
  go_loopw [5, 6] (fun i k wr => ∃ (r : Nat) (ws : List Int), Got xs r ws ∧ i = .int .i64 r ∧ k = .int .i64 ws.length ∧ wr.rowIs w.heap.size 57 cap (wd ws) ∧ Below w.heap.size w wr) (fun i _ _ => (intOf i).toNat)
  case atStart => exact ⟨M, [], ⟨by rw [HM.out]; rfl, fun _ h => by simp at h, by rw [List.drop_of_length_le (by rw [HM.out]; exact Nat.le_refl _)]; rfl⟩, rfl, rfl, wd_start, (Below.refl _ _).alloc (Nat.le_refl _) _⟩
  case round =>
    obtain ⟨r, ws, hgot, rfl, rfl, hrow, hbel⟩ := hrel
    have hlen := hgot.len
    rw [HM.out] at hlen
    have HLEN : Hid (r + 8 * ws.length = M) := hlen
    have l1 : r ≤ M := by omega
    by_cases h8 : 8 ≤ r
    · have l2 : ws.length < N := by omega
      obtain ⟨v, q1⟩ : ∃ v : Int, wr.cell? ⟨w.heap.size, ws.length, none⟩ = some (.int .u64 v) := ⟨_, hrow.cell (by omega)⟩
      have q2 := hrow.frozen ws.length
      clear hlen
      have hS := hgot.step h8 hin
      have hxl : r ≤ xs.length := by rw [HM.out]; exact l1
      have hcc : Hid (∀ j, j < 8 → wr.cell? ⟨b, off + (r - 8) + j, none⟩ = some (.int .u8 ((ch xs r).getD j 0))) := fun j hj => by
        rw [ch_get xs r j hj, hbel.cell (p := ⟨b, off + (r - 8) + j, none⟩) hb, Nat.add_assoc]
        exact HC.out (r - 8 + j) (by omega)
      go_wp2_with fail
      rw [show r - (r - 8) = 8 by omega]
      refine (Word.word b (off + (r - 8)) (capb - (r - 8)) (ch xs r) wr (ch_len h8 hxl) (ch_in hin) hcc.out).mono ?_
      rintro e w1 ⟨rfl, nd, rfl⟩
      generalize vb 256 0 (ch xs r) = D at *
      have hrow' : (wr.drewN nd).rowIs w.heap.size 57 cap (wd ws) := hrow
      have hbel' : Below w.heap.size w (wr.drewN nd) := ⟨hbel.os, hbel.tape, hbel.output, hbel.size, hbel.block⟩
      have R := wd_step (x := D) hrow'
      go_wp2
      go_roundw
      case rel => exact ⟨r - 8, ws ++ [D], hS, by go_num, by simp, R, hbel'.setCell (Nat.le_refl _) _⟩
      case measure => simp [intOf]; omega
    · have hr8 : r < 8 := by omega
      by_cases hr0 : 0 < r
      · go_wp2
        go_loop [5, 7, 8] (fun i d s => ∃ q : Nat, q ≤ r ∧ i = .int .i64 q ∧ d = .int .u64 (vb 256 0 ((xs.take r).drop q)) ∧ s = .int .u64 (8 * (r - q) : Nat)) (fun i _ _ => (intOf i).toNat)
        case atStart => exact ⟨r, Nat.le_refl _, rfl, by rw [List.drop_of_length_le (by rw [List.length_take]; omega)]; rfl, by simp⟩
        case round =>
          obtain ⟨q, hq, rfl, rfl, rfl⟩ := hrel
          by_cases hq0 : 0 < q
          · have c := (hbel.cell (p := ⟨b, off + (q - 1), none⟩) hb).trans (HC.out (q - 1) (by omega))
            have HS : Hid (bits .or .u64 (vb 256 0 ((xs.take r).drop q)) (IntKind.u64.wrap (xs.getD (q - 1) 0 * 2 ^ (8 * (r - q)))) = vb 256 0 ((xs.take r).drop (q - 1))) := part_step hin (by rw [HM.out]; exact l1) hr8 hq hq0
            obtain ⟨x1, x2⟩ := hin.get (k := q - 1) (by rw [HM.out]; omega)
            generalize vb 256 0 ((xs.take r).drop q) = D at *
            generalize xs.getD (q - 1) 0 = X at *
            go_wp2
            go_round
            case rel => exact ⟨q - 1, by omega, by go_num, by rw [HS.out], by go_num⟩
            case measure => simp [intOf]; omega
          · obtain rfl : q = 0 := by omega
            have hwl : ws.length = N - 1 := by omega
            have hLast := hgot.last hr8 hin
            rw [List.drop_zero]
            generalize vb 256 0 (xs.take r) = D at *
            obtain ⟨v, q1⟩ : ∃ v : Int, wr.cell? ⟨w.heap.size, N - 1, none⟩ = some (.int .u64 v) := ⟨_, hrow.cell (by omega)⟩
            have q2 := hrow.frozen (N - 1)
            have R : (wr.setCell ⟨w.heap.size, N - 1, none⟩ (.int .u64 D)).rowIs w.heap.size 57 cap (wd (ws ++ [D])) := by rw [← hwl]; exact wd_step hrow
            have hN1 : 1 ≤ N := by omega
            have HWL : Hid (ws.length = N - 1) := hwl
            clear hwl hlen hgot
            go_wp2_with fail
            refine (norm w.heap.size N cap (ws ++ [D]) _ (by have := HWL.out; simp; omega) (by omega) c1 (by omega) hLast.2 (fun j hj => R.cell (by omega))).mono ?_
            rintro e w' ⟨m, hm', rfl, hN, hV, rfl⟩
            have hLen : (ws ++ [D]).length = N := by have := HWL.out; simp; omega
            have R1 : ((ws ++ [D]).take m).length = m := by rw [List.length_take, hLen]; omega
            have R2 : ∀ j, j < m → (wr.setCell ⟨w.heap.size, N - 1, none⟩ (.int .u64 D)).cell? ⟨w.heap.size, j, none⟩ = some (.int .u64 (((ws ++ [D]).take m).getD j 0)) := fun j hj => by
              rw [R.cell (i := j) (by omega)]
              simp only [wd, List.getD]
              rw [List.getElem?_take, if_pos hj]
            go_wp2
            go_ret
            exact ⟨m, cap, (ws ++ [D]).take m, rfl, R1, by omega, hLast.2.take m, hN, hV.trans hLast.1, R2, hbel.setCell (Nat.le_refl _) _⟩
      · obtain rfl : r = 0 := by omega
        have hwl : ws.length = N := by omega
        have hd := hgot.digs
        have hv := hgot.val
        clear hgot hlen
        go_wp2_with fail
        refine (norm w.heap.size N cap ws wr hwl (by omega) c1 (by omega) hd (fun j hj => hrow.cell (by omega))).mono ?_
        rintro e w' ⟨m, hm', rfl, hN, hV, rfl⟩
        have R : (ws.take m).length = m := by rw [List.length_take]; omega
        have R2 : ∀ j, j < m → w'.cell? ⟨w.heap.size, j, none⟩ = some (.int .u64 ((ws.take m).getD j 0)) := fun j hj => by
          rw [hrow.cell (i := j) (by omega)]
          simp only [wd, List.getD]
          rw [List.getElem?_take, if_pos hj]
        go_wp2
        go_ret
        exact ⟨m, cap, ws.take m, rfl, R, by omega, hd.take m, hN, hV.trans (by simpa using hv), R2, hbel⟩
end Go.Proofs.Qxb6003730a.SetB
