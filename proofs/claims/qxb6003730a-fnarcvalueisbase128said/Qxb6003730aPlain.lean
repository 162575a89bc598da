import Derived.Laws.BitsAllLaws
namespace Go.Proofs.Qxb6003730a.Plain
open Go

/-- c, followed by the digits l in base β. -/
def vb (β c : Int) (l : List Int) : Int := l.foldl (fun x d => x * β + d) c
def In (β : Int) (l : List Int) : Prop := ∀ d, d ∈ l → 0 ≤ d ∧ d < β
theorem vb_nil (β c : Int) : vb β c [] = c := rfl
theorem vb_cons (β c d : Int) (l : List Int) : vb β c (d :: l) = vb β (c * β + d) l := rfl
theorem vb_append (β c : Int) (a b : List Int) : vb β c (a ++ b) = vb β (vb β c a) b := by simp [vb]
theorem vb_snoc (β c : Int) (a : List Int) (d : Int) : vb β c (a ++ [d]) = vb β c a * β + d := by simp [vb]
theorem vb_lin (β c : Int) (l : List Int) : vb β c l = c * β ^ l.length + vb β 0 l := by
  induction l generalizing c with
  | nil => simp [vb]
  | cons d l ih =>
    have h1 := ih (c * β + d)
    have h2 := ih (0 * β + d)
    rw [vb_cons, vb_cons, h1, h2, List.length_cons, Int.pow_succ]
    rw [Int.add_mul, Int.add_mul, Int.mul_assoc, Int.mul_comm β]
    simp only [Int.zero_mul]
    omega
theorem vb_ge (β c : Int) (l : List Int) (hβ : 1 ≤ β) (hc : 0 ≤ c) (h : In β l) : c ≤ vb β c l := by
  induction l generalizing c with
  | nil => simp [vb]
  | cons d l ih =>
    obtain ⟨h1, h2⟩ := h d (by simp)
    have h3 : c * 1 ≤ c * β := Int.mul_le_mul_of_nonneg_left hβ hc
    have := ih (c * β + d) (by omega) (fun x hx => h x (by simp [hx]))
    rw [vb_cons]
    omega
theorem vb_nonneg (β : Int) (l : List Int) (hβ : 1 ≤ β) (h : In β l) : 0 ≤ vb β 0 l := vb_ge β 0 l hβ (Int.le_refl 0) h
theorem In.take {β : Int} {l : List Int} (h : In β l) (k : Nat) : In β (l.take k) := fun b hb => h b (List.mem_of_mem_take hb)
theorem In.drop {β : Int} {l : List Int} (h : In β l) (k : Nat) : In β (l.drop k) := fun b hb => h b (List.mem_of_mem_drop hb)
theorem In.cons {β d : Int} {l : List Int} (h : In β l) (h0 : 0 ≤ d) (h1 : d < β) : In β (d :: l) := by
  intro x hx
  rcases List.mem_cons.1 hx with rfl | hx
  · exact ⟨h0, h1⟩
  · exact h x hx
theorem In.get {β : Int} {l : List Int} (h : In β l) {k : Nat} (hk : k < l.length) : 0 ≤ l.getD k 0 ∧ l.getD k 0 < β := by
  have e : l.getD k 0 = l[k] := by simp [List.getD, List.getElem?_eq_getElem hk]
  rw [e]
  exact h _ (List.getElem_mem hk)
theorem take_snoc (l : List Int) {k : Nat} (hk : k < l.length) : l.take (k + 1) = l.take k ++ [l.getD k 0] := by
  rw [List.take_succ_eq_append_getElem hk]
  simp [List.getD, List.getElem?_eq_getElem hk]
theorem vb_take (β : Int) (l : List Int) (hβ : 1 ≤ β) (h : In β l) (k : Nat) : 0 ≤ vb β 0 (l.take k) ∧ vb β 0 (l.take k) ≤ vb β 0 l := by
  have h1 := vb_nonneg β (l.take k) hβ (h.take k)
  have h2 := vb_ge β (vb β 0 (l.take k)) (l.drop k) hβ h1 (h.drop k)
  rw [← vb_append, List.take_append_drop] at h2
  exact ⟨h1, h2⟩

/-- 'acc' are the low digits of n, m is what is left. -/
structure Mid (β n m : Nat) (acc : List Int) : Prop where
  digs : In β acc
  val : (m : Int) * (β : Int) ^ acc.length + vb β 0 acc = n
theorem Mid.start (β n : Nat) : Mid β n n [] := ⟨fun _ h => by simp at h, by simp [vb]⟩
theorem Mid.step {β n m : Nat} {acc : List Int} (h : Mid β n m acc) (hβ : 0 < β) : Mid β n (m / β) ((m : Int) % (β : Int) :: acc) := by
  have hb : (0 : Int) < β := by omega
  refine ⟨h.digs.cons (Int.emod_nonneg _ (by omega)) (Int.emod_lt_of_pos _ hb), ?_⟩
  have h1 := h.val
  rw [vb_cons, vb_lin, List.length_cons, Int.pow_succ, ← h1]
  have e : (m : Int) = ((m / β : Nat) : Int) * β + (m : Int) % β := by
    have := Int.mul_ediv_add_emod (m : Int) β
    rw [Int.mul_comm] at this
    simpa using this.symm
  generalize (β : Int) ^ acc.length = q
  generalize vb β 0 acc = r
  generalize ((m / β : Nat) : Int) = u at *
  generalize (m : Int) % β = v at *
  rw [e]
  simp only [Int.zero_mul, Int.zero_add, Int.add_mul, Int.mul_assoc]
  rw [Int.mul_comm q β]
  omega
/-- What is left is at least 1: so many digits fit below. -/
theorem Mid.pow_le {β n m : Nat} {acc : List Int} (h : Mid β n m acc) (hβ : 0 < β) (hm : 0 < m) : β ^ acc.length ≤ n := by
  have h1 := h.val
  have h2 := vb_nonneg β acc (by omega) h.digs
  have h3 : (0 : Int) ≤ (β : Int) ^ acc.length := by
    have : ((β ^ acc.length : Nat) : Int) = (β : Int) ^ acc.length := by simp
    omega
  have h4 : 1 * (β : Int) ^ acc.length ≤ (m : Int) * (β : Int) ^ acc.length := Int.mul_le_mul_of_nonneg_right (by omega) h3
  have h5 : ((β ^ acc.length : Nat) : Int) = (β : Int) ^ acc.length := by simp
  omega
theorem len_of_pow {β k n len : Nat} (h : β ^ len ≤ n) (hn : n < β ^ (k + 1)) (hβ : 1 < β) : len ≤ k := by
  rcases Nat.lt_or_ge k len with h1 | h1
  · have h2 : β ^ (k + 1) ≤ β ^ len := Nat.pow_le_pow_right (by omega) h1
    omega
  · exact h1
theorem Mid.le {β n m : Nat} {acc : List Int} (h : Mid β n m acc) (hβ : 0 < β) : m ≤ n := by
  have h1 := h.val
  have h2 := vb_nonneg β acc (by omega) h.digs
  have h5 : ((β ^ acc.length : Nat) : Int) = (β : Int) ^ acc.length := by simp
  have h6 : 0 < β ^ acc.length := Nat.pow_pos hβ
  have h7 : (m : Int) * 1 ≤ (m : Int) * (β : Int) ^ acc.length := Int.mul_le_mul_of_nonneg_left (by omega) (by omega)
  omega
theorem Mid.done {β n : Nat} {acc : List Int} (h : Mid β n 0 acc) : vb β 0 acc = n := by simpa using h.val
end Go.Proofs.Qxb6003730a.Plain
