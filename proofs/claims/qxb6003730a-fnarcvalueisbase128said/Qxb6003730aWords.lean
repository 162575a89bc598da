import Derived.Test.Qxb6003730aPlain
namespace Go.Proofs.Qxb6003730a.Plain

/-! ### Words, the lowest first -/
def V (ws : List Int) : Int := ws.foldr (fun x a => x + 18446744073709551616 * a) 0
theorem V_nil : V [] = 0 := rfl
theorem V_cons (x : Int) (ws : List Int) : V (x :: ws) = x + 18446744073709551616 * V ws := rfl
theorem V_append (a b : List Int) : V (a ++ b) = V a + 18446744073709551616 ^ a.length * V b := by
  induction a with
  | nil => simp [V_nil]
  | cons x a ih =>
    rw [List.cons_append, V_cons, V_cons, ih, List.length_cons, Int.pow_succ, Int.mul_add, Int.mul_comm (18446744073709551616 ^ a.length) 18446744073709551616, Int.mul_assoc]
    omega
theorem V_nonneg (ws : List Int) (h : In 18446744073709551616 ws) : 0 ≤ V ws := by
  induction ws with
  | nil => simp [V_nil]
  | cons x ws ih =>
    have h1 := h x (by simp)
    have h2 := ih (fun y hy => h y (by simp [hy]))
    rw [V_cons]
    omega
/-- No zero word at the top. -/
def Norm (ws : List Int) : Prop := 0 < ws.length → 1 ≤ ws.getD (ws.length - 1) 0
theorem V_top (ws : List Int) (h : In 18446744073709551616 ws) (hl : 0 < ws.length) : ws.getD (ws.length - 1) 0 * 18446744073709551616 ^ (ws.length - 1) ≤ V ws := by
  have e : ws = ws.take (ws.length - 1) ++ [ws.getD (ws.length - 1) 0] := by
    rw [← take_snoc ws (k := ws.length - 1) (by omega), Nat.sub_add_cancel hl, List.take_length]
  have h1 := V_nonneg (ws.take (ws.length - 1)) (h.take _)
  have h2 : V ws = V (ws.take (ws.length - 1)) + 18446744073709551616 ^ (ws.take (ws.length - 1)).length * V [ws.getD (ws.length - 1) 0] := by
    rw [← V_append, ← e]
  rw [List.length_take, Nat.min_eq_left (by omega)] at h2
  have h3 : V [ws.getD (ws.length - 1) 0] = ws.getD (ws.length - 1) 0 := by simp [V]
  rw [h3, Int.mul_comm] at h2
  omega
theorem V_pos (ws : List Int) (h : In 18446744073709551616 ws) (hn : Norm ws) (hl : 0 < ws.length) : 1 ≤ V ws := by
  have h1 := V_top ws h hl
  have h2 := hn hl
  have h3 : (1 : Int) ≤ 18446744073709551616 ^ (ws.length - 1) := by
    have : 0 < 18446744073709551616 ^ (ws.length - 1) := Nat.pow_pos (by decide)
    have e : ((18446744073709551616 ^ (ws.length - 1) : Nat) : Int) = 18446744073709551616 ^ (ws.length - 1) := by simp
    omega
  have h4 : 1 * 18446744073709551616 ^ (ws.length - 1) ≤ ws.getD (ws.length - 1) 0 * 18446744073709551616 ^ (ws.length - 1) := Int.mul_le_mul_of_nonneg_right h2 (by omega)
  omega
theorem Norm.tail {x : Int} {ws : List Int} (h : Norm (x :: ws)) : Norm ws := by
  intro hl
  have := h (by simp)
  simp only [List.length_cons, Nat.add_sub_cancel] at this
  obtain ⟨n, hn⟩ : ∃ n, ws.length = n + 1 := ⟨ws.length - 1, by omega⟩
  rw [hn] at this ⊢
  simpa using this
/-- One number, one row of words. -/
theorem V_inj (a b : List Int) (ha : In 18446744073709551616 a) (hb : In 18446744073709551616 b) (na : Norm a) (nb : Norm b) (h : V a = V b) : a = b := by
  induction a generalizing b with
  | nil =>
    cases b with
    | nil => rfl
    | cons y b =>
      have := V_pos (y :: b) hb nb (by simp)
      rw [V_nil] at h
      omega
  | cons x a ih =>
    cases b with
    | nil =>
      have := V_pos (x :: a) ha na (by simp)
      rw [V_nil] at h
      omega
    | cons y b =>
      have h1 := ha x (by simp)
      have h2 := hb y (by simp)
      rw [V_cons, V_cons] at h
      have e1 : x = y := by omega
      have e2 : V a = V b := by omega
      rw [e1, ih b (fun z hz => ha z (by simp [hz])) (fun z hz => hb z (by simp [hz])) na.tail nb.tail e2]

theorem pow256 (k : Nat) : (256 : Int) ^ (8 * k) = 18446744073709551616 ^ k := by rw [Int.pow_mul]; rfl
theorem vb_split (β : Int) (a b : List Int) : vb β 0 (a ++ b) = vb β 0 a * β ^ b.length + vb β 0 b := by rw [vb_append, vb_lin]
theorem vb_lt (β : Int) (l : List Int) (hβ : 1 ≤ β) (h : In β l) : vb β 0 l < β ^ l.length := by
  induction l with
  | nil => simp [vb]
  | cons d l ih =>
    obtain ⟨h1, h2⟩ := h d (by simp)
    have h3 := ih (fun x hx => h x (by simp [hx]))
    have h4 := vb_nonneg β l hβ (fun x hx => h x (by simp [hx]))
    rw [vb_cons, vb_lin, List.length_cons, Int.pow_succ, Int.zero_mul, Int.zero_add]
    have h5 : (d + 1) * β ^ l.length ≤ β * β ^ l.length := Int.mul_le_mul_of_nonneg_right (by omega) (by omega)
    rw [Int.add_mul, Int.one_mul] at h5
    rw [Int.mul_comm (β ^ l.length) β]
    omega
theorem vb_zero (β : Int) (n : Nat) : vb β 0 (List.replicate n 0) = 0 := by
  induction n with
  | zero => rfl
  | succ n ih => rw [List.replicate_succ, vb_cons]; simpa using ih
end Go.Proofs.Qxb6003730a.Plain
