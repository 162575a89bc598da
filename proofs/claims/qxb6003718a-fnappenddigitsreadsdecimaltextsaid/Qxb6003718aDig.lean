import Derived.Laws.BytesArg
import Derived.Laws.Concat
namespace Go.Proofs.Qxb6003718a.Dig
open Go

/-- The bytes of a string, as numbers. -/
def bl (s : ByteArray) : List Int := s.data.toList.map fun b => (b.toNat : Int)
theorem bl_length (s : ByteArray) : (bl s).length = s.size := by simp only [bl, List.length_map, Array.length_toList]; rfl
theorem bl_get (s : ByteArray) (k : Nat) (h : k < s.size) : (bl s)[k]? = some (s[k].toNat : Int) := by
  have h' : k < s.data.toList.length := by simpa using h
  simp only [bl, List.getElem?_map, List.getElem?_eq_getElem h', Option.map_some]
  rfl
theorem bl_snoc (s : ByteArray) (k : Nat) (h : k < s.size) : (bl s).take (k + 1) = (bl s).take k ++ [(s[k].toNat : Int)] := by
  have h' : k < (bl s).length := by rw [bl_length]; exact h
  have e := bl_get s k h
  rw [List.getElem?_eq_getElem h'] at e
  rw [List.take_succ_eq_append_getElem h']
  simp at e
  rw [e]
theorem bl_append (a b : ByteArray) : bl (a ++ b) = bl a ++ bl b := by simp [bl, ByteArray.data_append]

/-- c, followed by the digits. -/
def hor (c : Int) (l : List Int) : Int := l.foldl (fun x b => x * 10 + (b - 48)) c
def Digs (l : List Int) : Prop := ∀ b, b ∈ l → 48 ≤ b ∧ b ≤ 57
theorem hor_append (c : Int) (a b : List Int) : hor c (a ++ b) = hor (hor c a) b := by simp [hor]
theorem hor_snoc (c : Int) (a : List Int) (b : Int) : hor c (a ++ [b]) = hor c a * 10 + (b - 48) := by simp [hor]
theorem hor_ge (c : Int) (l : List Int) (hc : 0 ≤ c) (h : Digs l) : c ≤ hor c l := by
  induction l generalizing c with
  | nil => simp [hor]
  | cons b l ih =>
    have hb := h b (by simp)
    have := ih (c * 10 + (b - 48)) (by omega) (fun x hx => h x (by simp [hx]))
    show c ≤ hor (c * 10 + (b - 48)) l
    omega
theorem Digs.take {l : List Int} (h : Digs l) (k : Nat) : Digs (l.take k) := fun b hb => h b (List.mem_of_mem_take hb)
theorem Digs.drop {l : List Int} (h : Digs l) (k : Nat) : Digs (l.drop k) := fun b hb => h b (List.mem_of_mem_drop hb)
theorem hor_take (c : Int) (l : List Int) (hc : 0 ≤ c) (h : Digs l) (k : Nat) : 0 ≤ hor c (l.take k) ∧ hor c (l.take k) ≤ hor c l := by
  have h1 := hor_ge c (l.take k) hc (h.take k)
  have h2 := hor_ge (hor c (l.take k)) (l.drop k) (by omega) (h.drop k)
  rw [← hor_append, List.take_append_drop] at h2
  exact ⟨by omega, h2⟩
theorem hor_lin (c : Int) (l : List Int) : hor c l = c * 10 ^ l.length + hor 0 l := by
  induction l generalizing c with
  | nil => simp [hor]
  | cons b l ih =>
    have h1 := ih (c * 10 + (b - 48))
    have h2 := ih (0 * 10 + (b - 48))
    have h3 : hor c (b :: l) = hor (c * 10 + (b - 48)) l := rfl
    have h4 : hor 0 (b :: l) = hor (0 * 10 + (b - 48)) l := rfl
    rw [h3, h4, h1, h2, List.length_cons, Int.pow_succ]
    rw [Int.add_mul, Int.add_mul, Int.mul_assoc, Int.mul_comm 10]
    omega
theorem hor_cons (c b : Int) (l : List Int) : hor c (b :: l) = hor (c * 10 + (b - 48)) l := rfl
end Go.Proofs.Qxb6003718a.Dig
