import Derived.Test.Qxb6003730aSetB
import Derived.Lib.Strings
import Derived.Lib.Slices
import Derived.Lib.Small
import Derived.Lib.Walk
import Derived.Lib.BitFns
namespace Go.Proofs.Qxb6003730a.Big
open Go.RowKit Bytes Plain SetB

set_option maxRecDepth 100000 in
theorem tabF : ∀ y : Fin 256, (Lib.len8tab.data.toList.getD y.val 0).toNat = Lib.bitLen y.val := by decide +kernel
set_option maxRecDepth 100000 in
theorem tab (y : Nat) (h : y < Lib.len8tab.size) : (Lib.len8tab[y].toNat : Int) = (Lib.bitLen y : Int) := by
  have hsz : Lib.len8tab.size = 256 := by decide
  have := tabF ⟨y, by omega⟩
  simp only at this
  have h' : y < Lib.len8tab.data.toList.length := by simpa using h
  have e : Lib.len8tab.data.toList.getD y 0 = Lib.len8tab[y] := by
    simp only [List.getD, List.getElem?_eq_getElem h', Option.getD_some]
    rfl
  rw [e] at this
  omega
theorem way (k : Nat) (x y : Int) (hy : 0 ≤ y) (hy2 : y < 256) (hk : k ≤ 56) (h : y.toNat < Lib.len8tab.size) (hs : Lib.bitLen x.toNat = k + Lib.bitLen y.toNat) : wrap64 ((k : Int) + wrap64 (Lib.len8tab[y.toNat].toNat : Int)) = (Lib.bitLen x.toNat : Int) := by
  have l := Lib.bitLen_le8' y hy (by omega)
  rw [tab _ h, hs]
  unfold wrap64
  omega
theorem way0 (x : Int) (hx : 0 ≤ x) (hx2 : x < 256) (h : x.toNat < Lib.len8tab.size) : wrap64 (wrap64 (Lib.len8tab[x.toNat].toNat : Int)) = (Lib.bitLen x.toNat : Int) := by
  have l := Lib.bitLen_le8' x hx (by omega)
  rw [tab _ h]
  unfold wrap64
  omega

set_option maxHeartbeats 4000000 in
set_option maxRecDepth 100000 in
theorem len64 (x : Int) (w : World) (h0 : 0 ≤ x) (h1 : x ≤ 18446744073709551615) :
    Calls Try.prog 41 #[.int .u64 x] w fun e w' => e = .returned (.int .i64 (Lib.bitLen x.toNat)) ∧ w' = w := by
  have hsz : Lib.len8tab.size = 256 := by decide
  go_enter Try.func41, Try.ntmps41
  go_wp2
  all_goals (go_ret; refine ⟨congrArg Ending.returned (congrArg (Value.int IntKind.i64) ?_), rfl⟩)
  all_goals first
    | exact way0 x h0 (by omega) _
    | (refine way 56 x (x / 4294967296 / 65536 / 256) (by omega) (by omega) (by omega) _ ?_
       have e : (x / 4294967296 / 65536 / 256).toNat = x.toNat / 72057594037927936 := by omega
       rw [e]
       exact Lib.bitLen_shift56 x.toNat (by omega) (by omega))
    | (refine way 48 x (x / 4294967296 / 65536) (by omega) (by omega) (by omega) _ ?_
       have e : (x / 4294967296 / 65536).toNat = x.toNat / 281474976710656 := by omega
       rw [e]
       exact Lib.bitLen_shift48 x.toNat (by omega) (by omega))
    | (refine way 40 x (x / 4294967296 / 256) (by omega) (by omega) (by omega) _ ?_
       have e : (x / 4294967296 / 256).toNat = x.toNat / 1099511627776 := by omega
       rw [e]
       exact Lib.bitLen_shift40 x.toNat (by omega) (by omega))
    | (refine way 32 x (x / 4294967296) (by omega) (by omega) (by omega) _ ?_
       have e : (x / 4294967296).toNat = x.toNat / 4294967296 := by omega
       rw [e]
       exact Lib.bitLen_shift32 x.toNat (by omega) (by omega))
    | (refine way 24 x (x / 65536 / 256) (by omega) (by omega) (by omega) _ ?_
       have e : (x / 65536 / 256).toNat = x.toNat / 16777216 := by omega
       rw [e]
       exact Lib.bitLen_shift24 x.toNat (by omega) (by omega))
    | (refine way 16 x (x / 65536) (by omega) (by omega) (by omega) _ ?_
       have e : (x / 65536).toNat = x.toNat / 65536 := by omega
       rw [e]
       exact Lib.bitLen_shift16 x.toNat (by omega) (by omega))
    | (refine way 8 x (x / 256) (by omega) (by omega) (by omega) _ ?_
       have e : (x / 256).toNat = x.toNat / 256 := by omega
       rw [e]
       exact Lib.bitLen_shift8 x.toNat (by omega) (by omega))

theorem bitLenAux_le (f : Nat) : ∀ (x b : Nat), x < 2 ^ b → Lib.bitLenAux f x ≤ b := by
  induction f with
  | zero => intro x b _; simp [Lib.bitLenAux]
  | succ f ih =>
    intro x b h
    unfold Lib.bitLenAux
    by_cases hx : x = 0
    · simp [hx]
    · rw [if_neg hx]
      match b, h with
      | 0, h => simp at h; omega
      | b + 1, h =>
        have := ih (x / 2) b (by rw [Nat.pow_succ] at h; omega)
        omega
theorem bitLen_le (x b : Nat) (h : x < 2 ^ b) : Lib.bitLen x ≤ b := bitLenAux_le 64 x b h
end Go.Proofs.Qxb6003730a.Big
