/-
  No cell of these rows narrows 'for every input' (looked for: loops, veiled, ifaces, maps, wideKeys, modest, calm, conditions, laid).
  DERIVED. THE GIVEN ROWS OF THIS SEAT. 2 by the template 'for every input the law returns true; each argument reads behind the call as it read before'; 0 by the template 'total and deterministic' (their statements: Qxb6003685aTotals.lean).
  GIVEN WITH THE SEED: the statements are not yours to turn. If you find one false, say at which input.
  Laid BY PROGRAM, IN A SANDBOX (cutbox-rows.mjs): the forced cells as the released guide's own fill.sh prints them over the translation be0f1b55e9622e88… (all of the seat's roots in one cut). By AI agents, Wed Nov 11 2026. No macro, syntax, notation, axiom, sorry.
-/
import Derived.Test.Qxb6003685aChecked
import GoSem.Claim
import GoSem.ClaimJoined
import GoSem.ClaimMapViews
import Derived.JoinedTies
import Derived.KernelRfl
namespace Go.Proofs.Qxb6003685a
/- THE CELL 'sum', in the pinned program and in every row, IS THE sha256 OF THE DUMP (.gsa) THAT Qxb6003685aProg.lean LOADS. Nothing in Lean hashes anything: it is a label: what it is worth is what the hold of that sum in a sandbox is worth. -/
noncomputable def Try.pinned : Pinned := { name := "qxb6003685a", sum := "be0f1b55e9622e886104dcea0e287cb897901c8cf32af58a667d369ceb4e1998", checked := Try.checked }
namespace Rows
def none {H : Type} : Left H := { results := [], args := [] }

/-- 'zzlaws_tokens_g1.FnFillPrefixAndDraws': WHATEVER THE INPUT: true; the input reads as it did. -/
def fnFillPrefixAndDrawsSpec : ChangeSpec := { name := "fnFillPrefixAndDraws", fn := fun _ => fun
  | [d1, d2, d3, d4] => { results := [.lit (.bool true)], args := [d1, d2, d3, d4] }
  | _ => none }
def fnFillPrefixAndDrawsRow : OpenClaim := { program := "qxb6003685a", sum := "be0f1b55e9622e886104dcea0e287cb897901c8cf32af58a667d369ceb4e1998", func := "example.com/churnweave/churnweave/zzlaws_tokens_g1.FnFillPrefixAndDraws", spec := "fnFillPrefixAndDraws", inPlace := ["math/bits.Add64"], apart := false }
def FnFillPrefixAndDrawsSaid : Prop := fnFillPrefixAndDrawsRow.holds Try.pinned (OpenSpec.ofChange fnFillPrefixAndDrawsSpec)

/-- ITS FALSE NEIGHBOUR: 'it returns false'. Refute it at one input. -/
def fnFillPrefixAndDrawsWrong : ChangeSpec := { name := "fnFillPrefixAndDraws", fn := fun _ => fun
  | [d1, d2, d3, d4] => { results := [.lit (.bool false)], args := [d1, d2, d3, d4] }
  | _ => none }
def FnFillPrefixAndDrawsWrongFalsely : Prop := fnFillPrefixAndDrawsRow.holds Try.pinned (OpenSpec.ofChange fnFillPrefixAndDrawsWrong)

/-- 'zzlaws_tokens_g1.FnCompareRankTotalPreorder': WHATEVER THE INPUT: true; the input reads as it did. -/
def fnCompareRankTotalPreorderSpec : ChangeSpec := { name := "fnCompareRankTotalPreorder", fn := fun _ => fun
  | [d1, d2, d3, d4, d5, d6, d7, d8, d9] => { results := [.lit (.bool true)], args := [d1, d2, d3, d4, d5, d6, d7, d8, d9] }
  | _ => none }
def fnCompareRankTotalPreorderRow : OpenClaim := { program := "qxb6003685a", sum := "be0f1b55e9622e886104dcea0e287cb897901c8cf32af58a667d369ceb4e1998", func := "example.com/churnweave/churnweave/zzlaws_tokens_g1.FnCompareRankTotalPreorder", spec := "fnCompareRankTotalPreorder", apart := false }
def FnCompareRankTotalPreorderSaid : Prop := fnCompareRankTotalPreorderRow.holds Try.pinned (OpenSpec.ofChange fnCompareRankTotalPreorderSpec)

/-- ITS FALSE NEIGHBOUR: 'it returns false'. Refute it at one input. -/
def fnCompareRankTotalPreorderWrong : ChangeSpec := { name := "fnCompareRankTotalPreorder", fn := fun _ => fun
  | [d1, d2, d3, d4, d5, d6, d7, d8, d9] => { results := [.lit (.bool false)], args := [d1, d2, d3, d4, d5, d6, d7, d8, d9] }
  | _ => none }
def FnCompareRankTotalPreorderWrongFalsely : Prop := fnCompareRankTotalPreorderRow.holds Try.pinned (OpenSpec.ofChange fnCompareRankTotalPreorderWrong)

end Rows
end Go.Proofs.Qxb6003685a
