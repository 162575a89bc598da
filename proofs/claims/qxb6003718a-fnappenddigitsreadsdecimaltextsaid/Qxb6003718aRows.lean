/-
  No cell of these rows narrows 'for every input' (looked for: loops, veiled, ifaces, maps, wideKeys, modest, calm, conditions, laid).
  DERIVED. THE GIVEN ROWS OF THIS SEAT. 4 by the template 'for every input the law returns true; each argument reads behind the call as it read before'; 0 by the template 'total and deterministic' (their statements: Qxb6003718aTotals.lean).
  GIVEN WITH THE SEED: the statements are not yours to turn. If you find one false, say at which input.
  Laid BY PROGRAM, IN A SANDBOX (cutbox-rows.mjs): the forced cells as the released guide's own fill.sh prints them over the translation 8a5c18f413538913… (all of the seat's roots in one cut). By AI agents, Wed Nov 11 2026. No macro, syntax, notation, axiom, sorry.
-/
import Derived.Test.Qxb6003718aChecked
import GoSem.Claim
import GoSem.ClaimJoined
import GoSem.ClaimMapViews
import Derived.JoinedTies
import Derived.KernelRfl
namespace Go.Proofs.Qxb6003718a
/- THE CELL 'sum', in the pinned program and in every row, IS THE sha256 OF THE DUMP (.gsa) THAT Qxb6003718aProg.lean LOADS. Nothing in Lean hashes anything: it is a label: what it is worth is what the hold of that sum in a sandbox is worth. -/
noncomputable def Try.pinned : Pinned := { name := "qxb6003718a", sum := "8a5c18f413538913a77fcf5979bb9dca91152b0a56260e9a9683a529be8da654", checked := Try.checked }
namespace Rows
def none {H : Type} : Left H := { results := [], args := [] }

/-- 'zzlaws_decimal_g2.FnIsDigitsConcatenation': WHATEVER THE INPUT: true; the input reads as it did. -/
def fnIsDigitsConcatenationSpec : ChangeSpec := { name := "fnIsDigitsConcatenation", fn := fun _ => fun
  | [d1, d2] => { results := [.lit (.bool true)], args := [d1, d2] }
  | _ => none }
def fnIsDigitsConcatenationRow : OpenClaim := { program := "qxb6003718a", sum := "8a5c18f413538913a77fcf5979bb9dca91152b0a56260e9a9683a529be8da654", func := "example.com/resolvent/resolvent/zzlaws_decimal_g2.FnIsDigitsConcatenation", spec := "fnIsDigitsConcatenation", apart := false }
def FnIsDigitsConcatenationSaid : Prop := fnIsDigitsConcatenationRow.holds Try.pinned (OpenSpec.ofChange fnIsDigitsConcatenationSpec)

/-- ITS FALSE NEIGHBOUR: 'it returns false'. Refute it at one input. -/
def fnIsDigitsConcatenationWrong : ChangeSpec := { name := "fnIsDigitsConcatenation", fn := fun _ => fun
  | [d1, d2] => { results := [.lit (.bool false)], args := [d1, d2] }
  | _ => none }
def FnIsDigitsConcatenationWrongFalsely : Prop := fnIsDigitsConcatenationRow.holds Try.pinned (OpenSpec.ofChange fnIsDigitsConcatenationWrong)

/-- 'zzlaws_decimal_g2.FnAppendDigitsReadsDecimalText': WHATEVER THE INPUT: true; the input reads as it did. -/
def fnAppendDigitsReadsDecimalTextSpec : ChangeSpec := { name := "fnAppendDigitsReadsDecimalText", fn := fun _ => fun
  | [d1, d2] => { results := [.lit (.bool true)], args := [d1, d2] }
  | _ => none }
def fnAppendDigitsReadsDecimalTextRow : OpenClaim := { program := "qxb6003718a", sum := "8a5c18f413538913a77fcf5979bb9dca91152b0a56260e9a9683a529be8da654", func := "example.com/resolvent/resolvent/zzlaws_decimal_g2.FnAppendDigitsReadsDecimalText", spec := "fnAppendDigitsReadsDecimalText", apart := false }
def FnAppendDigitsReadsDecimalTextSaid : Prop := fnAppendDigitsReadsDecimalTextRow.holds Try.pinned (OpenSpec.ofChange fnAppendDigitsReadsDecimalTextSpec)

/-- ITS FALSE NEIGHBOUR: 'it returns false'. Refute it at one input. -/
def fnAppendDigitsReadsDecimalTextWrong : ChangeSpec := { name := "fnAppendDigitsReadsDecimalText", fn := fun _ => fun
  | [d1, d2] => { results := [.lit (.bool false)], args := [d1, d2] }
  | _ => none }
def FnAppendDigitsReadsDecimalTextWrongFalsely : Prop := fnAppendDigitsReadsDecimalTextRow.holds Try.pinned (OpenSpec.ofChange fnAppendDigitsReadsDecimalTextWrong)

/-- 'zzlaws_decimal_g2.FnSignedIsExactProduct': WHATEVER THE INPUT: true; the input reads as it did. -/
def fnSignedIsExactProductSpec : ChangeSpec := { name := "fnSignedIsExactProduct", fn := fun _ => fun
  | [d1, d2, d3] => { results := [.lit (.bool true)], args := [d1, d2, d3] }
  | _ => none }
def fnSignedIsExactProductRow : OpenClaim := { program := "qxb6003718a", sum := "8a5c18f413538913a77fcf5979bb9dca91152b0a56260e9a9683a529be8da654", func := "example.com/resolvent/resolvent/zzlaws_decimal_g2.FnSignedIsExactProduct", spec := "fnSignedIsExactProduct", apart := false }
def FnSignedIsExactProductSaid : Prop := fnSignedIsExactProductRow.holds Try.pinned (OpenSpec.ofChange fnSignedIsExactProductSpec)

/-- ITS FALSE NEIGHBOUR: 'it returns false'. Refute it at one input. -/
def fnSignedIsExactProductWrong : ChangeSpec := { name := "fnSignedIsExactProduct", fn := fun _ => fun
  | [d1, d2, d3] => { results := [.lit (.bool false)], args := [d1, d2, d3] }
  | _ => none }
def FnSignedIsExactProductWrongFalsely : Prop := fnSignedIsExactProductRow.holds Try.pinned (OpenSpec.ofChange fnSignedIsExactProductWrong)

/-- 'zzlaws_decimal_g2.FnAddSmallIsExactSum': WHATEVER THE INPUT: true; the input reads as it did. -/
def fnAddSmallIsExactSumSpec : ChangeSpec := { name := "fnAddSmallIsExactSum", fn := fun _ => fun
  | [d1, d2] => { results := [.lit (.bool true)], args := [d1, d2] }
  | _ => none }
def fnAddSmallIsExactSumRow : OpenClaim := { program := "qxb6003718a", sum := "8a5c18f413538913a77fcf5979bb9dca91152b0a56260e9a9683a529be8da654", func := "example.com/resolvent/resolvent/zzlaws_decimal_g2.FnAddSmallIsExactSum", spec := "fnAddSmallIsExactSum", apart := false }
def FnAddSmallIsExactSumSaid : Prop := fnAddSmallIsExactSumRow.holds Try.pinned (OpenSpec.ofChange fnAddSmallIsExactSumSpec)

/-- ITS FALSE NEIGHBOUR: 'it returns false'. Refute it at one input. -/
def fnAddSmallIsExactSumWrong : ChangeSpec := { name := "fnAddSmallIsExactSum", fn := fun _ => fun
  | [d1, d2] => { results := [.lit (.bool false)], args := [d1, d2] }
  | _ => none }
def FnAddSmallIsExactSumWrongFalsely : Prop := fnAddSmallIsExactSumRow.holds Try.pinned (OpenSpec.ofChange fnAddSmallIsExactSumWrong)

end Rows
end Go.Proofs.Qxb6003718a
