/-
  No cell of these rows narrows 'for every input' (looked for: loops, veiled, ifaces, maps, wideKeys, modest, calm, conditions, laid).
  DERIVED. THE GIVEN ROWS OF THIS SEAT. 4 by the template 'for every input the law returns true; each argument reads behind the call as it read before'; 0 by the template 'total and deterministic' (their statements: Qxb6003730aTotals.lean).
  GIVEN WITH THE SEED: the statements are not yours to turn. If you find one false, say at which input.
  Laid BY PROGRAM, IN A SANDBOX (cutbox-rows.mjs): the forced cells as the released guide's own fill.sh prints them over the translation 0012579b2587fb3c… (all of the seat's roots in one cut). By AI agents, Wed Nov 11 2026. No macro, syntax, notation, axiom, sorry.
-/
import Derived.Test.Qxb6003730aChecked
import GoSem.Claim
import GoSem.ClaimJoined
import GoSem.ClaimMapViews
import Derived.JoinedTies
import Derived.KernelRfl
namespace Go.Proofs.Qxb6003730a
/- THE CELL 'sum', in the pinned program and in every row, IS THE sha256 OF THE DUMP (.gsa) THAT Qxb6003730aProg.lean LOADS. Nothing in Lean hashes anything: it is a label: what it is worth is what the hold of that sum in a sandbox is worth. -/
noncomputable def Try.pinned : Pinned := { name := "qxb6003730a", sum := "0012579b2587fb3ce58f71a004e202e1d5727b2b2c9834e9ed516f2fdeb73578", checked := Try.checked }
namespace Rows
def none {H : Type} : Left H := { results := [], args := [] }

/-- 'zzlaws_internal_der_g1.FnAppendIdentifierDecodes': WHATEVER THE INPUT: true; the input reads as it did. -/
def fnAppendIdentifierDecodesSpec : ChangeSpec := { name := "fnAppendIdentifierDecodes", fn := fun _ => fun
  | [d1, d2, d3, d4] => { results := [.lit (.bool true)], args := [d1, d2, d3, d4] }
  | _ => none }
def fnAppendIdentifierDecodesRow : OpenClaim := { program := "qxb6003730a", sum := "0012579b2587fb3ce58f71a004e202e1d5727b2b2c9834e9ed516f2fdeb73578", func := "example.com/originseal/originseal/zzlaws_internal_der_g1.FnAppendIdentifierDecodes", spec := "fnAppendIdentifierDecodes", apart := false }
def FnAppendIdentifierDecodesSaid : Prop := fnAppendIdentifierDecodesRow.holds Try.pinned (OpenSpec.ofChange fnAppendIdentifierDecodesSpec)

/-- ITS FALSE NEIGHBOUR: 'it returns false'. Refute it at one input. -/
def fnAppendIdentifierDecodesWrong : ChangeSpec := { name := "fnAppendIdentifierDecodes", fn := fun _ => fun
  | [d1, d2, d3, d4] => { results := [.lit (.bool false)], args := [d1, d2, d3, d4] }
  | _ => none }
def FnAppendIdentifierDecodesWrongFalsely : Prop := fnAppendIdentifierDecodesRow.holds Try.pinned (OpenSpec.ofChange fnAppendIdentifierDecodesWrong)

/-- 'zzlaws_internal_der_g1.FnAppendLengthDecodes': WHATEVER THE INPUT: true; the input reads as it did. -/
def fnAppendLengthDecodesSpec : ChangeSpec := { name := "fnAppendLengthDecodes", fn := fun _ => fun
  | [d1, d2] => { results := [.lit (.bool true)], args := [d1, d2] }
  | _ => none }
def fnAppendLengthDecodesRow : OpenClaim := { program := "qxb6003730a", sum := "0012579b2587fb3ce58f71a004e202e1d5727b2b2c9834e9ed516f2fdeb73578", func := "example.com/originseal/originseal/zzlaws_internal_der_g1.FnAppendLengthDecodes", spec := "fnAppendLengthDecodes", apart := false }
def FnAppendLengthDecodesSaid : Prop := fnAppendLengthDecodesRow.holds Try.pinned (OpenSpec.ofChange fnAppendLengthDecodesSpec)

/-- ITS FALSE NEIGHBOUR: 'it returns false'. Refute it at one input. -/
def fnAppendLengthDecodesWrong : ChangeSpec := { name := "fnAppendLengthDecodes", fn := fun _ => fun
  | [d1, d2] => { results := [.lit (.bool false)], args := [d1, d2] }
  | _ => none }
def FnAppendLengthDecodesWrongFalsely : Prop := fnAppendLengthDecodesRow.holds Try.pinned (OpenSpec.ofChange fnAppendLengthDecodesWrong)

/-- 'zzlaws_internal_der_g1.FnArcValueIsBase128': WHATEVER THE INPUT: true; the input reads as it did. -/
def fnArcValueIsBase128Spec : ChangeSpec := { name := "fnArcValueIsBase128", fn := fun _ => fun
  | [d] => { results := [.lit (.bool true)], args := [d] }
  | _ => none }
def fnArcValueIsBase128Row : OpenClaim := { program := "qxb6003730a", sum := "0012579b2587fb3ce58f71a004e202e1d5727b2b2c9834e9ed516f2fdeb73578", func := "example.com/originseal/originseal/zzlaws_internal_der_g1.FnArcValueIsBase128", spec := "fnArcValueIsBase128", apart := false }
def FnArcValueIsBase128Said : Prop := fnArcValueIsBase128Row.holds Try.pinned (OpenSpec.ofChange fnArcValueIsBase128Spec)

/-- ITS FALSE NEIGHBOUR: 'it returns false'. Refute it at one input. -/
def fnArcValueIsBase128Wrong : ChangeSpec := { name := "fnArcValueIsBase128", fn := fun _ => fun
  | [d] => { results := [.lit (.bool false)], args := [d] }
  | _ => none }
def FnArcValueIsBase128WrongFalsely : Prop := fnArcValueIsBase128Row.holds Try.pinned (OpenSpec.ofChange fnArcValueIsBase128Wrong)

/-- 'zzlaws_internal_der_g1.FnAllDigitsBytewiseAndConcatenation': WHATEVER THE INPUT: true; the input reads as it did. -/
def fnAllDigitsBytewiseAndConcatenationSpec : ChangeSpec := { name := "fnAllDigitsBytewiseAndConcatenation", fn := fun _ => fun
  | [d1, d2] => { results := [.lit (.bool true)], args := [d1, d2] }
  | _ => none }
def fnAllDigitsBytewiseAndConcatenationRow : OpenClaim := { program := "qxb6003730a", sum := "0012579b2587fb3ce58f71a004e202e1d5727b2b2c9834e9ed516f2fdeb73578", func := "example.com/originseal/originseal/zzlaws_internal_der_g1.FnAllDigitsBytewiseAndConcatenation", spec := "fnAllDigitsBytewiseAndConcatenation", apart := false }
def FnAllDigitsBytewiseAndConcatenationSaid : Prop := fnAllDigitsBytewiseAndConcatenationRow.holds Try.pinned (OpenSpec.ofChange fnAllDigitsBytewiseAndConcatenationSpec)

/-- ITS FALSE NEIGHBOUR: 'it returns false'. Refute it at one input. -/
def fnAllDigitsBytewiseAndConcatenationWrong : ChangeSpec := { name := "fnAllDigitsBytewiseAndConcatenation", fn := fun _ => fun
  | [d1, d2] => { results := [.lit (.bool false)], args := [d1, d2] }
  | _ => none }
def FnAllDigitsBytewiseAndConcatenationWrongFalsely : Prop := fnAllDigitsBytewiseAndConcatenationRow.holds Try.pinned (OpenSpec.ofChange fnAllDigitsBytewiseAndConcatenationWrong)

end Rows
end Go.Proofs.Qxb6003730a
