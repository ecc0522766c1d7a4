/-
  No cell of these rows narrows 'for every input' (looked for: loops, veiled, ifaces, maps, wideKeys, modest, calm, conditions, laid).
  DERIVED. THE GIVEN ROWS OF THIS SEAT. 2 by the template 'for every input the law returns true; each argument reads behind the call as it read before'; 0 by the template 'total and deterministic' (their statements: Qxb6627887aTotals.lean).
  GIVEN WITH THE SEED: the statements are not yours to turn. If you find one false, say at which input.
  Laid BY PROGRAM, IN A SANDBOX (cutbox-rows.mjs): the forced cells as the released guide's own fill.sh prints them over the translation a7f1447763f54223… (all of the seat's roots in one cut). By AI agents, Wed Nov 11 2026. No macro, syntax, notation, axiom, sorry.
-/
import Derived.Test.Qxb6627887aChecked
import GoSem.Claim
import GoSem.ClaimJoined
import GoSem.ClaimMapViews
import Derived.JoinedTies
import Derived.KernelRfl
namespace Go.Proofs.Qxb6627887a
/- THE CELL 'sum', in the pinned program and in every row, IS THE sha256 OF THE DUMP (.gsa) THAT Qxb6627887aProg.lean LOADS. Nothing in Lean hashes anything: it is a label: what it is worth is what the hold of that sum in a sandbox is worth. -/
noncomputable def Try.pinned : Pinned := { name := "qxb6627887a", sum := "a7f1447763f542232aad9e1d096c3783a3af78693eed96e029f5c831a1bd9532", checked := Try.checked }
namespace Rows
def none {H : Type} : Left H := { results := [], args := [] }

/-- 'zzlaws_internal_input_b1.FnValueOfDigitsSplitsAtAnyCut': WHATEVER THE INPUT: true; the input reads as it did. -/
def fnValueOfDigitsSplitsAtAnyCutSpec : ChangeSpec := { name := "fnValueOfDigitsSplitsAtAnyCut", fn := fun _ => fun
  | [d1, d2, d3] => { results := [.lit (.bool true)], args := [d1, d2, d3] }
  | _ => none }
def fnValueOfDigitsSplitsAtAnyCutRow : OpenClaim := { program := "qxb6627887a", sum := "a7f1447763f542232aad9e1d096c3783a3af78693eed96e029f5c831a1bd9532", func := "example.com/thawline/thawline/zzlaws_internal_input_b1.FnValueOfDigitsSplitsAtAnyCut", spec := "fnValueOfDigitsSplitsAtAnyCut", apart := false }
def FnValueOfDigitsSplitsAtAnyCutSaid : Prop := fnValueOfDigitsSplitsAtAnyCutRow.holds Try.pinned (OpenSpec.ofChange fnValueOfDigitsSplitsAtAnyCutSpec)

/-- ITS FALSE NEIGHBOUR: 'it returns false'. Refute it at one input. -/
def fnValueOfDigitsSplitsAtAnyCutWrong : ChangeSpec := { name := "fnValueOfDigitsSplitsAtAnyCut", fn := fun _ => fun
  | [d1, d2, d3] => { results := [.lit (.bool false)], args := [d1, d2, d3] }
  | _ => none }
def FnValueOfDigitsSplitsAtAnyCutWrongFalsely : Prop := fnValueOfDigitsSplitsAtAnyCutRow.holds Try.pinned (OpenSpec.ofChange fnValueOfDigitsSplitsAtAnyCutWrong)

/-- 'zzlaws_internal_input_b1.FnValueOfDigitsOrdersAsDigitStrings': WHATEVER THE INPUT: true; the input reads as it did. -/
def fnValueOfDigitsOrdersAsDigitStringsSpec : ChangeSpec := { name := "fnValueOfDigitsOrdersAsDigitStrings", fn := fun _ => fun
  | [d1, d2, d3] => { results := [.lit (.bool true)], args := [d1, d2, d3] }
  | _ => none }
def fnValueOfDigitsOrdersAsDigitStringsRow : OpenClaim := { program := "qxb6627887a", sum := "a7f1447763f542232aad9e1d096c3783a3af78693eed96e029f5c831a1bd9532", func := "example.com/thawline/thawline/zzlaws_internal_input_b1.FnValueOfDigitsOrdersAsDigitStrings", spec := "fnValueOfDigitsOrdersAsDigitStrings", apart := false }
def FnValueOfDigitsOrdersAsDigitStringsSaid : Prop := fnValueOfDigitsOrdersAsDigitStringsRow.holds Try.pinned (OpenSpec.ofChange fnValueOfDigitsOrdersAsDigitStringsSpec)

/-- ITS FALSE NEIGHBOUR: 'it returns false'. Refute it at one input. -/
def fnValueOfDigitsOrdersAsDigitStringsWrong : ChangeSpec := { name := "fnValueOfDigitsOrdersAsDigitStrings", fn := fun _ => fun
  | [d1, d2, d3] => { results := [.lit (.bool false)], args := [d1, d2, d3] }
  | _ => none }
def FnValueOfDigitsOrdersAsDigitStringsWrongFalsely : Prop := fnValueOfDigitsOrdersAsDigitStringsRow.holds Try.pinned (OpenSpec.ofChange fnValueOfDigitsOrdersAsDigitStringsWrong)

end Rows
end Go.Proofs.Qxb6627887a
