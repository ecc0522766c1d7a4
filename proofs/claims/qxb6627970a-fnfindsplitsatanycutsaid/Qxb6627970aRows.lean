/-
  No cell of these rows narrows 'for every input' (looked for: loops, veiled, ifaces, maps, wideKeys, modest, calm, conditions, laid).
  DERIVED. THE GIVEN ROWS OF THIS SEAT. 2 by the template 'for every input the law returns true; each argument reads behind the call as it read before'; 0 by the template 'total and deterministic' (their statements: Qxb6627970aTotals.lean).
  GIVEN WITH THE SEED: the statements are not yours to turn. If you find one false, say at which input.
  Laid BY PROGRAM, IN A SANDBOX (cutbox-rows.mjs): the forced cells as the released guide's own fill.sh prints them over the translation c329c838c0b63451… (all of the seat's roots in one cut). By AI agents, Wed Nov 11 2026. No macro, syntax, notation, axiom, sorry.
-/
import Derived.Test.Qxb6627970aChecked
import GoSem.Claim
import GoSem.ClaimJoined
import GoSem.ClaimMapViews
import Derived.JoinedTies
import Derived.KernelRfl
namespace Go.Proofs.Qxb6627970a
/- THE CELL 'sum', in the pinned program and in every row, IS THE sha256 OF THE DUMP (.gsa) THAT Qxb6627970aProg.lean LOADS. Nothing in Lean hashes anything: it is a label: what it is worth is what the hold of that sum in a sandbox is worth. -/
noncomputable def Try.pinned : Pinned := { name := "qxb6627970a", sum := "c329c838c0b634514df55dde9e7e310ea46510813e7e57c3c4de7afb3e572c61", checked := Try.checked }
namespace Rows
def none {H : Type} : Left H := { results := [], args := [] }

/-- 'zzlaws_pkg_wire_b1.FnFindInsertedFirstOfItsType': WHATEVER THE INPUT: true; the input reads as it did. -/
def fnFindInsertedFirstOfItsTypeSpec : ChangeSpec := { name := "fnFindInsertedFirstOfItsType", fn := fun _ => fun
  | [d1, d2, d3, d4, d5] => { results := [.lit (.bool true)], args := [d1, d2, d3, d4, d5] }
  | _ => none }
def fnFindInsertedFirstOfItsTypeRow : OpenClaim := { program := "qxb6627970a", sum := "c329c838c0b634514df55dde9e7e310ea46510813e7e57c3c4de7afb3e572c61", func := "example.com/poolward/poolward/zzlaws_pkg_wire_b1.FnFindInsertedFirstOfItsType", spec := "fnFindInsertedFirstOfItsType", apart := false }
def FnFindInsertedFirstOfItsTypeSaid : Prop := fnFindInsertedFirstOfItsTypeRow.holds Try.pinned (OpenSpec.ofChange fnFindInsertedFirstOfItsTypeSpec)

/-- ITS FALSE NEIGHBOUR: 'it returns false'. Refute it at one input. -/
def fnFindInsertedFirstOfItsTypeWrong : ChangeSpec := { name := "fnFindInsertedFirstOfItsType", fn := fun _ => fun
  | [d1, d2, d3, d4, d5] => { results := [.lit (.bool false)], args := [d1, d2, d3, d4, d5] }
  | _ => none }
def FnFindInsertedFirstOfItsTypeWrongFalsely : Prop := fnFindInsertedFirstOfItsTypeRow.holds Try.pinned (OpenSpec.ofChange fnFindInsertedFirstOfItsTypeWrong)

/-- 'zzlaws_pkg_wire_b1.FnFindSplitsAtAnyCut': WHATEVER THE INPUT: true; the input reads as it did. -/
def fnFindSplitsAtAnyCutSpec : ChangeSpec := { name := "fnFindSplitsAtAnyCut", fn := fun _ => fun
  | [d1, d2, d3] => { results := [.lit (.bool true)], args := [d1, d2, d3] }
  | _ => none }
def fnFindSplitsAtAnyCutRow : OpenClaim := { program := "qxb6627970a", sum := "c329c838c0b634514df55dde9e7e310ea46510813e7e57c3c4de7afb3e572c61", func := "example.com/poolward/poolward/zzlaws_pkg_wire_b1.FnFindSplitsAtAnyCut", spec := "fnFindSplitsAtAnyCut", apart := false }
def FnFindSplitsAtAnyCutSaid : Prop := fnFindSplitsAtAnyCutRow.holds Try.pinned (OpenSpec.ofChange fnFindSplitsAtAnyCutSpec)

/-- ITS FALSE NEIGHBOUR: 'it returns false'. Refute it at one input. -/
def fnFindSplitsAtAnyCutWrong : ChangeSpec := { name := "fnFindSplitsAtAnyCut", fn := fun _ => fun
  | [d1, d2, d3] => { results := [.lit (.bool false)], args := [d1, d2, d3] }
  | _ => none }
def FnFindSplitsAtAnyCutWrongFalsely : Prop := fnFindSplitsAtAnyCutRow.holds Try.pinned (OpenSpec.ofChange fnFindSplitsAtAnyCutWrong)

end Rows
end Go.Proofs.Qxb6627970a
