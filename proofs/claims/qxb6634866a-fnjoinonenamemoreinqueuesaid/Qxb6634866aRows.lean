/-
  No cell of these rows narrows 'for every input' (looked for: loops, veiled, ifaces, maps, wideKeys, modest, calm, conditions, laid).
  DERIVED. THE GIVEN ROWS OF THIS SEAT. 2 by the template 'for every input the law returns true; each argument reads behind the call as it read before'; 0 by the template 'total and deterministic' (their statements: Qxb6634866aTotals.lean).
  GIVEN WITH THE SEED: the statements are not yours to turn. If you find one false, say at which input.
  Laid BY PROGRAM, IN A SANDBOX (cutbox-rows.mjs): the forced cells as the released guide's own fill.sh prints them over the translation 89401eee6247a685… (all of the seat's roots in one cut). By AI agents, Wed Nov 11 2026. No macro, syntax, notation, axiom, sorry.
-/
import Derived.Test.Qxb6634866aChecked
import GoSem.Claim
import GoSem.ClaimJoined
import GoSem.ClaimMapViews
import Derived.JoinedTies
import Derived.KernelRfl
namespace Go.Proofs.Qxb6634866a
/- THE CELL 'sum', in the pinned program and in every row, IS THE sha256 OF THE DUMP (.gsa) THAT Qxb6634866aProg.lean LOADS. Nothing in Lean hashes anything: it is a label: what it is worth is what the hold of that sum in a sandbox is worth. -/
noncomputable def Try.pinned : Pinned := { name := "qxb6634866a", sum := "89401eee6247a6856b905832a868db12c1b06efdaa7852c767c2c961dbf4ba77", checked := Try.checked }
namespace Rows
def none {H : Type} : Left H := { results := [], args := [] }

/-- 'zzlaws_policy_b1.FnJoinCountsCommonNamesEitherWay': WHATEVER THE INPUT: true; the input reads as it did. -/
def fnJoinCountsCommonNamesEitherWaySpec : ChangeSpec := { name := "fnJoinCountsCommonNamesEitherWay", fn := fun _ => fun
  | [d1, d2] => { results := [.lit (.bool true)], args := [d1, d2] }
  | _ => none }
def fnJoinCountsCommonNamesEitherWayRow : OpenClaim := { program := "qxb6634866a", sum := "89401eee6247a6856b905832a868db12c1b06efdaa7852c767c2c961dbf4ba77", func := "example.com/tidegate/tidegate/zzlaws_policy_b1.FnJoinCountsCommonNamesEitherWay", spec := "fnJoinCountsCommonNamesEitherWay", recurses := true, apart := false }
def FnJoinCountsCommonNamesEitherWaySaid : Prop := fnJoinCountsCommonNamesEitherWayRow.holds Try.pinned (OpenSpec.ofChange fnJoinCountsCommonNamesEitherWaySpec)

/-- ITS FALSE NEIGHBOUR: 'it returns false'. Refute it at one input. -/
def fnJoinCountsCommonNamesEitherWayWrong : ChangeSpec := { name := "fnJoinCountsCommonNamesEitherWay", fn := fun _ => fun
  | [d1, d2] => { results := [.lit (.bool false)], args := [d1, d2] }
  | _ => none }
def FnJoinCountsCommonNamesEitherWayWrongFalsely : Prop := fnJoinCountsCommonNamesEitherWayRow.holds Try.pinned (OpenSpec.ofChange fnJoinCountsCommonNamesEitherWayWrong)

/-- 'zzlaws_policy_b1.FnJoinOneNameMoreInQueue': WHATEVER THE INPUT: true; the input reads as it did. -/
def fnJoinOneNameMoreInQueueSpec : ChangeSpec := { name := "fnJoinOneNameMoreInQueue", fn := fun _ => fun
  | [d1, d2, d3] => { results := [.lit (.bool true)], args := [d1, d2, d3] }
  | _ => none }
def fnJoinOneNameMoreInQueueRow : OpenClaim := { program := "qxb6634866a", sum := "89401eee6247a6856b905832a868db12c1b06efdaa7852c767c2c961dbf4ba77", func := "example.com/tidegate/tidegate/zzlaws_policy_b1.FnJoinOneNameMoreInQueue", spec := "fnJoinOneNameMoreInQueue", recurses := true, apart := false }
def FnJoinOneNameMoreInQueueSaid : Prop := fnJoinOneNameMoreInQueueRow.holds Try.pinned (OpenSpec.ofChange fnJoinOneNameMoreInQueueSpec)

/-- ITS FALSE NEIGHBOUR: 'it returns false'. Refute it at one input. -/
def fnJoinOneNameMoreInQueueWrong : ChangeSpec := { name := "fnJoinOneNameMoreInQueue", fn := fun _ => fun
  | [d1, d2, d3] => { results := [.lit (.bool false)], args := [d1, d2, d3] }
  | _ => none }
def FnJoinOneNameMoreInQueueWrongFalsely : Prop := fnJoinOneNameMoreInQueueRow.holds Try.pinned (OpenSpec.ofChange fnJoinOneNameMoreInQueueWrong)

end Rows
end Go.Proofs.Qxb6634866a
