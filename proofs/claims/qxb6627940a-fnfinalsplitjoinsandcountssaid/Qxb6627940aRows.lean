/-
  No cell of these rows narrows 'for every input' (looked for: loops, veiled, ifaces, maps, wideKeys, modest, calm, conditions, laid).
  DERIVED. THE GIVEN ROWS OF THIS SEAT. 2 by the template 'for every input the law returns true; each argument reads behind the call as it read before'; 0 by the template 'total and deterministic' (their statements: Qxb6627940aTotals.lean).
  GIVEN WITH THE SEED: the statements are not yours to turn. If you find one false, say at which input.
  Laid BY PROGRAM, IN A SANDBOX (cutbox-rows.mjs): the forced cells as the released guide's own fill.sh prints them over the translation e18db75379f1be84… (all of the seat's roots in one cut). By AI agents, Wed Nov 11 2026. No macro, syntax, notation, axiom, sorry.
-/
import Derived.Test.Qxb6627940aChecked
import GoSem.Claim
import GoSem.ClaimJoined
import GoSem.ClaimMapViews
import Derived.JoinedTies
import Derived.KernelRfl
namespace Go.Proofs.Qxb6627940a
/- THE CELL 'sum', in the pinned program and in every row, IS THE sha256 OF THE DUMP (.gsa) THAT Qxb6627940aProg.lean LOADS. Nothing in Lean hashes anything: it is a label: what it is worth is what the hold of that sum in a sandbox is worth. -/
noncomputable def Try.pinned : Pinned := { name := "qxb6627940a", sum := "e18db75379f1be84b4c22455fa298fb4bf8aa7b0b3706b2a6db830536d4a78a8", checked := Try.checked }
namespace Rows
def none {H : Type} : Left H := { results := [], args := [] }

/-- 'zzlaws_internal_report_b1.FnFinalSplitJoinsAndCounts': WHATEVER THE INPUT: true; the input reads as it did. -/
def fnFinalSplitJoinsAndCountsSpec : ChangeSpec := { name := "fnFinalSplitJoinsAndCounts", fn := fun _ => fun
  | [d1, d2] => { results := [.lit (.bool true)], args := [d1, d2] }
  | _ => none }
def fnFinalSplitJoinsAndCountsRow : OpenClaim := { program := "qxb6627940a", sum := "e18db75379f1be84b4c22455fa298fb4bf8aa7b0b3706b2a6db830536d4a78a8", func := "example.com/signalproof/signalproof/zzlaws_internal_report_b1.FnFinalSplitJoinsAndCounts", spec := "fnFinalSplitJoinsAndCounts", apart := false }
def FnFinalSplitJoinsAndCountsSaid : Prop := fnFinalSplitJoinsAndCountsRow.holds Try.pinned (OpenSpec.ofChange fnFinalSplitJoinsAndCountsSpec)

/-- ITS FALSE NEIGHBOUR: 'it returns false'. Refute it at one input. -/
def fnFinalSplitJoinsAndCountsWrong : ChangeSpec := { name := "fnFinalSplitJoinsAndCounts", fn := fun _ => fun
  | [d1, d2] => { results := [.lit (.bool false)], args := [d1, d2] }
  | _ => none }
def FnFinalSplitJoinsAndCountsWrongFalsely : Prop := fnFinalSplitJoinsAndCountsRow.holds Try.pinned (OpenSpec.ofChange fnFinalSplitJoinsAndCountsWrong)

/-- 'zzlaws_internal_report_b1.FnFinalInsertOneAnywhereOrderFree': WHATEVER THE INPUT: true; the input reads as it did. -/
def fnFinalInsertOneAnywhereOrderFreeSpec : ChangeSpec := { name := "fnFinalInsertOneAnywhereOrderFree", fn := fun _ => fun
  | [d1, d2, d3] => { results := [.lit (.bool true)], args := [d1, d2, d3] }
  | _ => none }
def fnFinalInsertOneAnywhereOrderFreeRow : OpenClaim := { program := "qxb6627940a", sum := "e18db75379f1be84b4c22455fa298fb4bf8aa7b0b3706b2a6db830536d4a78a8", func := "example.com/signalproof/signalproof/zzlaws_internal_report_b1.FnFinalInsertOneAnywhereOrderFree", spec := "fnFinalInsertOneAnywhereOrderFree", apart := false }
def FnFinalInsertOneAnywhereOrderFreeSaid : Prop := fnFinalInsertOneAnywhereOrderFreeRow.holds Try.pinned (OpenSpec.ofChange fnFinalInsertOneAnywhereOrderFreeSpec)

/-- ITS FALSE NEIGHBOUR: 'it returns false'. Refute it at one input. -/
def fnFinalInsertOneAnywhereOrderFreeWrong : ChangeSpec := { name := "fnFinalInsertOneAnywhereOrderFree", fn := fun _ => fun
  | [d1, d2, d3] => { results := [.lit (.bool false)], args := [d1, d2, d3] }
  | _ => none }
def FnFinalInsertOneAnywhereOrderFreeWrongFalsely : Prop := fnFinalInsertOneAnywhereOrderFreeRow.holds Try.pinned (OpenSpec.ofChange fnFinalInsertOneAnywhereOrderFreeWrong)

end Rows
end Go.Proofs.Qxb6627940a
