/-
  Seat b6634866a: what both rows' proofs share: a slice of strings that came in, opened.
-/
import Derived.Test.Qxb6634866aHas
import Derived.ProofKit
import Derived.OpenShut
import Derived.ShutString
import Derived.ChangeOld
import Derived.SliceStrings
namespace Go.Proofs.Qxb6634866a
open Go.ChangeShapes Go.WideShapes Go.ChangeAt Go.RowKit
open Go.ChangeMaps (open_string shut_string)
set_option linter.unusedVariables false

theorem own : ownKnob Try.prog.godebug = none := by kernel_rfl
theorem laidOut : laidOutB Try.prog = true := by kernel_rfl

/-- A slice of strings that came in, opened. -/
theorem strs_open {H : Type} {enc : TypeId × Value → H} {W : World} {sp : Nat → Bool} {held : Bool} {a : Option Addr} {len cap : Nat} {x : DataW H × List MemPlace} {fuel : Nat}
    (hf : DataW.trod enc Try.prog W 0 sp held fuel 22 (Value.slice a len cap).cells.toList = some x) : ∃ ss : List ByteArray, len = ss.length ∧ IsStrs W a ss := by
  rcases open_strings Try.underlying22 Try.underlying9 (by kernel_rfl) hf with ⟨hcs, _⟩ | ⟨y, l, c, ss, hcs, _, hl, hm, hz, _, hcell, hws⟩
  · simp [Value.cells] at hcs
    obtain ⟨rfl, rfl, rfl⟩ := hcs
    exact ⟨[], rfl, by simp [maxLen], by simp, Or.inl rfl⟩
  · simp [Value.cells] at hcs
    obtain ⟨rfl, rfl, rfl⟩ := hcs
    have hlen : len ≤ ss.length := by rw [hz]; split <;> omega
    refine ⟨ss.take len, by simp; omega, by simp; omega, fun s hs => hws s (List.mem_of_mem_take hs), ?_⟩
    by_cases h0 : len = 0
    · subst h0; exact Or.inl (by simp)
    · right
      have h1 := hcell 0 (by omega)
      obtain ⟨b, off, f⟩ := y
      have hf0 : f = none := by simpa [Addr.add] using World.cell?_spot (hcell 0 (by omega))
      subst hf0
      refine ⟨b, off, rfl, ?_, fun i hi => ?_⟩
      · apply Classical.byContradiction
        intro hlt
        have : W.heap[b]? = none := Array.getElem?_eq_none (by omega)
        simp [Addr.add, World.cell?, this] at h1
      · have hi' : i < len := by simp at hi; omega
        have h2 := hcell i (by omega)
        rw [add_plain] at h2
        rw [h2]
        simp [List.getD, List.getElem?_take_of_lt hi']

end Go.Proofs.Qxb6634866a
