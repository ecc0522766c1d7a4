/-
  Seat b6634866a: zzJoinHas (function 11): the walk.
-/
import Derived.Test.Qxb6634866aRows
import Derived.WalkKit
import Derived.WalkLawsBesides
import Derived.Below
namespace Go.Proofs.Qxb6634866a
open Go.RowKit

/-- A string's bytes. -/
def bl (s : ByteArray) : List UInt8 := s.data.toList

/-- Does x stand in l? -/
def hasB (l : List (List UInt8)) (x : List UInt8) : Bool := decide (x ∈ l)
theorem hasB_true {l : List (List UInt8)} {x : List UInt8} : hasB l x = true ↔ x ∈ l := by simp [hasB]
theorem hasB_yes {l : List (List UInt8)} {x : List UInt8} (h : x ∈ l) : Ending.returned (.bool true) = .returned (.bool (hasB l x)) := by rw [hasB_true.2 h]
theorem hasB_no {l : List (List UInt8)} {x : List UInt8} (h : x ∉ l) : Ending.returned (.bool false) = .returned (.bool (hasB l x)) := by
  have : hasB l x = false := by simp [hasB, h]
  rw [this]

/-- WHAT THE WALK IS TOLD OF A SLICE OF STRINGS: it has as many elements as ss, and they are ss (no element: whatever address). -/
def IsStrs (w : World) (a : Option Addr) (ss : List ByteArray) : Prop :=
  ss.length ≤ maxLen ∧ (∀ s ∈ ss, s.size ≤ maxLen) ∧ (ss = [] ∨ ∃ b off, a = some ⟨b, off, none⟩ ∧ b < w.heap.size ∧ ∀ i, i < ss.length → w.cell? ⟨b, off + i, none⟩ = some (.string (ss.getD i ByteArray.empty)))

theorem IsStrs.below {w w' : World} {a : Option Addr} {ss : List ByteArray} (h : IsStrs w a ss) (hb : Below w.heap.size w w') : IsStrs w' a ss := by
  obtain ⟨h1, h2, h3⟩ := h
  refine ⟨h1, h2, ?_⟩
  rcases h3 with h3 | ⟨b, off, ha, hlt, hc⟩
  · exact Or.inl h3
  · exact Or.inr ⟨b, off, ha, Nat.lt_of_lt_of_le hlt hb.size, fun i hi => (hb.cell (p := ⟨b, off + i, none⟩) hlt).trans (hc i hi)⟩

theorem eq_bl {x y : ByteArray} : ((x.toList == y.toList) = true) ↔ bl x = bl y := by
  rw [ByteArray.toList_eq, ByteArray.toList_eq, beq_iff_eq]; rfl
theorem ne_bl {x y : ByteArray} : ((x.toList == y.toList) = false) ↔ bl x ≠ bl y := by
  rw [ByteArray.toList_eq, ByteArray.toList_eq, beq_eq_false_iff_ne]; rfl

theorem has_step {ss : List ByteArray} {x : List UInt8} {k : Nat} (h : k < ss.length) (hno : x ∉ (ss.map bl).take k) (hne : bl ss[k] ≠ x) : x ∉ (ss.map bl).take (k + 1) := by
  rw [List.take_succ_eq_append_getElem (by simpa using h)]
  simp only [List.mem_append, List.mem_singleton, List.getElem_map]
  rintro (h | h)
  · exact hno h
  · exact hne h.symm

set_option maxHeartbeats 400000 in
theorem has_any (a : Option Addr) (cap : Nat) (ss : List ByteArray) (s : ByteArray) (w : World) (h : IsStrs w a ss) :
    Calls Try.prog 11 #[.slice a ss.length cap, .string s] w fun e w' => e = .returned (.bool (hasB (ss.map bl) (bl s))) ∧ w' = w := by
  obtain ⟨hl, hs, rfl | ⟨b, off, rfl, hb, hc⟩⟩ := h
  · go_enter Try.func11, Try.ntmps11
    go_wp2
    refine wp_loop_rounds 1 ?_
    rw [rounds_succ]
    go_wp2
    go_ret
    exact ⟨rfl, rfl⟩
  · unfold maxLen at hl
    go_enter Try.func11, Try.ntmps11
    go_wp2
    go_loop [9] (fun i => ∃ k : Nat, k ≤ ss.length ∧ i = .int .i64 k ∧ bl s ∉ (ss.map bl).take k) (fun i => ss.length - (intOf i).toNat)
    case atStart => exact ⟨0, Nat.zero_le _, rfl, by simp⟩
    case round =>
      obtain ⟨k, hk, rfl, hno⟩ := hrel
      have hcx : k < ss.length → w.cell? ⟨b, off + k, none⟩ = some (.string (ss.getD k ByteArray.empty)) := fun h => hc k h
      go_wp2
      · have hlt : k < ss.length := by assumption
        have he : (ss[k].toList == s.toList) = true := by assumption
        go_ret
        refine ⟨?_, rfl⟩
        exact hasB_yes (by rw [← eq_bl.1 he]; exact List.mem_map.2 ⟨_, List.getElem_mem _, rfl⟩)
      · have hlt : k < ss.length := by assumption
        have he : (ss[k].toList == s.toList) = false := by assumption
        have h2 := has_step hlt hno (ne_bl.1 he)
        go_round
        case rel => exact ⟨k + 1, by omega, by go_num, h2⟩
        case measure => simp [intOf]; omega
      · have hge : ¬ k < ss.length := by assumption
        have : k = ss.length := by omega
        subst this
        go_ret
        refine ⟨?_, rfl⟩
        exact hasB_no (by rw [List.take_of_length_le (by simp)] at hno; exact hno)
end Go.Proofs.Qxb6634866a
