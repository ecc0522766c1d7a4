/-
  Seat b6627970a: the arguments opened: a slice of bytes; a slice of parameters.
-/
import Derived.Test.Qxb6627970aBase
import Derived.ProofKit
import Derived.OpenShut
import Derived.ShutString
import Derived.ChangeOld
import Derived.Deep.SlicePairs
namespace Go.Proofs.Qxb6627970a
open Go.ChangeShapes Go.WideShapes Go.ChangeAt Go.RowKit

theorem own : ownKnob Try.prog.godebug = none := by kernel_rfl
theorem laidOut : laidOutB Try.prog = true := by kernel_rfl

/-- A cell that can be read lies in a block that is there, at a plain address. -/
theorem cell_plain {W : World} {x : Addr} {v : Value} {i : Nat} (h : W.cell? (x.add i) = some v) (hi : i = 0) : ∃ b off, x = ⟨b, off, none⟩ ∧ b < W.heap.size := by
  subst hi
  obtain ⟨b, off, f⟩ := x
  have hf0 : f = none := by simpa [Addr.add] using World.cell?_spot h
  subst hf0
  refine ⟨b, off, rfl, ?_⟩
  rw [add_plain] at h
  apply Classical.byContradiction
  intro hlt
  have : W.heap[b]? = none := Array.getElem?_eq_none (by omega)
  simp [World.cell?, this] at h

theorem bytes_open {H : Type} {enc : TypeId × Value → H} {W : World} {sp : Nat → Bool} {held : Bool} {cs : List Value} {x : DataW H × List MemPlace} {fuel : Nat}
    (hf : DataW.trod enc Try.prog W 0 sp held fuel 24 cs = some x) : ∃ a n c, cs = [.slice a n c] ∧ OkB W a n := by
  rcases open_ints Try.underlying24 Try.underlying5 (by kernel_rfl) hf with ⟨hcs, _⟩ | ⟨y, l, c, zs, hcs, _, hl, hm, hz, _, hcell, _⟩
  · exact ⟨none, 0, 0, hcs, OkB.nil W⟩
  · refine ⟨some y, l, c, hcs, by omega, ?_⟩
    have hlen : l ≤ zs.length := by rw [hz]; split <;> omega
    by_cases h0 : l = 0
    · exact Or.inl h0
    · right
      obtain ⟨b, off, rfl, hb⟩ := cell_plain (hcell 0 (by omega)) rfl
      exact ⟨b, off, rfl, hb, fun i hi => ⟨_, by rw [← add_plain]; exact hcell i (by omega)⟩⟩

theorem ps_open {H : Type} {enc : TypeId × Value → H} {W : World} {sp : Nat → Bool} {held : Bool} {a : Option Addr} {len cap : Nat} {x : DataW H × List MemPlace} {fuel : Nat}
    (hf : DataW.trod enc Try.prog W 0 sp held fuel 22 (Value.slice a len cap).cells.toList = some x) : ∃ ps : List PP, len = ps.length ∧ IsPs W a ps ∧ ∀ p ∈ ps, OkB W p.a p.n := by
  rcases Go.Deep.open_slice_pairs Try.underlying22 Try.underlying37 (by kernel_rfl) rfl rfl (by kernel_rfl) (by kernel_rfl) hf with ⟨hcs, _⟩ | ⟨y, l, c, m, n, V0, V1, D0, D1, P0, P1, hcs, _, hl, hm, hmm, _, hx⟩
  · simp [Value.cells] at hcs
    obtain ⟨rfl, rfl, rfl⟩ := hcs
    exact ⟨[], rfl, ⟨by simp, Or.inl rfl⟩, by simp⟩
  · simp [Value.cells] at hcs
    obtain ⟨rfl, rfl, rfl⟩ := hcs
    have hlm : len ≤ m := by rw [hmm]; split <;> omega
    have each : ∀ i, i < len → ∃ q : PP, W.cell? (y.add (i * 2)) = some (.int .u16 q.ty) ∧ W.cell? (y.add (i * 2 + 1)) = some (.slice q.a q.n q.c) ∧ OkB W q.a q.n := by
      intro i hi
      obtain ⟨e0, e1, t0, t1⟩ := hx i (by omega)
      obtain ⟨z, hz, _⟩ := DataW.trod_int Try.underlying23 t0
      obtain ⟨ba, bn, bc, hs, hok⟩ := bytes_open t1
      simp at hz hs
      exact ⟨⟨z, ba, bn, bc⟩, by rw [e0, hz], by rw [e1, hs], hok⟩
    obtain ⟨f, hf'⟩ := @Go.Deep.choose_lt PP ⟨dft⟩ len _ each
    have hg : ∀ i, i < len → ((List.range len).map f).getD i dft = f i := fun i hi => by simp [List.getD, hi]
    refine ⟨(List.range len).map f, by simp, ⟨by simp; omega, ?_⟩, ?_⟩
    · by_cases h0 : len = 0
      · subst h0; exact Or.inl (by simp)
      · right
        obtain ⟨b, off, rfl, hb⟩ := cell_plain (i := 0) (by have := (hf' 0 (by omega)).1; simpa using this) rfl
        refine ⟨b, off, rfl, hb, fun i hi => ?_⟩
        have hi' : i < len := by simpa using hi
        obtain ⟨e0, e1, _⟩ := hf' i hi'
        rw [add_plain] at e0 e1
        rw [hg i hi']
        exact ⟨e0, e1⟩
    · intro p hp
      obtain ⟨i, hi, rfl⟩ := List.mem_map.1 hp
      exact (hf' i (List.mem_range.1 hi)).2.2
end Go.Proofs.Qxb6627970a
