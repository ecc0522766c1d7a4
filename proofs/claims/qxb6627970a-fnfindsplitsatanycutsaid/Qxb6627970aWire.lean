/-
  Seat b6627970a: toWire (7): the walk.
-/
import Derived.Test.Qxb6627970aBase
import Derived.Deep.OwnRows
import Derived.RegionTactic
import Derived.ChangeAlike
namespace Go.Proofs.Qxb6627970a
open Go.RowKit

theorem Try.info31 : (Try.prog.info? 31).map (fun i => (i.zero, i.size, i.bytes)) = some (some (.agg #[.int .u16 0, .slice none 0 0]), 2, 32) := by kernel_rfl
theorem made2 (n : Nat) (hn : n ≤ 40000) (w : World) : (Instr.makeSlice 27 (.int .i64 (n : Int)) (.int .i64 (n : Int))).run Try.prog w = .ok (.slice (some ⟨w.heap.size, 0, none⟩) n n) (w.alloc (.cells (madeCells #[.int .u16 0, .slice none 0 0] (n * 2)) 31)) := by
  obtain ⟨i, hi, hz0, hz1, hz2⟩ := info_parts Try.info31
  have hr := run_make (P := Try.prog) w 27 31 i _ Try.underlying27 hi hz0 .i64 .i64 n n (by omega) (Int.le_refl _) (by rw [hz2]; omega) (by omega)
  simp only [Int.toNat_natCast, hz1] at hr
  exact hr

/-- The cells of the first k parameters; behind them zeros. -/
def prow (ps : List PP) (k i : Nat) : Value :=
  if i % 2 = 0 then .int .u16 (if i < k * 2 then (ps.getD (i / 2) dft).ty else 0)
  else if i < k * 2 then .slice (ps.getD (i / 2) dft).a (ps.getD (i / 2) dft).n (ps.getD (i / 2) dft).c else .slice none 0 0

theorem prow_set (ps : List PP) (k : Nat) : (fun j => if j = k * 2 + 1 then Value.slice (ps.getD k dft).a (ps.getD k dft).n (ps.getD k dft).c else if j = k * 2 then .int .u16 (ps.getD k dft).ty else prow ps k j) = prow ps (k + 1) := by
  funext j
  unfold prow
  by_cases h1 : j = k * 2 + 1
  · subst h1
    simp [show (k * 2 + 1) % 2 = 1 by omega, show (k * 2 + 1) / 2 = k by omega, show k * 2 + 1 < (k + 1) * 2 by omega]
  · by_cases h2 : j = k * 2
    · subst h2
      simp [show k * 2 < (k + 1) * 2 by omega]
    · have e : (j < (k + 1) * 2) = (j < k * 2) := propext ⟨fun h => by omega, fun h => by omega⟩
      simp [h1, h2, e]

theorem prow_made (ps : List PP) (n : Nat) (i : Nat) (h : i < n * 2) : (madeCells #[.int .u16 0, .slice none 0 0] (n * 2))[i]? = some (prow ps 0 i) := by
  unfold prow madeCells
  have : i % 2 = 0 ∨ i % 2 = 1 := by omega
  rcases this with e | e <;> simp [h, e]

set_option maxHeartbeats 1000000 in
theorem toWire_any (a : Option Addr) (cap : Nat) (ps : List PP) (w : World) (h : IsPs w a ps) (hn : ps.length ≤ 32768) :
    Calls Try.prog 7 #[.slice a ps.length cap] w fun e w' => e = .returned (.slice (some ⟨w.heap.size, 0, none⟩) ps.length ps.length) ∧ w'.rowIs w.heap.size 31 (ps.length * 2) (prow ps ps.length) ∧ Below w.heap.size w w' := by
  have hmk := made2 ps.length (by omega)
  obtain ⟨hl, hc⟩ := h
  clear hl
  go_enter Try.func7, Try.ntmps7
  go_wp2
  go_loopw [4] (fun i wr => ∃ k : Nat, k ≤ ps.length ∧ i = .int .i64 k ∧ wr.rowIs w.heap.size 31 (ps.length * 2) (prow ps k) ∧ Below w.heap.size w wr) (fun i _ => ps.length - (intOf i).toNat)
  case atStart =>
    refine ⟨0, Nat.zero_le _, rfl, ?_, (Below.refl _ _).alloc (Nat.le_refl _) _⟩
    have := World.rowIs_alloc w (madeCells #[.int .u16 0, .slice none 0 0] (ps.length * 2)) 31 (prow ps 0) (fun i hi => prow_made ps ps.length i (by rwa [size_madeCells] at hi))
    rwa [size_madeCells] at this
  case round =>
    obtain ⟨k, hk, rfl, hrow, hnx⟩ := hrel
    by_cases hlt : k < ps.length
    · rcases hc with rfl | ⟨b, off, rfl, hb, hc⟩
      · simp at hlt
      obtain ⟨h0, h1⟩ := hc k hlt
      obtain ⟨q, hq⟩ : ∃ q, q = ps.getD k dft := ⟨_, rfl⟩
      rw [← hq] at h0 h1
      have h0' := (hnx.cell (p := ⟨b, off + k * 2, none⟩) hb).trans h0
      have h1' := (hnx.cell (p := ⟨b, off + k * 2 + 1, none⟩) hb).trans h1
      have hr0 := hrow.cell (i := k * 2) (by omega)
      have hr1 := hrow.cell (i := k * 2 + 1) (by omega)
      have hf0 := hrow.frozen (k * 2)
      have hf1 := hrow.frozen (k * 2 + 1)
      have R1 := (hrow.set (k * 2) (.int .u16 q.ty)).set (k * 2 + 1) (.slice q.a q.n q.c)
      rw [hq, prow_set, ← hq] at R1
      have R2 := (hnx.setCell (p := ⟨w.heap.size, k * 2, none⟩) (Nat.le_refl _) (.int .u16 q.ty)).setCell (p := ⟨w.heap.size, k * 2 + 1, none⟩) (Nat.le_refl _) (.slice q.a q.n q.c)
      clear hc h0 h1 hq hrow
      go_wp2
      go_region
      all_goals go_wp2
      all_goals
        go_roundw
        case rel => exact ⟨k + 1, by omega, by go_num, R1.drew, R2.drew⟩
        case measure => simp [intOf]; omega
    · have : k = ps.length := by omega
      subst this
      go_wp2
      go_ret
      exact ⟨rfl, hrow, hnx⟩
/-- A part of a row of parameters. -/
theorem IsPs.ofRow {w : World} {g N off : Nat} {f : Nat → Value} {ps : List PP} (h : w.rowIs g 31 N f) (hl : off + ps.length * 2 ≤ N) (hm : ps.length ≤ maxLen)
    (hf : ∀ i, i < ps.length → f (off + i * 2) = .int .u16 (ps.getD i dft).ty ∧ f (off + i * 2 + 1) = .slice (ps.getD i dft).a (ps.getD i dft).n (ps.getD i dft).c) : IsPs w (some ⟨g, off, none⟩) ps :=
  ⟨hm, Or.inr ⟨g, off, rfl, h.lt, fun i hi => ⟨by rw [h.cell (by omega), (hf i hi).1], by rw [h.cell (by omega), (hf i hi).2]⟩⟩⟩

theorem prow_at {ps : List PP} {j : Nat} (h : j < ps.length) : prow ps ps.length (j * 2) = .int .u16 (ps.getD j dft).ty ∧ prow ps ps.length (j * 2 + 1) = .slice (ps.getD j dft).a (ps.getD j dft).n (ps.getD j dft).c := by
  unfold prow
  constructor
  · simp [show j * 2 < ps.length * 2 by omega]
  · simp [show (j * 2 + 1) % 2 = 1 by omega, show (j * 2 + 1) / 2 = j by omega, show j * 2 + 1 < ps.length * 2 by omega]

theorem whole_ps {w : World} {g : Nat} {ps : List PP} (h : w.rowIs g 31 (ps.length * 2) (prow ps ps.length)) (hm : ps.length ≤ maxLen) : IsPs w (some ⟨g, 0, none⟩) ps :=
  IsPs.ofRow h (by omega) hm fun i hi => by simpa using prow_at hi
theorem take_ps {w : World} {g : Nat} {ps : List PP} {c : Nat} (h : w.rowIs g 31 (ps.length * 2) (prow ps ps.length)) (hm : ps.length ≤ maxLen) (hc : c ≤ ps.length) : IsPs w (some ⟨g, 0, none⟩) (ps.take c) :=
  IsPs.ofRow h (by simp; omega) (by simp; omega) fun i hi => by
    have h1 : i < c := by simp at hi; omega
    have e : (ps.take c).getD i dft = ps.getD i dft := by simp [List.getD, List.getElem?_take_of_lt h1]
    rw [e]
    simpa using prow_at (ps := ps) (j := i) (by omega)
theorem drop_ps {w : World} {g : Nat} {ps : List PP} {c : Nat} (h : w.rowIs g 31 (ps.length * 2) (prow ps ps.length)) (hm : ps.length ≤ maxLen) : IsPs w (some ⟨g, c * 2, none⟩) (ps.drop c) := by
  by_cases hc : c ≤ ps.length
  · refine IsPs.ofRow h (by simp; omega) (by simp; omega) fun i hi => ?_
    have h1 : c + i < ps.length := by simp at hi; omega
    have e : (ps.drop c).getD i dft = ps.getD (c + i) dft := by simp [List.getD, List.getElem?_drop]
    rw [e, show c * 2 + i * 2 = (c + i) * 2 by omega]
    exact prow_at h1
  · exact ⟨by simp; omega, Or.inl (List.drop_eq_nil_of_le (by omega))⟩
end Go.Proofs.Qxb6627970a
