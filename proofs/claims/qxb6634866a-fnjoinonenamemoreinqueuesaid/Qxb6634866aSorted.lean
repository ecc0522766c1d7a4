/-
  Seat b6634866a: policy.sortedNames (function 12): the walk. After Derived/Test/SortedkeysWalksIn.lean, without the fence.
-/
import Derived.Test.Qxb6634866aNameMap
import Derived.Test.Qxb6634866aShelf
import Derived.Maps.RangeWalk
import Derived.Sort.KeysCollected
import Derived.Sort.OwnSorted
import Derived.OwnWalk
import Derived.Maps.AppendAt
namespace Go.Proofs.Qxb6634866a
open Go.RowKit Go.Maps Go.Sort

theorem Try.info9 : (Try.prog.info? 9).map (fun i => (i.zero, i.size, i.bytes)) = some (some (.string ⟨#[]⟩), 1, 16) := by kernel_rfl

set_option maxRecDepth 100000 in
set_option maxHeartbeats 1000000 in
theorem sorted_any (b n : Nat) (N : List (List UInt8)) (w : World) (hM : IsMapOf w b n N) (hn : n ≤ 5000) :
    Calls Try.prog 12 #[.map (some b)] w fun e w' => ∃ (g cap : Nat) (ss : List (List UInt8)), e = .returned (.slice (some ⟨g, 0, none⟩) ss.length cap) ∧ ss.Nodup ∧ (∀ x, x ∈ ss ↔ x ∈ N) ∧ ss.length ≤ n ∧ (∀ x ∈ ss, x.length ≤ maxLen) ∧
      w'.ownsRow w.heap.size 9 1 (.slice (some ⟨g, 0, none⟩) ss.length cap) ss.length (ss.map encStr) ∧ Below w.heap.size w w' := by
  obtain ⟨D0, hown, hD⟩ := hM
  obtain ⟨i0, hi, hz0, hz1, hz2⟩ := info_parts Try.info9
  have hbl := hown.lt
  have hsz := hown.size_le
  have hmax : Maps.size D0 ≤ maxLen := by unfold maxLen; omega
  go_enter Try.func12, Try.ntmps12
  go_wp2_with (first
    | (at_len; refine wpList_len_own _ rfl _ 24 rfl 9 33 Try.underlying24 _ b n _ rfl hown ?_)
    | (at_make; refine wpList_make_own _ rfl _ _ 22 rfl w.heap.size 9 i0 (.string ⟨#[]⟩) 1 Try.underlying22 hi hz0 hz1 _ _ _ (Maps.size D0) rfl rfl rfl (by rw [hz2]; omega) hmax (Nat.le_refl _) ?_; intro w1 hrow1 hg1)
    | (at_range; refine wpList_range_own _ rfl _ 24 rfl 9 33 law9 Try.underlying24 _ b n _ rfl (hown.kept hg1 (by simp)) ?_; intro w0 hrg0 hg0 hs0)
    | go_in)
  go_frame
  go_loopw [3] (fun v wr => ∃ (left : Lit → Bool) (cnt : Nat) (ss : List (List UInt8)), wr.ranges Try.prog 9 zElem b w1.heap.size n D0 left cnt ∧ ss.length + cnt ≤ Maps.size D0 ∧
      wr.ownsRow w.heap.size 9 1 v ss.length (ss.map encStr) ∧ v ≠ .slice none 0 0 ∧ Collected D0 left ss ∧ Below w.heap.size w wr)
    (fun _ wr => wr.rangeLeft b w1.heap.size)
  case atStart =>
    exact ⟨_, _, [], hrg0, by simp, hrow1.kept hg0 (Or.inr (by simp [Value.ownBlock])), by simp, Collected.start D0,
      ((Below.refl _ _).grown hg1 (Nat.le_refl _) (fun j hj => by cases hj)).grown hg0 hg1.size (fun j hj => by cases hj)⟩
  case round =>
    obtain ⟨left, cnt, ss, hrg, hcs, hrow, hnn, hC, hnx⟩ := hrel
    go_wp2_with (first
      | (at_next; refine wpList_next_ranges _ rfl _ rfl 9 law9 zElem encStr (fun _ : Unit => .agg #[.int .i64 0, .pointer none, .int .i64 0]) (fun key kl hk => by obtain ⟨x, hx, _⟩ := Maps.keyOf_str Try.underlying9 hk; exact ⟨x, hx⟩) (fun v y hv => by obtain ⟨rfl, _⟩ := zElem_inv hv; exact ⟨(), rfl⟩) b w1.heap.size n _ _ _ rfl hrg ?_ ?_)
      | go_in)
    · -- NOTHING IS LEFT: the slice is sorted and handed back
      intro hc0 hl0
      rcases hrow.2 with ⟨hnil, _⟩ | ⟨g, cap, cur, rfl, hbase, hb, h1, h2, h3, h4⟩
      · exact absurd hnil hnn
      have hH : Holds encStr wr g 0 ss.toArray := holds_of_block hb (by simpa using h4)
      have hgl : g < wr.heap.size := (Array.getElem?_eq_some_iff.1 hb).1
      have hc := Try.sort_Strings g 0 cap ss wr hH hgl (by omega)
      go_wp2_with (go_at_call 13; refine hc.mono ?_; rintro e w' ⟨rfl, nn, os, rfl⟩)
      go_ret
      have hp := List.mergeSort_perm ss (fun x y => decide (x ≤ y))
      have hmem : ∀ x, x ∈ ss ↔ x ∈ N := fun x => by rw [hC.2 x, hl0, hD x]; simp [hasB_true]
      refine ⟨g, cap, ss.mergeSort (fun x y => decide (x ≤ y)), by simp, hp.nodup_iff.2 hC.1, fun x => (hp.mem_iff).trans (hmem x), by simp; omega, fun x hx => strKeys_le hown Try.underlying9 x ((hC.perm hown law9 Try.underlying9 hl0).mem_iff.1 (hp.mem_iff.1 hx)), ?_, hnx.grown (grownBy_sorted _) hnx.size (fun j hj => by cases hj; exact hbase)⟩
      have := ownsRow_sorted (n := nn) (os := os) (ts := ss.mergeSort (fun x y => decide (x ≤ y))) (by simp) hbase hb h1 h2 h3
      simpa using this
    · -- AN ENTRY HAS COME: its key goes to the slice's end
      intro x kl yd yp w2 cnt2 hkey hlk hv hat hrg2 hlt hg2 hs2 hen
      obtain ⟨x', ex, rfl, _⟩ := Maps.keyOf_str Try.underlying9 hkey
      obtain rfl : x = x' := encStr_inj ex
      have hrow2 := hrow.kept hg2 (Or.inr (row_ne_iter hrow hrg).symm)
      clear hs2
      go_wp2_with (first
        | (at_builtin; refine wpList_append_own _ rfl _ _ 22 rfl w.heap.size 9 i0 (.string ⟨#[]⟩) 1 16 Try.underlying22 hi hz0 hz1 hz2 rfl (by decide) _ _ _ rfl (hrow2.alloc _) ⟨w2.heap.size, 0, none⟩ 1 1 [encStr x] rfl rfl (cell_one_new _ _ _) (by simp [Value.oneCell', encStr]) (by unfold maxLen at *; omega) (by omega) (by have := hnx.size; have := hg2.size; simp; omega) ?_; intro v' w3 hown' hg3 hnil3; go_frame)
        | go_in)
      have hrg3 := (hrg2.alloc _).kept hg3 (row_ne_low hrow2 hbl) (row_ne_iter hrow2 hrg2)
      go_roundw
      case rel =>
        refine ⟨_, cnt2, ss ++ [x], hrg3, by simp; omega, by simpa using hown', fun hv' => by have := (hnil3.1 hv').2; omega, hC.step hlk hat, ?_⟩
        exact ((hnx.grown hg2 hnx.size (fun j hj => by cases hj; exact hg1.size)).alloc (by have := hnx.size; have := hg2.size; omega) _).grown hg3 (by have := hnx.size; have := hg2.size; simp; omega) (fun j hj => (hrow2.lt j hj).1)
      case measure => rw [hrg3.left_eq, hrg.left_eq]; exact hlt
#print axioms sorted_any
end Go.Proofs.Qxb6634866a
