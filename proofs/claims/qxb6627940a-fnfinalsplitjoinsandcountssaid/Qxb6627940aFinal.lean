/-
  Seat b6627940a: the walks of report.Final (7), toVerdicts (6), zzBytes.. (5, 10).
-/
import Derived.Test.Qxb6627940aRows
import Derived.WalkKit
import Derived.WalkLawsBesides
import Derived.Below
import Derived.Deep.OwnRows
namespace Go.Proofs.Qxb6627940a
open Go.RowKit

/-- WHAT THE WALK IS TOLD OF A SLICE OF ints (or of Verdicts): it has as many elements as zs, and they are zs. -/
def IsInts (w : World) (a : Option Addr) (zs : List Int) : Prop :=
  zs.length ≤ maxLen ∧ (zs = [] ∨ ∃ b off, a = some ⟨b, off, none⟩ ∧ b < w.heap.size ∧ ∀ i, i < zs.length → w.cell? ⟨b, off + i, none⟩ = some (.int .i64 (zs.getD i 0)))

theorem IsInts.below {w w' : World} {a : Option Addr} {zs : List Int} (h : IsInts w a zs) (hb : Below w.heap.size w w') : IsInts w' a zs := by
  obtain ⟨h1, h3⟩ := h
  refine ⟨h1, ?_⟩
  rcases h3 with h3 | ⟨b, off, ha, hlt, hc⟩
  · exact Or.inl h3
  · exact Or.inr ⟨b, off, ha, Nat.lt_of_lt_of_le hlt hb.size, fun i hi => (hb.cell (p := ⟨b, off + i, none⟩) hlt).trans (hc i hi)⟩

/-- A row, read from place off on. -/
theorem IsInts.ofRow {w : World} {g n off : Nat} {t : TypeId} {f : Nat → Value} {zs : List Int} (h : w.rowIs g t n f) (hl : off + zs.length ≤ n) (hm : zs.length ≤ maxLen) (hf : ∀ i, i < zs.length → f (off + i) = .int .i64 (zs.getD i 0)) : IsInts w (some ⟨g, off, none⟩) zs :=
  ⟨hm, Or.inr ⟨g, off, rfl, h.lt, fun i hi => by rw [h.cell (by omega), hf i hi]⟩⟩

/-- THE VERDICT OF A RUN: FAIL if one is FAIL, PASS if all are PASS, else INCONCLUSIVE. -/
def fin (zs : List Int) : Int := if zs.any (· == 2) then 2 else if zs.all (· == 1) then 1 else 3

/-- What Final's variable holds after some steps, none of them FAIL. -/
def cur (zs : List Int) : Int := if zs.all (· == 1) then 1 else 3
theorem cur_nil : cur [] = 1 := rfl
theorem cur_pass {zs : List Int} {k : Nat} (h : k < zs.length) (he : zs[k] = 1) : cur (zs.take (k + 1)) = cur (zs.take k) := by
  unfold cur; rw [List.take_succ_eq_append_getElem h, List.all_append, he]; simp
theorem cur_other {zs : List Int} {k : Nat} (h : k < zs.length) (he : zs[k] ≠ 1) : cur (zs.take (k + 1)) = 3 := by
  unfold cur; rw [List.take_succ_eq_append_getElem h, List.all_append]; simp [he]
theorem no_step {zs : List Int} {k : Nat} (h : k < zs.length) (hn : (zs.take k).any (· == 2) = false) (he : zs[k] ≠ 2) : (zs.take (k + 1)).any (· == 2) = false := by
  rw [List.take_succ_eq_append_getElem h, List.any_append, hn]; simp [he]
theorem fin_fail {zs : List Int} {k : Nat} (h : k < zs.length) (he : zs[k] = 2) : fin zs = 2 := by
  have : zs.any (· == 2) = true := List.any_eq_true.2 ⟨_, List.getElem_mem h, by simp [he]⟩
  simp [fin, this]
theorem fin_end {zs : List Int} (hn : (zs.take zs.length).any (· == 2) = false) : cur (zs.take zs.length) = fin zs := by
  rw [List.take_length] at hn ⊢
  simp only [fin, hn, cur]
  rfl

theorem ret_i64 {a b : Int} (h : a = b) : Ending.returned (.int .i64 a) = .returned (.int .i64 b) := by rw [h]
theorem int_i64 {a b : Int} (h : a = b) : Value.int .i64 a = .int .i64 b := by rw [h]

set_option maxHeartbeats 400000 in
theorem final_any (a : Option Addr) (cap : Nat) (zs : List Int) (w : World) (h : IsInts w a zs) :
    Calls Try.prog 7 #[.slice a zs.length cap] w fun e w' => e = .returned (.int .i64 (fin zs)) ∧ w' = w := by
  obtain ⟨hl, rfl | ⟨b, off, rfl, hb, hc⟩⟩ := h
  · go_enter Try.func7, Try.ntmps7
    go_wp2
    refine wp_loop_rounds 1 ?_
    rw [rounds_succ]
    go_wp2
    go_ret
    exact ⟨rfl, rfl⟩
  · unfold maxLen at hl
    go_enter Try.func7, Try.ntmps7
    go_wp2
    go_loop [3, 8] (fun f i => ∃ k : Nat, k ≤ zs.length ∧ i = .int .i64 k ∧ f = .int .i64 (cur (zs.take k)) ∧ Hid ((zs.take k).any (· == 2) = false)) (fun _ i => zs.length - (intOf i).toNat)
    case atStart => exact ⟨0, Nat.zero_le _, rfl, rfl, rfl⟩
    case round =>
      obtain ⟨k, hk, rfl, rfl, hno⟩ := hrel
      have hcx : k < zs.length → w.cell? ⟨b, off + k, none⟩ = some (.int .i64 (zs.getD k 0)) := fun h => hc k h
      go_wp2
      · have hlt : k < zs.length := by assumption
        have he : (zs[k] == 2) = true := by assumption
        go_ret
        exact ⟨ret_i64 (fin_fail hlt (by simpa using he)).symm, rfl⟩
      · have hlt : k < zs.length := by assumption
        have h2 : (zs[k] == 2) = false := by assumption
        have h1 : (zs[k] == 1) = true := by assumption
        go_round
        case rel => exact ⟨k + 1, by omega, by go_num, int_i64 (cur_pass hlt (by simpa using h1)).symm, no_step hlt hno.out (by simpa using h2)⟩
        case measure => simp [intOf]; omega
      · have hlt : k < zs.length := by assumption
        have h2 : (zs[k] == 2) = false := by assumption
        have h1 : (zs[k] == 1) = false := by assumption
        go_round
        case rel => exact ⟨k + 1, by omega, by go_num, int_i64 (cur_other hlt (by simpa using h1)).symm, no_step hlt hno.out (by simpa using h2)⟩
        case measure => simp [intOf]; omega
      · have hge : ¬ k < zs.length := by assumption
        have : k = zs.length := by omega
        subst this
        go_ret
        exact ⟨ret_i64 (fin_end hno.out), rfl⟩

theorem Try.info26 : (Try.prog.info? 26).map (fun i => (i.zero, i.size, i.bytes)) = some (some (.int .i64 0), 1, 8) := by kernel_rfl
theorem made (n : Nat) (hn : n ≤ 70000) (w : World) : (Instr.makeSlice 24 (.int .i64 (n : Int)) (.int .i64 (n : Int))).run Try.prog w = .ok (.slice (some ⟨w.heap.size, 0, none⟩) n n) (w.alloc (.cells (madeCells #[.int .i64 0] n) 26)) :=
  run_make_row' 24 26 (.int .i64 0) 8 Try.underlying24 Try.info26 rfl .i64 .i64 n (by omega) (by omega) w

/-- The first k numbers of zs; behind them zeros. -/
def upto (zs : List Int) (k i : Nat) : Value := .int .i64 (if i < k then zs.getD i 0 else 0)
theorem upto_set (zs : List Int) (k : Nat) : (fun j => if j = k then Value.int .i64 (zs.getD k 0) else upto zs k j) = upto zs (k + 1) := by
  funext j
  unfold upto
  by_cases h : j = k
  · subst h; simp
  · by_cases h2 : j < k
    · simp [h, h2, show j < k + 1 by omega]
    · simp [h, h2, show ¬ j < k + 1 by omega]

set_option maxHeartbeats 400000 in
theorem toVerdicts_any (a : Option Addr) (cap : Nat) (zs : List Int) (w : World) (h : IsInts w a zs) (hn : zs.length ≤ 65536) :
    Calls Try.prog 6 #[.slice a zs.length cap] w fun e w' => e = .returned (.slice (some ⟨w.heap.size, 0, none⟩) zs.length zs.length) ∧ w'.rowIs w.heap.size 26 zs.length (upto zs zs.length) ∧ Below w.heap.size w w' := by
  have hmk := made zs.length (by omega)
  obtain ⟨hl, hc⟩ := h
  clear hl
  go_enter Try.func6, Try.ntmps6
  go_wp2
  go_loopw [4] (fun i wr => ∃ k : Nat, k ≤ zs.length ∧ i = .int .i64 k ∧ wr.rowIs w.heap.size 26 zs.length (upto zs k) ∧ Below w.heap.size w wr) (fun i _ => zs.length - (intOf i).toNat)
  case atStart => exact ⟨0, Nat.zero_le _, rfl, (World.rowIs_made _ _ _ _).congr (fun i _ => by simp [upto]), (Below.refl _ _).alloc (Nat.le_refl _) _⟩
  case round =>
    obtain ⟨k, hk, rfl, hrow, hnx⟩ := hrel
    by_cases hlt : k < zs.length
    · rcases hc with rfl | ⟨b, off, rfl, hb, hc⟩
      · simp at hlt
      obtain ⟨z, hz⟩ : ∃ z, z = zs.getD k 0 := ⟨_, rfl⟩
      have hcx : wr.cell? ⟨b, off + k, none⟩ = some (.int .i64 z) := by rw [hz]; exact (hnx.cell (by exact hb)).trans (hc k hlt)
      have hr := hrow.cell hlt
      have hf := hrow.frozen k
      have R1 := hrow.set k (.int .i64 z)
      rw [hz, upto_set, ← hz] at R1
      have R2 := hnx.setCell (p := ⟨w.heap.size, k, none⟩) (Nat.le_refl _) (.int .i64 z)
      clear hz hc hrow
      go_wp2
      go_roundw
      case rel => exact ⟨k + 1, by omega, by go_num, R1, R2⟩
      case measure => simp [intOf]; omega
    · have : k = zs.length := by omega
      subst this
      go_wp2
      go_ret
      exact ⟨rfl, hrow, hnx⟩

/-- It returns a bool. -/
def IsBool (e : Ending) : Prop := ∃ bv, e = .returned (.bool bv)
theorem isBool_mk (bv : Bool) : IsBool (.returned (.bool bv)) := ⟨bv, rfl⟩

theorem bytes5_any (a : Option Addr) (n cap : Nat) (c : Int) (w : World) (h : n ≤ maxLen) : Calls Try.prog 5 #[.slice a n cap, .int .i64 c] w fun e w' => IsBool e ∧ w' = w := by
  unfold maxLen at h
  go_enter Try.func5, Try.ntmps5
  go_wp2
  all_goals
    go_ret
    exact ⟨isBool_mk _, rfl⟩
theorem bytes10_any (a : Option Addr) (n cap : Nat) (c d : Int) (w : World) (h : n ≤ maxLen) : Calls Try.prog 10 #[.slice a n cap, .int .i64 c, .int .i64 d] w fun e w' => IsBool e ∧ w' = w := by
  unfold maxLen at h
  go_enter Try.func10, Try.ntmps10
  go_wp2
  all_goals
    go_ret
    exact ⟨isBool_mk _, rfl⟩
end Go.Proofs.Qxb6627940a
