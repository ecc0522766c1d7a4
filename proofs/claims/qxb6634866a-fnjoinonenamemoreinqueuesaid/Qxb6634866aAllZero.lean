/-
  Seat b6634866a: zzJoinAllZero (function 9): the walk.
-/
import Derived.Test.Qxb6634866aJoin
namespace Go.Proofs.Qxb6634866a
open Go.RowKit Go.Maps Go.Sort

theorem zrow_at : ∀ (n k : Nat), k < n → (zrow n)[k * 6]? = some (.int .i64 0) ∧ (zrow n)[k * 6 + 1]? = some (.pointer none) ∧ (zrow n)[k * 6 + 2]? = some (.int .i64 0) ∧ (zrow n)[k * 6 + 3]? = some (.int .i64 0) ∧ (zrow n)[k * 6 + 4]? = some (.pointer none) ∧ (zrow n)[k * 6 + 5]? = some (.int .i64 0)
  | 0, k, h => absurd h (Nat.not_lt_zero _)
  | n + 1, k, h => by
    have hl := zrow_length n
    unfold zrow
    by_cases hk : k < n
    · obtain ⟨h0, h1, h2, h3, h4, h5⟩ := zrow_at n k hk
      refine ⟨?_, ?_, ?_, ?_, ?_, ?_⟩ <;> rw [List.getElem?_append_left (by omega)] <;> assumption
    · obtain rfl : k = n := by omega
      refine ⟨?_, ?_, ?_, ?_, ?_, ?_⟩ <;> rw [List.getElem?_append_right (by omega), hl] <;> simp [Nat.add_sub_cancel_left]

theorem nil_same (w : World) : Sem.run Try.prog (Op.equalIn 9999 31 (.pointer none) (.pointer none)) w = .ok true w := by kernel_rfl

set_option maxRecDepth 100000 in
set_option maxHeartbeats 1000000 in
theorem allZero_any (base : Nat) (v : Value) (n : Nat) (w : World) (h : w.ownsRow base 38 6 v n (zrow n)) (hn : n ≤ 5000) :
    Calls Try.prog 9 #[v] w fun e w' => e = .returned (.bool true) ∧ w' = w := by
  rcases h.2 with ⟨rfl, rfl⟩ | ⟨g, cap, cur, rfl, hg, hb, h1, h2, h3, h4⟩
  · go_enter Try.func9, Try.ntmps9
    go_wp2
    refine wp_loop_rounds 1 ?_
    rw [rounds_succ]
    go_wp2
    go_ret
    exact ⟨rfl, rfl⟩
  · have hc : ∀ k, k < n → w.cell? ⟨g, k * 6, none⟩ = some (.int .i64 0) ∧ w.cell? ⟨g, k * 6 + 1, none⟩ = some (.pointer none) ∧ w.cell? ⟨g, k * 6 + 2, none⟩ = some (.int .i64 0) ∧ w.cell? ⟨g, k * 6 + 3, none⟩ = some (.int .i64 0) ∧ w.cell? ⟨g, k * 6 + 4, none⟩ = some (.pointer none) ∧ w.cell? ⟨g, k * 6 + 5, none⟩ = some (.int .i64 0) := fun k hk => by
      obtain ⟨r0, r1, r2, r3, r4, r5⟩ := zrow_at n k hk
      refine ⟨?_, ?_, ?_, ?_, ?_, ?_⟩ <;> rw [h.cellAt _ (by omega)] <;> assumption
    clear h hb h3 h4
    go_enter Try.func9, Try.ntmps9
    go_wp2
    go_loop [3] (fun i => ∃ k : Nat, k ≤ n ∧ i = .int .i64 k) (fun i => n - (intOf i).toNat)
    case atStart => exact ⟨0, Nat.zero_le _, rfl⟩
    case round =>
      obtain ⟨k, hk, rfl⟩ := hrel
      by_cases hlt : k < n
      · obtain ⟨r0, r1, r2, r3, r4, r5⟩ := hc k hlt
        clear hc
        have hpp := nil_same
        go_wp2
        go_round
        case rel => exact ⟨k + 1, by omega, by go_num⟩
        case measure => simp [intOf]; omega
      · go_wp2
        go_ret
        exact ⟨rfl, rfl⟩
end Go.Proofs.Qxb6634866a
