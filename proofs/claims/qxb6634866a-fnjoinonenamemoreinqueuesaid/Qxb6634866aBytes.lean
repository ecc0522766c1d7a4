/-
  Seat b6634866a: zzBytes_.. (functions 5 and 10): they return, and leave the world alone.
-/
import Derived.Test.Qxb6634866aHas
namespace Go.Proofs.Qxb6634866a
open Go.RowKit

/-- It returns a bool. -/
def IsBool (e : Ending) : Prop := ∃ bv, e = .returned (.bool bv)
theorem isBool_mk (bv : Bool) : IsBool (.returned (.bool bv)) := ⟨bv, rfl⟩

set_option maxRecDepth 100000 in
set_option maxHeartbeats 1000000 in
theorem bytes5_any (a1 a2 : Option Addr) (c1 c2 : Nat) (A B : List ByteArray) (w : World) (hA : IsStrs w a1 A) (hB : IsStrs w a2 B) :
    Calls Try.prog 5 #[.slice a1 A.length c1, .slice a2 B.length c2] w fun e w' => IsBool e ∧ w' = w := by
  obtain ⟨hl1, hs1, hc1⟩ := hA
  obtain ⟨hl2, hs2, hc2⟩ := hB
  unfold maxLen at hl1 hl2
  clear hs1 hs2
  go_enter Try.func5, Try.ntmps5
  go_wp2
  · go_ret
    exact ⟨isBool_mk _, rfl⟩
  go_loop [5, 6] (fun z i => ∃ k t : Nat, k ≤ A.length ∧ i = .int .i64 k ∧ z = .int .i64 t ∧ t ≤ 1048576) (fun _ i => A.length - (intOf i).toNat)
  case atStart => exact ⟨0, A.length, Nat.zero_le _, rfl, rfl, by omega⟩
  case round =>
    obtain ⟨k, t, hk, rfl, rfl, ht⟩ := hrel
    by_cases hlt : k < A.length
    · rcases hc1 with rfl | ⟨b, off, rfl, hb, hc⟩
      · simp at hlt
      have hcx := hc k hlt
      go_wp2
      · go_ret
        exact ⟨isBool_mk _, rfl⟩
      · go_ret
        exact ⟨isBool_mk _, rfl⟩
      · go_round
        case rel => exact ⟨k + 1, t + A[k].size, by omega, by go_num, by go_num, by omega⟩
        case measure => simp [intOf]; omega
    · go_wp2
      · go_ret
        exact ⟨isBool_mk _, rfl⟩
      · go_ret
        exact ⟨isBool_mk _, rfl⟩
      go_loop [5, 7] (fun z i => ∃ q r : Nat, q ≤ B.length ∧ i = .int .i64 q ∧ z = .int .i64 r ∧ r ≤ 1048576) (fun _ i => B.length - (intOf i).toNat)
      case atStart => exact ⟨0, t + B.length, Nat.zero_le _, rfl, by go_num, by omega⟩
      case round =>
        obtain ⟨q, r, hq, rfl, rfl, hr⟩ := hrel
        by_cases hqt : q < B.length
        · rcases hc2 with rfl | ⟨b, off, rfl, hb, hc⟩
          · simp at hqt
          have hcx := hc q hqt
          go_wp2
          · go_ret
            exact ⟨isBool_mk _, rfl⟩
          · go_ret
            exact ⟨isBool_mk _, rfl⟩
          · go_round
            case rel => exact ⟨q + 1, r + B[q].size, by omega, by go_num, by go_num, by omega⟩
            case measure => simp [intOf]; omega
        · go_wp2
          go_ret
          exact ⟨isBool_mk _, rfl⟩

set_option maxRecDepth 100000 in
set_option maxHeartbeats 1000000 in
theorem bytes10_any (a1 a2 : Option Addr) (c1 c2 : Nat) (A B : List ByteArray) (s : ByteArray) (w : World) (hA : IsStrs w a1 A) (hB : IsStrs w a2 B) (hs : s.size ≤ maxLen) :
    Calls Try.prog 10 #[.slice a1 A.length c1, .slice a2 B.length c2, .string s] w fun e w' => IsBool e ∧ w' = w := by
  obtain ⟨hl1, hs1, hc1⟩ := hA
  obtain ⟨hl2, hs2, hc2⟩ := hB
  unfold maxLen at hl1 hl2 hs
  clear hs1 hs2
  go_enter Try.func10, Try.ntmps10
  go_wp2
  · go_ret
    exact ⟨isBool_mk _, rfl⟩
  go_loop [7, 8] (fun z i => ∃ k t : Nat, k ≤ A.length ∧ i = .int .i64 k ∧ z = .int .i64 t ∧ t ≤ 1048576) (fun _ i => A.length - (intOf i).toNat)
  case atStart => exact ⟨0, A.length, Nat.zero_le _, rfl, rfl, by omega⟩
  case round =>
    obtain ⟨k, t, hk, rfl, rfl, ht⟩ := hrel
    by_cases hlt : k < A.length
    · rcases hc1 with rfl | ⟨b, off, rfl, hb, hc⟩
      · simp at hlt
      have hcx := hc k hlt
      go_wp2
      · go_ret
        exact ⟨isBool_mk _, rfl⟩
      · go_ret
        exact ⟨isBool_mk _, rfl⟩
      · go_round
        case rel => exact ⟨k + 1, t + A[k].size, by omega, by go_num, by go_num, by omega⟩
        case measure => simp [intOf]; omega
    · go_wp2
      · go_ret
        exact ⟨isBool_mk _, rfl⟩
      · go_ret
        exact ⟨isBool_mk _, rfl⟩
      go_loop [7, 9] (fun z i => ∃ q r : Nat, q ≤ B.length ∧ i = .int .i64 q ∧ z = .int .i64 r ∧ r ≤ 1048576) (fun _ i => B.length - (intOf i).toNat)
      case atStart => exact ⟨0, t + B.length, Nat.zero_le _, rfl, by go_num, by omega⟩
      case round =>
        obtain ⟨q, r, hq, rfl, rfl, hr⟩ := hrel
        by_cases hqt : q < B.length
        · rcases hc2 with rfl | ⟨b, off, rfl, hb, hc⟩
          · simp at hqt
          have hcx := hc q hqt
          go_wp2
          · go_ret
            exact ⟨isBool_mk _, rfl⟩
          · go_ret
            exact ⟨isBool_mk _, rfl⟩
          · go_round
            case rel => exact ⟨q + 1, r + B[q].size, by omega, by go_num, by go_num, by omega⟩
            case measure => simp [intOf]; omega
        · go_wp2
          all_goals
            go_ret
            exact ⟨isBool_mk _, rfl⟩
end Go.Proofs.Qxb6634866a
