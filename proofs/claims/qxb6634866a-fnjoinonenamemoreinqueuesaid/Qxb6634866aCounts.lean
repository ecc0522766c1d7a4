/-
  Seat b6634866a: FnJoinCountsCommonNamesEitherWay (function 3): the walk.
-/
import Derived.Test.Qxb6634866aPlain
import Derived.Test.Qxb6634866aBytes
namespace Go.Proofs.Qxb6634866a
open Go.RowKit

theorem IsMapOf.drewN {w : World} {b n : Nat} {N : List (List UInt8)} (h : IsMapOf w b n N) (q : Nat) : IsMapOf (w.drewN q) b n N := h

/-- Join, the counts' lists written as they came in; either way round. -/
theorem join_ab (A B : List ByteArray) (b1 b2 n1 n2 : Nat) (w : World) (hM1 : IsMapOf w b1 n1 (A.map bl)) (hM2 : IsMapOf w b2 n2 (B.map bl)) (hn : n1 ≤ 5000) :
    Calls Try.prog 8 #[.map (some b1), .map (some b2)] w fun e w' => ∃ (a : Option Addr) (cap : Nat), e = .returned (.slice a (cnt (A.map bl) (B.map bl) A.length) cap) ∧
      w'.ownsRow w.heap.size 38 6 (.slice a (cnt (A.map bl) (B.map bl) A.length) cap) (cnt (A.map bl) (B.map bl) A.length) (zrow (cnt (A.map bl) (B.map bl) A.length)) ∧ Below w.heap.size w w' := by
  have := join_cnt b1 b2 n1 n2 _ _ w hM1 hM2 hn
  rwa [show (A.map bl).length = A.length by simp] at this
theorem join_ba (A B : List ByteArray) (b1 b2 n1 n2 : Nat) (w : World) (hM1 : IsMapOf w b1 n1 (A.map bl)) (hM2 : IsMapOf w b2 n2 (B.map bl)) (hn : n2 ≤ 5000) :
    Calls Try.prog 8 #[.map (some b2), .map (some b1)] w fun e w' => ∃ (a : Option Addr) (cap : Nat), e = .returned (.slice a (cnt (A.map bl) (B.map bl) A.length) cap) ∧
      w'.ownsRow w.heap.size 38 6 (.slice a (cnt (A.map bl) (B.map bl) A.length) cap) (cnt (A.map bl) (B.map bl) A.length) (zrow (cnt (A.map bl) (B.map bl) A.length)) ∧ Below w.heap.size w w' := by
  have := join_cnt b2 b1 n2 n1 _ _ w hM2 hM1 hn
  rwa [cnt_comm, show (A.map bl).length = A.length by simp] at this

set_option maxRecDepth 100000 in
set_option maxHeartbeats 2000000 in
theorem counts_any (a1 a2 : Option Addr) (c1 c2 : Nat) (A B : List ByteArray) (w : World) (hA : IsStrs w a1 A) (hB : IsStrs w a2 B) :
    Calls Try.prog 3 #[.slice a1 A.length c1, .slice a2 B.length c2] w fun e w' => e = .returned (.bool true) ∧ Below w.heap.size w w' := by
  have HA : Hid (IsStrs w a1 A) := hA
  have HB : Hid (IsStrs w a2 B) := hB
  obtain ⟨hl1, _, hc1⟩ := hA
  obtain ⟨hl2, _, hc2⟩ := hB
  unfold maxLen at hl1 hl2
  go_enter Try.func3, Try.ntmps3
  go_wp2_with fail
  refine (bytes5_any _ _ _ _ _ _ _ HA.out HB.out).mono ?_
  rintro e w' ⟨⟨bv, rfl⟩, rfl⟩
  cases bv with
  | false =>
    go_wp2
    go_ret
    exact ⟨rfl, Below.refl _ _⟩
  | true =>
    by_cases h1 : A.length ≤ 4096
    · by_cases h2 : B.length ≤ 4096
      · go_wp2
        go_loop [5, 29] (fun z i => ∃ k t : Nat, k ≤ A.length ∧ i = .int .i64 k ∧ z = .int .i64 t ∧ t ≤ 1048576) (fun _ i => A.length - (intOf i).toNat)
        case atStart => exact ⟨0, 0, Nat.zero_le _, rfl, rfl, by omega⟩
        case round =>
          obtain ⟨k, t, hk, rfl, rfl, ht⟩ := hrel
          by_cases hlt : k < A.length
          · rcases hc1 with rfl | ⟨b, off, rfl, hb, hc⟩
            · simp at hlt
            have hcx := hc k hlt
            go_wp2
            · go_ret
              exact ⟨rfl, Below.refl _ _⟩
            · go_ret
              exact ⟨rfl, Below.refl _ _⟩
            · go_round
              case rel => exact ⟨k + 1, t + (16 + A[k].size), by omega, by go_num, by go_num, by omega⟩
              case measure => simp [intOf]; omega
          · go_wp2
            go_loop [5, 46] (fun z i => ∃ k t : Nat, k ≤ B.length ∧ i = .int .i64 k ∧ z = .int .i64 t ∧ t ≤ 1048576) (fun _ i => B.length - (intOf i).toNat)
            case atStart => exact ⟨0, t, Nat.zero_le _, rfl, rfl, by omega⟩
            case round =>
              obtain ⟨q, r, hq, rfl, rfl, hr⟩ := hrel
              by_cases hqt : q < B.length
              · rcases hc2 with rfl | ⟨b, off, rfl, hb, hc⟩
                · simp at hqt
                have hcx := hc q hqt
                go_wp2
                · go_ret
                  exact ⟨rfl, Below.refl _ _⟩
                · go_ret
                  exact ⟨rfl, Below.refl _ _⟩
                · go_round
                  case rel => exact ⟨q + 1, r + (16 + B[q].size), by omega, by go_num, by go_num, by omega⟩
                  case measure => simp [intOf]; omega
              · go_wp2_with fail
                have hle := cnt_le (A.map bl) (B.map bl) A.length
                refine (nameMap_any _ _ _ _ HA.out h1).mono ?_
                rintro e w1 ⟨rfl, hm1, hb1⟩
                go_wp2_with fail
                refine (nameMap_any _ _ _ _ (HB.out.below hb1) h2).mono ?_
                rintro e w2 ⟨rfl, hm2, hb2⟩
                go_wp2_with fail
                refine (common_any _ _ _ _ _ _ _ ((HA.out.below hb1).below hb2) ((HB.out.below hb1).below hb2)).mono ?_
                rintro e w3 ⟨rfl, n3, rfl⟩
                go_wp2_with fail
                refine (join_ab A B _ _ _ _ _ ((hm1.below hb2 hm1.lt).drewN n3) (hm2.drewN n3) (by omega)).mono ?_
                rintro e w4 ⟨a4, c4, rfl, hr4, hb4⟩
                go_wp2_with fail
                refine (join_ba A B _ _ _ _ _ (((hm1.below hb2 hm1.lt).drewN n3).below hb4 ((hm1.below hb2 hm1.lt).drewN n3).lt) ((hm2.drewN n3).below hb4 (hm2.drewN n3).lt) (by omega)).mono ?_
                rintro e w5 ⟨a5, c5, rfl, hr5, hb5⟩
                have s12 : w1.heap.size ≤ w2.heap.size := hb2.size
                have s24 : w2.heap.size ≤ w4.heap.size := hb4.size
                have hb5' := hb5
                have hbel := hb1.trans ((hb2.mono hb1.size).trans ((below_drewN (Below.refl _ w2) n3).trans ((hb4.mono (Nat.le_trans hb1.size s12)).trans (hb5.mono (Nat.le_trans hb1.size (Nat.le_trans s12 s24))))))
                clear s12 s24
                go_wp2_with fail
                refine (allZero_any _ _ _ _ (ownsRow_below hr4 hb5') (by omega)).mono ?_
                rintro e w6 ⟨rfl, rfl⟩
                go_wp2_with fail
                refine (allZero_any _ _ _ _ hr5 (by omega)).mono ?_
                rintro e w7 ⟨rfl, rfl⟩
                go_wp2
                go_ret
                exact ⟨rfl, hbel⟩
      · have hd : (decide ((4096 : Int) < (B.length : Int))) = true := by simp; omega
        go_wp2
        go_ret
        exact ⟨rfl, Below.refl _ _⟩
    · have hd : (decide ((4096 : Int) < (A.length : Int))) = true := by simp; omega
      go_wp2
      go_ret
      exact ⟨rfl, Below.refl _ _⟩
#print axioms counts_any
end Go.Proofs.Qxb6634866a
