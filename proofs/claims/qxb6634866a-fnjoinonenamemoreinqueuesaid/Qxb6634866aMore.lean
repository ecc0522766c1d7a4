/-
  Seat b6634866a: FnJoinOneNameMoreInQueue (function 4): the walk.
-/
import Derived.Test.Qxb6634866aCounts
namespace Go.Proofs.Qxb6634866a
open Go.RowKit

/-- Join over the map with one name more. -/
theorem join_more (A B : List ByteArray) (y : List UInt8) (c : Nat) (hc : cnt (A.map bl) (B.map bl) A.length + (if hasB (A.map bl) y && !hasB (B.map bl) y then 1 else 0) = c) (b1 b2 n1 n2 : Nat) (w : World) (hM1 : IsMapOf w b1 n1 (A.map bl)) (hM2 : IsMapOf w b2 n2 (B.map bl ++ [y])) (hn : n1 ≤ 5000) :
    Calls Try.prog 8 #[.map (some b1), .map (some b2)] w fun e w' => ∃ (a : Option Addr) (cap : Nat), e = .returned (.slice a c cap) ∧
      w'.ownsRow w.heap.size 38 6 (.slice a c cap) c (zrow c) ∧ Below w.heap.size w w' := by
  have := join_cnt b1 b2 n1 n2 _ _ w hM1 hM2 hn
  rw [cnt_more, show (A.map bl).length = A.length by simp, hc] at this
  exact this

theorem IsMapOf.grew {w w' : World} {b n : Nat} {N : List (List UInt8)} {o : Obj} {row : Nat} (h : IsMapOf w b n N) (hg : (w.alloc o).grownBy w' (some row)) (hne : b ≠ row) : IsMapOf w' b n N :=
  (h.kept (World.grownBy_alloc w o none) (by simp)).kept hg (by simpa using hne)

set_option maxRecDepth 100000 in
set_option maxHeartbeats 4000000 in
theorem more_any (a1 a2 : Option Addr) (c1 c2 : Nat) (A B : List ByteArray) (s : ByteArray) (w : World) (hA : IsStrs w a1 A) (hB : IsStrs w a2 B) (hs : s.size ≤ maxLen) :
    Calls Try.prog 4 #[.slice a1 A.length c1, .slice a2 B.length c2, .string s] w fun e w' => e = .returned (.bool true) ∧ Below w.heap.size w w' := by
  have HA : Hid (IsStrs w a1 A) := hA
  have HB : Hid (IsStrs w a2 B) := hB
  have HS : Hid (s.size ≤ maxLen) := hs
  have hkey : keyOf Try.prog 9 (.string s) = some (.string (bl s)) := WideMaps.keyOf_string_mk Try.underlying9 hs
  obtain ⟨hl1, _, hc1⟩ := hA
  obtain ⟨hl2, _, hc2⟩ := hB
  unfold maxLen at hl1 hl2 hs
  go_enter Try.func4, Try.ntmps4
  go_wp2_with fail
  refine (bytes10_any _ _ _ _ _ _ _ _ HA.out HB.out HS.out).mono ?_
  rintro e w' ⟨⟨bv, rfl⟩, rfl⟩
  cases bv with
  | false =>
    go_wp2
    go_ret
    exact ⟨rfl, Below.refl _ _⟩
  | true =>
    by_cases h1 : A.length ≤ 4096
    · by_cases h2 : B.length ≤ 4096
      · by_cases h3 : s.size ≤ 1048576
        · go_wp2
          go_loop [7, 43] (fun z i => ∃ k t : Nat, k ≤ A.length ∧ i = .int .i64 k ∧ z = .int .i64 t ∧ t ≤ 1048592) (fun _ i => A.length - (intOf i).toNat)
          case atStart => exact ⟨0, 16 + s.size, Nat.zero_le _, rfl, by go_num, by omega⟩
          case round =>
            obtain ⟨k, t, hk, rfl, rfl, ht⟩ := hrel
            by_cases hlt : k < A.length
            · rcases hc1 with rfl | ⟨b, off, rfl, hb, hc⟩
              · simp at hlt
              have hcx := hc k hlt
              go_wp2
              · go_ret
                exact ⟨rfl, Below.refl _ _⟩
              · go_ret
                exact ⟨rfl, Below.refl _ _⟩
              · go_round
                case rel => exact ⟨k + 1, t + (16 + A[k].size), by omega, by go_num, by go_num, by omega⟩
                case measure => simp [intOf]; omega
            · go_wp2
              go_loop [7, 60] (fun z i => ∃ k t : Nat, k ≤ B.length ∧ i = .int .i64 k ∧ z = .int .i64 t ∧ t ≤ 1048592) (fun _ i => B.length - (intOf i).toNat)
              case atStart => exact ⟨0, t, Nat.zero_le _, rfl, rfl, by omega⟩
              case round =>
                obtain ⟨q, r, hq, rfl, rfl, hr⟩ := hrel
                by_cases hqt : q < B.length
                · rcases hc2 with rfl | ⟨b, off, rfl, hb, hc⟩
                  · simp at hqt
                  have hcx := hc q hqt
                  go_wp2
                  · go_ret
                    exact ⟨rfl, Below.refl _ _⟩
                  · go_ret
                    exact ⟨rfl, Below.refl _ _⟩
                  · go_round
                    case rel => exact ⟨q + 1, r + (16 + B[q].size), by omega, by go_num, by go_num, by omega⟩
                    case measure => simp [intOf]; omega
                · go_wp2_with fail
                  have hle := cnt_le (A.map bl) (B.map bl) A.length
                  refine (nameMap_any _ _ _ _ HA.out h1).mono ?_
                  rintro e w1 ⟨rfl, hm1, hb1⟩
                  go_wp2_with fail
                  refine (nameMap_any _ _ _ _ (HB.out.below hb1) h2).mono ?_
                  rintro e w2 ⟨rfl, hm2, hb2⟩
                  go_wp2_with fail
                  refine (nameMap_any _ _ _ _ ((HB.out.below hb1).below hb2) h2).mono ?_
                  rintro e w3 ⟨rfl, ⟨D3, hown3, hD3⟩, hb3⟩
                  go_wp2_with (first
                    | (at_mapUpdate; refine wpList_mapUpdate_own _ rfl _ _ _ 24 rfl 9 33 law9 Try.underlying24 _ w2.heap.size B.length _ rfl (hown3.alloc _) (by unfold maxLen; omega) _ _ _ rfl rfl hkey _ [] zElem_mk ?_; intro w4 hown4 hgrow4))
                  have s01 := hb1.size
                  have s12 := hb2.size
                  have l1 := hm1.lt
                  have l2 := hm2.lt
                  have b03 := hb1.trans ((hb2.mono hb1.size).trans (hb3.mono (Nat.le_trans hb1.size hb2.size)))
                  have b04 := (b03.alloc b03.size _).grown hgrow4 (by have := b03.size; simp; omega) (fun j hj => by cases hj; omega)
                  have m1 := ((hm1.below hb2 hm1.lt).below hb3 (by omega)).grew hgrow4 (by omega)
                  have m2 := (hm2.below hb3 hm2.lt).grew hgrow4 (by omega)
                  have m3 : IsMapOf w4 w2.heap.size (B.length + 1) (B.map bl ++ [bl s]) := ⟨_, hown4, hasB_put hown3.isMap hD3 _ _⟩
                  have sA := HA.out.below b04
                  have sB := HB.out.below b04
                  clear s01 s12 l1 l2 b03 hown3 hown4 hgrow4 hD3 hm1 hm2 hb1 hb2 hb3 hkey hc1 hc2
                  cases hq1 : hasB (A.map bl) (bl s) with
                  | false =>
                    have CC : cnt (A.map bl) (B.map bl) A.length + (if hasB (A.map bl) (bl s) && !hasB (B.map bl) (bl s) then 1 else 0) = cnt (A.map bl) (B.map bl) A.length := by rw [hq1]; rfl
                    have CC' : Hid _ := CC
                    clear CC
                    refine (has_any _ _ _ _ _ sA).mono ?_
                    rintro e w5 ⟨rfl, rfl⟩
                    rw [hq1]
                    go_wp2_with fail
                    refine (common_any _ _ _ _ _ _ _ sA sB).mono ?_
                    rintro e w5 ⟨rfl, n5, rfl⟩
                    go_wp2_with fail
                    refine (join_ab A B _ _ _ _ _ (m1.drewN n5) (m2.drewN n5) (by omega)).mono ?_
                    rintro e w6 ⟨a6, c6, rfl, hr6, hb6⟩
                    go_wp2_with fail
                    refine (join_more A B (bl s) (cnt (A.map bl) (B.map bl) A.length) CC'.out _ _ _ _ _ ((m1.drewN n5).below hb6 (m1.drewN n5).lt) ((m3.drewN n5).below hb6 (m3.drewN n5).lt) (by omega)).mono ?_
                    rintro e w7 ⟨a7, c7, rfl, hr7, hb7⟩
                    have s46 := hb6.size
                    have hb7' := hb7
                    have hbel := b04.trans ((below_drewN (Below.refl _ _) n5).trans ((hb6.mono b04.size).trans (hb7.mono (Nat.le_trans b04.size s46))))
                    clear s46
                    go_wp2_with fail
                    refine (allZero_any _ _ _ _ (ownsRow_below hr6 hb7') (by omega)).mono ?_
                    rintro e w8 ⟨rfl, rfl⟩
                    go_wp2_with fail
                    refine (allZero_any _ _ _ _ hr7 (by omega)).mono ?_
                    rintro e w9 ⟨rfl, rfl⟩
                    go_wp2
                    go_ret
                    exact ⟨rfl, hbel⟩
                  | true =>
                    cases hq2 : hasB (B.map bl) (bl s) with
                    | true =>
                      have CC : cnt (A.map bl) (B.map bl) A.length + (if hasB (A.map bl) (bl s) && !hasB (B.map bl) (bl s) then 1 else 0) = cnt (A.map bl) (B.map bl) A.length := by rw [hq1, hq2]; rfl
                      have CC' : Hid _ := CC
                      clear CC
                      refine (has_any _ _ _ _ _ sA).mono ?_
                      rintro e w5 ⟨rfl, rfl⟩
                      rw [hq1]
                      go_wp2_with fail
                      refine (has_any _ _ _ _ _ sB).mono ?_
                      rintro e w5 ⟨rfl, rfl⟩
                      rw [hq2]
                      go_wp2_with fail
                      refine (common_any _ _ _ _ _ _ _ sA sB).mono ?_
                      rintro e w5 ⟨rfl, n5, rfl⟩
                      go_wp2_with fail
                      refine (join_ab A B _ _ _ _ _ (m1.drewN n5) (m2.drewN n5) (by omega)).mono ?_
                      rintro e w6 ⟨a6, c6, rfl, hr6, hb6⟩
                      go_wp2_with fail
                      refine (join_more A B (bl s) (cnt (A.map bl) (B.map bl) A.length) CC'.out _ _ _ _ _ ((m1.drewN n5).below hb6 (m1.drewN n5).lt) ((m3.drewN n5).below hb6 (m3.drewN n5).lt) (by omega)).mono ?_
                      rintro e w7 ⟨a7, c7, rfl, hr7, hb7⟩
                      have s46 := hb6.size
                      have hb7' := hb7
                      have hbel := b04.trans ((below_drewN (Below.refl _ _) n5).trans ((hb6.mono b04.size).trans (hb7.mono (Nat.le_trans b04.size s46))))
                      clear s46
                      go_wp2_with fail
                      refine (allZero_any _ _ _ _ (ownsRow_below hr6 hb7') (by omega)).mono ?_
                      rintro e w8 ⟨rfl, rfl⟩
                      go_wp2_with fail
                      refine (allZero_any _ _ _ _ hr7 (by omega)).mono ?_
                      rintro e w9 ⟨rfl, rfl⟩
                      go_wp2
                      go_ret
                      exact ⟨rfl, hbel⟩
                    | false =>
                      have CC : cnt (A.map bl) (B.map bl) A.length + (if hasB (A.map bl) (bl s) && !hasB (B.map bl) (bl s) then 1 else 0) = cnt (A.map bl) (B.map bl) A.length + 1 := by rw [hq1, hq2]; rfl
                      have CC' : Hid _ := CC
                      clear CC
                      refine (has_any _ _ _ _ _ sA).mono ?_
                      rintro e w5 ⟨rfl, rfl⟩
                      rw [hq1]
                      go_wp2_with fail
                      refine (has_any _ _ _ _ _ sB).mono ?_
                      rintro e w5 ⟨rfl, rfl⟩
                      rw [hq2]
                      go_wp2_with fail
                      refine (common_any _ _ _ _ _ _ _ sA sB).mono ?_
                      rintro e w5 ⟨rfl, n5, rfl⟩
                      go_wp2_with fail
                      refine (join_ab A B _ _ _ _ _ (m1.drewN n5) (m2.drewN n5) (by omega)).mono ?_
                      rintro e w6 ⟨a6, c6, rfl, hr6, hb6⟩
                      go_wp2_with fail
                      refine (join_more A B (bl s) (cnt (A.map bl) (B.map bl) A.length + 1) CC'.out _ _ _ _ _ ((m1.drewN n5).below hb6 (m1.drewN n5).lt) ((m3.drewN n5).below hb6 (m3.drewN n5).lt) (by omega)).mono ?_
                      rintro e w7 ⟨a7, c7, rfl, hr7, hb7⟩
                      have s46 := hb6.size
                      have hb7' := hb7
                      have hbel := b04.trans ((below_drewN (Below.refl _ _) n5).trans ((hb6.mono b04.size).trans (hb7.mono (Nat.le_trans b04.size s46))))
                      clear s46
                      go_wp2_with fail
                      refine (allZero_any _ _ _ _ (ownsRow_below hr6 hb7') (by omega)).mono ?_
                      rintro e w8 ⟨rfl, rfl⟩
                      go_wp2_with fail
                      refine (allZero_any _ _ _ _ hr7 (by omega)).mono ?_
                      rintro e w9 ⟨rfl, rfl⟩
                      go_wp2
                      go_ret
                      exact ⟨rfl, hbel⟩
        · have hd : (decide ((1048576 : Int) < (s.size : Int))) = true := by simp; omega
          go_wp2
          go_ret
          exact ⟨rfl, Below.refl _ _⟩
      · have hd : (decide ((4096 : Int) < (B.length : Int))) = true := by simp; omega
        go_wp2
        go_ret
        exact ⟨rfl, Below.refl _ _⟩
    · have hd : (decide ((4096 : Int) < (A.length : Int))) = true := by simp; omega
      go_wp2
      go_ret
      exact ⟨rfl, Below.refl _ _⟩
#print axioms more_any
end Go.Proofs.Qxb6634866a
