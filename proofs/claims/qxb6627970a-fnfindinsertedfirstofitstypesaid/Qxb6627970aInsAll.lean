/-
  Seat b6627970a: FnFindInsertedFirstOfItsType (function 3): every input.
-/
import Derived.Test.Qxb6627970aInsEnd
namespace Go.Proofs.Qxb6627970a
open Go.RowKit

set_option maxRecDepth 100000 in
set_option maxHeartbeats 2000000 in
theorem ins_any (a a3 : Option Addr) (cap n3 c3 : Nat) (ps : List PP) (i t u : Int) (w : World) (h : IsPs w a ps) (hb : ∀ p ∈ ps, OkB w p.a p.n) (hv : OkB w a3 n3) :
    Calls Try.prog 3 #[.slice a ps.length cap, .int .i64 i, .int .u16 t, .slice a3 n3 c3, .int .u16 u] w fun e w' => e = .returned (.bool true) ∧ Below w.heap.size w w' := by
  have HP : Hid (IsPs w a ps) := h
  by_cases hn : ps.length ≤ 32768
  · by_cases hn3 : n3 ≤ 1048576
    · by_cases h0 : 0 ≤ i
      · by_cases hi : i ≤ ps.length
        · obtain ⟨q, rfl⟩ := Int.eq_ofNat_of_zero_le h0
          by_cases he : q = ps.length
          · subst he
            exact ins_eq a a3 cap n3 c3 ps t u w h hb hv hn hn3
          · exact ins_lt a a3 cap n3 c3 ps q t u w h hb hv (by omega) hn hn3
        · have hd : decide ((ps.length : Int) < i) = true := by simp; omega
          clear h hb hv
          go_enter Try.func3, Try.ntmps3
          go_wp2_with fail
          refine (bytes5_any _ _ _ _ _ _ _ _ _ _ HP.out).mono ?_
          rintro e w' ⟨⟨bv, rfl⟩, rfl⟩
          cases bv with
          | false =>
            go_wp2
            go_ret
            exact ⟨rfl, Below.refl _ _⟩
          | true =>
            go_wp2_with fail
            refine (sizeFits_any _ _ _ _ _ HP.out).mono ?_
            rintro e w' ⟨⟨bv, rfl⟩, rfl⟩
            cases bv with
            | false =>
              go_wp2
              go_ret
              exact ⟨rfl, Below.refl _ _⟩
            | true =>
              go_wp2
              go_ret
              exact ⟨rfl, Below.refl _ _⟩
      · have hd : decide (i < 0) = true := by simp; omega
        clear h hb hv
        go_enter Try.func3, Try.ntmps3
        go_wp2_with fail
        refine (bytes5_any _ _ _ _ _ _ _ _ _ _ HP.out).mono ?_
        rintro e w' ⟨⟨bv, rfl⟩, rfl⟩
        cases bv with
        | false =>
          go_wp2
          go_ret
          exact ⟨rfl, Below.refl _ _⟩
        | true =>
          go_wp2_with fail
          refine (sizeFits_any _ _ _ _ _ HP.out).mono ?_
          rintro e w' ⟨⟨bv, rfl⟩, rfl⟩
          cases bv with
          | false =>
            go_wp2
            go_ret
            exact ⟨rfl, Below.refl _ _⟩
          | true =>
            go_wp2
            go_ret
            exact ⟨rfl, Below.refl _ _⟩
    · have hd : decide ((1048576 : Int) < (n3 : Int)) = true := by simp; omega
      clear h hb hv
      go_enter Try.func3, Try.ntmps3
      go_wp2_with fail
      refine (bytes5_any _ _ _ _ _ _ _ _ _ _ HP.out).mono ?_
      rintro e w' ⟨⟨bv, rfl⟩, rfl⟩
      cases bv with
      | false =>
        go_wp2
        go_ret
        exact ⟨rfl, Below.refl _ _⟩
      | true =>
        go_wp2
        go_ret
        exact ⟨rfl, Below.refl _ _⟩
  · have hd : decide ((32768 : Int) < (ps.length : Int)) = true := by simp; omega
    clear h hb hv
    go_enter Try.func3, Try.ntmps3
    go_wp2_with fail
    refine (bytes5_any _ _ _ _ _ _ _ _ _ _ HP.out).mono ?_
    rintro e w' ⟨⟨bv, rfl⟩, rfl⟩
    cases bv with
    | false =>
      go_wp2
      go_ret
      exact ⟨rfl, Below.refl _ _⟩
    | true =>
      go_wp2
      go_ret
      exact ⟨rfl, Below.refl _ _⟩
#print axioms ins_any
end Go.Proofs.Qxb6627970a
