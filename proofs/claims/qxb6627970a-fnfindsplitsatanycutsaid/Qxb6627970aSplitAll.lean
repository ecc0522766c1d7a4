/-
  Seat b6627970a: FnFindSplitsAtAnyCut (function 4): every input.
-/
import Derived.Test.Qxb6627970aSplit
namespace Go.Proofs.Qxb6627970a
open Go.RowKit

set_option maxRecDepth 100000 in
set_option maxHeartbeats 2000000 in
theorem split_any (a : Option Addr) (cap : Nat) (ps : List PP) (i t : Int) (w : World) (h : IsPs w a ps) (hb : ∀ p ∈ ps, OkB w p.a p.n) :
    Calls Try.prog 4 #[.slice a ps.length cap, .int .i64 i, .int .u16 t] w fun e w' => e = .returned (.bool true) ∧ Below w.heap.size w w' := by
  have HP : Hid (IsPs w a ps) := h
  by_cases hn : ps.length ≤ 32768
  · by_cases h0 : 0 ≤ i
    · by_cases hi : i ≤ ps.length
      · obtain ⟨q, rfl⟩ := Int.eq_ofNat_of_zero_le h0
        cases hF : findP ps t with
        | none =>
          by_cases he : q = ps.length
          · subst he
            exact split_no_eq a cap ps t w h hn hF
          · exact split_no_lt a cap ps q t w h (by omega) hn hF
        | some p =>
          have hok := hb p (List.mem_of_find?_eq_some hF)
          by_cases he : q = ps.length
          · subst he
            exact split_yes_eq a cap ps t p w h hok hn hF
          · exact split_yes_lt a cap ps q t p w h hok (by omega) hn hF
      · have hd : decide ((ps.length : Int) < i) = true := by simp; omega
        clear h hb
        go_enter Try.func4, Try.ntmps4
        go_wp2_with fail
        refine (bytes10_any _ _ _ _ _ _ HP.out).mono ?_
        rintro e w' ⟨⟨bv, rfl⟩, rfl⟩
        cases bv with
        | false =>
          go_wp2
          go_ret
          exact ⟨rfl, Below.refl _ _⟩
        | true =>
          go_wp2_with fail
          refine (sizeFits_any _ _ _ _ _ HP.out).mono ?_
          rintro e w' ⟨⟨bv, rfl⟩, rfl⟩
          cases bv with
          | false =>
            go_wp2
            go_ret
            exact ⟨rfl, Below.refl _ _⟩
          | true =>
            go_wp2
            go_ret
            exact ⟨rfl, Below.refl _ _⟩
    · have hd : decide (i < 0) = true := by simp; omega
      clear h hb
      go_enter Try.func4, Try.ntmps4
      go_wp2_with fail
      refine (bytes10_any _ _ _ _ _ _ HP.out).mono ?_
      rintro e w' ⟨⟨bv, rfl⟩, rfl⟩
      cases bv with
      | false =>
        go_wp2
        go_ret
        exact ⟨rfl, Below.refl _ _⟩
      | true =>
        go_wp2_with fail
        refine (sizeFits_any _ _ _ _ _ HP.out).mono ?_
        rintro e w' ⟨⟨bv, rfl⟩, rfl⟩
        cases bv with
        | false =>
          go_wp2
          go_ret
          exact ⟨rfl, Below.refl _ _⟩
        | true =>
          go_wp2
          go_ret
          exact ⟨rfl, Below.refl _ _⟩
  · clear h hb
    go_enter Try.func4, Try.ntmps4
    go_wp2_with fail
    refine (bytes10_any _ _ _ _ _ _ HP.out).mono ?_
    rintro e w' ⟨⟨bv, rfl⟩, rfl⟩
    cases bv with
    | false =>
      go_wp2
      go_ret
      exact ⟨rfl, Below.refl _ _⟩
    | true =>
      go_wp2
      go_ret
      exact ⟨rfl, Below.refl _ _⟩
#print axioms split_any
end Go.Proofs.Qxb6627970a
