/-
  Seat b6627940a: FnFinalInsertOneAnywhereOrderFree (function 4): every input.
-/
import Derived.Test.Qxb6627940aInsert
namespace Go.Proofs.Qxb6627940a
open Go.RowKit

set_option maxRecDepth 100000 in
set_option maxHeartbeats 2000000 in
theorem insert_any (a : Option Addr) (cap : Nat) (zs : List Int) (p v : Int) (w : World) (h : IsInts w a zs) :
    Calls Try.prog 4 #[.slice a zs.length cap, .int .i64 p, .int .i64 v] w fun e w' => e = .returned (.bool true) ∧ Below w.heap.size w w' := by
  have hm := h.1
  by_cases hn : zs.length ≤ 65536
  · by_cases h0 : 0 ≤ p
    · by_cases hp : p ≤ zs.length
      · obtain ⟨q, rfl⟩ := Int.eq_ofNat_of_zero_le h0
        exact insert_main a cap zs q v w h hn (by omega)
      · have hd : decide ((zs.length : Int) < p) = true := by simp; omega
        clear h
        go_enter Try.func4, Try.ntmps4
        go_wp2_with fail
        refine (bytes10_any _ _ _ _ _ _ hm).mono ?_
        rintro e w' ⟨⟨bv, rfl⟩, rfl⟩
        cases bv with
        | false =>
          go_wp2
          go_ret
          exact ⟨rfl, Below.refl _ _⟩
        | true =>
          go_wp2
          go_ret
          exact ⟨rfl, Below.refl _ _⟩
    · have hd : decide (p < 0) = true := by simp; omega
      clear h
      go_enter Try.func4, Try.ntmps4
      go_wp2_with fail
      refine (bytes10_any _ _ _ _ _ _ hm).mono ?_
      rintro e w' ⟨⟨bv, rfl⟩, rfl⟩
      cases bv with
      | false =>
        go_wp2
        go_ret
        exact ⟨rfl, Below.refl _ _⟩
      | true =>
        go_wp2
        go_ret
        exact ⟨rfl, Below.refl _ _⟩
  · clear h
    go_enter Try.func4, Try.ntmps4
    go_wp2_with fail
    refine (bytes10_any _ _ _ _ _ _ hm).mono ?_
    rintro e w' ⟨⟨bv, rfl⟩, rfl⟩
    cases bv with
    | false =>
      go_wp2
      go_ret
      exact ⟨rfl, Below.refl _ _⟩
    | true =>
      go_wp2
      go_ret
      exact ⟨rfl, Below.refl _ _⟩
#print axioms insert_any
end Go.Proofs.Qxb6627940a
