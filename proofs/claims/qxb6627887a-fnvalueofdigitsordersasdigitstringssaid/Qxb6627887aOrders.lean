/-
  Seat b6627887a: FnValueOfDigitsOrdersAsDigitStrings (function 4): the walk.
-/
import Derived.Test.Qxb6627887aSplits
namespace Go.Proofs.Qxb6627887a
open Go.RowKit

theorem first_less {a b n q : Nat} (hq : q < n) (hs : ∀ j, j < q → dg a j = dg b j) (hl : dg a q < dg b q) (hd : ∀ i, i < n → dg a i ≤ 9) : hn a n < hn b n := by
  have h1 : hn a (q + 1) < hn b (q + 1) := by rw [hn, hn, hn_same a b q hs]; omega
  have h2 := hn_less a b h1 (n - (q + 1)) (fun i hi => hd i (by omega))
  rwa [show q + 1 + (n - (q + 1)) = n by omega] at h2

set_option maxHeartbeats 1000000 in
theorem orders_main (V U n : Nat) (w : World) (hV : V < 18446744073709551616) (hU : U < 18446744073709551616) (hn8 : n ≤ 8) :
    Calls Try.prog 4 #[.int .u64 V, .int .u64 U, .int .i64 n] w fun e w' => e = .returned (.bool true) ∧ w' = w := by
  have HV : Hid (V < 18446744073709551616) := hV
  have HU : Hid (U < 18446744073709551616) := hU
  clear hV hU
  go_enter Try.func4, Try.ntmps4
  go_wp2_with fail
  refine (fit_any V n _ HV.out hn8).mono ?_
  rintro e w' ⟨rfl, rfl⟩
  cases hf : fitB V n with
  | false =>
    go_wp2
    go_ret
    exact ⟨rfl, rfl⟩
  | true =>
    go_wp2_with fail
    refine (fit_any U n _ HU.out hn8).mono ?_
    rintro e w' ⟨rfl, rfl⟩
    cases hf2 : fitB U n with
    | false =>
      go_wp2
      go_ret
      exact ⟨rfl, rfl⟩
    | true =>
      have HF : Hid (∀ i, i < n → dg V i ≤ 9) := fitB_true.1 hf
      have HG : Hid (∀ i, i < n → dg U i ≤ 9) := fitB_true.1 hf2
      clear hf hf2
      have c1 := fun wx => vod_any V n wx hn8 HF.out
      have c2 := fun wx => vod_any U n wx hn8 HG.out
      have c3 := fun wx => ten_any n wx hn8
      have l1 : hn V n < tenp n := hn_lt V n HF.out
      have l2 : hn U n < tenp n := hn_lt U n HG.out
      have l3 := ten_le hn8
      have HLess : Hid (∀ q, q < n → (∀ j, j < q → dg V j = dg U j) → dg V q < dg U q → hn V n < hn U n) := fun q h1 h2 h3 => first_less h1 h2 h3 HF.out
      have HMore : Hid (∀ q, q < n → (∀ j, j < q → dg V j = dg U j) → dg U q < dg V q → hn U n < hn V n) := fun q h1 h2 h3 => first_less h1 (fun j hj => (h2 j hj).symm) h3 HG.out
      have HSame : Hid ((∀ j, j < n → dg V j = dg U j) → hn V n = hn U n) := fun h => hn_same V U n h
      generalize hn V n = A at c1 l1 HLess HMore HSame
      generalize hn U n = B at c2 l2 HLess HMore HSame
      generalize tenp n = T at c3 l1 l2 l3
      have C1 : Hid _ := c1
      have C2 : Hid _ := c2
      have C3 : Hid _ := c3
      clear c1 c2 c3 HF HG
      go_wp2_with fail
      go_loop [7, 8] (fun z i => ∃ q : Nat, q ≤ n ∧ i = .int .i64 q ∧ z = .int .i64 0 ∧ Hid (∀ j, j < q → dg V j = dg U j)) (fun _ i => n - (intOf i).toNat)
      case atStart => exact ⟨0, by omega, rfl, rfl, fun j hj => absurd hj (Nat.not_lt_zero _)⟩
      case round =>
        obtain ⟨q, hq, rfl, rfl, hs⟩ := hrel
        by_cases hlt : q < n
        · obtain ⟨d, hd1, hd2⟩ : ∃ d : Nat, bits .and .u64 ((V : Int) / 2 ^ (8 * q)) 255 = (d : Int) ∧ d = dg V q := ⟨_, byte_eq V q HV.out, rfl⟩
          obtain ⟨f, hf1, hf2⟩ : ∃ f : Nat, bits .and .u64 ((U : Int) / 2 ^ (8 * q)) 255 = (f : Int) ∧ f = dg U q := ⟨_, byte_eq U q HU.out, rfl⟩
          have D2 : Hid _ := hd2
          have F2 : Hid _ := hf2
          clear hd2 hf2
          by_cases hdf : d = f
          · have hne : ((d : Int) != (f : Int)) = false := by simp [hdf]
            have h1 : Hid (∀ j, j < q + 1 → dg V j = dg U j) := fun j hj => by
              by_cases e : j = q
              · subst e; rw [← D2.out, ← F2.out]; exact hdf
              · exact hs.out j (by omega)
            clear hdf
            go_wp2
            go_round
            case rel => exact ⟨q + 1, by omega, by go_num, rfl, h1⟩
            case measure => simp [intOf]; omega
          · have hne : ((d : Int) != (f : Int)) = true := by simp; omega
            clear hdf
            by_cases hl : d < f
            · have hAB : A < B := HLess.out q hlt hs.out (by rw [← D2.out, ← F2.out]; exact hl)
              go_wp2_with fail
              refine (C1.out _).mono ?_
              rintro e w1 ⟨rfl, rfl⟩
              go_wp2_with fail
              refine (C2.out _).mono ?_
              rintro e w1 ⟨rfl, rfl⟩
              go_wp2_with fail
              refine (C3.out _).mono ?_
              rintro e w1 ⟨rfl, rfl⟩
              go_wp2
              go_ret
              exact ⟨ret_true (by simp), rfl⟩
            · have hAB : B < A := HMore.out q hlt hs.out (by rw [← D2.out, ← F2.out]; simp at hne; omega)
              go_wp2_with fail
              refine (C1.out _).mono ?_
              rintro e w1 ⟨rfl, rfl⟩
              go_wp2_with fail
              refine (C2.out _).mono ?_
              rintro e w1 ⟨rfl, rfl⟩
              go_wp2_with fail
              refine (C3.out _).mono ?_
              rintro e w1 ⟨rfl, rfl⟩
              go_wp2
              go_ret
              exact ⟨ret_true (by simp), rfl⟩
        · have : q = n := by omega
          subst this
          have HAB : Hid (A = B) := HSame.out hs.out
          go_wp2_with fail
          refine (C1.out _).mono ?_
          rintro e w1 ⟨rfl, rfl⟩
          go_wp2_with fail
          refine (C2.out _).mono ?_
          rintro e w1 ⟨rfl, rfl⟩
          go_wp2_with fail
          refine (C3.out _).mono ?_
          rintro e w1 ⟨rfl, rfl⟩
          go_wp2
          go_ret
          exact ⟨ret_true (by rw [HAB.out]; exact beq_self_eq_true _), rfl⟩

set_option maxHeartbeats 1000000 in
theorem orders_any (V U : Nat) (c : Int) (w : World) (hV : V < 18446744073709551616) (hU : U < 18446744073709551616) :
    Calls Try.prog 4 #[.int .u64 V, .int .u64 U, .int .i64 c] w fun e w' => e = .returned (.bool true) ∧ w' = w := by
  by_cases h0 : 0 ≤ c
  · by_cases h8 : c ≤ 8
    · obtain ⟨n, rfl⟩ := Int.eq_ofNat_of_zero_le h0
      exact orders_main V U n w hV hU (by omega)
    · clear hV hU
      have hd : decide (8 < c) = true := by simp; omega
      go_enter Try.func4, Try.ntmps4
      go_wp2
      go_ret
      exact ⟨rfl, rfl⟩
  · clear hV hU
    have hd : decide (c < 0) = true := by simp; omega
    go_enter Try.func4, Try.ntmps4
    go_wp2
    go_ret
    exact ⟨rfl, rfl⟩
#print axioms orders_any
end Go.Proofs.Qxb6627887a
