/-
  Seat b6627887a: FnValueOfDigitsSplitsAtAnyCut (function 3): the walk.
-/
import Derived.Test.Qxb6627887aDigits
namespace Go.Proofs.Qxb6627887a
open Go.RowKit

theorem ret_true {b : Bool} (h : b = true) : Ending.returned (.bool b) = .returned (.bool true) := by rw [h]

/-- The third call's arguments as the walk spells them. -/
theorem vod_tail (V n k : Nat) (w : World) (hk : k ≤ n) (hn8 : n ≤ 8) (hd : ∀ i, i < n → dg V i ≤ 9) :
    Calls Try.prog 6 #[.int .u64 ((V : Int) / 2 ^ (8 * k)), .int .i64 ((n : Int) - (k : Int))] w fun e w' => e = .returned (.int .u64 (hn (V / 2 ^ (8 * k)) (n - k) : Nat)) ∧ w' = w := by
  have e1 : ((V : Int) / 2 ^ (8 * k)) = ((V / 2 ^ (8 * k) : Nat) : Int) := by rw [Int.natCast_ediv]; simp
  have e2 : ((n : Int) - (k : Int)) = ((n - k : Nat) : Int) := by omega
  rw [e1, e2]
  exact vod_any _ _ w (by omega) (fun i hi => by rw [dg_shift]; exact hd _ (by omega))
theorem ten_sub (n k : Nat) (w : World) (hk : k ≤ n) (hn8 : n ≤ 8) :
    Calls Try.prog 7 #[.int .i64 ((n : Int) - (k : Int))] w fun e w' => e = .returned (.int .u64 (tenp (n - k) : Nat)) ∧ w' = w := by
  have e2 : ((n : Int) - (k : Int)) = ((n - k : Nat) : Int) := by omega
  rw [e2]
  exact ten_any _ w (by omega)

theorem hn_le8 {V n : Nat} (hn8 : n ≤ 8) (hd : ∀ i, i < n → dg V i ≤ 9) : hn V n ≤ 100000000 := by
  have h1 := hn_lt V n hd
  have h2 := ten_le hn8
  unfold tenp at h2
  omega

set_option maxHeartbeats 1000000 in
theorem splits_main (V n k : Nat) (w : World) (hV : V < 18446744073709551616) (hn8 : n ≤ 8) (hk : k ≤ n) :
    Calls Try.prog 3 #[.int .u64 V, .int .i64 n, .int .i64 k] w fun e w' => e = .returned (.bool true) ∧ w' = w := by
  have HV : Hid (V < 18446744073709551616) := hV
  clear hV
  go_enter Try.func3, Try.ntmps3
  go_wp2_with fail
  refine (fit_any V n _ HV.out hn8).mono ?_
  rintro e w' ⟨rfl, rfl⟩
  cases hf : fitB V n with
  | false =>
    go_wp2
    go_ret
    exact ⟨rfl, rfl⟩
  | true =>
    have HF : Hid (∀ i, i < n → dg V i ≤ 9) := fitB_true.1 hf
    clear hf
    go_wp2_with fail
    go_loop [7, 8] (fun z i => ∃ q t : Nat, q ≤ n ∧ i = .int .i64 q ∧ z = .int .u64 t ∧ t ≤ 100000000 ∧ Hid (t = hn V q)) (fun _ i => n - (intOf i).toNat)
    case atStart => exact ⟨0, 0, by omega, rfl, rfl, by omega, rfl⟩
    case round =>
      obtain ⟨q, t, hq, rfl, rfl, ht, he⟩ := hrel
      by_cases hlt : q < n
      · obtain ⟨d, hd⟩ : ∃ d : Nat, bits .and .u64 ((V : Int) / 2 ^ (8 * q)) 255 = (d : Int) ∧ d = dg V q := ⟨_, byte_eq V q HV.out, rfl⟩
        obtain ⟨hd1, hd2⟩ := hd
        have hd9 : d ≤ 9 := by rw [hd2]; exact HF.out q hlt
        have h1 : Hid (t * 10 + d = hn V (q + 1)) := by rw [he.out, hd2]; exact rfl
        have h2 : t * 10 + d ≤ 100000000 := by have := h1.out; have := hn_le8 (V := V) (n := q + 1) (by omega) (fun i hi => HF.out i (by omega)); omega
        clear hd2
        go_wp2
        go_round
        case rel => exact ⟨q + 1, t * 10 + d, by omega, by go_num, by go_num, h2, h1⟩
        case measure => simp [intOf]; omega
      · have : q = n := by omega
        subst this
        have c1 := fun wx => vod_any V q wx hn8 HF.out
        have c2 := fun wx => vod_any V k wx (by omega) (fun i hi => HF.out i (by omega))
        have c3 := fun wx => vod_tail V q k wx hk hn8 HF.out
        have c4 := fun wx => ten_sub q k wx hk hn8
        have hs := hn_split V k (q - k)
        rw [show k + (q - k) = q by omega] at hs
        have hA := hn_le8 hn8 HF.out
        have hT : 10 ^ (q - k) = tenp (q - k) := rfl
        rw [hT] at hs
        have he' := he.out
        clear hT he HF
        generalize hn V q = A at c1 hs hA he'
        generalize hn V k = B at c2 hs
        generalize hn (V / 2 ^ (8 * k)) (q - k) = C at c3 hs
        generalize tenp (q - k) = T at c4 hs
        subst he'
        have C1 : Hid _ := c1
        have C2 : Hid _ := c2
        have C3 : Hid _ := c3
        have C4 : Hid _ := c4
        clear c1 c2 c3 c4
        have p0 : (0 : Int) ≤ (B : Int) * (T : Int) := by rw [← Int.natCast_mul]; omega
        have p1 : (B : Int) * (T : Int) ≤ 100000000 := by rw [← Int.natCast_mul]; omega
        have p2 : (B : Int) * (T : Int) + (C : Int) = (t : Int) := by rw [hs, ← Int.natCast_mul]; omega
        have P2 : Hid ((B : Int) * (T : Int) + (C : Int) = (t : Int)) := p2
        have p3 : (B : Int) * (T : Int) + (C : Int) ≤ 100000000 := by omega
        clear hs p2
        go_wp2_with fail
        refine (C1.out _).mono ?_
        rintro e w1 ⟨rfl, rfl⟩
        go_wp2_with fail
        refine (C2.out _).mono ?_
        rintro e w1 ⟨rfl, rfl⟩
        go_wp2_with fail
        refine (C3.out _).mono ?_
        rintro e w1 ⟨rfl, rfl⟩
        go_wp2_with fail
        refine (C4.out _).mono ?_
        rintro e w1 ⟨rfl, rfl⟩
        go_wp2_with fail
        go_ret
        exact ⟨ret_true (by rw [P2.out]; exact beq_self_eq_true _), rfl⟩

set_option maxHeartbeats 1000000 in
theorem splits_any (V : Nat) (c k : Int) (w : World) (hV : V < 18446744073709551616) :
    Calls Try.prog 3 #[.int .u64 V, .int .i64 c, .int .i64 k] w fun e w' => e = .returned (.bool true) ∧ w' = w := by
  by_cases h0 : 0 ≤ c
  · by_cases h8 : c ≤ 8
    · by_cases k0 : 0 ≤ k
      · by_cases kc : k ≤ c
        · obtain ⟨n, rfl⟩ := Int.eq_ofNat_of_zero_le h0
          obtain ⟨q, rfl⟩ := Int.eq_ofNat_of_zero_le k0
          exact splits_main V n q w hV (by omega) (by omega)
        · clear hV
          have hd : decide (c < k) = true := by simp; omega
          go_enter Try.func3, Try.ntmps3
          go_wp2
          go_ret
          exact ⟨rfl, rfl⟩
      · clear hV
        have hd : decide (k < 0) = true := by simp; omega
        go_enter Try.func3, Try.ntmps3
        go_wp2
        go_ret
        exact ⟨rfl, rfl⟩
    · clear hV
      have hd : decide (8 < c) = true := by simp; omega
      go_enter Try.func3, Try.ntmps3
      go_wp2
      go_ret
      exact ⟨rfl, rfl⟩
  · clear hV
    have hd : decide (c < 0) = true := by simp; omega
    go_enter Try.func3, Try.ntmps3
    go_wp2
    go_ret
    exact ⟨rfl, rfl⟩
#print axioms splits_any
end Go.Proofs.Qxb6627887a
