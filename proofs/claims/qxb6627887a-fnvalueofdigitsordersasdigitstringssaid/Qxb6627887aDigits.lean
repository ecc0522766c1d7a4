/-
  Seat b6627887a: plain facts on 'hn', and the walks of digitsFit (5), input.ValueOfDigits (6), tenToThe (7).
-/
import Derived.Test.Qxb6627887aPlain
import Derived.Test.Qxb6627887aRows
import Derived.WalkKit
import Derived.WalkLawsBesides
import Derived.Below
namespace Go.Proofs.Qxb6627887a
open Go.RowKit

theorem dg_lt (v i : Nat) : dg v i < 256 := Nat.mod_lt _ (by decide)
theorem dg_shift (v k i : Nat) : dg (v / 2 ^ (8 * k)) i = dg v (k + i) := by
  unfold dg
  rw [Nat.div_div_eq_div_mul, ← Nat.pow_add, Nat.mul_add]

theorem hn_lt (v : Nat) : ∀ n, (∀ i, i < n → dg v i ≤ 9) → hn v n < 10 ^ n
  | 0, _ => by simp [hn]
  | n + 1, h => by
    have h1 := hn_lt v n (fun i hi => h i (by omega))
    have h2 := h n (by omega)
    rw [hn, Nat.pow_succ]
    omega

theorem hn_split (v k : Nat) : ∀ m, hn v (k + m) = hn v k * 10 ^ m + hn (v / 2 ^ (8 * k)) m
  | 0 => by simp [hn]
  | m + 1 => by
    rw [← Nat.add_assoc, hn, hn_split v k m, hn, dg_shift, Nat.pow_succ, Nat.add_mul, Nat.mul_assoc]
    omega

theorem hn_less (a b : Nat) {k : Nat} (h : hn a k < hn b k) : ∀ m, (∀ i, i < k + m → dg a i ≤ 9) → hn a (k + m) < hn b (k + m)
  | 0, _ => h
  | m + 1, hd => by
    have h1 := hn_less a b h m (fun i hi => hd i (by omega))
    have h2 := hd (k + m) (by omega)
    rw [← Nat.add_assoc, hn, hn]
    omega

theorem hn_same (a b : Nat) : ∀ n, (∀ i, i < n → dg a i = dg b i) → hn a n = hn b n
  | 0, _ => rfl
  | n + 1, h => by rw [hn, hn, hn_same a b n (fun i hi => h i (by omega)), h n (by omega)]

/-- 10 to the n. -/
def tenp (n : Nat) : Nat := 10 ^ n
theorem ten_le {n : Nat} (h : n ≤ 8) : tenp n ≤ 100000000 := by
  unfold tenp
  have : 10 ^ n ≤ 10 ^ 8 := Nat.pow_le_pow_right (by decide) h
  simpa using this

/-- Are the first n bytes digits? -/
def fitB (v n : Nat) : Bool := decide (∀ i, i < n → dg v i ≤ 9)
theorem fitB_true {v n : Nat} : fitB v n = true ↔ ∀ i, i < n → dg v i ≤ 9 := by simp [fitB]
theorem fit_yes {v n : Nat} (h : ∀ i, i < n → dg v i ≤ 9) : Ending.returned (.bool true) = .returned (.bool (fitB v n)) := by rw [fitB_true.2 h]
theorem fit_no {v n k : Nat} (hk : k < n) (h : 9 < dg v k) : Ending.returned (.bool false) = .returned (.bool (fitB v n)) := by
  have : fitB v n = false := by
    cases e : fitB v n with
    | false => rfl
    | true => have := fitB_true.1 e k hk; omega
  rw [this]

/-- A byte as the walk spells it. -/
theorem byte_eq (V k : Nat) (hV : V < 18446744073709551616) : bits .and .u64 ((V : Int) / 2 ^ (8 * k)) 255 = (dg V k : Int) := by
  have e : ((V : Int) / 2 ^ (8 * k)) = ((V / 2 ^ (8 * k) : Nat) : Int) := by rw [Int.natCast_ediv]; simp
  have h := u64_and_nat (V / 2 ^ (8 * k)) 255 (Nat.lt_of_le_of_lt (Nat.div_le_self _ _) hV) (by decide)
  rw [e]
  rw [land_255] at h
  exact h

set_option maxHeartbeats 400000 in
theorem fit_any (V n : Nat) (w : World) (hV : V < 18446744073709551616) (hn : n ≤ 8) :
    Calls Try.prog 5 #[.int .u64 V, .int .i64 n] w fun e w' => e = .returned (.bool (fitB V n)) ∧ w' = w := by
  have HV : Hid (V < 18446744073709551616) := hV
  clear hV
  go_enter Try.func5, Try.ntmps5
  go_wp2
  go_loop [5] (fun i => ∃ k : Nat, k ≤ n ∧ i = .int .i64 k ∧ ∀ j, j < k → dg V j ≤ 9) (fun i => n - (intOf i).toNat)
  case atStart => exact ⟨0, by omega, rfl, by omega⟩
  case round =>
    obtain ⟨k, hk, rfl, hd⟩ := hrel
    have HD : Hid (∀ j, j < k → dg V j ≤ 9) := hd
    clear hd
    by_cases hlt : k < n
    · go_wp2
      · have h9 : 9 < bits .and .u64 ((V : Int) / 2 ^ (8 * k)) 255 := by assumption
        go_ret
        rw [byte_eq V k HV.out] at h9
        exact ⟨fit_no hlt (by omega), rfl⟩
      · have h9 : bits .and .u64 ((V : Int) / 2 ^ (8 * k)) 255 ≤ 9 := by assumption
        rw [byte_eq V k HV.out] at h9
        go_round
        case rel => exact ⟨k + 1, by omega, by go_num, fun j hj => by by_cases e : j = k; (subst e; omega); exact HD.out j (by omega)⟩
        case measure => simp [intOf]; omega
    · have : k = n := by omega
      subst this
      go_wp2
      go_ret
      exact ⟨fit_yes HD.out, rfl⟩

theorem ret_u64 {a b : Int} (h : a = b) : Ending.returned (.int .u64 a) = .returned (.int .u64 b) := by rw [h]

/-- The three multiplications as the walk spells them. -/
theorem walk_sw (X : Nat) :
    IntKind.u64.wrap (bits .and .u64 (IntKind.u64.wrap (bits .and .u64 (IntKind.u64.wrap ((X : Int) * 2561) / 256) 71777214294589695 * 6553601) / 65536) 281470681808895 * 42949672960001) / 4294967296 = (sw X : Int) := by
  have a1 := u64_and_nat (X * 2561 % 18446744073709551616 / 256) 71777214294589695 (by omega) (by decide)
  have e1 : IntKind.u64.wrap ((X : Int) * 2561) / 256 = ((X * 2561 % 18446744073709551616 / 256 : Nat) : Int) := by rw [IntKind.wrap_u64]; omega
  rw [e1]
  rw [show (71777214294589695 : Int) = ((71777214294589695 : Nat) : Int) from rfl, a1]
  generalize hY : (X * 2561 % 18446744073709551616 / 256 &&& 71777214294589695) = Y
  have a2 := u64_and_nat (Y * 6553601 % 18446744073709551616 / 65536) 281470681808895 (by omega) (by decide)
  have e2 : IntKind.u64.wrap ((Y : Int) * 6553601) / 65536 = ((Y * 6553601 % 18446744073709551616 / 65536 : Nat) : Int) := by rw [IntKind.wrap_u64]; omega
  rw [e2]
  rw [show (281470681808895 : Int) = ((281470681808895 : Nat) : Int) from rfl, a2]
  generalize hZ : (Y * 6553601 % 18446744073709551616 / 65536 &&& 281470681808895) = Z
  rw [IntKind.wrap_u64]
  unfold sw
  rw [hY, hZ]
  omega

set_option maxHeartbeats 400000 in
theorem vod_any (V n : Nat) (w : World) (hn8 : n ≤ 8) (hd : ∀ i, i < n → dg V i ≤ 9) :
    Calls Try.prog 6 #[.int .u64 V, .int .i64 n] w fun e w' => e = .returned (.int .u64 (hn V n : Nat)) ∧ w' = w := by
  have HD : Hid (∀ i, i < n → dg V i ≤ 9) := hd
  clear hd
  go_enter Try.func6, Try.ntmps6
  go_wp2
  go_ret
  refine ⟨ret_u64 ?_, rfl⟩
  have e : IntKind.u64.wrap ((V : Int) * 2 ^ (64 - 8 * n)) = ((V * 2 ^ (64 - 8 * n) % 18446744073709551616 : Nat) : Int) := by
    rw [IntKind.wrap_u64]
    simp
  rw [e, walk_sw, sw_hn V n hn8 HD.out]

set_option maxHeartbeats 400000 in
theorem ten_any (n : Nat) (w : World) (hn8 : n ≤ 8) :
    Calls Try.prog 7 #[.int .i64 n] w fun e w' => e = .returned (.int .u64 (tenp n : Nat)) ∧ w' = w := by
  go_enter Try.func7, Try.ntmps7
  go_wp2
  go_loop [3, 4] (fun p i => ∃ k t : Nat, k ≤ n ∧ i = .int .i64 k ∧ p = .int .u64 t ∧ t ≤ 100000000 ∧ Hid (t = tenp k)) (fun _ i => n - (intOf i).toNat)
  case atStart => exact ⟨0, 1, by omega, rfl, rfl, by omega, rfl⟩
  case round =>
    obtain ⟨k, t, hk, rfl, rfl, ht, he⟩ := hrel
    by_cases hlt : k < n
    · have h1 : Hid (t * 10 = tenp (k + 1)) := by rw [he.out]; exact (Nat.pow_succ ..).symm
      have h2 : t * 10 ≤ 100000000 := by have e := h1.out; have := ten_le (n := k + 1) (by omega); omega
      go_wp2
      go_round
      case rel => exact ⟨k + 1, t * 10, by omega, by go_num, by go_num, h2, h1⟩
      case measure => simp [intOf]; omega
    · have : k = n := by omega
      subst this
      go_wp2
      go_ret
      exact ⟨ret_u64 (by rw [he.out]), rfl⟩
end Go.Proofs.Qxb6627887a
