/-
  Seat b6627940a: FnFinalSplitJoinsAndCounts (function 3): modelFinal (8), joinVerdicts (9), the plain law and the walk.
-/
import Derived.Test.Qxb6627940aInsert
namespace Go.Proofs.Qxb6627940a
open Go.RowKit

/-! ### The plain law -/
def nf (zs : List Int) : Nat := zs.countP (· == 2)
def np (zs : List Int) : Nat := zs.countP (· == 1)
theorem nf_step {zs : List Int} {k : Nat} (h : k < zs.length) : nf (zs.take (k + 1)) = nf (zs.take k) + (if zs[k] == 2 then 1 else 0) := by
  unfold nf; rw [List.take_succ_eq_append_getElem h, List.countP_append, List.countP_singleton]
theorem np_step {zs : List Int} {k : Nat} (h : k < zs.length) : np (zs.take (k + 1)) = np (zs.take k) + (if zs[k] == 1 then 1 else 0) := by
  unfold np; rw [List.take_succ_eq_append_getElem h, List.countP_append, List.countP_singleton]
theorem nf_le (zs : List Int) (k : Nat) : nf (zs.take k) ≤ k := Nat.le_trans List.countP_le_length (List.length_take_le _ _)
theorem np_le (zs : List Int) (k : Nat) : np (zs.take k) ≤ k := Nat.le_trans List.countP_le_length (List.length_take_le _ _)
theorem model_fail {zs : List Int} (h : 0 < nf zs) : fin zs = 2 := by
  obtain ⟨x, hx, h2⟩ := List.countP_pos_iff.1 h
  have : zs.any (· == 2) = true := List.any_eq_true.2 ⟨x, hx, h2⟩
  simp [fin, this]
theorem model_no {zs : List Int} (h : ¬ 0 < nf zs) : zs.any (· == 2) = false := by
  cases e : zs.any (· == 2) with
  | false => rfl
  | true =>
    obtain ⟨x, hx, h2⟩ := List.any_eq_true.1 e
    exact absurd (List.countP_pos_iff.2 ⟨x, hx, h2⟩) h
theorem model_pass {zs : List Int} (h : ¬ 0 < nf zs) (hp : np zs = zs.length) : fin zs = 1 := by
  have : zs.all (· == 1) = true := List.all_eq_true.2 (List.countP_eq_length.1 hp)
  simp only [fin, model_no h, this]; rfl
theorem model_rest {zs : List Int} (h : ¬ 0 < nf zs) (hp : np zs ≠ zs.length) : fin zs = 3 := by
  have : zs.all (· == 1) = false := by
    cases e : zs.all (· == 1) with
    | false => rfl
    | true => exact absurd (List.countP_eq_length.2 (List.all_eq_true.1 e)) hp
  simp only [fin, model_no h, this]; rfl

/-- The verdict of two runs laid end to end. -/
def jn (a b : Int) : Int := if a == 2 || b == 2 then 2 else if a == 1 && b == 1 then 1 else 3
theorem fin_join (xs ys : List Int) : fin (xs ++ ys) = jn (fin xs) (fin ys) := by
  unfold fin jn
  rw [List.any_append, List.all_append]
  cases xs.any (· == 2) <;> cases ys.any (· == 2) <;> cases xs.all (· == 1) <;> cases ys.all (· == 1) <;> rfl
theorem fin_cut (zs : List Int) (c : Nat) : fin zs = jn (fin (zs.take c)) (fin (zs.drop c)) := by
  rw [← fin_join, List.take_append_drop]
theorem fin_cases (zs : List Int) : fin zs = 1 ∨ fin zs = 2 ∨ fin zs = 3 := by
  unfold fin
  cases zs.any (· == 2) <;> cases zs.all (· == 1) <;> simp

/-! ### The walks -/
set_option maxHeartbeats 400000 in
theorem join_any (a b : Int) (w : World) (ha : a = 1 ∨ a = 2 ∨ a = 3) (hb : b = 1 ∨ b = 2 ∨ b = 3) :
    Calls Try.prog 9 #[.int .i64 a, .int .i64 b] w fun e w' => e = .returned (.int .i64 (jn a b)) ∧ w' = w := by
  rcases ha with rfl | rfl | rfl <;> rcases hb with rfl | rfl | rfl
  all_goals
    go_enter Try.func9, Try.ntmps9
    go_wp2
    go_ret
    exact ⟨rfl, rfl⟩

set_option maxHeartbeats 400000 in
theorem model_any (a : Option Addr) (cap : Nat) (zs : List Int) (w : World) (h : IsInts w a zs) :
    Calls Try.prog 8 #[.slice a zs.length cap] w fun e w' => e = .returned (.int .i64 (fin zs)) ∧ w' = w := by
  obtain ⟨hl, hc⟩ := h
  unfold maxLen at hl
  go_enter Try.func8, Try.ntmps8
  go_wp2
  go_loop [3, 4, 5] (fun f p i => ∃ k x y : Nat, k ≤ zs.length ∧ i = .int .i64 k ∧ f = .int .i64 x ∧ p = .int .i64 y ∧ x ≤ k ∧ y ≤ k ∧ Hid (x = nf (zs.take k)) ∧ Hid (y = np (zs.take k))) (fun _ _ i => zs.length - (intOf i).toNat)
  case atStart => exact ⟨0, 0, 0, Nat.zero_le _, rfl, rfl, rfl, Nat.le_refl _, Nat.le_refl _, rfl, rfl⟩
  case round =>
    obtain ⟨k, x, y, hk, rfl, rfl, rfl, hx, hy, HX, HY⟩ := hrel
    by_cases hlt : k < zs.length
    · rcases hc with rfl | ⟨b, off, rfl, hb, hc⟩
      · simp at hlt
      have hcx := hc k hlt
      have H1 : Hid _ := nf_step hlt
      have H2 : Hid _ := np_step hlt
      go_wp2
      · have h2 : (zs[k] == 2) = true := by assumption
        have h1 : (zs[k] == 1) = false := by simp at h2; simp [h2]
        go_round
        case rel => exact ⟨k + 1, x + 1, y, by omega, by go_num, by go_num, rfl, by omega, by omega, by show _ = _; rw [H1.out, h2, HX.out]; rfl, by show _ = _; rw [H2.out, h1, HY.out]; rfl⟩
        case measure => simp [intOf]; omega
      · have h2 : (zs[k] == 2) = false := by assumption
        have h1 : (zs[k] == 1) = true := by assumption
        go_round
        case rel => exact ⟨k + 1, x, y + 1, by omega, by go_num, rfl, by go_num, by omega, by omega, by show _ = _; rw [H1.out, h2, HX.out]; rfl, by show _ = _; rw [H2.out, h1, HY.out]; rfl⟩
        case measure => simp [intOf]; omega
      · have h2 : (zs[k] == 2) = false := by assumption
        have h1 : (zs[k] == 1) = false := by assumption
        go_round
        case rel => exact ⟨k + 1, x, y, by omega, by go_num, rfl, rfl, by omega, by omega, by show _ = _; rw [H1.out, h2, HX.out]; rfl, by show _ = _; rw [H2.out, h1, HY.out]; rfl⟩
        case measure => simp [intOf]; omega
    · have : k = zs.length := by omega
      subst this
      have HX' : Hid (x = nf zs) := by have := HX.out; rwa [List.take_length] at this
      have HY' : Hid (y = np zs) := by have := HY.out; rwa [List.take_length] at this
      clear HX HY
      go_wp2
      · have h0 : 0 < x := by assumption
        go_ret
        exact ⟨ret_i64 (model_fail (by rw [← HX'.out]; exact h0)).symm, rfl⟩
      · have h0 : ¬ 0 < x := by assumption
        have h1 : ((y : Int) == (zs.length : Int)) = true := by assumption
        go_ret
        exact ⟨ret_i64 (model_pass (by rw [← HX'.out]; exact h0) (by rw [← HY'.out]; simp at h1; omega)).symm, rfl⟩
      · have h0 : ¬ 0 < x := by assumption
        have h1 : ((y : Int) == (zs.length : Int)) = false := by assumption
        go_ret
        exact ⟨ret_i64 (model_rest (by rw [← HX'.out]; exact h0) (by rw [← HY'.out]; simp at h1; omega)).symm, rfl⟩

theorem upto_take {zs : List Int} {c : Nat} (hc : c ≤ zs.length) : ∀ i, i < (zs.take c).length → upto zs zs.length (0 + i) = .int .i64 ((zs.take c).getD i 0) := fun i hi => by
  have h1 : i < c := by simp at hi; omega
  simp [upto, show i < zs.length by omega, List.getD, List.getElem?_take_of_lt h1]
theorem upto_drop {zs : List Int} {c : Nat} : ∀ i, i < (zs.drop c).length → upto zs zs.length (c + i) = .int .i64 ((zs.drop c).getD i 0) := fun i hi => by
  have h1 : c + i < zs.length := by simp at hi; omega
  simp [upto, h1, List.getD, List.getElem?_drop]

/-- Final over a part of a row, its value named. -/
theorem final_part {w : World} {g n : Nat} {f : Nat → Value} (xs : List Int) (off m cap : Nat) (h : w.rowIs g 26 n f) (hl : xs.length = m) (ho : off + m ≤ n) (hn : n ≤ 70000) (hf : ∀ i, i < xs.length → f (off + i) = .int .i64 (xs.getD i 0)) :
    Calls Try.prog 7 #[.slice (some ⟨g, off, none⟩) m cap] w fun e w' => e = .returned (.int .i64 (fin xs)) ∧ w' = w := by
  have := final_any _ cap xs w (IsInts.ofRow (off := off) h (by omega) (by unfold maxLen; omega) hf)
  rwa [hl] at this

set_option maxRecDepth 100000 in
set_option maxHeartbeats 2000000 in
theorem split_lt (a : Option Addr) (cap : Nat) (zs : List Int) (c : Nat) (w : World) (h : IsInts w a zs) (hn : zs.length ≤ 65536) (hc : c < zs.length) :
    Calls Try.prog 3 #[.slice a zs.length cap, .int .i64 (c : Nat)] w fun e w' => e = .returned (.bool true) ∧ Below w.heap.size w w' := by
  have HZ : Hid (IsInts w a zs) := h
  clear h
  have HC : Hid (fin zs = jn (fin (zs.take c)) (fin (zs.drop c))) := fin_cut zs c
  go_enter Try.func3, Try.ntmps3
  go_wp2_with fail
  refine (bytes5_any _ _ _ _ _ HZ.out.1).mono ?_
  rintro e w' ⟨⟨bv, rfl⟩, rfl⟩
  cases bv with
  | false =>
    go_wp2
    go_ret
    exact ⟨rfl, Below.refl _ _⟩
  | true =>
    go_wp2_with fail
    refine (toVerdicts_any _ _ _ _ HZ.out hn).mono ?_
    rintro e w1 ⟨rfl, hrow1, hb1⟩
    go_wp2_with fail
    refine (final_part zs 0 _ _ hrow1 rfl (by omega) (by omega) (upto_all rfl)).mono ?_
    rintro e w2 ⟨rfl, rfl⟩
    go_wp2_with fail
    refine (final_part (zs.take c) 0 _ _ hrow1 (by simp; try omega) (by omega) (by omega) (upto_take (by omega))).mono ?_
    rintro e w2 ⟨rfl, rfl⟩
    go_wp2_with fail
    refine (final_part (zs.drop c) c (zs.length - c) _ hrow1 (by simp) (by omega) (by omega) upto_drop).mono ?_
    rintro e w2 ⟨rfl, rfl⟩
    go_wp2_with fail
    refine (model_any _ _ _ _ (HZ.out.below hb1)).mono ?_
    rintro e w2 ⟨rfl, rfl⟩
    go_wp2_with fail
    refine (join_any _ _ _ (fin_cases _) (fin_cases _)).mono ?_
    rintro e w2 ⟨rfl, rfl⟩
    rw [← HC.out]
    go_wp2
    go_ret
    exact ⟨rfl, hb1⟩

set_option maxRecDepth 100000 in
set_option maxHeartbeats 2000000 in
theorem split_eq (a : Option Addr) (cap : Nat) (zs : List Int) (w : World) (h : IsInts w a zs) (hn : zs.length ≤ 65536) :
    Calls Try.prog 3 #[.slice a zs.length cap, .int .i64 (zs.length : Nat)] w fun e w' => e = .returned (.bool true) ∧ Below w.heap.size w w' := by
  have HZ : Hid (IsInts w a zs) := h
  clear h
  have HC : Hid (fin zs = jn (fin zs) (fin [])) := by have := fin_cut zs zs.length; rwa [List.take_length, List.drop_length] at this
  go_enter Try.func3, Try.ntmps3
  go_wp2_with fail
  refine (bytes5_any _ _ _ _ _ HZ.out.1).mono ?_
  rintro e w' ⟨⟨bv, rfl⟩, rfl⟩
  cases bv with
  | false =>
    go_wp2
    go_ret
    exact ⟨rfl, Below.refl _ _⟩
  | true =>
    go_wp2_with fail
    refine (toVerdicts_any _ _ _ _ HZ.out hn).mono ?_
    rintro e w1 ⟨rfl, hrow1, hb1⟩
    go_wp2_with fail
    refine (final_part zs 0 _ _ hrow1 rfl (by omega) (by omega) (upto_all rfl)).mono ?_
    rintro e w2 ⟨rfl, rfl⟩
    go_wp2_with fail
    refine (final_part (zs.take zs.length) 0 _ _ hrow1 (by simp; try omega) (by omega) (by omega) (upto_take (by omega))).mono ?_
    rintro e w2 ⟨rfl, rfl⟩
    go_wp2_with fail
    refine (final_part (zs.drop zs.length) 0 0 _ hrow1 (by simp) (by omega) (by omega) (fun i hi => by simp at hi)).mono ?_
    rintro e w2 ⟨rfl, rfl⟩
    go_wp2_with fail
    refine (model_any _ _ _ _ (HZ.out.below hb1)).mono ?_
    rintro e w2 ⟨rfl, rfl⟩
    go_wp2_with fail
    refine (join_any _ _ _ (fin_cases _) (fin_cases _)).mono ?_
    rintro e w2 ⟨rfl, rfl⟩
    rw [← HC.out]
    go_wp2
    go_ret
    exact ⟨rfl, hb1⟩

set_option maxRecDepth 100000 in
set_option maxHeartbeats 2000000 in
theorem split_any (a : Option Addr) (cap : Nat) (zs : List Int) (p : Int) (w : World) (h : IsInts w a zs) :
    Calls Try.prog 3 #[.slice a zs.length cap, .int .i64 p] w fun e w' => e = .returned (.bool true) ∧ Below w.heap.size w w' := by
  have hm := h.1
  by_cases hn : zs.length ≤ 65536
  · by_cases h0 : 0 ≤ p
    · by_cases hp : p ≤ zs.length
      · obtain ⟨q, rfl⟩ := Int.eq_ofNat_of_zero_le h0
        by_cases he : q = zs.length
        · subst he
          exact split_eq a cap zs w h hn
        · exact split_lt a cap zs q w h hn (by omega)
      · have hd : decide ((zs.length : Int) < p) = true := by simp; omega
        clear h
        go_enter Try.func3, Try.ntmps3
        go_wp2_with fail
        refine (bytes5_any _ _ _ _ _ hm).mono ?_
        rintro e w' ⟨⟨bv, rfl⟩, rfl⟩
        cases bv with
        | false =>
          go_wp2
          go_ret
          exact ⟨rfl, Below.refl _ _⟩
        | true =>
          go_wp2
          go_ret
          exact ⟨rfl, Below.refl _ _⟩
    · have hd : decide (p < 0) = true := by simp; omega
      clear h
      go_enter Try.func3, Try.ntmps3
      go_wp2_with fail
      refine (bytes5_any _ _ _ _ _ hm).mono ?_
      rintro e w' ⟨⟨bv, rfl⟩, rfl⟩
      cases bv with
      | false =>
        go_wp2
        go_ret
        exact ⟨rfl, Below.refl _ _⟩
      | true =>
        go_wp2
        go_ret
        exact ⟨rfl, Below.refl _ _⟩
  · clear h
    go_enter Try.func3, Try.ntmps3
    go_wp2_with fail
    refine (bytes5_any _ _ _ _ _ hm).mono ?_
    rintro e w' ⟨⟨bv, rfl⟩, rfl⟩
    cases bv with
    | false =>
      go_wp2
      go_ret
      exact ⟨rfl, Below.refl _ _⟩
    | true =>
      go_wp2
      go_ret
      exact ⟨rfl, Below.refl _ _⟩
#print axioms split_any
end Go.Proofs.Qxb6627940a
