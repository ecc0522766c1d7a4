/-
  Seat b6627940a: FnFinalInsertOneAnywhereOrderFree (function 4): the plain law and the walk.
-/
import Derived.Test.Qxb6627940aFinal
namespace Go.Proofs.Qxb6627940a
open Go.RowKit

/-! ### The plain law -/
/-- The list with v put in at place p. -/
def insAt (zs : List Int) (p : Nat) (v : Int) : List Int := zs.take p ++ v :: zs.drop p
theorem insAt_length {zs : List Int} {p : Nat} {v : Int} (hp : p ≤ zs.length) : (insAt zs p v).length = zs.length + 1 := by
  simp [insAt]; omega
theorem insAt_lo {zs : List Int} {p : Nat} {v : Int} {k : Nat} (hk : k < p) (hp : p ≤ zs.length) : (insAt zs p v).getD k 0 = zs.getD k 0 := by
  have h1 : k < (zs.take p).length := by simp; omega
  simp only [insAt, List.getD]
  rw [List.getElem?_append_left h1, List.getElem?_take_of_lt hk]
theorem insAt_at {zs : List Int} {p : Nat} {v : Int} (hp : p ≤ zs.length) : (insAt zs p v).getD p 0 = v := by
  have h1 : (zs.take p).length = p := by simp; omega
  simp only [insAt, List.getD]
  rw [List.getElem?_append_right (by omega), h1]
  simp
theorem insAt_hi {zs : List Int} {p : Nat} {v : Int} {k : Nat} (hk : p ≤ k) (hp : p ≤ zs.length) : (insAt zs p v).getD (k + 1) 0 = zs.getD k 0 := by
  have h1 : (zs.take p).length = p := by simp; omega
  simp only [insAt, List.getD]
  rw [List.getElem?_append_right (by omega), h1, show k + 1 - p = (k - p) + 1 by omega, List.getElem?_cons_succ, List.getElem?_drop, show p + (k - p) = k by omega]

theorem fin_reverse (xs : List Int) : fin xs.reverse = fin xs := by simp [fin]

theorem any_ins (zs : List Int) (p : Nat) (v : Int) (f : Int → Bool) : (insAt zs p v).any f = (f v || zs.any f) := by
  have h : zs.any f = ((zs.take p).any f || (zs.drop p).any f) := by rw [← List.any_append, List.take_append_drop]
  rw [insAt, List.any_append, List.any_cons, h]
  cases (zs.take p).any f <;> cases f v <;> rfl
theorem all_ins (zs : List Int) (p : Nat) (v : Int) (f : Int → Bool) : (insAt zs p v).all f = (f v && zs.all f) := by
  have h : zs.all f = ((zs.take p).all f && (zs.drop p).all f) := by rw [← List.all_append, List.take_append_drop]
  rw [insAt, List.all_append, List.all_cons, h]
  cases (zs.take p).all f <;> cases f v <;> rfl
theorem fin_ins_fail (zs : List Int) (p : Nat) {v : Int} (h : v = 2) : fin (insAt zs p v) = 2 := by
  subst h; simp [fin, any_ins]
theorem fin_ins_pass (zs : List Int) (p : Nat) {v : Int} (h : v = 1) : fin (insAt zs p v) = fin zs := by
  subst h; simp [fin, any_ins, all_ins]
theorem fin_two {zs : List Int} (h : fin zs = 2) : zs.any (· == 2) = true := by
  unfold fin at h
  cases e : zs.any (· == 2) with
  | true => rfl
  | false => rw [e] at h; split at h <;> first | contradiction | (split at h <;> contradiction)
theorem fin_not_two {zs : List Int} (h : fin zs ≠ 2) : zs.any (· == 2) = false := by
  cases e : zs.any (· == 2) with
  | false => rfl
  | true => exact absurd (by simp [fin, e]) h
theorem fin_ins_other2 (zs : List Int) (p : Nat) {v : Int} (h : fin zs = 2) : fin (insAt zs p v) = 2 := by
  simp [fin, any_ins, fin_two h]
theorem fin_ins_other3 (zs : List Int) (p : Nat) {v : Int} (h2 : v ≠ 2) (h1 : v ≠ 1) (h : fin zs ≠ 2) : fin (insAt zs p v) = 3 := by
  simp [fin, any_ins, all_ins, fin_not_two h, h1, h2]

theorem getD_reverse {xs : List Int} {n q : Nat} (hl : xs.length = n + 1) (hq : q < n + 1) : xs.reverse.getD q 0 = xs.getD (n - q) 0 := by
  simp only [List.getD]
  rw [List.getElem?_reverse (by omega), hl, show n + 1 - 1 - q = n - q by omega]

/-! ### The walk -/
theorem upto_store (xs : List Int) (k : Nat) {z : Int} (h : z = xs.getD k 0) : (fun j => if j = k then Value.int .i64 z else upto xs k j) = upto xs (k + 1) := by
  rw [h]; exact upto_set xs k
theorem upto_all {xs : List Int} {n : Nat} (h : n = xs.length) : ∀ i, i < xs.length → upto xs n (0 + i) = .int .i64 (xs.getD i 0) := fun i hi => by
  simp [upto, h, hi]

/-- Final over a whole row, its value named. -/
theorem final_row {w : World} {g n : Nat} {f : Nat → Value} {xs : List Int} (val : Int) (h : w.rowIs g 26 n f) (hl : xs.length = n) (hn : n ≤ 70000) (hf : ∀ i, i < xs.length → f (0 + i) = .int .i64 (xs.getD i 0)) (hv : fin xs = val) :
    Calls Try.prog 7 #[.slice (some ⟨g, 0, none⟩) n n] w fun e w' => e = .returned (.int .i64 val) ∧ w' = w := by
  have := final_any _ n xs w (IsInts.ofRow (off := 0) h (by omega) (by unfold maxLen; omega) hf)
  rwa [hl, hv] at this

theorem ret_true {b : Bool} (h : b = true) : Ending.returned (.bool b) = .returned (.bool true) := by rw [h]

set_option maxRecDepth 100000 in
set_option maxHeartbeats 4000000 in
theorem insert_main (a : Option Addr) (cap : Nat) (zs : List Int) (p : Nat) (v : Int) (w : World) (h : IsInts w a zs) (hn : zs.length ≤ 65536) (hp : p ≤ zs.length) :
    Calls Try.prog 4 #[.slice a zs.length cap, .int .i64 p, .int .i64 v] w fun e w' => e = .returned (.bool true) ∧ Below w.heap.size w w' := by
  have HZ : Hid (IsInts w a zs) := h
  have hl := insAt_length (v := v) hp
  obtain ⟨xs, hx⟩ : ∃ xs, xs = insAt zs p v := ⟨_, rfl⟩
  rw [← hx] at hl
  have HX : Hid (xs = insAt zs p v) := hx
  have HL : Hid (xs.length = zs.length + 1) := hl
  have hm0 := made (zs.length + 1) (by omega)
  have hmk := hm0
  rw [show ((zs.length + 1 : Nat) : Int) = (zs.length : Int) + 1 by omega] at hmk
  clear hm0 hx hl
  obtain ⟨hlz, hc⟩ := h
  clear hlz
  go_enter Try.func4, Try.ntmps4
  go_wp2_with fail
  refine (bytes10_any _ _ _ _ _ _ HZ.out.1).mono ?_
  rintro e w' ⟨⟨bv, rfl⟩, rfl⟩
  cases bv with
  | false =>
    go_wp2
    go_ret
    exact ⟨rfl, Below.refl _ _⟩
  | true =>
    go_wp2_with fail
    refine (toVerdicts_any _ _ _ _ HZ.out hn).mono ?_
    rintro e w1 ⟨rfl, hrow1, hb1⟩
    go_wp2_with fail
    refine (final_any _ _ _ _ (IsInts.ofRow hrow1 (by omega) (by unfold maxLen; omega) (upto_all rfl))).mono ?_
    rintro e w2 ⟨rfl, rfl⟩
    have s1 := hb1.size
    go_wp2
    go_loopw [10] (fun i wr => ∃ k : Nat, k ≤ p ∧ i = .int .i64 k ∧ wr.rowIs w2.heap.size 26 (zs.length + 1) (upto xs k) ∧ Below w2.heap.size w2 wr) (fun i _ => p - (intOf i).toNat)
    case atStart => exact ⟨0, Nat.zero_le _, rfl, (World.rowIs_made _ _ _ _).congr (fun i _ => by simp [upto]), (Below.refl _ _).alloc (Nat.le_refl _) _⟩
    case round =>
      obtain ⟨k, hk, rfl, hrow, hnx⟩ := hrel
      by_cases hlt : k < p
      · rcases hc with rfl | ⟨b, off, rfl, hb, hc⟩
        · simp at hp; omega
        obtain ⟨z, hz⟩ : ∃ z, z = zs.getD k 0 := ⟨_, rfl⟩
        have hkz : k < zs.length := by omega
        have hcx : wr.cell? ⟨b, off + k, none⟩ = some (.int .i64 z) := by rw [hz]; exact ((hb1.trans (hnx.mono s1)).cell (by exact hb)).trans (hc k hkz)
        have hr := hrow.cell (i := k) (by omega)
        have hf := hrow.frozen k
        have R1 := hrow.set k (.int .i64 z)
        rw [upto_store xs k (by rw [HX.out, insAt_lo hlt hp]; exact hz)] at R1
        have R2 := hnx.setCell (p := ⟨w2.heap.size, k, none⟩) (Nat.le_refl _) (.int .i64 z)
        clear hz hc hrow
        go_wp2
        go_roundw
        case rel => exact ⟨k + 1, by omega, by go_num, R1, R2⟩
        case measure => simp [intOf]; omega
      · have : k = p := by omega
        subst this
        have hr := hrow.cell (i := k) (by omega)
        have hf := hrow.frozen k
        have R1 := hrow.set k (.int .i64 v)
        rw [upto_store xs k (by rw [HX.out, insAt_at hp])] at R1
        have R2 := hnx.setCell (p := ⟨w2.heap.size, k, none⟩) (Nat.le_refl _) (.int .i64 v)
        clear hrow hnx
        go_wp2
        go_loopw [11] (fun i wx => ∃ j : Nat, k ≤ j ∧ j ≤ zs.length ∧ i = .int .i64 j ∧ wx.rowIs w2.heap.size 26 (zs.length + 1) (upto xs (j + 1)) ∧ Below w2.heap.size w2 wx) (fun i _ => zs.length - (intOf i).toNat)
        case atStart => exact ⟨k, Nat.le_refl _, hp, rfl, R1, R2⟩
        case round =>
          clear R1 R2 hr hf
          obtain ⟨j, hkj, hj, rfl, hrow, hnx⟩ := hrel
          by_cases hlt : j < zs.length
          · rcases hc with rfl | ⟨b, off, rfl, hb, hc⟩
            · simp at hlt
            obtain ⟨z, hz⟩ : ∃ z, z = zs.getD j 0 := ⟨_, rfl⟩
            have hcx : wr.cell? ⟨b, off + j, none⟩ = some (.int .i64 z) := by rw [hz]; exact ((hb1.trans (hnx.mono s1)).cell (by exact hb)).trans (hc j hlt)
            have hr := hrow.cell (i := j + 1) (by omega)
            have hf := hrow.frozen (j + 1)
            have R1 := hrow.set (j + 1) (.int .i64 z)
            rw [upto_store xs (j + 1) (by rw [HX.out, insAt_hi hkj hp]; exact hz)] at R1
            have R2 := hnx.setCell (p := ⟨w2.heap.size, j + 1, none⟩) (Nat.le_refl _) (.int .i64 z)
            clear hz hc hrow
            go_wp2
            go_roundw
            case rel => exact ⟨j + 1, by omega, by omega, by go_num, R1, R2⟩
            case measure => simp [intOf]; omega
          · have : j = zs.length := by omega
            subst this
            go_wp2
            go_loopw [13] (fun i wx => ∃ q : Nat, q ≤ zs.length + 1 ∧ i = .int .i64 q ∧ wx.rowIs wr.heap.size 26 (zs.length + 1) (upto xs.reverse q) ∧ Below wr.heap.size wr wx) (fun i _ => zs.length + 1 - (intOf i).toNat)
            case atStart => exact ⟨0, Nat.zero_le _, rfl, (World.rowIs_made _ _ _ _).congr (fun i _ => by simp [upto]), (Below.refl _ _).alloc (Nat.le_refl _) _⟩
            case round =>
              obtain ⟨q, hq, rfl, hrev, hny⟩ := hrel
              have hins := hrow.of_block (hny.block _ hrow.lt)
              by_cases hlt : q < zs.length + 1
              · have hsrc := hins.cell (i := zs.length - q) (by omega)
                obtain ⟨z, hz⟩ : ∃ z, z = xs.getD (zs.length - q) 0 := ⟨_, rfl⟩
                have hu : upto xs (zs.length + 1) (zs.length - q) = .int .i64 z := by rw [hz]; simp [upto, show zs.length - q < zs.length + 1 by omega]
                rw [hu] at hsrc
                have hr := hrev.cell (i := q) (by omega)
                have hf := hrev.frozen q
                have R1 := hrev.set q (.int .i64 z)
                rw [upto_store xs.reverse q (by rw [hz]; exact (getD_reverse HL.out hlt).symm)] at R1
                have R2 := hny.setCell (p := ⟨_, q, none⟩) (Nat.le_refl _) (.int .i64 z)
                clear hz hu hrev hins
                go_wp2
                go_roundw
                case rel => exact ⟨q + 1, by omega, by go_num, R1, R2⟩
                case measure => simp [intOf]; omega
              · have : q = zs.length + 1 := by omega
                subst this
                have HR : Hid (xs.reverse.length = zs.length + 1) := by rw [List.length_reverse]; exact HL.out
                have hbel := hb1.trans ((hnx.mono s1).trans (hny.mono (Nat.le_trans s1 hnx.size)))
                clear hmk hc
                by_cases h2 : v = 2
                · have e2 : (v == 2) = true := by simp [h2]
                  have FF : Hid (fin xs = 2) := by rw [HX.out]; exact fin_ins_fail zs k h2
                  have FR : Hid (fin xs.reverse = 2) := by rw [fin_reverse]; exact FF.out
                  go_wp2_with fail
                  refine (final_row (2) hins HL.out (by omega) (upto_all HL.out.symm) FF.out).mono ?_
                  rintro e w4 ⟨rfl, rfl⟩
                  go_wp2_with fail
                  refine (final_row (2) hrev HR.out (by omega) (upto_all HR.out.symm) FR.out).mono ?_
                  rintro e w5 ⟨rfl, rfl⟩
                  go_wp2
                  go_ret
                  exact ⟨rfl, hbel⟩
                · have e2 : (v == 2) = false := by simp [h2]
                  by_cases h1 : v = 1
                  · have e1 : (v == 1) = true := by simp [h1]
                    have FF : Hid (fin xs = fin zs) := by rw [HX.out]; exact fin_ins_pass zs k h1
                    have FR : Hid (fin xs.reverse = fin zs) := by rw [fin_reverse]; exact FF.out
                    go_wp2_with fail
                    refine (final_row (fin zs) hins HL.out (by omega) (upto_all HL.out.symm) FF.out).mono ?_
                    rintro e w4 ⟨rfl, rfl⟩
                    go_wp2_with fail
                    refine (final_row (fin zs) hrev HR.out (by omega) (upto_all HR.out.symm) FR.out).mono ?_
                    rintro e w5 ⟨rfl, rfl⟩
                    go_wp2
                    go_ret
                    exact ⟨rfl, hbel⟩
                  · have e1 : (v == 1) = false := by simp [h1]
                    by_cases hz2 : fin zs = 2
                    · have e3 : (fin zs == 2) = true := by simp [hz2]
                      have FF : Hid (fin xs = 2) := by rw [HX.out]; exact fin_ins_other2 zs k hz2
                      have FR : Hid (fin xs.reverse = 2) := by rw [fin_reverse]; exact FF.out
                      go_wp2_with fail
                      refine (final_row (2) hins HL.out (by omega) (upto_all HL.out.symm) FF.out).mono ?_
                      rintro e w4 ⟨rfl, rfl⟩
                      go_wp2_with fail
                      refine (final_row (2) hrev HR.out (by omega) (upto_all HR.out.symm) FR.out).mono ?_
                      rintro e w5 ⟨rfl, rfl⟩
                      go_wp2
                      go_ret
                      exact ⟨rfl, hbel⟩
                    · have e3 : (fin zs == 2) = false := by simp [hz2]
                      have FF : Hid (fin xs = 3) := by rw [HX.out]; exact fin_ins_other3 zs k h2 h1 hz2
                      have FR : Hid (fin xs.reverse = 3) := by rw [fin_reverse]; exact FF.out
                      go_wp2_with fail
                      refine (final_row (3) hins HL.out (by omega) (upto_all HL.out.symm) FF.out).mono ?_
                      rintro e w4 ⟨rfl, rfl⟩
                      go_wp2_with fail
                      refine (final_row (3) hrev HR.out (by omega) (upto_all HR.out.symm) FR.out).mono ?_
                      rintro e w5 ⟨rfl, rfl⟩
                      go_wp2
                      go_ret
                      exact ⟨rfl, hbel⟩
end Go.Proofs.Qxb6627940a
