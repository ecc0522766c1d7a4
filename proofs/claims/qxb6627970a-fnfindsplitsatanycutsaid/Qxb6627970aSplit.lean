/-
  Seat b6627970a: FnFindSplitsAtAnyCut (function 4): the walk.
-/
import Derived.Test.Qxb6627970aOwn
namespace Go.Proofs.Qxb6627970a
open Go.RowKit

/-- Find where there is none. -/
theorem find_no {w : World} {a : Option Addr} {ps : List PP} (n cap : Nat) (t : Int) (h : IsPs w a ps) (hl : ps.length = n) (hf : findP ps t = none) :
    Calls Try.prog 8 #[.slice a n cap, .int .u16 t] w fun e w' => e = .returned (.tuple #[.slice none 0 0, .bool false]) ∧ Below w.heap.size w w' := by
  subst hl
  have := find_any a cap ps t w h
  rw [findOk, findR, hf] at this
  exact this
/-- Find where p is the first. -/
theorem find_yes {w : World} {a : Option Addr} {ps : List PP} (n cap : Nat) (t : Int) (p : PP) (h : IsPs w a ps) (hl : ps.length = n) (hf : findP ps t = some p) :
    Calls Try.prog 8 #[.slice a n cap, .int .u16 t] w fun e w' => e = .returned (.tuple #[.slice p.a p.n p.c, .bool true]) ∧ Below w.heap.size w w' := by
  subst hl
  have := find_any a cap ps t w h
  rw [findOk, findR, hf] at this
  exact this

/-- Find, the length and the answer named. -/
theorem find_some {w : World} {a : Option Addr} {ps : List PP} (n cap : Nat) (t : Int) (r : PP) (ok : Bool) (h : IsPs w a ps) (hl : ps.length = n) (hr : findR ps t = r) (hk : findOk ps t = ok) :
    Calls Try.prog 8 #[.slice a n cap, .int .u16 t] w fun e w' => e = .returned (.tuple #[.slice r.a r.n r.c, .bool ok]) ∧ Below w.heap.size w w' := by
  subst hl hr hk
  exact find_any a cap ps t w h

/-- What the scan from the back knows: of the parameters from place q on, kk is the first of type t; or there is none, and kk is -1. -/
def Inv (ps : List PP) (t : Int) (q : Nat) (kk : Int) : Prop :=
  (kk = -1 ∧ findP (ps.drop q) t = none) ∨ ∃ m : Nat, kk = m ∧ m < ps.length ∧ findP (ps.drop q) t = some (ps.getD m dft)
theorem inv_start (ps : List PP) (t : Int) : Inv ps t ps.length (-1) := Or.inl ⟨rfl, by simp [findP]⟩
theorem drop_cons {ps : List PP} {s : Nat} (h : s < ps.length) : ps.drop s = ps.getD s dft :: ps.drop (s + 1) := by
  rw [List.drop_eq_getElem_cons h]; simp [List.getD, h]
theorem inv_hit {ps : List PP} {t : Int} {s : Nat} (h : s < ps.length) (he : ((ps.getD s dft).ty == t) = true) : Inv ps t s s := by
  refine Or.inr ⟨s, rfl, h, ?_⟩
  rw [findP, drop_cons h, List.find?_cons, he]
theorem inv_miss {ps : List PP} {t : Int} {s : Nat} {kk : Int} (h : s < ps.length) (he : ((ps.getD s dft).ty == t) = false) (hi : Inv ps t (s + 1) kk) : Inv ps t s kk := by
  have e : findP (ps.drop s) t = findP (ps.drop (s + 1)) t := by rw [findP, drop_cons h, List.find?_cons, he]; rfl
  unfold Inv at *
  rw [e]
  exact hi
theorem inv_end {ps : List PP} {t : Int} {kk : Int} (h : Inv ps t 0 kk) : (kk = -1 ∧ findP ps t = none) ∨ ∃ m : Nat, kk = m ∧ m < ps.length ∧ findP ps t = some (ps.getD m dft) := by
  unfold Inv at h
  rwa [List.drop_zero] at h

theorem cut_none {ps : List PP} {t : Int} (i : Nat) (h : findP ps t = none) : findP (ps.take i) t = none ∧ findP (ps.drop i) t = none := by
  rw [← List.take_append_drop i ps, findP_append, Option.or_eq_none_iff] at h
  simpa using h
theorem cut_some {ps : List PP} {t : Int} {p : PP} (i : Nat) (h : findP ps t = some p) : findP (ps.take i) t = some p ∨ (findP (ps.take i) t = none ∧ findP (ps.drop i) t = some p) := by
  have e := findP_append (ps.take i) (ps.drop i) t
  rw [List.take_append_drop, h] at e
  cases hq : findP (ps.take i) t with
  | none => rw [hq] at e; exact Or.inr ⟨rfl, by simpa using e.symm⟩
  | some x => rw [hq] at e; simp at e; exact Or.inl (by rw [e])

set_option maxRecDepth 100000 in
set_option maxHeartbeats 4000000 in
theorem split_no_lt (a : Option Addr) (cap : Nat) (ps : List PP) (i : Nat) (t : Int) (w : World) (h : IsPs w a ps) (hi : i < ps.length) (hn : ps.length ≤ 32768) (hf : findP ps t = none) :
    Calls Try.prog 4 #[.slice a ps.length cap, .int .i64 i, .int .u16 t] w fun e w' => e = .returned (.bool true) ∧ Below w.heap.size w w' := by
  have HP : Hid (IsPs w a ps) := h
  have HF : Hid (findP ps t = none) := hf
  have HM : Hid (ps.length ≤ maxLen) := h.1
  clear h hf
  go_enter Try.func4, Try.ntmps4
  go_wp2_with fail
  refine (bytes10_any _ _ _ _ _ _ HP.out).mono ?_
  rintro e w' ⟨⟨bv, rfl⟩, rfl⟩
  cases bv with
  | false =>
    go_wp2
    go_ret
    exact ⟨rfl, Below.refl _ _⟩
  | true =>
    go_wp2_with fail
    refine (sizeFits_any _ _ _ _ _ HP.out).mono ?_
    rintro e w' ⟨⟨bv, rfl⟩, rfl⟩
    cases bv with
    | false =>
      go_wp2
      go_ret
      exact ⟨rfl, Below.refl _ _⟩
    | true =>
      go_wp2_with fail
      refine (toWire_any _ _ _ _ HP.out hn).mono ?_
      rintro e w1 ⟨rfl, hr1, hb1⟩
      go_wp2_with fail
      refine (find_no ps.length _ t (whole_ps hr1 HM.out) rfl HF.out).mono ?_
      rintro e w2 ⟨rfl, hb2⟩
      have r2 := rowIs_below hr1 hb2
      have b02 := hb1.trans (hb2.mono hb1.size)
      clear hr1 hb1 hb2
      go_wp2_with fail
      refine (find_no i _ t (take_ps r2 HM.out (Nat.le_of_lt hi)) (by simp; omega) (cut_none i HF.out).1).mono ?_
      rintro e w3 ⟨rfl, hb3⟩
      have r3 := rowIs_below r2 hb3
      have b03 := b02.trans (hb3.mono b02.size)
      clear r2 b02 hb3
      go_wp2_with fail
      refine (find_no (ps.length - i) _ t (drop_ps r3 HM.out) (by simp) (cut_none i HF.out).2).mono ?_
      rintro e w4 ⟨rfl, hb4⟩
      have b04 := b03.trans (hb4.mono b03.size)
      clear b03 hb4 r3
      go_wp2_with fail
      refine (answer_self _ _ _ _ _ (OkB.nil _)).mono ?_
      rintro e w5 ⟨rfl, m5, rfl⟩
      have b09 := below_drewN b04 m5
      have hc9 := (HP.out.below b09).2
      clear HP
      go_wp2_with fail
      go_loop [14, 15] (fun kv jv => ∃ (q : Nat) (kk : Int), q ≤ ps.length ∧ jv = .int .i64 ((q : Int) - 1) ∧ kv = .int .i64 kk ∧ Hid (Inv ps t q kk)) (fun _ jv => (intOf jv + 1).toNat)
      case atStart => exact ⟨ps.length, -1, Nat.le_refl _, rfl, rfl, inv_start ps t⟩
      case round =>
        obtain ⟨q, kk, hq, rfl, rfl, hinv⟩ := hrel
        by_cases hq0 : q = 0
        · subst hq0
          rcases inv_end hinv.out with ⟨rfl, hf⟩ | ⟨m, rfl, hm, hf⟩
          · have hnil := fun (w : World) (a : Option Addr) (n c : Nat) => Lib.run_eql_slice_nil (P := Try.prog) w 24 5 a n c 0 0 Try.underlying24
            clear hf
            go_wp2
            go_ret
            exact ⟨rfl, b09⟩
          · rw [HF.out] at hf
            cases hf
        · obtain ⟨s, rfl⟩ : ∃ s, q = s + 1 := ⟨q - 1, by omega⟩
          have hs : s < ps.length := by omega
          rcases hc9 with rfl | ⟨b, off, rfl, hb, hc⟩
          · simp at hs
          have h0 := (hc s hs).1
          generalize hx : ps.getD s dft = x at h0
          have HX : Hid _ := hx
          clear hx hc
          rw [show ((s + 1 : Nat) : Int) - 1 = (s : Int) by omega]
          go_wp2
          · have he : (x.ty == t) = true := by assumption
            go_round
            case rel => exact ⟨s, s, by omega, by go_num, rfl, inv_hit hs (by rw [HX.out]; exact he)⟩
            case measure => simp [intOf]
          · have he : (x.ty == t) = false := by assumption
            go_round
            case rel => exact ⟨s, kk, by omega, by go_num, rfl, inv_miss hs (by rw [HX.out]; exact he) hinv.out⟩
            case measure => simp [intOf]

set_option maxRecDepth 100000 in
set_option maxHeartbeats 4000000 in
theorem split_no_eq (a : Option Addr) (cap : Nat) (ps : List PP) (t : Int) (w : World) (h : IsPs w a ps) (hn : ps.length ≤ 32768) (hf : findP ps t = none) :
    Calls Try.prog 4 #[.slice a ps.length cap, .int .i64 ps.length, .int .u16 t] w fun e w' => e = .returned (.bool true) ∧ Below w.heap.size w w' := by
  have HP : Hid (IsPs w a ps) := h
  have HF : Hid (findP ps t = none) := hf
  have HM : Hid (ps.length ≤ maxLen) := h.1
  clear h hf
  go_enter Try.func4, Try.ntmps4
  go_wp2_with fail
  refine (bytes10_any _ _ _ _ _ _ HP.out).mono ?_
  rintro e w' ⟨⟨bv, rfl⟩, rfl⟩
  cases bv with
  | false =>
    go_wp2
    go_ret
    exact ⟨rfl, Below.refl _ _⟩
  | true =>
    go_wp2_with fail
    refine (sizeFits_any _ _ _ _ _ HP.out).mono ?_
    rintro e w' ⟨⟨bv, rfl⟩, rfl⟩
    cases bv with
    | false =>
      go_wp2
      go_ret
      exact ⟨rfl, Below.refl _ _⟩
    | true =>
      go_wp2_with fail
      refine (toWire_any _ _ _ _ HP.out hn).mono ?_
      rintro e w1 ⟨rfl, hr1, hb1⟩
      go_wp2_with fail
      refine (find_no ps.length _ t (whole_ps hr1 HM.out) rfl HF.out).mono ?_
      rintro e w2 ⟨rfl, hb2⟩
      have r2 := rowIs_below hr1 hb2
      have b02 := hb1.trans (hb2.mono hb1.size)
      clear hr1 hb1 hb2
      go_wp2_with fail
      refine (find_no ps.length _ t (whole_ps r2 HM.out) rfl HF.out).mono ?_
      rintro e w3 ⟨rfl, hb3⟩
      have r3 := rowIs_below r2 hb3
      have b03 := b02.trans (hb3.mono b02.size)
      clear r2 b02 hb3
      go_wp2_with fail
      refine (find_no (ps := []) 0 _ t ⟨by simp, Or.inl rfl⟩ rfl rfl).mono ?_
      rintro e w4 ⟨rfl, hb4⟩
      have b04 := b03.trans (hb4.mono b03.size)
      clear b03 hb4 r3
      go_wp2_with fail
      refine (answer_self _ _ _ _ _ (OkB.nil _)).mono ?_
      rintro e w5 ⟨rfl, m5, rfl⟩
      have b09 := below_drewN b04 m5
      have hc9 := (HP.out.below b09).2
      clear HP
      go_wp2_with fail
      go_loop [14, 15] (fun kv jv => ∃ (q : Nat) (kk : Int), q ≤ ps.length ∧ jv = .int .i64 ((q : Int) - 1) ∧ kv = .int .i64 kk ∧ Hid (Inv ps t q kk)) (fun _ jv => (intOf jv + 1).toNat)
      case atStart => exact ⟨ps.length, -1, Nat.le_refl _, rfl, rfl, inv_start ps t⟩
      case round =>
        obtain ⟨q, kk, hq, rfl, rfl, hinv⟩ := hrel
        by_cases hq0 : q = 0
        · subst hq0
          rcases inv_end hinv.out with ⟨rfl, hf⟩ | ⟨m, rfl, hm, hf⟩
          · have hnil := fun (w : World) (a : Option Addr) (n c : Nat) => Lib.run_eql_slice_nil (P := Try.prog) w 24 5 a n c 0 0 Try.underlying24
            clear hf
            go_wp2
            go_ret
            exact ⟨rfl, b09⟩
          · rw [HF.out] at hf
            cases hf
        · obtain ⟨s, rfl⟩ : ∃ s, q = s + 1 := ⟨q - 1, by omega⟩
          have hs : s < ps.length := by omega
          rcases hc9 with rfl | ⟨b, off, rfl, hb, hc⟩
          · simp at hs
          have h0 := (hc s hs).1
          generalize hx : ps.getD s dft = x at h0
          have HX : Hid _ := hx
          clear hx hc
          rw [show ((s + 1 : Nat) : Int) - 1 = (s : Int) by omega]
          go_wp2
          · have he : (x.ty == t) = true := by assumption
            go_round
            case rel => exact ⟨s, s, by omega, by go_num, rfl, inv_hit hs (by rw [HX.out]; exact he)⟩
            case measure => simp [intOf]
          · have he : (x.ty == t) = false := by assumption
            go_round
            case rel => exact ⟨s, kk, by omega, by go_num, rfl, inv_miss hs (by rw [HX.out]; exact he) hinv.out⟩
            case measure => simp [intOf]

set_option maxRecDepth 100000 in
set_option maxHeartbeats 4000000 in
theorem split_yes_eq (a : Option Addr) (cap : Nat) (ps : List PP) (t : Int) (p : PP) (w : World) (h : IsPs w a ps) (hok : OkB w p.a p.n) (hn : ps.length ≤ 32768) (hf : findP ps t = some p) :
    Calls Try.prog 4 #[.slice a ps.length cap, .int .i64 ps.length, .int .u16 t] w fun e w' => e = .returned (.bool true) ∧ Below w.heap.size w w' := by
  have HP : Hid (IsPs w a ps) := h
  have HOK : Hid (OkB w p.a p.n) := hok
  have HF : Hid (findP ps t = some p) := hf
  have HM : Hid (ps.length ≤ maxLen) := h.1
  clear h hf hok
  go_enter Try.func4, Try.ntmps4
  go_wp2_with fail
  refine (bytes10_any _ _ _ _ _ _ HP.out).mono ?_
  rintro e w' ⟨⟨bv, rfl⟩, rfl⟩
  cases bv with
  | false =>
    go_wp2
    go_ret
    exact ⟨rfl, Below.refl _ _⟩
  | true =>
    go_wp2_with fail
    refine (sizeFits_any _ _ _ _ _ HP.out).mono ?_
    rintro e w' ⟨⟨bv, rfl⟩, rfl⟩
    cases bv with
    | false =>
      go_wp2
      go_ret
      exact ⟨rfl, Below.refl _ _⟩
    | true =>
      go_wp2_with fail
      refine (toWire_any _ _ _ _ HP.out hn).mono ?_
      rintro e w1 ⟨rfl, hr1, hb1⟩
      go_wp2_with fail
      refine (find_yes ps.length _ t p (whole_ps hr1 HM.out) rfl HF.out).mono ?_
      rintro e w2 ⟨rfl, hb2⟩
      have r2 := rowIs_below hr1 hb2
      have b02 := hb1.trans (hb2.mono hb1.size)
      clear hr1 hb1 hb2
      go_wp2_with fail
      refine (find_yes ps.length _ t p (whole_ps r2 HM.out) rfl HF.out).mono ?_
      rintro e w3 ⟨rfl, hb3⟩
      have r3 := rowIs_below r2 hb3
      have b03 := b02.trans (hb3.mono b02.size)
      clear r2 b02 hb3
      go_wp2_with fail
      refine (find_no (ps := []) 0 _ t ⟨by simp, Or.inl rfl⟩ rfl rfl).mono ?_
      rintro e w4 ⟨rfl, hb4⟩
      have b04 := b03.trans (hb4.mono b03.size)
      clear b03 hb4 r3
      go_wp2_with fail
      refine (answer_self _ _ _ _ _ (HOK.out.below b04)).mono ?_
      rintro e w5 ⟨rfl, m5, rfl⟩
      have b09 := below_drewN b04 m5
      have hc9 := (HP.out.below b09).2
      clear HP
      go_wp2_with fail
      go_loop [14, 15] (fun kv jv => ∃ (q : Nat) (kk : Int), q ≤ ps.length ∧ jv = .int .i64 ((q : Int) - 1) ∧ kv = .int .i64 kk ∧ Hid (Inv ps t q kk)) (fun _ jv => (intOf jv + 1).toNat)
      case atStart => exact ⟨ps.length, -1, Nat.le_refl _, rfl, rfl, inv_start ps t⟩
      case round =>
        obtain ⟨q, kk, hq, rfl, rfl, hinv⟩ := hrel
        by_cases hq0 : q = 0
        · subst hq0
          rcases inv_end hinv.out with ⟨rfl, hf⟩ | ⟨m, rfl, hm, hf⟩
          · rw [HF.out] at hf
            cases hf
          · have e1 : ps.getD m dft = p := by rw [HF.out] at hf; cases hf; rfl
            rcases hc9 with rfl | ⟨b, off, rfl, hb, hc⟩
            · simp at hm
            have h1 := (hc m hm).2
            rw [e1] at h1
            clear hf e1 hc
            go_wp2_with fail
            refine (same_self _ _ _ _ (HOK.out.below b09)).mono ?_
            rintro e w10 ⟨rfl, m10, rfl⟩
            go_wp2
            go_ret
            exact ⟨rfl, below_drewN b04 _⟩
        · obtain ⟨s, rfl⟩ : ∃ s, q = s + 1 := ⟨q - 1, by omega⟩
          have hs : s < ps.length := by omega
          rcases hc9 with rfl | ⟨b, off, rfl, hb, hc⟩
          · simp at hs
          have h0 := (hc s hs).1
          generalize hx : ps.getD s dft = x at h0
          have HX : Hid _ := hx
          clear hx hc
          rw [show ((s + 1 : Nat) : Int) - 1 = (s : Int) by omega]
          go_wp2
          · have he : (x.ty == t) = true := by assumption
            go_round
            case rel => exact ⟨s, s, by omega, by go_num, rfl, inv_hit hs (by rw [HX.out]; exact he)⟩
            case measure => simp [intOf]
          · have he : (x.ty == t) = false := by assumption
            go_round
            case rel => exact ⟨s, kk, by omega, by go_num, rfl, inv_miss hs (by rw [HX.out]; exact he) hinv.out⟩
            case measure => simp [intOf]

set_option maxRecDepth 100000 in
set_option maxHeartbeats 4000000 in
theorem split_yes_lt (a : Option Addr) (cap : Nat) (ps : List PP) (i : Nat) (t : Int) (p : PP) (w : World) (h : IsPs w a ps) (hok : OkB w p.a p.n) (hi : i < ps.length) (hn : ps.length ≤ 32768) (hf : findP ps t = some p) :
    Calls Try.prog 4 #[.slice a ps.length cap, .int .i64 i, .int .u16 t] w fun e w' => e = .returned (.bool true) ∧ Below w.heap.size w w' := by
  have HP : Hid (IsPs w a ps) := h
  have HOK : Hid (OkB w p.a p.n) := hok
  have HF : Hid (findP ps t = some p) := hf
  have HM : Hid (ps.length ≤ maxLen) := h.1
  clear h hf hok
  go_enter Try.func4, Try.ntmps4
  go_wp2_with fail
  refine (bytes10_any _ _ _ _ _ _ HP.out).mono ?_
  rintro e w' ⟨⟨bv, rfl⟩, rfl⟩
  cases bv with
  | false =>
    go_wp2
    go_ret
    exact ⟨rfl, Below.refl _ _⟩
  | true =>
    go_wp2_with fail
    refine (sizeFits_any _ _ _ _ _ HP.out).mono ?_
    rintro e w' ⟨⟨bv, rfl⟩, rfl⟩
    cases bv with
    | false =>
      go_wp2
      go_ret
      exact ⟨rfl, Below.refl _ _⟩
    | true =>
      go_wp2_with fail
      refine (toWire_any _ _ _ _ HP.out hn).mono ?_
      rintro e w1 ⟨rfl, hr1, hb1⟩
      go_wp2_with fail
      refine (find_yes ps.length _ t p (whole_ps hr1 HM.out) rfl HF.out).mono ?_
      rintro e w2 ⟨rfl, hb2⟩
      have r2 := rowIs_below hr1 hb2
      have b02 := hb1.trans (hb2.mono hb1.size)
      clear hr1 hb1 hb2
      go_wp2_with fail
      rcases cut_some i HF.out with hT | hT
      · have HT : Hid (findP (ps.take i) t = some p) := hT
        clear hT
        refine (find_yes i _ t p (take_ps r2 HM.out (Nat.le_of_lt hi)) (by simp; omega) HT.out).mono ?_
        rintro e w3 ⟨rfl, hb3⟩
        have r3 := rowIs_below r2 hb3
        have b03 := b02.trans (hb3.mono b02.size)
        clear r2 b02 hb3
        go_wp2_with fail
        refine (find_some (ps.length - i) _ t (findR (ps.drop i) t) (findOk (ps.drop i) t) (drop_ps r3 HM.out) (by simp) rfl rfl).mono ?_
        rintro e w4 ⟨rfl, hb4⟩
        have b04 := b03.trans (hb4.mono b03.size)
        clear b03 hb4 r3
        go_wp2_with fail
        refine (answer_self _ _ _ _ _ (HOK.out.below b04)).mono ?_
        rintro e w5 ⟨rfl, m5, rfl⟩
        have b09 := below_drewN b04 m5
        have hc9 := (HP.out.below b09).2
        clear HP
        go_wp2_with fail
        go_loop [14, 15] (fun kv jv => ∃ (q : Nat) (kk : Int), q ≤ ps.length ∧ jv = .int .i64 ((q : Int) - 1) ∧ kv = .int .i64 kk ∧ Hid (Inv ps t q kk)) (fun _ jv => (intOf jv + 1).toNat)
        case atStart => exact ⟨ps.length, -1, Nat.le_refl _, rfl, rfl, inv_start ps t⟩
        case round =>
          obtain ⟨q, kk, hq, rfl, rfl, hinv⟩ := hrel
          by_cases hq0 : q = 0
          · subst hq0
            rcases inv_end hinv.out with ⟨rfl, hf⟩ | ⟨m, rfl, hm, hf⟩
            · rw [HF.out] at hf
              cases hf
            · have e1 : ps.getD m dft = p := by rw [HF.out] at hf; cases hf; rfl
              rcases hc9 with rfl | ⟨b, off, rfl, hb, hc⟩
              · simp at hm
              have h1 := (hc m hm).2
              rw [e1] at h1
              clear hf e1 hc
              go_wp2_with fail
              refine (same_self _ _ _ _ (HOK.out.below b09)).mono ?_
              rintro e w10 ⟨rfl, m10, rfl⟩
              go_wp2
              go_ret
              exact ⟨rfl, below_drewN b04 _⟩
          · obtain ⟨s, rfl⟩ : ∃ s, q = s + 1 := ⟨q - 1, by omega⟩
            have hs : s < ps.length := by omega
            rcases hc9 with rfl | ⟨b, off, rfl, hb, hc⟩
            · simp at hs
            have h0 := (hc s hs).1
            generalize hx : ps.getD s dft = x at h0
            have HX : Hid _ := hx
            clear hx hc
            rw [show ((s + 1 : Nat) : Int) - 1 = (s : Int) by omega]
            go_wp2
            · have he : (x.ty == t) = true := by assumption
              go_round
              case rel => exact ⟨s, s, by omega, by go_num, rfl, inv_hit hs (by rw [HX.out]; exact he)⟩
              case measure => simp [intOf]
            · have he : (x.ty == t) = false := by assumption
              go_round
              case rel => exact ⟨s, kk, by omega, by go_num, rfl, inv_miss hs (by rw [HX.out]; exact he) hinv.out⟩
              case measure => simp [intOf]
      · have HT : Hid (findP (ps.take i) t = none ∧ findP (ps.drop i) t = some p) := hT
        clear hT
        refine (find_no i _ t (take_ps r2 HM.out (Nat.le_of_lt hi)) (by simp; omega) HT.out.1).mono ?_
        rintro e w3 ⟨rfl, hb3⟩
        have r3 := rowIs_below r2 hb3
        have b03 := b02.trans (hb3.mono b02.size)
        clear r2 b02 hb3
        go_wp2_with fail
        refine (find_yes (ps.length - i) _ t p (drop_ps r3 HM.out) (by simp) HT.out.2).mono ?_
        rintro e w4 ⟨rfl, hb4⟩
        have b04 := b03.trans (hb4.mono b03.size)
        clear b03 hb4 r3
        go_wp2_with fail
        refine (answer_self _ _ _ _ _ (HOK.out.below b04)).mono ?_
        rintro e w5 ⟨rfl, m5, rfl⟩
        have b09 := below_drewN b04 m5
        have hc9 := (HP.out.below b09).2
        clear HP
        go_wp2_with fail
        go_loop [14, 15] (fun kv jv => ∃ (q : Nat) (kk : Int), q ≤ ps.length ∧ jv = .int .i64 ((q : Int) - 1) ∧ kv = .int .i64 kk ∧ Hid (Inv ps t q kk)) (fun _ jv => (intOf jv + 1).toNat)
        case atStart => exact ⟨ps.length, -1, Nat.le_refl _, rfl, rfl, inv_start ps t⟩
        case round =>
          obtain ⟨q, kk, hq, rfl, rfl, hinv⟩ := hrel
          by_cases hq0 : q = 0
          · subst hq0
            rcases inv_end hinv.out with ⟨rfl, hf⟩ | ⟨m, rfl, hm, hf⟩
            · rw [HF.out] at hf
              cases hf
            · have e1 : ps.getD m dft = p := by rw [HF.out] at hf; cases hf; rfl
              rcases hc9 with rfl | ⟨b, off, rfl, hb, hc⟩
              · simp at hm
              have h1 := (hc m hm).2
              rw [e1] at h1
              clear hf e1 hc
              go_wp2_with fail
              refine (same_self _ _ _ _ (HOK.out.below b09)).mono ?_
              rintro e w10 ⟨rfl, m10, rfl⟩
              go_wp2
              go_ret
              exact ⟨rfl, below_drewN b04 _⟩
          · obtain ⟨s, rfl⟩ : ∃ s, q = s + 1 := ⟨q - 1, by omega⟩
            have hs : s < ps.length := by omega
            rcases hc9 with rfl | ⟨b, off, rfl, hb, hc⟩
            · simp at hs
            have h0 := (hc s hs).1
            generalize hx : ps.getD s dft = x at h0
            have HX : Hid _ := hx
            clear hx hc
            rw [show ((s + 1 : Nat) : Int) - 1 = (s : Int) by omega]
            go_wp2
            · have he : (x.ty == t) = true := by assumption
              go_round
              case rel => exact ⟨s, s, by omega, by go_num, rfl, inv_hit hs (by rw [HX.out]; exact he)⟩
              case measure => simp [intOf]
            · have he : (x.ty == t) = false := by assumption
              go_round
              case rel => exact ⟨s, kk, by omega, by go_num, rfl, inv_miss hs (by rw [HX.out]; exact he) hinv.out⟩
              case measure => simp [intOf]
end Go.Proofs.Qxb6627970a
