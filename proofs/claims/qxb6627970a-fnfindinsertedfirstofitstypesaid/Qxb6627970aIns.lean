/-
  Seat b6627970a: FnFindInsertedFirstOfItsType (function 3): the walk.
-/
import Derived.Test.Qxb6627970aOwn
namespace Go.Proofs.Qxb6627970a
open Go.RowKit

theorem ownsRow_drewN {w : World} {base : Nat} {e : TypeId} {size : Nat} {v : Value} {n : Nat} {xs : List Value} (h : w.ownsRow base e size v n xs) (m : Nat) : (w.drewN m).ownsRow base e size v n xs := h
theorem rowIs_drewN {w : World} {g N : Nat} {t : TypeId} {f : Nat → Value} (h : w.rowIs g t N f) (m : Nat) : (w.drewN m).rowIs g t N f := h

/-- Find, the length and the answer named. -/
theorem find_len {w : World} {a : Option Addr} {ps : List PP} (n cap : Nat) (t : Int) (r : PP) (ok : Bool) (h : IsPs w a ps) (hl : ps.length = n) (hr : findR ps t = r) (hk : findOk ps t = ok) :
    Calls Try.prog 8 #[.slice a n cap, .int .u16 t] w fun e w' => e = .returned (.tuple #[.slice r.a r.n r.c, .bool ok]) ∧ Below w.heap.size w w' := by
  subst hl hr hk
  exact find_any a cap ps t w h

set_option maxRecDepth 100000 in
set_option maxHeartbeats 4000000 in
theorem ins_lt (a a3 : Option Addr) (cap n3 c3 : Nat) (ps : List PP) (i : Nat) (t u : Int) (w : World) (h : IsPs w a ps) (hb : ∀ p ∈ ps, OkB w p.a p.n) (hv : OkB w a3 n3) (hi : i < ps.length) (hn : ps.length ≤ 32768) (hn3 : n3 ≤ 1048576) :
    Calls Try.prog 3 #[.slice a ps.length cap, .int .i64 i, .int .u16 t, .slice a3 n3 c3, .int .u16 u] w fun e w' => e = .returned (.bool true) ∧ Below w.heap.size w w' := by
  have HP : Hid (IsPs w a ps) := h
  have HB : Hid (∀ p ∈ ps, OkB w p.a p.n) := hb
  have HV : Hid (OkB w a3 n3) := hv
  clear h hb hv
  obtain ⟨i0, hi0, hz0, hz1, hz2⟩ := info_parts Try.info31
  go_enter Try.func3, Try.ntmps3
  go_wp2_with fail
  refine (bytes5_any _ _ _ _ _ _ _ _ _ _ HP.out).mono ?_
  rintro e w' ⟨⟨bv, rfl⟩, rfl⟩
  cases bv with
  | false =>
    go_wp2
    go_ret
    exact ⟨rfl, Below.refl _ _⟩
  | true =>
    go_wp2_with fail
    refine (sizeFits_any _ _ _ _ _ HP.out).mono ?_
    rintro e w' ⟨⟨bv, rfl⟩, rfl⟩
    cases bv with
    | false =>
      go_wp2
      go_ret
      exact ⟨rfl, Below.refl _ _⟩
    | true =>
      go_wp2_with fail
      refine (toWire_any _ _ _ _ HP.out hn).mono ?_
      rintro e w1 ⟨rfl, hr1, hb1⟩
      have l1 := hr1.lt
      have HL1 : (pcells (ps.take i)).length = i * 2 := by rw [pcells_length]; simp; omega
      have HL2 : (pcells (ps.drop i)).length = (ps.length - i) * 2 := by rw [pcells_length]; simp
      have N1 : some w'.heap.size ≠ (Value.slice (some ⟨w1.heap.size, 0, none⟩) 0 (ps.length + 1)).ownBlock := by simp [Value.ownBlock]; omega
      have HN1 : Hid _ := N1
      clear N1
      go_wp2_with (first
        | (at_make; refine wpList_make_own _ rfl _ _ 27 rfl w1.heap.size 31 i0 (.agg #[.int .u16 0, .slice none 0 0]) 2 Try.underlying27 hi0 hz0 hz1 _ _ _ (ps.length + 1) rfl rfl (by omega) (by rw [hz2]; omega) (by unfold maxLen; omega) (Nat.le_refl _) ?_; intro w2 hq2 hg2; have r2 := hr1.of_block (hg2.block _ l1 (by simp)))
        | (at_builtin; refine wpList_append_own _ rfl _ _ 27 rfl w1.heap.size 31 i0 (.agg #[.int .u16 0, .slice none 0 0]) 2 32 Try.underlying27 hi0 hz0 hz1 hz2 rfl (by decide) v4 _ _ rfl hq4 ⟨w'.heap.size, i * 2, none⟩ (ps.length - i) (ps.length - i) (pcells (ps.drop i)) rfl HL2 (news_drop r4 (by omega)) (pcells_one _) (by unfold maxLen; omega) (by omega) (Nat.le_trans (Nat.le_trans hg2.size hg3.size) (Nat.le_trans (by simp) hg4.size)) ?_; intro v5 w5 hq5 hg5 hnil5)
        | (at_builtin; refine wpList_append_own _ rfl _ _ 27 rfl w1.heap.size 31 i0 (.agg #[.int .u16 0, .slice none 0 0]) 2 32 Try.underlying27 hi0 hz0 hz1 hz2 rfl (by decide) v3 _ _ rfl (hq3.alloc _) ⟨w3.heap.size, 0, none⟩ 1 1 [.int .u16 t, .slice a3 n3 c3] rfl rfl (cell_two_new _ _ _ _) (by simp [Value.oneCell']) (by unfold maxLen; omega) (by omega) (Nat.le_trans (Nat.le_trans hg2.size hg3.size) (by simp)) ?_; intro v4 w4 hq4 hg4 hnil4; have r4 := (r3.alloc _).of_block (hg4.block _ (by have := r3.lt; simp; omega) (fun e => by have := (hq3.lt _ e.symm).1; omega)))
        | (at_builtin; refine wpList_append_own _ rfl _ _ 27 rfl w1.heap.size 31 i0 (.agg #[.int .u16 0, .slice none 0 0]) 2 32 Try.underlying27 hi0 hz0 hz1 hz2 rfl (by decide) (.slice (some ⟨w1.heap.size, 0, none⟩) 0 (ps.length + 1)) _ _ rfl hq2 ⟨w'.heap.size, 0, none⟩ i ps.length (pcells (ps.take i)) rfl HL1 (news_take r2 (by omega)) (pcells_one _) (by unfold maxLen; omega) (by omega) hg2.size ?_; intro v3 w3 hq3 hg3 hnil3; have r3 := r2.of_block (hg3.block _ r2.lt HN1.out)))
      have hq : w5.ownsRow w1.heap.size 31 2 v5 (i + 1 + (ps.length - i)) (pcells (insP ps i ⟨t, a3, n3, c3⟩)) := by
        rw [insP_cells]
        have := hq5
        rwa [Nat.zero_add] at this
      have r5 := r4.of_block (hg5.block _ r4.lt (fun e => by have := (hq4.lt _ e.symm).1; omega))
      have s1 := hb1.size
      have b02 := hb1.grown hg2 hb1.size (fun k e => by cases e)
      have b03 := b02.grown hg3 b02.size (fun k e => by simp [Value.ownBlock] at e; omega)
      have b04 := (b03.alloc b03.size _).grown hg4 (by have := b03.size; simp; omega) (fun k e => by have := (hq3.lt _ e).1; omega)
      have b05 := b04.grown hg5 b04.size (fun k e => by have := (hq4.lt _ e).1; omega)
      have HI : Hid (i ≤ ps.length) := Nat.le_of_lt hi
      have HM : Hid (ps.length ≤ maxLen) := by show ps.length ≤ maxLen; unfold maxLen; omega
      clear hq5 hg5 hnil5 hq4 hg4 hnil4 r4 hq3 hg3 hnil3 r3 hq2 hg2 r2 hr1 hb1 b02 b03 b04 HL1 HL2 HN1 s1 l1
      cases hk : findOk (ps.take i) t with
      | true =>
        have eb := ins_before (p := ⟨t, a3, n3, c3⟩) hk
        have EB : Hid _ := eb
        have HK : Hid (findOk (ps.take i) t = true) := hk
        clear eb hk
        refine (find_own t (findR (ps.take i) t) true hq (insP_length HI.out).symm (by omega) EB.out.1 EB.out.2).mono ?_
        rintro e w6 ⟨rfl, hb6⟩
        go_wp2_with fail
        refine (find_len i _ t (findR (ps.take i) t) true (take_ps (rowIs_below r5 hb6) HM.out HI.out) (by simp; omega) rfl HK.out).mono ?_
        rintro e w7 ⟨rfl, hb7⟩
        have r7 := rowIs_below (rowIs_below r5 hb6) hb7
        have q7 := ownsRow_below (ownsRow_below hq hb6) hb7
        have b06 := b05.trans (hb6.mono b05.size)
        have b07 := b06.trans (hb7.mono b06.size)
        clear b05 b06 r5 hq hb6 hb7
        go_wp2_with fail
        refine (answer_self _ _ _ _ _ (findR_ok (fun p hp => (HB.out p (List.mem_of_mem_take hp)).below b07) t)).mono ?_
        rintro e w8 ⟨rfl, m8, rfl⟩
        have q8 := ownsRow_drewN q7 m8
        have r8 := rowIs_drewN r7 m8
        have b08 := below_drewN b07 m8
        clear q7 r7 b07
        by_cases hut : u = t
        · have hne : (u != t) = false := by simp [hut]
          clear hut
          go_wp2
          go_ret
          exact ⟨rfl, b08⟩
        · have hne : (u != t) = true := by simp [hut]
          have eo := ins_other (ps := ps) (i := i) (p := ⟨t, a3, n3, c3⟩) (u := u) (fun e => hut e.symm)
          have EO : Hid _ := eo
          clear eo hut
          go_wp2_with fail
          refine (find_own u (findR ps u) (findOk ps u) q8 (insP_length HI.out).symm (by omega) EO.out.1 EO.out.2).mono ?_
          rintro e w9 ⟨rfl, hb9⟩
          go_wp2_with fail
          refine (find_len ps.length _ u (findR ps u) (findOk ps u) (whole_ps (rowIs_below r8 hb9) HM.out) rfl rfl rfl).mono ?_
          rintro e w10 ⟨rfl, hb10⟩
          have b09 := b08.trans (hb9.mono b08.size)
          have b10 := b09.trans (hb10.mono b09.size)
          go_wp2_with fail
          refine (answer_self _ _ _ _ _ (findR_ok (fun p hp => (HB.out p hp).below b10) u)).mono ?_
          rintro e w11 ⟨rfl, m11, rfl⟩
          go_wp2
          go_ret
          exact ⟨rfl, below_drewN b10 _⟩
      | false =>
        have eb := ins_here (p := ⟨t, a3, n3, c3⟩) rfl hk
        have EB : Hid _ := eb
        have HK : Hid (findOk (ps.take i) t = false) := hk
        clear eb hk
        refine (find_own t ⟨t, a3, n3, c3⟩ true hq (insP_length HI.out).symm (by omega) EB.out.1 EB.out.2).mono ?_
        rintro e w6 ⟨rfl, hb6⟩
        go_wp2_with fail
        refine (find_len i _ t (findR (ps.take i) t) false (take_ps (rowIs_below r5 hb6) HM.out HI.out) (by simp; omega) rfl HK.out).mono ?_
        rintro e w7 ⟨rfl, hb7⟩
        have r7 := rowIs_below (rowIs_below r5 hb6) hb7
        have q7 := ownsRow_below (ownsRow_below hq hb6) hb7
        have b06 := b05.trans (hb6.mono b05.size)
        have b07 := b06.trans (hb7.mono b06.size)
        clear b05 b06 r5 hq hb6 hb7
        go_wp2_with fail
        refine (answer_self _ _ _ _ _ (HV.out.below b07)).mono ?_
        rintro e w8 ⟨rfl, m8, rfl⟩
        have q8 := ownsRow_drewN q7 m8
        have r8 := rowIs_drewN r7 m8
        have b08 := below_drewN b07 m8
        clear q7 r7 b07
        by_cases hut : u = t
        · have hne : (u != t) = false := by simp [hut]
          clear hut
          go_wp2
          go_ret
          exact ⟨rfl, b08⟩
        · have hne : (u != t) = true := by simp [hut]
          have eo := ins_other (ps := ps) (i := i) (p := ⟨t, a3, n3, c3⟩) (u := u) (fun e => hut e.symm)
          have EO : Hid _ := eo
          clear eo hut
          go_wp2_with fail
          refine (find_own u (findR ps u) (findOk ps u) q8 (insP_length HI.out).symm (by omega) EO.out.1 EO.out.2).mono ?_
          rintro e w9 ⟨rfl, hb9⟩
          go_wp2_with fail
          refine (find_len ps.length _ u (findR ps u) (findOk ps u) (whole_ps (rowIs_below r8 hb9) HM.out) rfl rfl rfl).mono ?_
          rintro e w10 ⟨rfl, hb10⟩
          have b09 := b08.trans (hb9.mono b08.size)
          have b10 := b09.trans (hb10.mono b09.size)
          go_wp2_with fail
          refine (answer_self _ _ _ _ _ (findR_ok (fun p hp => (HB.out p hp).below b10) u)).mono ?_
          rintro e w11 ⟨rfl, m11, rfl⟩
          go_wp2
          go_ret
          exact ⟨rfl, below_drewN b10 _⟩
end Go.Proofs.Qxb6627970a
