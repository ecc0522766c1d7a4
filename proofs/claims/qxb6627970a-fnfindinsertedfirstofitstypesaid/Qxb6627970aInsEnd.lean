/-
  Seat b6627970a: FnFindInsertedFirstOfItsType (function 3): the walk where the place is the list's end; every input.
-/
import Derived.Test.Qxb6627970aIns
namespace Go.Proofs.Qxb6627970a
open Go.RowKit

theorem news_all {w : World} {g : Nat} {ps : List PP} (h : w.rowIs g 31 (ps.length * 2) (prow ps ps.length)) : ∀ j u, (pcells ps)[j]? = some u → w.cell? ((⟨g, 0, none⟩ : Addr).add j) = some u := by
  have := news_take (i := ps.length) h (Nat.le_refl _)
  rwa [List.take_length] at this
theorem insP_length_all {ps : List PP} {p : PP} : (insP ps ps.length p).length = ps.length + 1 + 0 := by simp [insP]
theorem ins_before_all {ps : List PP} {p : PP} {t : Int} (h : findOk ps t = true) : findR (insP ps ps.length p) t = findR ps t ∧ findOk (insP ps ps.length p) t = true := by
  have := ins_before (ps := ps) (i := ps.length) (p := p) (t := t) (by rw [List.take_length]; exact h)
  rwa [List.take_length] at this
theorem ins_here_all {ps : List PP} {p : PP} {t : Int} (hp : p.ty = t) (h : findOk ps t = false) : findR (insP ps ps.length p) t = p ∧ findOk (insP ps ps.length p) t = true :=
  ins_here hp (by rw [List.take_length]; exact h)

set_option maxRecDepth 100000 in
set_option maxHeartbeats 4000000 in
theorem ins_eq (a a3 : Option Addr) (cap n3 c3 : Nat) (ps : List PP) (t u : Int) (w : World) (h : IsPs w a ps) (hb : ∀ p ∈ ps, OkB w p.a p.n) (hv : OkB w a3 n3) (hn : ps.length ≤ 32768) (hn3 : n3 ≤ 1048576) :
    Calls Try.prog 3 #[.slice a ps.length cap, .int .i64 ps.length, .int .u16 t, .slice a3 n3 c3, .int .u16 u] w fun e w' => e = .returned (.bool true) ∧ Below w.heap.size w w' := by
  have HP : Hid (IsPs w a ps) := h
  have HB : Hid (∀ p ∈ ps, OkB w p.a p.n) := hb
  have HV : Hid (OkB w a3 n3) := hv
  clear h hb hv
  obtain ⟨i0, hi0, hz0, hz1, hz2⟩ := info_parts Try.info31
  go_enter Try.func3, Try.ntmps3
  go_wp2_with fail
  refine (bytes5_any _ _ _ _ _ _ _ _ _ _ HP.out).mono ?_
  rintro e w' ⟨⟨bv, rfl⟩, rfl⟩
  cases bv with
  | false =>
    go_wp2
    go_ret
    exact ⟨rfl, Below.refl _ _⟩
  | true =>
    go_wp2_with fail
    refine (sizeFits_any _ _ _ _ _ HP.out).mono ?_
    rintro e w' ⟨⟨bv, rfl⟩, rfl⟩
    cases bv with
    | false =>
      go_wp2
      go_ret
      exact ⟨rfl, Below.refl _ _⟩
    | true =>
      go_wp2_with fail
      refine (toWire_any _ _ _ _ HP.out hn).mono ?_
      rintro e w1 ⟨rfl, hr1, hb1⟩
      have l1 := hr1.lt
      have HL1 : (pcells ps).length = ps.length * 2 := pcells_length ps
      have N1 : some w'.heap.size ≠ (Value.slice (some ⟨w1.heap.size, 0, none⟩) 0 (ps.length + 1)).ownBlock := by simp [Value.ownBlock]; omega
      have HN1 : Hid _ := N1
      clear N1
      go_wp2_with (first
        | (at_make; refine wpList_make_own _ rfl _ _ 27 rfl w1.heap.size 31 i0 (.agg #[.int .u16 0, .slice none 0 0]) 2 Try.underlying27 hi0 hz0 hz1 _ _ _ (ps.length + 1) rfl rfl (by omega) (by rw [hz2]; omega) (by unfold maxLen; omega) (Nat.le_refl _) ?_; intro w2 hq2 hg2; have r2 := hr1.of_block (hg2.block _ l1 (by simp)))
        | (at_builtin; refine wpList_append_own _ rfl _ _ 27 rfl w1.heap.size 31 i0 (.agg #[.int .u16 0, .slice none 0 0]) 2 32 Try.underlying27 hi0 hz0 hz1 hz2 rfl (by decide) v4 _ _ rfl hq4 ⟨w'.heap.size, 0, none⟩ 0 0 [] rfl rfl (by simp) (by simp) (by unfold maxLen; omega) (by omega) (Nat.le_trans (Nat.le_trans hg2.size hg3.size) (Nat.le_trans (by simp) hg4.size)) ?_; intro v5 w5 hq5 hg5 hnil5)
        | (at_builtin; refine wpList_append_own _ rfl _ _ 27 rfl w1.heap.size 31 i0 (.agg #[.int .u16 0, .slice none 0 0]) 2 32 Try.underlying27 hi0 hz0 hz1 hz2 rfl (by decide) v3 _ _ rfl (hq3.alloc _) ⟨w3.heap.size, 0, none⟩ 1 1 [.int .u16 t, .slice a3 n3 c3] rfl rfl (cell_two_new _ _ _ _) (by simp [Value.oneCell']) (by unfold maxLen; omega) (by omega) (Nat.le_trans (Nat.le_trans hg2.size hg3.size) (by simp)) ?_; intro v4 w4 hq4 hg4 hnil4; have r4 := (r3.alloc _).of_block (hg4.block _ (by have := r3.lt; simp; omega) (fun e => by have := (hq3.lt _ e.symm).1; omega)))
        | (at_builtin; refine wpList_append_own _ rfl _ _ 27 rfl w1.heap.size 31 i0 (.agg #[.int .u16 0, .slice none 0 0]) 2 32 Try.underlying27 hi0 hz0 hz1 hz2 rfl (by decide) (.slice (some ⟨w1.heap.size, 0, none⟩) 0 (ps.length + 1)) _ _ rfl hq2 ⟨w'.heap.size, 0, none⟩ ps.length ps.length (pcells ps) rfl HL1 (news_all r2) (pcells_one _) (by unfold maxLen; omega) (by omega) hg2.size ?_; intro v3 w3 hq3 hg3 hnil3; have r3 := r2.of_block (hg3.block _ r2.lt HN1.out)))
      have hq : w5.ownsRow w1.heap.size 31 2 v5 (ps.length + 1 + 0) (pcells (insP ps ps.length ⟨t, a3, n3, c3⟩)) := by
        rw [insP_cells, List.take_length, List.drop_length]
        have := hq5
        rwa [Nat.zero_add] at this
      have r5 := r4.of_block (hg5.block _ r4.lt (fun e => by have := (hq4.lt _ e.symm).1; omega))
      have s1 := hb1.size
      have b02 := hb1.grown hg2 hb1.size (fun k e => by cases e)
      have b03 := b02.grown hg3 b02.size (fun k e => by simp [Value.ownBlock] at e; omega)
      have b04 := (b03.alloc b03.size _).grown hg4 (by have := b03.size; simp; omega) (fun k e => by have := (hq3.lt _ e).1; omega)
      have b05 := b04.grown hg5 b04.size (fun k e => by have := (hq4.lt _ e).1; omega)
      have HM : Hid (ps.length ≤ maxLen) := by show ps.length ≤ maxLen; unfold maxLen; omega
      clear hq5 hg5 hnil5 hq4 hg4 hnil4 r4 hq3 hg3 hnil3 r3 hq2 hg2 r2 hr1 hb1 b02 b03 b04 HL1 HN1 s1 l1
      cases hk : findOk ps t with
      | true =>
        have eb := ins_before_all (p := ⟨t, a3, n3, c3⟩) hk
        have EB : Hid _ := eb
        have HK : Hid (findOk ps t = true) := hk
        clear eb hk
        refine (find_own t (findR ps t) true hq insP_length_all.symm (by omega) EB.out.1 EB.out.2).mono ?_
        rintro e w6 ⟨rfl, hb6⟩
        go_wp2_with fail
        refine (find_len ps.length _ t (findR ps t) true (whole_ps (rowIs_below r5 hb6) HM.out) rfl rfl HK.out).mono ?_
        rintro e w7 ⟨rfl, hb7⟩
        have r7 := rowIs_below (rowIs_below r5 hb6) hb7
        have q7 := ownsRow_below (ownsRow_below hq hb6) hb7
        have b06 := b05.trans (hb6.mono b05.size)
        have b07 := b06.trans (hb7.mono b06.size)
        clear b05 b06 r5 hq hb6 hb7
        go_wp2_with fail
        refine (answer_self _ _ _ _ _ (findR_ok (fun p hp => (HB.out p hp).below b07) t)).mono ?_
        rintro e w8 ⟨rfl, m8, rfl⟩
        have q8 := ownsRow_drewN q7 m8
        have r8 := rowIs_drewN r7 m8
        have b08 := below_drewN b07 m8
        clear q7 r7 b07
        by_cases hut : u = t
        · have hne : (u != t) = false := by simp [hut]
          clear hut
          go_wp2
          go_ret
          exact ⟨rfl, b08⟩
        · have hne : (u != t) = true := by simp [hut]
          have eo := ins_other (ps := ps) (i := ps.length) (p := ⟨t, a3, n3, c3⟩) (u := u) (fun e => hut e.symm)
          have EO : Hid _ := eo
          clear eo hut
          go_wp2_with fail
          refine (find_own u (findR ps u) (findOk ps u) q8 insP_length_all.symm (by omega) EO.out.1 EO.out.2).mono ?_
          rintro e w9 ⟨rfl, hb9⟩
          go_wp2_with fail
          refine (find_len ps.length _ u (findR ps u) (findOk ps u) (whole_ps (rowIs_below r8 hb9) HM.out) rfl rfl rfl).mono ?_
          rintro e w10 ⟨rfl, hb10⟩
          have b09 := b08.trans (hb9.mono b08.size)
          have b10 := b09.trans (hb10.mono b09.size)
          go_wp2_with fail
          refine (answer_self _ _ _ _ _ (findR_ok (fun p hp => (HB.out p hp).below b10) u)).mono ?_
          rintro e w11 ⟨rfl, m11, rfl⟩
          go_wp2
          go_ret
          exact ⟨rfl, below_drewN b10 _⟩
      | false =>
        have eb := ins_here_all (p := ⟨t, a3, n3, c3⟩) rfl hk
        have EB : Hid _ := eb
        have HK : Hid (findOk ps t = false) := hk
        clear eb hk
        refine (find_own t ⟨t, a3, n3, c3⟩ true hq insP_length_all.symm (by omega) EB.out.1 EB.out.2).mono ?_
        rintro e w6 ⟨rfl, hb6⟩
        go_wp2_with fail
        refine (find_len ps.length _ t (findR ps t) false (whole_ps (rowIs_below r5 hb6) HM.out) rfl rfl HK.out).mono ?_
        rintro e w7 ⟨rfl, hb7⟩
        have r7 := rowIs_below (rowIs_below r5 hb6) hb7
        have q7 := ownsRow_below (ownsRow_below hq hb6) hb7
        have b06 := b05.trans (hb6.mono b05.size)
        have b07 := b06.trans (hb7.mono b06.size)
        clear b05 b06 r5 hq hb6 hb7
        go_wp2_with fail
        refine (answer_self _ _ _ _ _ (HV.out.below b07)).mono ?_
        rintro e w8 ⟨rfl, m8, rfl⟩
        have q8 := ownsRow_drewN q7 m8
        have r8 := rowIs_drewN r7 m8
        have b08 := below_drewN b07 m8
        clear q7 r7 b07
        by_cases hut : u = t
        · have hne : (u != t) = false := by simp [hut]
          clear hut
          go_wp2
          go_ret
          exact ⟨rfl, b08⟩
        · have hne : (u != t) = true := by simp [hut]
          have eo := ins_other (ps := ps) (i := ps.length) (p := ⟨t, a3, n3, c3⟩) (u := u) (fun e => hut e.symm)
          have EO : Hid _ := eo
          clear eo hut
          go_wp2_with fail
          refine (find_own u (findR ps u) (findOk ps u) q8 insP_length_all.symm (by omega) EO.out.1 EO.out.2).mono ?_
          rintro e w9 ⟨rfl, hb9⟩
          go_wp2_with fail
          refine (find_len ps.length _ u (findR ps u) (findOk ps u) (whole_ps (rowIs_below r8 hb9) HM.out) rfl rfl rfl).mono ?_
          rintro e w10 ⟨rfl, hb10⟩
          have b09 := b08.trans (hb9.mono b08.size)
          have b10 := b09.trans (hb10.mono b09.size)
          go_wp2_with fail
          refine (answer_self _ _ _ _ _ (findR_ok (fun p hp => (HB.out p hp).below b10) u)).mono ?_
          rintro e w11 ⟨rfl, m11, rfl⟩
          go_wp2
          go_ret
          exact ⟨rfl, below_drewN b10 _⟩
end Go.Proofs.Qxb6627970a
