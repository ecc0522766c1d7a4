/-
  Seat b6634866a: the plain law: how 'cnt' counts, and what policy.Join hands back in those words.
-/
import Derived.Test.Qxb6634866aCommon
import Derived.Test.Qxb6634866aAllZero
namespace Go.Proofs.Qxb6634866a
open Go.RowKit

/-- Two lists without repetition that have the same members are equally long. -/
theorem same_length {L M : List (List UInt8)} (hL : L.Nodup) (hM : M.Nodup) (h : ∀ x, x ∈ L ↔ x ∈ M) : L.length = M.length :=
  ((List.perm_ext_iff_of_nodup hL hM).2 h).length_eq

/-- What 'cnt' counts: the members of a list without repetition. -/
theorem cnt_list (A B : List (List UInt8)) : ∀ k, k ≤ A.length → ∃ L : List (List UInt8), L.Nodup ∧ (∀ x, x ∈ L ↔ x ∈ A.take k ∧ x ∈ B) ∧ L.length = cnt A B k
  | 0, _ => ⟨[], List.nodup_nil, fun x => by simp, rfl⟩
  | k + 1, hk => by
    obtain ⟨L, h1, h2, h3⟩ := cnt_list A B k (by omega)
    have hk' : k < A.length := by omega
    have e : A.getD k [] = A[k] := by simp [List.getD, hk']
    have et : A.take (k + 1) = A.take k ++ [A[k]] := List.take_succ_eq_append_getElem hk'
    unfold cnt
    rw [e, et]
    by_cases hs : A[k] ∈ A.take k
    · rw [hasB_true.2 hs]
      refine ⟨L, h1, fun x => ?_, by simpa using h3⟩
      rw [h2 x]
      simp only [List.mem_append, List.mem_singleton]
      constructor
      · rintro ⟨p, q⟩; exact ⟨Or.inl p, q⟩
      · rintro ⟨p | rfl, q⟩
        · exact ⟨p, q⟩
        · exact ⟨hs, q⟩
    · have hf : hasB (A.take k) A[k] = false := by simp [hasB, hs]
      rw [hf]
      by_cases hb : A[k] ∈ B
      · rw [hasB_true.2 hb]
        refine ⟨A[k] :: L, List.nodup_cons.2 ⟨fun h => hs ((h2 _).1 h).1, h1⟩, fun x => ?_, by simpa using h3⟩
        simp only [List.mem_cons, List.mem_append, List.not_mem_nil, or_false, h2 x]
        constructor
        · rintro (rfl | ⟨p, q⟩)
          · exact ⟨Or.inr rfl, hb⟩
          · exact ⟨Or.inl p, q⟩
        · rintro ⟨p | p, q⟩
          · exact Or.inr ⟨p, q⟩
          · exact Or.inl p
      · have hf2 : hasB B A[k] = false := by simp [hasB, hb]
        rw [hf2]
        refine ⟨L, h1, fun x => ?_, by simpa using h3⟩
        rw [h2 x]
        simp only [List.mem_append, List.mem_singleton]
        constructor
        · rintro ⟨p, q⟩; exact ⟨Or.inl p, q⟩
        · rintro ⟨p | rfl, q⟩
          · exact ⟨p, q⟩
          · exact absurd q hb

theorem cnt_eq {A B L : List (List UInt8)} (hL : L.Nodup) (h : ∀ x, x ∈ L ↔ x ∈ A ∧ x ∈ B) : L.length = cnt A B A.length := by
  obtain ⟨M, m1, m2, m3⟩ := cnt_list A B A.length (Nat.le_refl _)
  rw [← m3]
  refine same_length hL m1 fun x => ?_
  rw [h x, m2 x, List.take_length]

theorem cnt_comm (A B : List (List UInt8)) : cnt B A B.length = cnt A B A.length := by
  obtain ⟨M, m1, m2, m3⟩ := cnt_list B A B.length (Nat.le_refl _)
  rw [← m3]
  exact cnt_eq m1 fun x => by rw [m2 x, List.take_length]; exact And.comm

/-- One name more in the second list. -/
theorem cnt_more (A B : List (List UInt8)) (y : List UInt8) : cnt A (B ++ [y]) A.length = cnt A B A.length + (if hasB A y && !hasB B y then 1 else 0) := by
  obtain ⟨M, m1, m2, m3⟩ := cnt_list A B A.length (Nat.le_refl _)
  simp only [List.take_length] at m2
  rw [← m3]
  by_cases ha : y ∈ A
  · by_cases hb : y ∈ B
    · rw [hasB_true.2 ha, hasB_true.2 hb]
      refine (cnt_eq (A := A) (B := B ++ [y]) m1 fun x => ?_).symm
      rw [m2 x]
      simp only [List.mem_append, List.mem_singleton]
      constructor
      · rintro ⟨p, q⟩; exact ⟨p, Or.inl q⟩
      · rintro ⟨p, q | rfl⟩
        · exact ⟨p, q⟩
        · exact ⟨p, hb⟩
    · have hf : hasB B y = false := by simp [hasB, hb]
      rw [hasB_true.2 ha, hf]
      refine (cnt_eq (A := A) (B := B ++ [y]) (L := y :: M) (List.nodup_cons.2 ⟨fun h => hb ((m2 _).1 h).2, m1⟩) fun x => ?_).symm
      simp only [List.mem_cons, List.mem_append, List.not_mem_nil, or_false, m2 x]
      constructor
      · rintro (rfl | ⟨p, q⟩)
        · exact ⟨ha, Or.inr rfl⟩
        · exact ⟨p, Or.inl q⟩
      · rintro ⟨p, q | q⟩
        · exact Or.inr ⟨p, q⟩
        · exact Or.inl q
  · have hf : hasB A y = false := by simp [hasB, ha]
    rw [hf]
    refine (cnt_eq (A := A) (B := B ++ [y]) m1 fun x => ?_).symm
    rw [m2 x]
    simp only [List.mem_append, List.mem_singleton]
    constructor
    · rintro ⟨p, q⟩; exact ⟨p, Or.inl q⟩
    · rintro ⟨p, q | rfl⟩
      · exact ⟨p, q⟩
      · exact absurd p ha

/-- WHAT policy.Join HANDS BACK: as many replicas, each zero, as 'cnt' counts. -/
theorem join_cnt (b1 b2 n1 n2 : Nat) (N1 N2 : List (List UInt8)) (w : World) (hM1 : IsMapOf w b1 n1 N1) (hM2 : IsMapOf w b2 n2 N2) (hn : n1 ≤ 5000) :
    Calls Try.prog 8 #[.map (some b1), .map (some b2)] w fun e w' => ∃ (a : Option Addr) (cap : Nat), e = .returned (.slice a (cnt N1 N2 N1.length) cap) ∧
      w'.ownsRow w.heap.size 38 6 (.slice a (cnt N1 N2 N1.length) cap) (cnt N1 N2 N1.length) (zrow (cnt N1 N2 N1.length)) ∧ Below w.heap.size w w' := by
  refine (join_any b1 b2 n1 n2 N1 N2 w hM1 hM2 hn).mono ?_
  rintro e w' ⟨v, ss, rfl, hnd, hmem, hlen, hrow, hbel⟩
  have hc : (ss.filter (hasB N2)).length = cnt N1 N2 N1.length := cnt_eq (hnd.filter _) fun x => by
    rw [List.mem_filter, hmem x, hasB_true]
  rw [hc] at hrow
  rcases hrow.2 with ⟨rfl, h0⟩ | ⟨g, cap, cur, rfl, _⟩
  · refine ⟨none, 0, ?_, ?_, hbel⟩
    · rw [h0]
    · have := hrow
      rw [h0] at this ⊢
      exact this
  · exact ⟨_, cap, rfl, hrow, hbel⟩

theorem ownsRow_below {w w' : World} {base : Nat} {e : TypeId} {size : Nat} {v : Value} {n : Nat} {xs : List Value} (h : w.ownsRow base e size v n xs) (hb : Below w.heap.size w w') : w'.ownsRow base e size v n xs := by
  obtain ⟨h1, h2 | ⟨g, cap, cur, h2, h3, h4, h5⟩⟩ := h
  · exact ⟨h1, Or.inl h2⟩
  · exact ⟨h1, Or.inr ⟨g, cap, cur, h2, h3, (hb.block g (Array.getElem?_eq_some_iff.1 h4).1).trans h4, h5⟩⟩
end Go.Proofs.Qxb6634866a
