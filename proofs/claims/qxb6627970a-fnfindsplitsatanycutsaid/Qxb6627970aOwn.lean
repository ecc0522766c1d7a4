/-
  Seat b6627970a: the cells of a list of parameters; Find over a slice of the call's own; plain facts on 'findP'.
-/
import Derived.Test.Qxb6627970aWire
import Derived.OwnWalk
import Derived.Laws.OwnMore
import Derived.Maps.AppendAt
namespace Go.Proofs.Qxb6627970a
open Go.RowKit

/-- The cells of a list of parameters. -/
def pcells : List PP → List Value
  | [] => []
  | p :: r => .int .u16 p.ty :: .slice p.a p.n p.c :: pcells r
theorem pcells_length : ∀ ps, (pcells ps).length = ps.length * 2
  | [] => rfl
  | p :: r => by simp [pcells, pcells_length r]; omega
theorem pcells_append : ∀ xs ys, pcells (xs ++ ys) = pcells xs ++ pcells ys
  | [], _ => rfl
  | p :: r, ys => by simp [pcells, pcells_append r ys]
theorem pcells_at : ∀ (ps : List PP) (i : Nat), i < ps.length → (pcells ps)[i * 2]? = some (.int .u16 (ps.getD i dft).ty) ∧ (pcells ps)[i * 2 + 1]? = some (.slice (ps.getD i dft).a (ps.getD i dft).n (ps.getD i dft).c)
  | [], _, h => absurd h (Nat.not_lt_zero _)
  | p :: r, 0, _ => ⟨rfl, rfl⟩
  | p :: r, i + 1, h => by
    have := pcells_at r i (by simpa using h)
    rw [show (i + 1) * 2 = i * 2 + 1 + 1 by omega]
    simpa [pcells] using this
theorem pcells_get {ps : List PP} {j : Nat} (h : j < ps.length * 2) : (pcells ps)[j]? = some (prow ps ps.length j) := by
  have hi : j / 2 < ps.length := by omega
  have h1 := pcells_at ps (j / 2) hi
  have h2 := prow_at hi
  have : j = j / 2 * 2 ∨ j = j / 2 * 2 + 1 := by omega
  rcases this with e | e
  · rw [e, h2.1]; exact h1.1
  · rw [e, h2.2]; exact h1.2
theorem pcells_take (ps : List PP) (i : Nat) (h : i ≤ ps.length) : pcells (ps.take i) = (pcells ps).take (i * 2) := by
  have e := pcells_append (ps.take i) (ps.drop i)
  rw [List.take_append_drop] at e
  rw [e, List.take_left' (by rw [pcells_length]; simp; omega)]
theorem pcells_drop (ps : List PP) (i : Nat) (h : i ≤ ps.length) : pcells (ps.drop i) = (pcells ps).drop (i * 2) := by
  have e := pcells_append (ps.take i) (ps.drop i)
  rw [List.take_append_drop] at e
  rw [e, List.drop_left' (by rw [pcells_length]; simp; omega)]

theorem pcells_one : ∀ (ps : List PP), ∀ u ∈ pcells ps, u.oneCell' = true
  | [], u, h => by simp [pcells] at h
  | p :: r, u, h => by
    simp only [pcells, List.mem_cons] at h
    rcases h with rfl | rfl | h
    · rfl
    · rfl
    · exact pcells_one r u h

/-- Where the first i parameters lie, for append. -/
theorem news_take {w : World} {g : Nat} {ps : List PP} {i : Nat} (h : w.rowIs g 31 (ps.length * 2) (prow ps ps.length)) (hi : i ≤ ps.length) : ∀ j u, (pcells (ps.take i))[j]? = some u → w.cell? ((⟨g, 0, none⟩ : Addr).add j) = some u := by
  intro j u hj
  have hlt : j < i * 2 := by
    have := (List.getElem?_eq_some_iff.1 hj).1
    rw [pcells_length] at this
    simp at this
    omega
  rw [pcells_take ps i hi, List.getElem?_take_of_lt hlt, pcells_get (by omega)] at hj
  rw [WideShapes.add_plain, Nat.zero_add, h.cell (by omega)]
  exact hj
theorem news_drop {w : World} {g : Nat} {ps : List PP} {i : Nat} (h : w.rowIs g 31 (ps.length * 2) (prow ps ps.length)) (hi : i ≤ ps.length) : ∀ j u, (pcells (ps.drop i))[j]? = some u → w.cell? ((⟨g, i * 2, none⟩ : Addr).add j) = some u := by
  intro j u hj
  have hlt : i * 2 + j < ps.length * 2 := by
    have := (List.getElem?_eq_some_iff.1 hj).1
    rw [pcells_length] at this
    simp at this
    omega
  rw [pcells_drop ps i hi, List.getElem?_drop, pcells_get hlt] at hj
  rw [WideShapes.add_plain, h.cell hlt]
  exact hj

theorem ownsRow_below {w w' : World} {base : Nat} {e : TypeId} {size : Nat} {v : Value} {n : Nat} {xs : List Value} (h : w.ownsRow base e size v n xs) (hb : Below w.heap.size w w') : w'.ownsRow base e size v n xs := by
  obtain ⟨h1, h2 | ⟨g, cap, cur, h2, h3, h4, h5⟩⟩ := h
  · exact ⟨h1, Or.inl h2⟩
  · exact ⟨h1, Or.inr ⟨g, cap, cur, h2, h3, (hb.block g (Array.getElem?_eq_some_iff.1 h4).1).trans h4, h5⟩⟩
theorem rowIs_below {w w' : World} {g N : Nat} {t : TypeId} {f : Nat → Value} (h : w.rowIs g t N f) (hb : Below w.heap.size w w') : w'.rowIs g t N f := h.of_block (hb.block g h.lt)

/-- Find over a slice of the call's own. -/
theorem find_own {w : World} {base n : Nat} {v : Value} {qs : List PP} (t : Int) (r : PP) (ok : Bool) (h : w.ownsRow base 31 2 v n (pcells qs)) (hl : n = qs.length) (hm : n ≤ 40000) (hr : findR qs t = r) (hk : findOk qs t = ok) :
    Calls Try.prog 8 #[v, .int .u16 t] w fun e w' => e = .returned (.tuple #[.slice r.a r.n r.c, .bool ok]) ∧ Below w.heap.size w w' := by
  subst hl hr hk
  rcases h.2 with ⟨rfl, h0⟩ | ⟨g, cap, cur, rfl, hg, hb, h1, h2, h3, h4⟩
  · have := find_any none 0 qs t w ⟨by unfold maxLen; omega, Or.inl (List.length_eq_zero_iff.1 h0)⟩
    rwa [h0] at this
  · exact find_any _ cap qs t w ⟨by unfold maxLen; omega, Or.inr ⟨g, 0, rfl, (Array.getElem?_eq_some_iff.1 hb).1, fun i hi => by
      have e := pcells_at qs i hi
      rw [Nat.zero_add, h.cellAt _ (by omega), h.cellAt _ (by omega)]
      exact e⟩⟩

/-! ### Plain facts on findP -/
theorem findP_append (xs ys : List PP) (t : Int) : findP (xs ++ ys) t = (findP xs t).or (findP ys t) := by simp [findP]
theorem findR_ok {w : World} {ps : List PP} (h : ∀ p ∈ ps, OkB w p.a p.n) (t : Int) : OkB w (findR ps t).a (findR ps t).n := by
  unfold findR
  cases e : findP ps t with
  | none => exact OkB.nil w
  | some p => exact h p (List.mem_of_find?_eq_some e)

/-- The list with one parameter put in at place i. -/
def insP (ps : List PP) (i : Nat) (p : PP) : List PP := ps.take i ++ p :: ps.drop i
theorem insP_length {ps : List PP} {i : Nat} {p : PP} (h : i ≤ ps.length) : (insP ps i p).length = i + 1 + (ps.length - i) := by simp [insP]; omega
theorem insP_cells {ps : List PP} {i : Nat} {p : PP} : pcells (insP ps i p) = pcells (ps.take i) ++ [.int .u16 p.ty, .slice p.a p.n p.c] ++ pcells (ps.drop i) := by
  simp [insP, pcells_append, pcells]
theorem ins_before {ps : List PP} {i : Nat} {p : PP} {t : Int} (h : findOk (ps.take i) t = true) : findR (insP ps i p) t = findR (ps.take i) t ∧ findOk (insP ps i p) t = true := by
  unfold findOk at h
  obtain ⟨r, hr⟩ := Option.isSome_iff_exists.1 h
  simp [findR, findOk, insP, findP_append, hr]
theorem ins_here {ps : List PP} {i : Nat} {p : PP} {t : Int} (hp : p.ty = t) (h : findOk (ps.take i) t = false) : findR (insP ps i p) t = p ∧ findOk (insP ps i p) t = true := by
  unfold findOk at h
  have hr : findP (ps.take i) t = none := by simpa using h
  have h2 : findP (p :: ps.drop i) t = some p := by simp [findP, hp]
  simp [findR, findOk, insP, findP_append, hr, h2]
theorem ins_other {ps : List PP} {i : Nat} {p : PP} {u : Int} (hp : p.ty ≠ u) : findR (insP ps i p) u = findR ps u ∧ findOk (insP ps i p) u = findOk ps u := by
  have h2 : findP (p :: ps.drop i) u = findP (ps.drop i) u := by simp [findP, hp]
  have h3 : findP (insP ps i p) u = findP ps u := by
    rw [insP, findP_append, h2, ← findP_append, List.take_append_drop]
  simp [findR, findOk, h3]
end Go.Proofs.Qxb6627970a
