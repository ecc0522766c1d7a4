/-
  Seat b6634866a: zzJoinNameMap (function 6): the walk.
-/
import Derived.Test.Qxb6634866aHas
import Derived.Maps.Own
import Derived.Maps.OwnSet
import Derived.WalkSmall
namespace Go.Proofs.Qxb6634866a
open Go.RowKit Go.Maps Go.WideMaps

/-- HOW THE ZERO Decimal READS AS AN ELEMENT OF A MAP: nothing else reads. -/
def zElem : Value → Option (DataW Unit × List MemPlace)
  | .agg ⟨[.int .i64 0, .pointer none, .int .i64 0]⟩ => some (.agg [], [])
  | _ => none
/-- The zero Decimal. -/
abbrev zDec : Value := .agg #[.int .i64 0, .pointer none, .int .i64 0]
theorem zElem_mk : zElem (.agg #[.int .i64 0, .pointer none, .int .i64 0]) = some (.agg [], []) := rfl
theorem zElem_inv {v : Value} {z : DataW Unit × List MemPlace} (h : zElem v = some z) : v = .agg #[.int .i64 0, .pointer none, .int .i64 0] ∧ z = (.agg [], []) := by
  unfold zElem at h
  split at h
  · cases h; exact ⟨rfl, rfl⟩
  · cases h

theorem law9 : Keyed Try.prog 9 := string_keyed Try.underlying9
theorem zero33 (w : World) : (zeroValue 33).run Try.prog w = .ok (.agg #[.int .i64 0, .pointer none, .int .i64 0]) w := by kernel_rfl
theorem run_makeMapHint (m : Int) (w : World) : (Instr.makeMap 24 (some (.int .i64 m))).run Try.prog w = .ok (.map (some w.heap.size)) (w.alloc (.map #[] 0)) := by
  simp [Instr.makeMap, run_underlying Try.underlying24, asInt, asIntOf, Result.andThen]

/-- BLOCK b IS A MAP OF AT MOST n ENTRIES, EACH THE ZERO Decimal, WHOSE KEYS ARE THE NAMES N. -/
def IsMapOf (w : World) (b n : Nat) (N : List (List UInt8)) : Prop := ∃ D : DataW Unit, w.ownsMap Try.prog 9 zElem b n D ∧ ∀ x, Maps.has D (.string x) = hasB N x

theorem IsMapOf.lt {w : World} {b n : Nat} {N : List (List UInt8)} (h : IsMapOf w b n N) : b < w.heap.size := by obtain ⟨D, h, _⟩ := h; exact h.lt
theorem IsMapOf.kept {w w' : World} {b n : Nat} {N : List (List UInt8)} {row : Option Nat} (h : IsMapOf w b n N) (hg : w.grownBy w' row) (hne : some b ≠ row) : IsMapOf w' b n N := by
  obtain ⟨D, h1, h2⟩ := h; exact ⟨D, h1.kept hg hne, h2⟩
theorem IsMapOf.below {w w' : World} {b n B : Nat} {N : List (List UInt8)} (h : IsMapOf w b n N) (hg : Below B w w') (hlt : b < B) : IsMapOf w' b n N := by
  obtain ⟨D, ⟨es, clock, h1, h2⟩, h3⟩ := h
  exact ⟨D, ⟨es, clock, (hg.block b hlt).trans h1, h2⟩, h3⟩

theorem hasB_put {D : DataW Unit} {N : List (List UInt8)} (hm : IsMap D) (hD : ∀ x, Maps.has D (.string x) = hasB N x) (y : List UInt8) (d : DataW Unit) : ∀ x, Maps.has (D.put (.string y) d) (.string x) = hasB (N ++ [y]) x := by
  intro x
  by_cases h : x = y
  · subst h
    rw [has_put_same hm (by simp [WideAt.IsKeyLit])]
    exact (hasB_true.2 (by simp)).symm
  · rw [has_put_other (by simpa using h), hD x]
    simp [hasB, h]

theorem take_snoc {N : List (List UInt8)} {k : Nat} (h : k < N.length) : N.take k ++ [N.getD k []] = N.take (k + 1) := by
  rw [List.take_succ_eq_append_getElem h]; simp [List.getD, h]

theorem key_ok {ss : List ByteArray} (hsz : ∀ s ∈ ss, s.size ≤ maxLen) (k : Nat) (hk : k < ss.length) : keyOf Try.prog 9 (.string (ss.getD k ByteArray.empty)) = some (.string ((ss.map bl).getD k [])) := by
  have e : ss.getD k ByteArray.empty = ss[k] := by simp [List.getD, hk]
  have e2 : (ss.map bl).getD k [] = bl ss[k] := by simp [List.getD, hk]
  rw [e, e2]
  exact keyOf_string_mk Try.underlying9 (hsz _ (List.getElem_mem hk))

set_option maxRecDepth 100000 in
set_option maxHeartbeats 1000000 in
theorem nameMap_any (a : Option Addr) (cap : Nat) (ss : List ByteArray) (w : World) (h : IsStrs w a ss) (hn : ss.length ≤ 4096) :
    Calls Try.prog 6 #[.slice a ss.length cap] w fun e w' => e = .returned (.map (some w.heap.size)) ∧ IsMapOf w' w.heap.size ss.length (ss.map bl) ∧ Below w.heap.size w w' := by
  have hmm := run_makeMapHint
  obtain ⟨hl, hs, rfl | ⟨b, off, rfl, hb, hc⟩⟩ := h
  · go_enter Try.func6, Try.ntmps6
    go_wp2
    refine wp_loop_rounds 1 ?_
    rw [rounds_succ]
    go_wp2
    go_ret
    refine ⟨rfl, ⟨.map [], (World.ownsMap_made _ _ _ _).alloc _, fun x => rfl⟩, ((Below.refl _ _).alloc (Nat.le_refl _) _).alloc (by simp) _⟩
  · clear hl
    go_enter Try.func6, Try.ntmps6
    go_wp2
    go_loopw [12] (fun i wr => ∃ k : Nat, k ≤ ss.length ∧ i = .int .i64 k ∧ IsMapOf wr w.heap.size k ((ss.map bl).take k) ∧ Below w.heap.size w wr ∧ w.heap.size + 1 < wr.heap.size ∧
        wr.cell? ⟨w.heap.size + 1, 0, none⟩ = some (.int .i64 0) ∧ wr.cell? ⟨w.heap.size + 1, 1, none⟩ = some (.pointer none) ∧ wr.cell? ⟨w.heap.size + 1, 2, none⟩ = some (.int .i64 0))
      (fun i _ => ss.length - (intOf i).toNat)
    case atStart =>
      refine ⟨0, Nat.zero_le _, rfl, ⟨.map [], (World.ownsMap_made _ _ _ _).alloc _, fun x => rfl⟩, ((Below.refl _ _).alloc (Nat.le_refl _) _).alloc (by simp) _, by simp, ?_, ?_, ?_⟩ <;> simp
    case round =>
      obtain ⟨k, hk, rfl, ⟨D, hown, hD⟩, hnx, hz, hz0, hz1, hz2⟩ := hrel
      by_cases hlt : k < ss.length
      · obtain ⟨s, hsn⟩ : ∃ s, s = ss.getD k ByteArray.empty := ⟨_, rfl⟩
        have hcx : wr.cell? ⟨b, off + k, none⟩ = some (.string s) := by rw [hsn]; exact (hnx.cell (by exact hb)).trans (hc k hlt)
        have hkey : keyOf Try.prog 9 (.string s) = some (.string ((ss.map bl).getD k [])) := by rw [hsn]; exact key_ok hs k hlt
        clear hsn hc hs
        go_wp2_with (first
          | (at_mapUpdate; refine wpList_mapUpdate_own _ rfl _ _ _ 24 rfl 9 33 law9 Try.underlying24 _ w.heap.size k _ rfl hown (by unfold maxLen; omega) _ _ _ rfl rfl hkey _ [] zElem_mk ?_; intro w1 hown1 hgrow1)
          | go_in)
        have hD1 := hasB_put hown.isMap hD ((ss.map bl).getD k []) (.agg [])
        rw [take_snoc (by simpa using hlt)] at hD1
        have hz' := Nat.lt_of_lt_of_le hz hgrow1.size
        have e0 := hgrow1.cell hz0 (by simp)
        have e1 := hgrow1.cell hz1 (by simp)
        have e2 := hgrow1.cell hz2 (by simp)
        have R2 := hnx.grown hgrow1 hnx.size (fun j hj => by cases hj; exact Nat.le_refl _)
        go_roundw
        case rel => exact ⟨k + 1, by omega, by go_num, ⟨_, hown1, hD1⟩, R2, hz', e0, e1, e2⟩
        case measure => simp [intOf]; omega
      · have : k = ss.length := by omega
        subst this
        go_wp2
        go_ret
        rw [List.take_of_length_le (by simp)] at hD
        exact ⟨rfl, ⟨D, hown, hD⟩, hnx⟩
end Go.Proofs.Qxb6634866a
