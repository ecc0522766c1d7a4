/-
  Seat b6634866a: policy.Join (function 8): the walk.
-/
import Derived.Test.Qxb6634866aSorted
namespace Go.Proofs.Qxb6634866a
open Go.RowKit Go.Maps Go.Sort

theorem Try.info38 : (Try.prog.info? 38).map (fun i => (i.zero, i.size, i.bytes)) = some (some (.agg #[.int .i64 0, .pointer none, .int .i64 0, .int .i64 0, .pointer none, .int .i64 0]), 6, 48) := by kernel_rfl

/-- The cells of n zero replicas. -/
def zrow : Nat → List Value
  | 0 => []
  | n + 1 => zrow n ++ [.int .i64 0, .pointer none, .int .i64 0, .int .i64 0, .pointer none, .int .i64 0]
theorem zrow_length : ∀ n, (zrow n).length = n * 6
  | 0 => rfl
  | n + 1 => by simp [zrow, zrow_length n]; omega

/-- How many of the first k names N2 has. -/
def cf (ss N2 : List (List UInt8)) (k : Nat) : Nat := ((ss.take k).filter (hasB N2)).length
theorem cf_le (ss N2 : List (List UInt8)) (k : Nat) : cf ss N2 k ≤ k := by
  have := List.length_filter_le (hasB N2) (ss.take k)
  have h2 : (ss.take k).length ≤ k := List.length_take_le _ _
  unfold cf; omega
theorem cf_yes {ss N2 : List (List UInt8)} {k : Nat} (hk : k < ss.length) (h : hasB N2 (ss.getD k []) = true) : cf ss N2 (k + 1) = cf ss N2 k + 1 := by
  have e : ss.getD k [] = ss[k] := by simp [List.getD, hk]
  rw [e] at h
  unfold cf
  rw [List.take_succ_eq_append_getElem hk, List.filter_append]
  simp [h]
theorem cf_no {ss N2 : List (List UInt8)} {k : Nat} (hk : k < ss.length) (h : hasB N2 (ss.getD k []) = false) : cf ss N2 (k + 1) = cf ss N2 k := by
  have e : ss.getD k [] = ss[k] := by simp [List.getD, hk]
  rw [e] at h
  unfold cf
  rw [List.take_succ_eq_append_getElem hk, List.filter_append]
  simp [h]
theorem cf_all (ss N2 : List (List UInt8)) : cf ss N2 ss.length = (ss.filter (hasB N2)).length := by simp [cf]

theorem cell_six_new (w : World) (a b c d e f : Value) (t : TypeId) : ∀ j u, [a, b, c, d, e, f][j]? = some u → (w.alloc (.cells #[a, b, c, d, e, f] t)).cell? ((⟨w.heap.size, 0, none⟩ : Addr).add j) = some u := by
  intro j u hj
  match j, hj with
  | 0, hj | 1, hj | 2, hj | 3, hj | 4, hj | 5, hj =>
    simp at hj
    subst hj
    simp [Addr.add]

theorem cell_six_new2 (w : World) (o : Obj) (a b c d e f : Value) (t : TypeId) : ∀ j u, [a, b, c, d, e, f][j]? = some u → ((w.alloc o).alloc (.cells #[a, b, c, d, e, f] t)).cell? ((⟨w.heap.size + 1, 0, none⟩ : Addr).add j) = some u := by
  have := cell_six_new (w.alloc o) a b c d e f t
  rwa [show (w.alloc o).heap.size = w.heap.size + 1 by simp] at this

section
variable {P : Program} (w : World) {ops : Array Oper} {rest : List Oper} {o : Oper} {a : Act} {Q : Exit → Act → World → Prop}
/-- 'v, ok := m[k]' in a map of zero Decimals. -/
theorem wpList_look_z (hg : o.guard = none) (m x : Operand) (t : TypeId) (hop : o.op = Op.lookup t m x true)
    (k e : TypeId) (K : Keyed P k) (ht : P.underlying t = some (.map k e)) (hz : (zeroValue e).run P w = .ok (.agg #[.int .i64 0, .pointer none, .int .i64 0]) w) (b n : Nat) (D : DataW Unit)
    (hm : a.eval m = .map (some b)) (hown : w.ownsMap P k zElem b n D) (key : Value) (kl : Lit) (hx : a.eval x = key) (hkey : keyOf P k key = some kl) (bv : Bool) (hbv : Maps.has D kl = bv)
    (hK : wpList P ops Q rest (a.put o.dst (.tuple #[.agg #[.int .i64 0, .pointer none, .int .i64 0], .bool bv])) w) :
    wpList P ops Q (o :: rest) a w :=
  wpList_lookup_own_ok w hg m x t hop k e K ht zElem hz (.agg []) [] zElem_mk b n D hm hown key kl hx hkey (fun v ps hv => by
    obtain ⟨rfl, _⟩ := zElem_inv hv
    rw [hbv]
    exact hK)
/-- 'm[k]' in a map of zero Decimals. -/
theorem wpList_get_z (hg : o.guard = none) (m x : Operand) (t : TypeId) (hop : o.op = Op.lookup t m x false)
    (k e : TypeId) (K : Keyed P k) (ht : P.underlying t = some (.map k e)) (hz : (zeroValue e).run P w = .ok (.agg #[.int .i64 0, .pointer none, .int .i64 0]) w) (b n : Nat) (D : DataW Unit)
    (hm : a.eval m = .map (some b)) (hown : w.ownsMap P k zElem b n D) (key : Value) (kl : Lit) (hx : a.eval x = key) (hkey : keyOf P k key = some kl)
    (hK : wpList P ops Q rest (a.put o.dst (.agg #[.int .i64 0, .pointer none, .int .i64 0])) w) :
    wpList P ops Q (o :: rest) a w := by
  refine wpList_plain hg fun K' hK' => ?_
  obtain ⟨v, ps, hrun, hv⟩ := hown.lookup K ht hz zElem_mk hkey
  obtain ⟨rfl, _⟩ := zElem_inv hv
  unfold Oper.wp
  simp [execOp, hop, hm, hx, hrun, Result.andThen]
  exact hK' _ _ hK
end

theorem ownsMap_below {w w' : World} {b n B : Nat} {D : DataW Unit} (h : w.ownsMap Try.prog 9 zElem b n D) (hg : Below B w w') (hlt : b < B) : w'.ownsMap Try.prog 9 zElem b n D := by
  obtain ⟨es, clock, h1, h2⟩ := h
  exact ⟨es, clock, (hg.block b hlt).trans h1, h2⟩

theorem ownsRow_base {w : World} {base base' : Nat} {e : TypeId} {size : Nat} {v : Value} {n : Nat} {xs : List Value} (h : w.ownsRow base e size v n xs) (hb : base' ≤ base) : w.ownsRow base' e size v n xs := by
  obtain ⟨h1, h2 | ⟨g, cap, cur, h2, h3, h4⟩⟩ := h
  · exact ⟨h1, Or.inl h2⟩
  · exact ⟨h1, Or.inr ⟨g, cap, cur, h2, Nat.le_trans hb h3, h4⟩⟩

set_option maxRecDepth 100000 in
set_option maxHeartbeats 1000000 in
theorem join_any (b1 b2 n1 n2 : Nat) (N1 N2 : List (List UInt8)) (w : World) (hM1 : IsMapOf w b1 n1 N1) (hM2 : IsMapOf w b2 n2 N2) (hn : n1 ≤ 5000) :
    Calls Try.prog 8 #[.map (some b1), .map (some b2)] w fun e w' => ∃ (v : Value) (ss : List (List UInt8)), e = .returned v ∧ ss.Nodup ∧ (∀ x, x ∈ ss ↔ x ∈ N1) ∧ ss.length ≤ n1 ∧
      w'.ownsRow w.heap.size 38 6 v (ss.filter (hasB N2)).length (zrow (ss.filter (hasB N2)).length) ∧ Below w.heap.size w w' := by
  obtain ⟨i0, hi, hz0, hz1, hz2⟩ := info_parts Try.info38
  have hb1 := hM1.lt
  have hb2 := hM2.lt
  have hsn := sorted_any b1 n1 N1 w hM1 hn
  obtain ⟨D1, hown1, hD1⟩ := hM1
  obtain ⟨D2, hown2, hD2⟩ := hM2
  have HD2 : Hid (∀ x, Maps.has D2 (.string x) = hasB N2 x) := hD2
  have HS := hsn
  clear hsn hD1 hD2
  go_enter Try.func8, Try.ntmps8
  go_wp2_with (go_at_call 12; refine HS.mono ?_; rintro e w1 ⟨g, cap, ss, rfl, hnd, hmem, hlen, hkl, hrow, hbel⟩)
  have hb1' := Nat.lt_of_lt_of_le hb1 hbel.size
  have hb2' := Nat.lt_of_lt_of_le hb2 hbel.size
  have hw1 := ownsMap_below hown1 hbel hb1
  have hw2 := ownsMap_below hown2 hbel hb2
  have hg1 : g < w1.heap.size := (hrow.lt g rfl).2
  have hcl : ∀ k, k < ss.length → w1.cell? ⟨g, k, none⟩ = some (.string ⟨(ss.getD k []).toArray⟩) := fun k hk => by
    rw [hrow.cellAt k (by omega)]; simp [List.getD, hk, encStr]
  clear hown1 hown2 HS
  go_loopw [5, 13] (fun v i wr => ∃ k : Nat, k ≤ ss.length ∧ i = .int .i64 k ∧ wr.ownsRow w1.heap.size 38 6 v (cf ss N2 k) (zrow (cf ss N2 k)) ∧ Below w1.heap.size w1 wr) (fun _ i _ => ss.length - (intOf i).toNat)
  case atStart => exact ⟨0, Nat.zero_le _, rfl, by simpa [cf, zrow] using World.ownsRow_nil w1 w1.heap.size 38 6, Below.refl _ _⟩
  case round =>
    obtain ⟨k, hk, rfl, hown, hnx⟩ := hrel
    have hcfl := cf_le ss N2 k
    by_cases hlt : k < ss.length
    · obtain ⟨y, hy⟩ : ∃ y, y = ss.getD k [] := ⟨_, rfl⟩
      obtain ⟨s, hs⟩ : ∃ s : ByteArray, s = ⟨y.toArray⟩ := ⟨_, rfl⟩
      have hcx : wr.cell? ⟨g, k, none⟩ = some (.string s) := by rw [hs, hy]; exact (hnx.cell (by exact hg1)).trans (hcl k hlt)
      have hyl : y.length ≤ maxLen := hkl y (by rw [hy]; simp [List.getD, hlt])
      have hkey : keyOf Try.prog 9 (.string s) = some (.string y) := by
        have := WideMaps.keyOf_string_mk (P := Try.prog) (k := 9) (s := s) Try.underlying9 (by rw [hs]; simpa [ByteArray.size] using hyl)
        rw [this, hs]
      have m1 := ownsMap_below hw1 hnx hb1'
      have m2 := ownsMap_below hw2 hnx hb2'
      have HY : Hid (y = ss.getD k []) := hy
      clear hy hs hcl hyl
      cases hq : hasB N2 y with
      | true =>
        have hbv : Maps.has D2 (.string y) = true := by rw [HD2.out, hq]
        go_wp2_with (first
          | (at_lookup; refine wpList_look_z _ rfl _ _ 24 rfl 9 33 law9 Try.underlying24 (zero33 _) b2 n2 D2 rfl m2 _ _ rfl hkey true hbv ?_)
          | (at_lookup; refine wpList_get_z _ rfl _ _ 24 rfl 9 33 law9 Try.underlying24 (zero33 _) b1 n1 D1 rfl (m1.alloc _) _ _ rfl hkey ?_)
          | (at_builtin; refine wpList_append_own _ rfl _ _ 27 rfl w1.heap.size 38 i0 (.agg #[.int .i64 0, .pointer none, .int .i64 0, .int .i64 0, .pointer none, .int .i64 0]) 6 48 Try.underlying27 hi hz0 hz1 hz2 rfl (by decide) _ _ _ rfl ((hown.alloc _).alloc _) ⟨wr.heap.size + 1, 0, none⟩ 1 1 [.int .i64 0, .pointer none, .int .i64 0, .int .i64 0, .pointer none, .int .i64 0] rfl rfl (cell_six_new2 _ _ _ _ _ _ _ _ _) (by simp [Value.oneCell']) (by unfold maxLen; omega) (by omega) (by have := hnx.size; simp; omega) ?_; intro v' w3 hown' hg3 hnil3; go_frame)
          | go_in)
        have hcf : cf ss N2 (k + 1) = cf ss N2 k + 1 := cf_yes hlt (by rw [← HY.out]; exact hq)
        have R1 : w3.ownsRow w1.heap.size 38 6 v' (cf ss N2 (k + 1)) (zrow (cf ss N2 (k + 1))) := by rw [hcf]; exact hown'
        have R2 : Below w1.heap.size w1 w3 := ((hnx.alloc hnx.size _).alloc (by have := hnx.size; simp; omega) _).grown hg3 (by have := hnx.size; simp; omega) (fun j hj => (hown.lt j hj).1)
        clear hcf
        go_roundw
        case rel => exact ⟨k + 1, by omega, by go_num, R1, R2⟩
        case measure => simp [intOf]; omega
      | false =>
        have hbv : Maps.has D2 (.string y) = false := by rw [HD2.out, hq]
        go_wp2_with (first
          | (at_lookup; refine wpList_look_z _ rfl _ _ 24 rfl 9 33 law9 Try.underlying24 (zero33 _) b2 n2 D2 rfl m2 _ _ rfl hkey false hbv ?_)
          | go_in)
        have hcf : cf ss N2 (k + 1) = cf ss N2 k := cf_no hlt (by rw [← HY.out]; exact hq)
        have R1 : ∀ o, (wr.alloc o).ownsRow w1.heap.size 38 6 u5 (cf ss N2 (k + 1)) (zrow (cf ss N2 (k + 1))) := fun o => by rw [hcf]; exact hown.alloc _
        have R2 : ∀ o, Below w1.heap.size w1 (wr.alloc o) := fun o => hnx.alloc hnx.size _
        clear hcf
        go_roundw
        case rel => exact ⟨k + 1, by omega, by go_num, R1 _, R2 _⟩
        case measure => simp [intOf]; omega
    · have : k = ss.length := by omega
      subst this
      go_wp2
      go_ret
      rw [cf_all] at hown
      exact ⟨_, ss, rfl, hnd, hmem, hlen, ownsRow_base hown hbel.size, hbel.trans (hnx.mono hbel.size)⟩
end Go.Proofs.Qxb6634866a
