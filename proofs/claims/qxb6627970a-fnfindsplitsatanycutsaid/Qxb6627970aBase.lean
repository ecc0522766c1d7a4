/-
  Seat b6627970a: parameters as the walks see them; bytesSame (11), answerSame (9), wire.Find (8), sizeFits (6), zzBytes.. (5, 10).
-/
import Derived.Test.Qxb6627970aRows
import Derived.WalkKit
import Derived.WalkLawsBesides
import Derived.Below
import Derived.Deep.QuietTactic
import Derived.BigQuiet
import Derived.WalkSmall
import Derived.Lib.SliceRun
namespace Go.Proofs.Qxb6627970a
open Go.RowKit

/-- A parameter: its type; its value's slice header. -/
structure PP where
  ty : Int
  a : Option Addr
  n : Nat
  c : Nat
/-- No parameter: a nil value. -/
def dft : PP := ⟨0, none, 0, 0⟩

/-- A slice of n bytes can be read. -/
def OkB (w : World) (a : Option Addr) (n : Nat) : Prop :=
  n ≤ maxLen ∧ (n = 0 ∨ ∃ b off, a = some ⟨b, off, none⟩ ∧ b < w.heap.size ∧ ∀ i, i < n → ∃ x, w.cell? ⟨b, off + i, none⟩ = some (.int .u8 x))

theorem OkB.below {w w' : World} {a : Option Addr} {n : Nat} (h : OkB w a n) (hb : Below w.heap.size w w') : OkB w' a n := by
  obtain ⟨h1, h3⟩ := h
  refine ⟨h1, ?_⟩
  rcases h3 with h3 | ⟨b, off, ha, hlt, hc⟩
  · exact Or.inl h3
  · exact Or.inr ⟨b, off, ha, Nat.lt_of_lt_of_le hlt hb.size, fun i hi => by obtain ⟨x, hx⟩ := hc i hi; exact ⟨x, (hb.cell (p := ⟨b, off + i, none⟩) hlt).trans hx⟩⟩
theorem OkB.drewN {w : World} {a : Option Addr} {n : Nat} (h : OkB w a n) (m : Nat) : OkB (w.drewN m) a n := h
theorem OkB.nil (w : World) : OkB w none 0 := ⟨by simp, Or.inl rfl⟩

set_option maxHeartbeats 400000 in
/-- A slice of bytes against itself. -/
theorem same_self (a : Option Addr) (n c : Nat) (w : World) (h : OkB w a n) :
    Calls Try.prog 11 #[.slice a n c, .slice a n c] w fun e w' => e = .returned (.bool true) ∧ ∃ m, w' = w.drewN m := by
  obtain ⟨hl, hc⟩ := h
  unfold maxLen at hl
  have hnil := fun (w : World) (a : Option Addr) (n c : Nat) => Lib.run_eql_slice_nil (P := Try.prog) w 24 5 a n c 0 0 Try.underlying24
  have hbb : (a.isNone != a.isNone) = false := by simp
  go_enter Try.func11, Try.ntmps11
  go_wp2
  go_loopw [5] (fun i wr => ∃ k m : Nat, k ≤ n ∧ i = .int .i64 k ∧ wr = w.drewN m) (fun i _ => n - (intOf i).toNat)
  case atStart => exact ⟨0, 0, Nat.zero_le _, rfl, rfl⟩
  case round =>
    obtain ⟨k, m, hk, rfl, rfl⟩ := hrel
    by_cases hlt : k < n
    · rcases hc with rfl | ⟨b, off, rfl, hb, hc⟩
      · simp at hlt
      obtain ⟨x, hx⟩ := hc k hlt
      clear hc
      go_wp2
      go_quiet (fail)
      go_wp2
      go_roundw
      case rel => exact ⟨k + 1, _, by omega, by go_num, rfl⟩
      case measure => simp [intOf]; omega
    · go_wp2
      go_ret
      exact ⟨rfl, _, rfl⟩

set_option maxHeartbeats 400000 in
/-- One answer against itself. -/
theorem answer_self (a : Option Addr) (n c : Nat) (b : Bool) (w : World) (h : OkB w a n) :
    Calls Try.prog 9 #[.slice a n c, .bool b, .slice a n c, .bool b] w fun e w' => e = .returned (.bool true) ∧ ∃ m, w' = w.drewN m := by
  have H := same_self a n c w h
  clear h
  have hb : (b == b) = true := by simp
  go_enter Try.func9, Try.ntmps9
  go_wp2_with fail
  refine H.mono ?_
  rintro e w' ⟨rfl, m, rfl⟩
  go_wp2
  go_ret
  exact ⟨rfl, _, rfl⟩

/-- WHAT THE WALK IS TOLD OF A SLICE OF PARAMETERS. -/
def IsPs (w : World) (a : Option Addr) (ps : List PP) : Prop :=
  ps.length ≤ maxLen ∧ (ps = [] ∨ ∃ b off, a = some ⟨b, off, none⟩ ∧ b < w.heap.size ∧ ∀ i, i < ps.length →
    w.cell? ⟨b, off + i * 2, none⟩ = some (.int .u16 (ps.getD i dft).ty) ∧ w.cell? ⟨b, off + i * 2 + 1, none⟩ = some (.slice (ps.getD i dft).a (ps.getD i dft).n (ps.getD i dft).c))

theorem IsPs.below {w w' : World} {a : Option Addr} {ps : List PP} (h : IsPs w a ps) (hb : Below w.heap.size w w') : IsPs w' a ps := by
  obtain ⟨h1, h3⟩ := h
  refine ⟨h1, ?_⟩
  rcases h3 with h3 | ⟨b, off, ha, hlt, hc⟩
  · exact Or.inl h3
  · exact Or.inr ⟨b, off, ha, Nat.lt_of_lt_of_le hlt hb.size, fun i hi => ⟨(hb.cell (p := ⟨b, _, none⟩) hlt).trans (hc i hi).1, (hb.cell (p := ⟨b, _, none⟩) hlt).trans (hc i hi).2⟩⟩

/-- The first parameter of type t. -/
def findP (ps : List PP) (t : Int) : Option PP := ps.find? fun p => p.ty == t
def findR (ps : List PP) (t : Int) : PP := (findP ps t).getD dft
def findOk (ps : List PP) (t : Int) : Bool := (findP ps t).isSome

theorem find_hit {ps : List PP} {t : Int} {k : Nat} (h : k < ps.length) (hno : findP (ps.take k) t = none) (he : (ps[k].ty == t) = true) : findP ps t = some ps[k] := by
  have e : ps = ps.take k ++ ps[k] :: ps.drop (k + 1) := by rw [List.getElem_cons_drop, List.take_append_drop]
  unfold findP at *
  conv => lhs; rw [e]
  rw [List.find?_append, hno, List.find?_cons, he]
  rfl
theorem find_step {ps : List PP} {t : Int} {k : Nat} (h : k < ps.length) (hno : findP (ps.take k) t = none) (he : (ps[k].ty == t) = false) : findP (ps.take (k + 1)) t = none := by
  unfold findP at *
  rw [List.take_succ_eq_append_getElem h, List.find?_append, hno, List.find?_cons, he]
  rfl

theorem ret_find {ps : List PP} {t : Int} {a : Option Addr} {n c : Nat} {b : Bool} (ha : a = (findR ps t).a) (hn : n = (findR ps t).n) (hc : c = (findR ps t).c) (hb : b = findOk ps t) :
    Ending.returned (.tuple #[.slice a n c, .bool b]) = .returned (.tuple #[.slice (findR ps t).a (findR ps t).n (findR ps t).c, .bool (findOk ps t)]) := by
  rw [ha, hn, hc, hb]

set_option maxHeartbeats 400000 in
theorem find_any (a : Option Addr) (cap : Nat) (ps : List PP) (t : Int) (w : World) (h : IsPs w a ps) :
    Calls Try.prog 8 #[.slice a ps.length cap, .int .u16 t] w fun e w' => e = .returned (.tuple #[.slice (findR ps t).a (findR ps t).n (findR ps t).c, .bool (findOk ps t)]) ∧ Below w.heap.size w w' := by
  obtain ⟨hl, hc⟩ := h
  unfold maxLen at hl
  go_enter Try.func8, Try.ntmps8
  go_wp2
  go_loopw [10] (fun i wr => ∃ k : Nat, k ≤ ps.length ∧ i = .int .i64 k ∧ Below w.heap.size w wr ∧ Hid (findP (ps.take k) t = none)) (fun i _ => ps.length - (intOf i).toNat)
  case atStart => exact ⟨0, Nat.zero_le _, rfl, Below.refl _ _, rfl⟩
  case round =>
    obtain ⟨k, hk, rfl, hnx, hno⟩ := hrel
    by_cases hlt : k < ps.length
    · rcases hc with rfl | ⟨b, off, rfl, hb, hc⟩
      · simp at hlt
      obtain ⟨h0, h1⟩ := hc k hlt
      have e : ps.getD k dft = ps[k] := by simp [List.getD, hlt]
      rw [e] at h0 h1
      have h0' := (hnx.cell (p := ⟨b, off + k * 2, none⟩) hb).trans h0
      have h1' := (hnx.cell (p := ⟨b, off + k * 2 + 1, none⟩) hb).trans h1
      obtain ⟨q, hq⟩ : ∃ q, q = ps[k] := ⟨_, rfl⟩
      rw [← hq] at h0' h1'
      have HQ : Hid (q = ps[k]) := hq
      clear hc h0 h1 e hq
      go_wp2
      · have he : (q.ty == t) = true := by assumption
        have hf := find_hit hlt hno.out (by rw [← HQ.out]; exact he)
        go_ret2
        exact ⟨ret_find (by rw [findR, hf, HQ.out]; rfl) (by rw [findR, hf, HQ.out]; rfl) (by rw [findR, hf, HQ.out]; rfl) (by rw [findOk, hf]; rfl), hnx.alloc hnx.size _⟩
      · have he : (q.ty == t) = false := by assumption
        have hf := find_step hlt hno.out (by rw [← HQ.out]; exact he)
        go_roundw
        case rel => exact ⟨k + 1, by omega, by go_num, hnx.alloc hnx.size _, hf⟩
        case measure => simp [intOf]; omega
    · have hf : findP ps t = none := by
        have := hno.out
        rwa [List.take_of_length_le (by omega)] at this
      have HF : Hid _ := hf
      clear hf
      go_wp2
      go_ret2
      exact ⟨ret_find (by rw [findR, HF.out]; rfl) (by rw [findR, HF.out]; rfl) (by rw [findR, HF.out]; rfl) (by rw [findOk, HF.out]; rfl), hnx⟩

/-- It returns a bool. -/
def IsBool (e : Ending) : Prop := ∃ bv, e = .returned (.bool bv)
theorem isBool_mk (bv : Bool) : IsBool (.returned (.bool bv)) := ⟨bv, rfl⟩

set_option maxHeartbeats 400000 in
theorem sizeFits_any (a : Option Addr) (cap : Nat) (ps : List PP) (x : Int) (w : World) (h : IsPs w a ps) :
    Calls Try.prog 6 #[.slice a ps.length cap, .int .i64 x] w fun e w' => IsBool e ∧ w' = w := by
  obtain ⟨hl, hc⟩ := h
  unfold maxLen at hl
  go_enter Try.func6, Try.ntmps6
  go_wp2
  · go_ret
    exact ⟨isBool_mk _, rfl⟩
  go_loop [5, 6] (fun z i => ∃ (k : Nat) (s : Int), k ≤ ps.length ∧ i = .int .i64 k ∧ z = .int .i64 s) (fun _ i => ps.length - (intOf i).toNat)
  case atStart => exact ⟨0, x, Nat.zero_le _, rfl, rfl⟩
  case round =>
    obtain ⟨k, s, hk, rfl, rfl⟩ := hrel
    by_cases hlt : k < ps.length
    · rcases hc with rfl | ⟨b, off, rfl, hb, hc⟩
      · simp at hlt
      obtain ⟨h0, h1⟩ := hc k hlt
      generalize ps.getD k dft = q at h0 h1
      clear hc
      go_wp2
      · go_ret
        exact ⟨isBool_mk _, rfl⟩
      · go_round
        case rel => exact ⟨k + 1, _, by omega, by go_num, rfl⟩
        case measure => simp [intOf]; omega
    · go_wp2
      go_ret
      exact ⟨isBool_mk _, rfl⟩

set_option maxHeartbeats 400000 in
theorem bytes10_any (a : Option Addr) (cap : Nat) (ps : List PP) (x y : Int) (w : World) (h : IsPs w a ps) :
    Calls Try.prog 10 #[.slice a ps.length cap, .int .i64 x, .int .u16 y] w fun e w' => IsBool e ∧ w' = w := by
  obtain ⟨hl, hc⟩ := h
  unfold maxLen at hl
  go_enter Try.func10, Try.ntmps10
  go_wp2
  · go_ret
    exact ⟨isBool_mk _, rfl⟩
  go_loop [7, 8] (fun z i => ∃ (k : Nat) (s : Int), k ≤ ps.length ∧ i = .int .i64 k ∧ z = .int .i64 s) (fun _ i => ps.length - (intOf i).toNat)
  case atStart => exact ⟨0, _, Nat.zero_le _, rfl, rfl⟩
  case round =>
    obtain ⟨k, s, hk, rfl, rfl⟩ := hrel
    by_cases hlt : k < ps.length
    · rcases hc with rfl | ⟨b, off, rfl, hb, hc⟩
      · simp at hlt
      obtain ⟨h0, h1⟩ := hc k hlt
      generalize ps.getD k dft = q at h0 h1
      clear hc
      go_wp2
      · go_ret
        exact ⟨isBool_mk _, rfl⟩
      · go_ret
        exact ⟨isBool_mk _, rfl⟩
      · go_round
        case rel => exact ⟨k + 1, _, by omega, by go_num, rfl⟩
        case measure => simp [intOf]; omega
    · go_wp2
      go_ret
      exact ⟨isBool_mk _, rfl⟩

set_option maxHeartbeats 400000 in
theorem bytes5_any (a a3 : Option Addr) (cap n3 c3 : Nat) (ps : List PP) (x y u : Int) (w : World) (h : IsPs w a ps) :
    Calls Try.prog 5 #[.slice a ps.length cap, .int .i64 x, .int .u16 y, .slice a3 n3 c3, .int .u16 u] w fun e w' => IsBool e ∧ w' = w := by
  obtain ⟨hl, hc⟩ := h
  unfold maxLen at hl
  go_enter Try.func5, Try.ntmps5
  go_wp2
  · go_ret
    exact ⟨isBool_mk _, rfl⟩
  go_loop [11, 12] (fun z i => ∃ (k : Nat) (s : Int), k ≤ ps.length ∧ i = .int .i64 k ∧ z = .int .i64 s) (fun _ i => ps.length - (intOf i).toNat)
  case atStart => exact ⟨0, _, Nat.zero_le _, rfl, rfl⟩
  case round =>
    obtain ⟨k, s, hk, rfl, rfl⟩ := hrel
    by_cases hlt : k < ps.length
    · rcases hc with rfl | ⟨b, off, rfl, hb, hc⟩
      · simp at hlt
      obtain ⟨h0, h1⟩ := hc k hlt
      generalize ps.getD k dft = q at h0 h1
      clear hc
      go_wp2
      · go_ret
        exact ⟨isBool_mk _, rfl⟩
      · go_ret
        exact ⟨isBool_mk _, rfl⟩
      · go_round
        case rel => exact ⟨k + 1, _, by omega, by go_num, rfl⟩
        case measure => simp [intOf]; omega
    · go_wp2
      all_goals
        go_ret
        exact ⟨isBool_mk _, rfl⟩
end Go.Proofs.Qxb6627970a
