/-
  Seat b6634866a: zzJoinCommon (function 7): the walk.
-/
import Derived.Test.Qxb6634866aHas
import Derived.Deep.QuietTactic
import Derived.BigQuiet
import Derived.WalkSmall
namespace Go.Proofs.Qxb6634866a
open Go.RowKit

/-- How many of the first k places of A hold a name that stands at no earlier place and that B has. -/
def cnt (A B : List (List UInt8)) : Nat → Nat
  | 0 => 0
  | k + 1 => cnt A B k + (if !hasB (A.take k) (A.getD k []) && hasB B (A.getD k []) then 1 else 0)

theorem cnt_le (A B : List (List UInt8)) : ∀ k, cnt A B k ≤ k
  | 0 => Nat.le_refl _
  | k + 1 => by have := cnt_le A B k; unfold cnt; split <;> omega

theorem getD_map_bl {A : List ByteArray} {k : Nat} (h : k < A.length) : (A.map bl).getD k [] = bl A[k] := by
  simp [List.getD, h]

theorem cnt_seen {A : List ByteArray} {B : List (List UInt8)} {k : Nat} (h : k < A.length) (hs : bl A[k] ∈ (A.map bl).take k) : cnt (A.map bl) B (k + 1) = cnt (A.map bl) B k := by
  conv => lhs; unfold cnt
  rw [getD_map_bl h]
  simp [hasB_true.2 hs]
theorem cnt_new {A : List ByteArray} {B : List (List UInt8)} {k : Nat} (h : k < A.length) (hs : bl A[k] ∉ (A.map bl).take k) : cnt (A.map bl) B (k + 1) = cnt (A.map bl) B k + (if hasB B (bl A[k]) = true then 1 else 0) := by
  have e : hasB ((A.map bl).take k) (bl A[k]) = false := by simp [hasB, hs]
  conv => lhs; unfold cnt
  rw [getD_map_bl h, e]
  simp

theorem cnt_yes {A : List ByteArray} {B : List (List UInt8)} {k : Nat} (h : k < A.length) (hs : bl A[k] ∉ (A.map bl).take k) (hb : hasB B (bl A[k]) = true) : Value.int .i64 ((cnt (A.map bl) B k : Int) + 1) = .int .i64 (cnt (A.map bl) B (k + 1) : Nat) := by
  rw [cnt_new h hs, if_pos hb]; rfl
theorem cnt_no {A : List ByteArray} {B : List (List UInt8)} {k : Nat} (h : k < A.length) (hs : bl A[k] ∉ (A.map bl).take k) (hb : hasB B (bl A[k]) = false) : Value.int .i64 (cnt (A.map bl) B k : Nat) = .int .i64 (cnt (A.map bl) B (k + 1) : Nat) := by
  rw [cnt_new h hs, hb]; rfl
theorem cnt_old {A : List ByteArray} {B : List (List UInt8)} {k q : Nat} (h : k < A.length) (hq : q < k) (he : ((A[q]?.getD ByteArray.empty).toList == A[k].toList) = true) : Value.int .i64 (cnt (A.map bl) B k : Nat) = .int .i64 (cnt (A.map bl) B (k + 1) : Nat) := by
  have e := eq_bl.1 he
  have hq' : q < A.length := by omega
  simp only [hq', getElem?_pos, Option.getD_some] at e
  rw [cnt_seen h]
  rw [← e]
  refine List.mem_iff_getElem.2 ⟨q, by simp; omega, by simp⟩
theorem no_step {A : List ByteArray} {k q : Nat} (h : k < A.length) (hq : q < k) (hno : bl A[k] ∉ (A.map bl).take q) (he : ((A[q]?.getD ByteArray.empty).toList == A[k].toList) = false) : bl A[k] ∉ (A.map bl).take (q + 1) := by
  have e := ne_bl.1 he
  have hq' : q < A.length := by omega
  simp only [hq', getElem?_pos, Option.getD_some] at e
  exact has_step hq' hno e

theorem IsStrs.drewN {w : World} {a : Option Addr} {ss : List ByteArray} (h : IsStrs w a ss) (n : Nat) : IsStrs (w.drewN n) a ss := h

set_option maxHeartbeats 1000000 in
theorem common_any (a1 a2 : Option Addr) (c1 c2 : Nat) (A B : List ByteArray) (w : World) (hA : IsStrs w a1 A) (hB : IsStrs w a2 B) :
    Calls Try.prog 7 #[.slice a1 A.length c1, .slice a2 B.length c2] w fun e w' => e = .returned (.int .i64 (cnt (A.map bl) (B.map bl) A.length)) ∧ ∃ n, w' = w.drewN n := by
  obtain ⟨hl, hs, rfl | ⟨b, off, rfl, hb, hc⟩⟩ := hA
  · go_enter Try.func7, Try.ntmps7
    go_wp2
    refine wp_loop_rounds 1 ?_
    rw [rounds_succ]
    go_wp2
    go_ret
    exact ⟨rfl, 0, rfl⟩
  · unfold maxLen at hl
    have HB : Hid (IsStrs w a2 B) := hB
    clear hB hs
    go_enter Try.func7, Try.ntmps7
    go_wp2
    go_loopw [5, 6] (fun c i wr => ∃ k n : Nat, k ≤ A.length ∧ i = .int .i64 k ∧ c = .int .i64 (cnt (A.map bl) (B.map bl) k) ∧ wr = w.drewN n) (fun _ i _ => A.length - (intOf i).toNat)
    case atStart => exact ⟨0, 0, Nat.zero_le _, rfl, rfl, rfl⟩
    case round =>
      obtain ⟨k, n, hk, rfl, rfl, rfl⟩ := hrel
      have hcl := cnt_le (A.map bl) (B.map bl) k
      by_cases hlt : k < A.length
      · have hck := hc k hlt
        go_wp2
        go_loopw [7, 8] (fun s j wr => ∃ q m : Nat, q ≤ k ∧ j = .int .i64 q ∧ s = .bool false ∧ wr = w.drewN m ∧ bl A[k] ∉ (A.map bl).take q) (fun _ j _ => k - (intOf j).toNat)
        case atStart => exact ⟨0, n, Nat.zero_le _, rfl, rfl, rfl, by simp⟩
        case round =>
          obtain ⟨q, m, hq, rfl, rfl, rfl, hno⟩ := hrel
          by_cases hqk : q < k
          · have hcq := hc q (by omega)
            go_wp2
            go_quiet (fail)
            go_wp2
            · have he : ((A[q]?.getD ByteArray.empty).toList == A[k].toList) = true := by assumption
              have h2 := cnt_old (B := B.map bl) hlt hqk he
              go_roundw
              case rel => exact ⟨k + 1, _, by omega, by go_num, h2, rfl⟩
              case measure => simp [intOf]; omega
            · have he : ((A[q]?.getD ByteArray.empty).toList == A[k].toList) = false := by assumption
              have h2 := no_step hlt hqk hno he
              go_roundw
              case rel => exact ⟨q + 1, _, by omega, by go_num, rfl, rfl, h2⟩
              case measure => simp [intOf]; omega
          · have : q = k := by omega
            subst this
            go_wp2_with (go_at_call 11; refine (has_any _ _ _ _ _ (HB.out.drewN _)).mono ?_; rintro e w' ⟨rfl, rfl⟩)
            · have he : hasB (List.map bl B) (bl A[q]) = true := by assumption
              have h2 := cnt_yes hlt hno he
              go_roundw
              case rel => exact ⟨q + 1, _, by omega, by go_num, h2, rfl⟩
              case measure => simp [intOf]; omega
            · have he : hasB (List.map bl B) (bl A[q]) = false := by assumption
              have h2 := cnt_no hlt hno he
              go_roundw
              case rel => exact ⟨q + 1, _, by omega, by go_num, h2, rfl⟩
              case measure => simp [intOf]; omega
      · go_wp2
        go_ret
        have : k = A.length := by omega
        subst this
        exact ⟨rfl, n, rfl⟩
end Go.Proofs.Qxb6634866a
