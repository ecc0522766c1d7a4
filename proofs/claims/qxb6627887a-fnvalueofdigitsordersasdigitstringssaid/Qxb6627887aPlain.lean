/-
  Seat b6627887a: the plain law of input.ValueOfDigits: neighbouring digits joined into pairs, fours and the whole, by three multiplications.
-/
import Derived.Laws.BitsAllLaws
namespace Go.Proofs.Qxb6627887a

/-- Byte i of v, the lowest first. -/
def dg (v i : Nat) : Nat := v / 2 ^ (8 * i) % 256
/-- The number that the first k bytes of v write, the first the most significant. -/
def hn (v : Nat) : Nat → Nat
  | 0 => 0
  | k + 1 => hn v k * 10 + dg v k

theorem land_split (k a b : Nat) : a &&& b = ((a / 2 ^ k) &&& (b / 2 ^ k)) * 2 ^ k + ((a % 2 ^ k) &&& (b % 2 ^ k)) := by
  rw [← Nat.and_div_two_pow, ← Nat.and_mod_two_pow, Nat.mul_comm]
  exact (Nat.div_add_mod _ _).symm

theorem land_255 (x : Nat) : x &&& 255 = x % 256 := Nat.and_two_pow_sub_one_eq_mod x 8
theorem land_65535 (x : Nat) : x &&& 65535 = x % 65536 := Nat.and_two_pow_sub_one_eq_mod x 16

theorem land_bytes (x : Nat) : x &&& 71777214294589695 = (x / 281474976710656 % 256) * 281474976710656 + (x / 4294967296 % 256) * 4294967296 + (x / 65536 % 256) * 65536 + x % 256 := by
  rw [land_split 48 x, land_split 32 (x % 2 ^ 48), land_split 16 (x % 2 ^ 48 % 2 ^ 32)]
  simp only [Nat.reducePow, Nat.reduceDiv, Nat.reduceMod, land_255]
  omega
theorem land_words (x : Nat) : x &&& 281470681808895 = (x / 4294967296 % 65536) * 4294967296 + x % 65536 := by
  rw [land_split 32 x]
  simp only [Nat.reducePow, Nat.reduceDiv, Nat.reduceMod, land_65535]
  omega

/-- The three multiplications. -/
def sw (x : Nat) : Nat :=
  (((x * 2561 % 18446744073709551616 / 256 &&& 71777214294589695) * 6553601 % 18446744073709551616 / 65536 &&& 281470681808895) * 42949672960001 % 18446744073709551616) / 4294967296

theorem mod_of {a m : Nat} (q r : Nat) (h : a = r + m * q) (hr : r < m) : a % m = r := by
  rw [h, Nat.add_mul_mod_self_left, Nat.mod_eq_of_lt hr]
theorem div_of {a m : Nat} (q r : Nat) (h : a = r + m * q) (hr : r < m) : a / m = q := by
  rw [h, Nat.add_mul_div_left _ _ (by omega), Nat.div_eq_of_lt hr, Nat.zero_add]

theorem sw_one (b0 b1 b2 b3 b4 b5 b6 b7 : Nat) (h0 : b0 ≤ 9) (h1 : b1 ≤ 9) (h2 : b2 ≤ 9) (h3 : b3 ≤ 9) (h4 : b4 ≤ 9) (h5 : b5 ≤ 9) (h6 : b6 ≤ 9) (h7 : b7 ≤ 9) :
    ((b0 + 256 * b1 + 65536 * b2 + 16777216 * b3 + 4294967296 * b4 + 1099511627776 * b5 + 281474976710656 * b6 + 72057594037927936 * b7) * 2561 % 18446744073709551616 / 256 &&& 71777214294589695) =
      (b1 + 10 * b0) + 65536 * (b3 + 10 * b2) + 4294967296 * (b5 + 10 * b4) + 281474976710656 * (b7 + 10 * b6) := by
  rw [mod_of (10 * b7) (b0 + 256 * ((b1 + 10 * b0) + 256 * (b2 + 10 * b1) + 65536 * (b3 + 10 * b2) + 16777216 * (b4 + 10 * b3) + 4294967296 * (b5 + 10 * b4) + 1099511627776 * (b6 + 10 * b5) + 281474976710656 * (b7 + 10 * b6))) (by omega) (by omega),
    div_of _ b0 rfl (by omega), land_bytes]
  rw [div_of (m := 281474976710656) (b7 + 10 * b6) ((b1 + 10 * b0) + 256 * (b2 + 10 * b1) + 65536 * (b3 + 10 * b2) + 16777216 * (b4 + 10 * b3) + 4294967296 * (b5 + 10 * b4) + 1099511627776 * (b6 + 10 * b5)) rfl (by omega)]
  rw [div_of (m := 4294967296) ((b5 + 10 * b4) + 256 * ((b6 + 10 * b5) + 256 * (b7 + 10 * b6))) ((b1 + 10 * b0) + 256 * (b2 + 10 * b1) + 65536 * (b3 + 10 * b2) + 16777216 * (b4 + 10 * b3)) (by omega) (by omega)]
  rw [div_of (m := 65536) ((b3 + 10 * b2) + 256 * ((b4 + 10 * b3) + 256 * ((b5 + 10 * b4) + 256 * ((b6 + 10 * b5) + 256 * (b7 + 10 * b6))))) ((b1 + 10 * b0) + 256 * (b2 + 10 * b1)) (by omega) (by omega)]
  rw [mod_of (a := b7 + 10 * b6) 0 (b7 + 10 * b6) (by omega) (by omega)]
  rw [mod_of (a := (b5 + 10 * b4) + 256 * ((b6 + 10 * b5) + 256 * (b7 + 10 * b6))) _ (b5 + 10 * b4) rfl (by omega)]
  rw [mod_of (a := (b3 + 10 * b2) + 256 * ((b4 + 10 * b3) + 256 * ((b5 + 10 * b4) + 256 * ((b6 + 10 * b5) + 256 * (b7 + 10 * b6))))) _ (b3 + 10 * b2) rfl (by omega)]
  rw [mod_of (m := 256) ((b2 + 10 * b1) + 256 * ((b3 + 10 * b2) + 256 * ((b4 + 10 * b3) + 256 * ((b5 + 10 * b4) + 256 * ((b6 + 10 * b5) + 256 * (b7 + 10 * b6)))))) (b1 + 10 * b0) (by omega) (by omega)]
  omega

theorem sw_two (p0 p1 p2 p3 : Nat) (h0 : p0 ≤ 99) (h1 : p1 ≤ 99) (h2 : p2 ≤ 99) (h3 : p3 ≤ 99) :
    ((p0 + 65536 * p1 + 4294967296 * p2 + 281474976710656 * p3) * 6553601 % 18446744073709551616 / 65536 &&& 281470681808895) = (p1 + 100 * p0) + 4294967296 * (p3 + 100 * p2) := by
  rw [mod_of (100 * p3) (p0 + 65536 * ((p1 + 100 * p0) + 65536 * (p2 + 100 * p1) + 4294967296 * (p3 + 100 * p2))) (by omega) (by omega), div_of _ p0 rfl (by omega), land_words]
  rw [div_of (m := 4294967296) (p3 + 100 * p2) ((p1 + 100 * p0) + 65536 * (p2 + 100 * p1)) rfl (by omega)]
  rw [mod_of (a := p3 + 100 * p2) 0 (p3 + 100 * p2) (by omega) (by omega)]
  rw [mod_of (m := 65536) ((p2 + 100 * p1) + 65536 * (p3 + 100 * p2)) (p1 + 100 * p0) (by omega) (by omega)]
  omega

theorem sw_digits (b0 b1 b2 b3 b4 b5 b6 b7 : Nat) (h0 : b0 ≤ 9) (h1 : b1 ≤ 9) (h2 : b2 ≤ 9) (h3 : b3 ≤ 9) (h4 : b4 ≤ 9) (h5 : b5 ≤ 9) (h6 : b6 ≤ 9) (h7 : b7 ≤ 9) :
    sw (b0 + 256 * b1 + 65536 * b2 + 16777216 * b3 + 4294967296 * b4 + 1099511627776 * b5 + 281474976710656 * b6 + 72057594037927936 * b7) =
      10000000 * b0 + 1000000 * b1 + 100000 * b2 + 10000 * b3 + 1000 * b4 + 100 * b5 + 10 * b6 + b7 := by
  unfold sw
  rw [sw_one b0 b1 b2 b3 b4 b5 b6 b7 h0 h1 h2 h3 h4 h5 h6 h7, sw_two _ _ _ _ (by omega) (by omega) (by omega) (by omega)]
  rw [mod_of (10000 * (b7 + 10 * b6 + 100 * (b5 + 10 * b4))) ((b3 + 10 * b2 + 100 * (b1 + 10 * b0)) + 4294967296 * ((b7 + 10 * b6 + 100 * (b5 + 10 * b4)) + 10000 * (b3 + 10 * b2 + 100 * (b1 + 10 * b0)))) (by omega) (by omega)]
  rw [div_of _ (b3 + 10 * b2 + 100 * (b1 + 10 * b0)) rfl (by omega)]
  omega

/-- The first k bytes, as they lie. -/
def pre (v : Nat) : Nat → Nat
  | 0 => 0
  | k + 1 => pre v k + 2 ^ (8 * k) * dg v k
theorem pre_eq (v : Nat) : ∀ k, pre v k = v % 2 ^ (8 * k)
  | 0 => by simp [pre, Nat.mod_one]
  | k + 1 => by
    rw [pre, pre_eq v k, show 2 ^ (8 * (k + 1)) = 2 ^ (8 * k) * 256 by rw [Nat.mul_add, Nat.pow_add], Nat.mod_mul]
    rfl
theorem shl_eq (v n : Nat) (h : n ≤ 8) : v * 2 ^ (64 - 8 * n) % 18446744073709551616 = pre v n * 2 ^ (64 - 8 * n) := by
  rw [pre_eq, ← Nat.mul_mod_mul_right, ← Nat.pow_add, show 8 * n + (64 - 8 * n) = 64 by omega]

theorem sw_hn0 (v : Nat) : sw (pre v 0 * 18446744073709551616) = hn v 0 := by
  have h := sw_digits 0 0 0 0 0 0 0 0 (Nat.zero_le 9) (Nat.zero_le 9) (Nat.zero_le 9) (Nat.zero_le 9) (Nat.zero_le 9) (Nat.zero_le 9) (Nat.zero_le 9) (Nat.zero_le 9)
  simp only [Nat.mul_zero, Nat.add_zero] at h
  rw [pre, Nat.zero_mul, h, hn]
theorem sw_hn1 (v : Nat) (hd : ∀ i, i < 1 → dg v i ≤ 9) : sw (pre v 1 * 72057594037927936) = hn v 1 := by
  have e : pre v 1 * 72057594037927936 = 0 + 256 * 0 + 65536 * 0 + 16777216 * 0 + 4294967296 * 0 + 1099511627776 * 0 + 281474976710656 * 0 + 72057594037927936 * (dg v 0) := by simp only [pre, Nat.reduceMul, Nat.reducePow]; omega
  rw [e, sw_digits 0 0 0 0 0 0 0 (dg v 0) (Nat.zero_le 9) (Nat.zero_le 9) (Nat.zero_le 9) (Nat.zero_le 9) (Nat.zero_le 9) (Nat.zero_le 9) (Nat.zero_le 9) (hd 0 (by omega))]
  simp only [hn]
theorem sw_hn2 (v : Nat) (hd : ∀ i, i < 2 → dg v i ≤ 9) : sw (pre v 2 * 281474976710656) = hn v 2 := by
  have e : pre v 2 * 281474976710656 = 0 + 256 * 0 + 65536 * 0 + 16777216 * 0 + 4294967296 * 0 + 1099511627776 * 0 + 281474976710656 * (dg v 0) + 72057594037927936 * (dg v 1) := by simp only [pre, Nat.reduceMul, Nat.reducePow]; omega
  rw [e, sw_digits 0 0 0 0 0 0 (dg v 0) (dg v 1) (Nat.zero_le 9) (Nat.zero_le 9) (Nat.zero_le 9) (Nat.zero_le 9) (Nat.zero_le 9) (Nat.zero_le 9) (hd 0 (by omega)) (hd 1 (by omega))]
  simp only [hn]
  omega
theorem sw_hn3 (v : Nat) (hd : ∀ i, i < 3 → dg v i ≤ 9) : sw (pre v 3 * 1099511627776) = hn v 3 := by
  have e : pre v 3 * 1099511627776 = 0 + 256 * 0 + 65536 * 0 + 16777216 * 0 + 4294967296 * 0 + 1099511627776 * (dg v 0) + 281474976710656 * (dg v 1) + 72057594037927936 * (dg v 2) := by simp only [pre, Nat.reduceMul, Nat.reducePow]; omega
  rw [e, sw_digits 0 0 0 0 0 (dg v 0) (dg v 1) (dg v 2) (Nat.zero_le 9) (Nat.zero_le 9) (Nat.zero_le 9) (Nat.zero_le 9) (Nat.zero_le 9) (hd 0 (by omega)) (hd 1 (by omega)) (hd 2 (by omega))]
  simp only [hn]
  omega
theorem sw_hn4 (v : Nat) (hd : ∀ i, i < 4 → dg v i ≤ 9) : sw (pre v 4 * 4294967296) = hn v 4 := by
  have e : pre v 4 * 4294967296 = 0 + 256 * 0 + 65536 * 0 + 16777216 * 0 + 4294967296 * (dg v 0) + 1099511627776 * (dg v 1) + 281474976710656 * (dg v 2) + 72057594037927936 * (dg v 3) := by simp only [pre, Nat.reduceMul, Nat.reducePow]; omega
  rw [e, sw_digits 0 0 0 0 (dg v 0) (dg v 1) (dg v 2) (dg v 3) (Nat.zero_le 9) (Nat.zero_le 9) (Nat.zero_le 9) (Nat.zero_le 9) (hd 0 (by omega)) (hd 1 (by omega)) (hd 2 (by omega)) (hd 3 (by omega))]
  simp only [hn]
  omega
theorem sw_hn5 (v : Nat) (hd : ∀ i, i < 5 → dg v i ≤ 9) : sw (pre v 5 * 16777216) = hn v 5 := by
  have e : pre v 5 * 16777216 = 0 + 256 * 0 + 65536 * 0 + 16777216 * (dg v 0) + 4294967296 * (dg v 1) + 1099511627776 * (dg v 2) + 281474976710656 * (dg v 3) + 72057594037927936 * (dg v 4) := by simp only [pre, Nat.reduceMul, Nat.reducePow]; omega
  rw [e, sw_digits 0 0 0 (dg v 0) (dg v 1) (dg v 2) (dg v 3) (dg v 4) (Nat.zero_le 9) (Nat.zero_le 9) (Nat.zero_le 9) (hd 0 (by omega)) (hd 1 (by omega)) (hd 2 (by omega)) (hd 3 (by omega)) (hd 4 (by omega))]
  simp only [hn]
  omega
theorem sw_hn6 (v : Nat) (hd : ∀ i, i < 6 → dg v i ≤ 9) : sw (pre v 6 * 65536) = hn v 6 := by
  have e : pre v 6 * 65536 = 0 + 256 * 0 + 65536 * (dg v 0) + 16777216 * (dg v 1) + 4294967296 * (dg v 2) + 1099511627776 * (dg v 3) + 281474976710656 * (dg v 4) + 72057594037927936 * (dg v 5) := by simp only [pre, Nat.reduceMul, Nat.reducePow]; omega
  rw [e, sw_digits 0 0 (dg v 0) (dg v 1) (dg v 2) (dg v 3) (dg v 4) (dg v 5) (Nat.zero_le 9) (Nat.zero_le 9) (hd 0 (by omega)) (hd 1 (by omega)) (hd 2 (by omega)) (hd 3 (by omega)) (hd 4 (by omega)) (hd 5 (by omega))]
  simp only [hn]
  omega
theorem sw_hn7 (v : Nat) (hd : ∀ i, i < 7 → dg v i ≤ 9) : sw (pre v 7 * 256) = hn v 7 := by
  have e : pre v 7 * 256 = 0 + 256 * (dg v 0) + 65536 * (dg v 1) + 16777216 * (dg v 2) + 4294967296 * (dg v 3) + 1099511627776 * (dg v 4) + 281474976710656 * (dg v 5) + 72057594037927936 * (dg v 6) := by simp only [pre, Nat.reduceMul, Nat.reducePow]; omega
  rw [e, sw_digits 0 (dg v 0) (dg v 1) (dg v 2) (dg v 3) (dg v 4) (dg v 5) (dg v 6) (Nat.zero_le 9) (hd 0 (by omega)) (hd 1 (by omega)) (hd 2 (by omega)) (hd 3 (by omega)) (hd 4 (by omega)) (hd 5 (by omega)) (hd 6 (by omega))]
  simp only [hn]
  omega
theorem sw_hn8 (v : Nat) (hd : ∀ i, i < 8 → dg v i ≤ 9) : sw (pre v 8 * 1) = hn v 8 := by
  have e : pre v 8 * 1 = (dg v 0) + 256 * (dg v 1) + 65536 * (dg v 2) + 16777216 * (dg v 3) + 4294967296 * (dg v 4) + 1099511627776 * (dg v 5) + 281474976710656 * (dg v 6) + 72057594037927936 * (dg v 7) := by simp only [pre, Nat.reduceMul, Nat.reducePow]; omega
  rw [e, sw_digits (dg v 0) (dg v 1) (dg v 2) (dg v 3) (dg v 4) (dg v 5) (dg v 6) (dg v 7) (hd 0 (by omega)) (hd 1 (by omega)) (hd 2 (by omega)) (hd 3 (by omega)) (hd 4 (by omega)) (hd 5 (by omega)) (hd 6 (by omega)) (hd 7 (by omega))]
  simp only [hn]
  omega

/-- THE PLAIN LAW OF input.ValueOfDigits. -/
theorem sw_hn (v n : Nat) (hn8 : n ≤ 8) (hd : ∀ i, i < n → dg v i ≤ 9) : sw (v * 2 ^ (64 - 8 * n) % 18446744073709551616) = hn v n := by
  rw [shl_eq v n hn8]
  match n, hn8, hd with
  | 0, _, _ => exact sw_hn0 v
  | 1, _, hd => exact sw_hn1 v hd
  | 2, _, hd => exact sw_hn2 v hd
  | 3, _, hd => exact sw_hn3 v hd
  | 4, _, hd => exact sw_hn4 v hd
  | 5, _, hd => exact sw_hn5 v hd
  | 6, _, hd => exact sw_hn6 v hd
  | 7, _, hd => exact sw_hn7 v hd
  | 8, _, hd => exact sw_hn8 v hd
  | k + 9, h, _ => omega
end Go.Proofs.Qxb6627887a
