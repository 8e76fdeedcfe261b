/- Plain numbers: the product of two numbers of 64 bits in two words, and what Mul comes to. No program in sight; no condition but that an int64 is one. -/
import Derived.Test.YtcgbkggbffafmaaMath
import Derived.Laws.BitsAllLaws
import Derived.Laws.BitsAll
import Derived.Laws.Bits128
import Derived.Laws.Bits64
namespace Go.Proofs.Ytcgbkggbffafmaa
open Go.RowKit

theorem i64_and32 (n : Int) : bits .and .i64 n 4294967295 = n % 4294967296 := by
  have h127 : (BitVec.ofInt 64 4294967295).toNat = 2 ^ 32 - 1 := by decide
  have key : (BitVec.ofInt 64 n &&& BitVec.ofInt 64 4294967295).toNat = (n % ((2 ^ 64 : Nat) : Int)).toNat % 2 ^ 32 := by
    rw [BitVec.toNat_and, BitVec.toNat_ofInt, h127, Nat.and_two_pow_sub_one_eq_mod]
  show IntKind.i64.wrap ((BitVec.ofInt 64 n &&& BitVec.ofInt 64 4294967295).toNat : Nat) = n % 4294967296
  rw [key, IntKind.wrap_i64]
  omega
theorem u64_and32 (n : Int) (h0 : 0 ≤ n) (h1 : n < 18446744073709551616) : bits .and .u64 n 4294967295 = n % 4294967296 := by
  rw [u64_and n 4294967295 h0 h1 (by decide) (by decide)]
  have := Nat.and_two_pow_sub_one_eq_mod n.toNat 32
  have e : (4294967295 : Int).toNat = 2 ^ 32 - 1 := by decide
  rw [e, this]
  omega
theorem u64_and1 (n : Int) (h0 : 0 ≤ n) (h1 : n < 18446744073709551616) : bits .and .u64 n 1 = n % 2 := by
  rw [u64_and n 1 h0 h1 (by decide) (by decide)]
  have := Nat.and_two_pow_sub_one_eq_mod n.toNat 1
  have e : (1 : Int).toNat = 2 ^ 1 - 1 := by decide
  rw [e, this]
  omega
theorem u64_orhi (a b : Int) (hb0 : 0 ≤ b) (hb : b < 4503599627370496) : bits .or .u64 (a * 4503599627370496 % 18446744073709551616) b = a * 4503599627370496 % 18446744073709551616 + b := by
  have hA0 : 0 ≤ a * 4503599627370496 % 18446744073709551616 := by omega
  have hA1 : a * 4503599627370496 % 18446744073709551616 < 18446744073709551616 := by omega
  rw [u64_or _ b hA0 hA1 hb0 (by omega)]
  rw [nat_join 52 _ _ (by omega) (by omega)]
  omega

/-- The four products of the half words. -/
theorem split_mul (x1 x0 y1 y0 : Int) : (x1 * 4294967296 + x0) * (y1 * 4294967296 + y0) = x1 * y1 * 18446744073709551616 + (x1 * y0 + x0 * y1) * 4294967296 + x0 * y0 := by
  have e : (18446744073709551616 : Int) = 4294967296 * 4294967296 := by decide
  rw [e]
  generalize (4294967296 : Int) = m
  simp only [Int.mul_add, Int.mul_comm, Int.mul_left_comm]
  omega
theorem mul_bd (a b A B : Int) (ha : 0 ≤ a) (hA : a ≤ A) (hb : 0 ≤ b) (hB : b ≤ B) : 0 ≤ a * b ∧ a * b ≤ A * B :=
  ⟨Int.mul_nonneg ha hb, Int.mul_le_mul hA hB hb (by omega)⟩
/-- A signed half word times an unsigned one. -/
theorem mul_half (a b : Int) (h1 : -2147483648 ≤ a) (h2 : a ≤ 2147483647) (h3 : 0 ≤ b) (h4 : b ≤ 4294967295) : -9223372034707292160 ≤ a * b ∧ a * b ≤ 9223372030412324865 := by
  by_cases ha : 0 ≤ a
  · have := mul_bd a b 2147483647 4294967295 ha h2 h3 h4
    omega
  · have := mul_bd (-a) b 2147483648 4294967295 (by omega) (by omega) h3 h4
    rw [Int.neg_mul] at this
    omega
theorem u64w (n : Int) : IntKind.u64.wrap n = n % 18446744073709551616 := IntKind.wrap_u64 n

def loZ (x y : Int) : Int := x * y % 18446744073709551616
def hiZ (x y : Int) : Int := x * y / 18446744073709551616 % 18446744073709551616
theorem loZ_bd (x y : Int) : 0 ≤ loZ x y ∧ loZ x y < 18446744073709551616 := by unfold loZ; omega
theorem hiZ_bd (x y : Int) : 0 ≤ hiZ x y ∧ hiZ x y < 18446744073709551616 := by unfold hiZ; omega

theorem mod_mul (a b m : Int) : (a % m) * (b % m) % m = a * b % m := by rw [← Int.mul_emod]
theorem mul_lo (x y : Int) : IntKind.u64.wrap (IntKind.u64.wrap x * IntKind.u64.wrap y) = loZ x y := by
  simp only [u64w]; rw [mod_mul]; rfl
theorem mod_mul_l (a b m : Int) (h : b % m = b) : (a % m) * b % m = a * b % m := by
  have := mod_mul a b m; rwa [h] at this
theorem mod_mul_r (a b m : Int) (h : b % m = b) : b * (a % m) % m = b * a % m := by
  have := mod_mul b a m; rwa [h] at this

/-- The high word, in the steps of the code. -/
theorem mul_hi (x y : Int) (hx : I64 x) (hy : I64 y) :
    IntKind.u64.wrap (IntKind.u64.wrap (IntKind.u64.wrap (IntKind.u64.wrap (x / 4294967296) * IntKind.u64.wrap (y / 4294967296)) +
      IntKind.u64.wrap (wrap64 (IntKind.u64.wrap (IntKind.u64.wrap (IntKind.u64.wrap (x / 4294967296) * IntKind.u64.wrap (bits BinOp.and IntKind.i64 y 4294967295)) +
        IntKind.u64.wrap (IntKind.u64.wrap (bits BinOp.and IntKind.i64 x 4294967295) * IntKind.u64.wrap (bits BinOp.and IntKind.i64 y 4294967295)) / 4294967296)) / 4294967296)) +
      IntKind.u64.wrap (wrap64 (IntKind.u64.wrap (bits BinOp.and IntKind.u64 (IntKind.u64.wrap (IntKind.u64.wrap (IntKind.u64.wrap (x / 4294967296) * IntKind.u64.wrap (bits BinOp.and IntKind.i64 y 4294967295)) +
        IntKind.u64.wrap (IntKind.u64.wrap (bits BinOp.and IntKind.i64 x 4294967295) * IntKind.u64.wrap (bits BinOp.and IntKind.i64 y 4294967295)) / 4294967296)) 4294967295 +
        IntKind.u64.wrap (IntKind.u64.wrap (bits BinOp.and IntKind.i64 x 4294967295) * IntKind.u64.wrap (y / 4294967296)))) / 4294967296)) = hiZ x y := by
  obtain ⟨hx1, hx2⟩ := hx
  obtain ⟨hy1, hy2⟩ := hy
  rw [i64_and32, i64_and32]
  have ex : x = x / 4294967296 * 4294967296 + x % 4294967296 := by omega
  have ey : y = y / 4294967296 * 4294967296 + y % 4294967296 := by omega
  have es := split_mul (x / 4294967296) (x % 4294967296) (y / 4294967296) (y % 4294967296)
  rw [← ex, ← ey] at es
  unfold hiZ
  rw [es]
  have b1 : -2147483648 ≤ x / 4294967296 ∧ x / 4294967296 ≤ 2147483647 := by omega
  have b2 : -2147483648 ≤ y / 4294967296 ∧ y / 4294967296 ≤ 2147483647 := by omega
  have b3 : 0 ≤ x % 4294967296 ∧ x % 4294967296 ≤ 4294967295 := by omega
  have b4 : 0 ≤ y % 4294967296 ∧ y % 4294967296 ≤ 4294967295 := by omega
  clear ex ey es
  generalize x / 4294967296 = x1 at *
  generalize x % 4294967296 = x0 at *
  generalize y / 4294967296 = y1 at *
  generalize y % 4294967296 = y0 at *
  have c1 := mul_bd x0 y0 4294967295 4294967295 b3.1 b3.2 b4.1 b4.2
  have c2 := mul_half x1 y0 b1.1 b1.2 b4.1 b4.2
  have c3 := mul_half y1 x0 b2.1 b2.2 b3.1 b3.2
  rw [Int.mul_comm y1 x0] at c3
  simp only [u64w]
  rw [show x0 % 18446744073709551616 = x0 by omega, show y0 % 18446744073709551616 = y0 by omega]
  rw [mod_mul_l x1 y0 18446744073709551616 (by omega), mod_mul_r y1 x0 18446744073709551616 (by omega), mod_mul]
  generalize x0 * y0 = d at *
  generalize x1 * y0 = p at *
  generalize x0 * y1 = q at *
  generalize x1 * y1 = r at *
  rw [u64_and32 _ (by omega) (by omega)]
  unfold wrap64
  omega

/-- What Mul comes to. -/
def mulZ (b : Bool) (x y : Int) : Int := if b then wrap64 ((x * y + 2048) / 4096) else wrap32 ((wrap32 x * wrap32 y + 32) / 64)
theorem mulZ_t (x y : Int) : mulZ true x y = wrap64 ((x * y + 2048) / 4096) := rfl
theorem mulZ_f (x y : Int) : mulZ false x y = wrap32 ((wrap32 x * wrap32 y + 32) / 64) := rfl
theorem mulL_law (x y : Int) : wrap64 (wrap64 (bits BinOp.or IntKind.u64 (IntKind.u64.wrap (hiZ x y * 4503599627370496)) (loZ x y / 4096)) + wrap64 (bits BinOp.and IntKind.u64 (loZ x y / 2048) 1)) = mulZ true x y := by
  obtain ⟨b1, b2⟩ := loZ_bd x y
  obtain ⟨b3, b4⟩ := hiZ_bd x y
  rw [u64w, u64_orhi _ _ (by omega) (by omega), u64_and1 _ (by omega) (by omega), mulZ_t]
  unfold hiZ loZ
  clear b1 b2 b3 b4
  generalize x * y = p
  unfold wrap64
  omega
theorem small_mul (a b A B : Int) (h1 : -A ≤ a) (h2 : a ≤ A) (h3 : -B ≤ b) (h4 : b ≤ B) : -(A * B) ≤ a * b ∧ a * b ≤ A * B := by
  by_cases ha : 0 ≤ a <;> by_cases hb : 0 ≤ b
  · have := mul_bd a b A B ha h2 hb h4; omega
  · have := mul_bd a (-b) A B ha h2 (by omega) (by omega)
    rw [Int.mul_neg] at this; omega
  · have := mul_bd (-a) b A B (by omega) (by omega) hb h4
    rw [Int.neg_mul] at this; omega
  · have := mul_bd (-a) (-b) A B (by omega) (by omega) (by omega) (by omega)
    rw [Int.neg_mul_neg] at this; omega
theorem wrap32_mul (x y : Int) : -4611686018427387904 ≤ wrap32 x * wrap32 y ∧ wrap32 x * wrap32 y ≤ 4611686018427387904 := by
  have h1 := wrap32_bd x
  have h2 := wrap32_bd y
  have := small_mul (wrap32 x) (wrap32 y) 2147483648 2147483648 (by omega) (by omega) (by omega) (by omega)
  omega
theorem wrap64_32' (x : Int) : wrap64 (wrap32 x) = wrap32 x := by unfold wrap64 wrap32; omega
theorem mulS_law (x y : Int) : wrap64 (wrap32 (wrap64 (wrap64 (wrap64 (wrap32 x) * wrap64 (wrap32 y)) + 32) / 64)) = mulZ false x y := by
  have h := wrap32_mul x y
  rw [wrap64_32', wrap64_32', wrap64_32', mulZ_f]
  generalize wrap32 x * wrap32 y = p at *
  have e1 : wrap64 p = p := by unfold wrap64; omega
  have e2 : wrap64 (p + 32) = p + 32 := by unfold wrap64; omega
  rw [e1, e2]
theorem mulZ_bd (b : Bool) (x y : Int) : -9223372036854775808 ≤ mulZ b x y ∧ mulZ b x y ≤ 9223372036854775807 := by
  cases b
  · have := wrap32_bd ((wrap32 x * wrap32 y + 32) / 64); rw [mulZ_f]; omega
  · exact wrap64_bd _
theorem mulZ_comm (b : Bool) (x y : Int) : mulZ b x y = mulZ b y x := by
  cases b
  · rw [mulZ_f, mulZ_f, Int.mul_comm]
  · rw [mulZ_t, mulZ_t, Int.mul_comm]
theorem mulZ_one (b : Bool) (x : Int) (h : I64 x) : mulZ b x (oneZ b) = cutZ b x := by
  obtain ⟨h1, h2⟩ := h
  cases b
  · have hb := wrap32_bd x
    have e : wrap32 64 = 64 := by unfold wrap32; decide
    rw [oneZ_f, mulZ_f, cutZ_f, e]
    generalize wrap32 x = z at *
    unfold wrap32; omega
  · rw [oneZ_t, mulZ_t, cutZ_t]
    unfold wrap64; omega
theorem mulZ_whole (b : Bool) (x n : Int) (h1 : -1048576 ≤ x) (h2 : x ≤ 1048576) (h3 : -1000 ≤ n) (h4 : n ≤ 1000) : mulZ b x (oneZ b * n) = n * x := by
  have hp := small_mul n x 1000 1048576 (by omega) (by omega) (by omega) (by omega)
  have e : n * x = x * n := Int.mul_comm _ _
  cases b
  · have e1 : wrap32 x = x := by unfold wrap32; omega
    have e2 : wrap32 (64 * n) = 64 * n := by unfold wrap32; omega
    have e3 : x * (64 * n) = 64 * (n * x) := by rw [Int.mul_left_comm, e]
    rw [oneZ_f, mulZ_f, e1, e2, e3]
    generalize n * x = p at *
    unfold wrap32; omega
  · have e3 : x * (4096 * n) = 4096 * (n * x) := by rw [Int.mul_left_comm, e]
    rw [oneZ_t, mulZ_t, e3]
    generalize n * x = p at *
    unfold wrap64; omega
theorem mulZ_three (b : Bool) : mulZ b (oneZ b) 3 = 3 := by
  cases b
  · rw [oneZ_f, mulZ_f]; unfold wrap32; decide
  · rw [oneZ_t, mulZ_t]; unfold wrap64; decide
/-- A product is near, whatever the numbers (wide), modulo 2^64. -/
theorem near_t (p : Int) : -2047 ≤ wrap64 (4096 * wrap64 ((p + 2048) / 4096) - p) ∧ wrap64 (4096 * wrap64 ((p + 2048) / 4096) - p) ≤ 2048 := by
  unfold wrap64; omega
theorem near_f (p : Int) (h1 : -68719476736 ≤ p) (h2 : p ≤ 68719476736) : -31 ≤ 64 * wrap32 ((p + 32) / 64) - p ∧ 64 * wrap32 ((p + 32) / 64) - p ≤ 32 := by
  unfold wrap32; omega
end Go.Proofs.Ytcgbkggbffafmaa
