/- Plain numbers: the product of two numbers of 64 bits without sign, bit by bit, and its rounding. No program in sight; no condition. -/
import Derived.Test.YtiebbonpimmljaaMathM
namespace Go.Proofs.Ytiebbonpimmljaa
open Go.RowKit

/-- One bit more of the second number. -/
theorem bit_step (x y : Int) (n : Nat) : x * (y / 2 ^ n) = 2 * (x * (y / 2 ^ (n + 1))) + x * (y / 2 ^ n % 2) := by
  have e : y / 2 ^ n = 2 * (y / 2 ^ (n + 1)) + y / 2 ^ n % 2 := by
    have h : y / 2 ^ (n + 1) = y / 2 ^ n / 2 := by
      rw [Int.pow_succ, Int.ediv_ediv_of_nonneg (by exact Int.le_of_lt (Int.pow_pos (by decide)))]
    rw [h]; omega
  have h2 : x * (y / 2 ^ n) = x * (2 * (y / 2 ^ (n + 1)) + y / 2 ^ n % 2) := by rw [← e]
  rw [h2, Int.mul_add, Int.mul_left_comm]
theorem shift_bd (y : Int) (n : Nat) (h0 : 0 ≤ y) (h1 : y < 18446744073709551616) : 0 ≤ y / 2 ^ n ∧ y / 2 ^ n < 18446744073709551616 := by
  have hp : (0 : Int) < 2 ^ n := Int.pow_pos (by decide)
  have a := Int.ediv_nonneg h0 (Int.le_of_lt hp)
  have b := Int.ediv_le_self (2 ^ n) h0
  omega
theorem shift_all (y : Int) (h0 : 0 ≤ y) (h1 : y < 18446744073709551616) : y / 2 ^ 64 = 0 := by
  have e : (2 : Int) ^ 64 = 18446744073709551616 := by decide
  rw [e]; omega
theorem prod_bd (x y : Int) (n : Nat) (hx0 : 0 ≤ x) (hx : x < 18446744073709551616) (h0 : 0 ≤ y) (h1 : y < 18446744073709551616) :
    0 ≤ x * (y / 2 ^ n) ∧ x * (y / 2 ^ n) ≤ 340282366920938463426481119284349108225 := by
  obtain ⟨a, b⟩ := shift_bd y n h0 h1
  have := mul_bd x (y / 2 ^ n) 18446744073709551615 18446744073709551615 hx0 (by omega) a (by omega)
  omega
/-- Two words hold a number. -/
def Two (H L T : Int) : Prop := 0 ≤ H ∧ H < 18446744073709551616 ∧ 0 ≤ L ∧ L < 18446744073709551616 ∧ H * 18446744073709551616 + L = T
theorem or_low (a b : Int) (ha0 : 0 ≤ a) (ha : a < 9223372036854775808) (hb0 : 0 ≤ b) (hb : b < 2) : bits .or .u64 (IntKind.u64.wrap (a * 2)) b = a * 2 + b := by
  rw [u64w, show a * 2 % 18446744073709551616 = a * 2 by omega, u64_or _ b (by omega) (by omega) hb0 (by omega), nat_join 1 _ _ (by omega) (by omega)]
  omega
/-- The round: the words are doubled. -/
theorem two_double (H L T : Int) (h : Two H L T) (hT : 2 * T ≤ 340282366920938463426481119284349108225) :
    Two (bits .or .u64 (IntKind.u64.wrap (H * 2)) (L / 9223372036854775808)) (IntKind.u64.wrap (L * 2)) (2 * T) := by
  obtain ⟨h1, h2, h3, h4, h5⟩ := h
  rw [or_low H _ h1 (by omega) (by omega) (by omega), u64w]
  unfold Two; omega
/-- .. and the first number is added. -/
theorem two_add (H L T x : Int) (h : Two H L T) (hx0 : 0 ≤ x) (hx : x < 18446744073709551616) (hT : T + x ≤ 340282366920938463426481119284349108225) :
    (IntKind.u64.wrap (L + x) < L → Two (IntKind.u64.wrap (H + 1)) (IntKind.u64.wrap (L + x)) (T + x)) ∧ (¬ IntKind.u64.wrap (L + x) < L → Two H (IntKind.u64.wrap (L + x)) (T + x)) := by
  obtain ⟨h1, h2, h3, h4, h5⟩ := h
  rw [u64w, u64w]
  unfold Two
  constructor <;> intro hc <;> omega
theorem two_is (H L T : Int) (h : Two H L T) : H = T / 18446744073709551616 ∧ L = T % 18446744073709551616 := by
  unfold Two at h; omega
end Go.Proofs.Ytiebbonpimmljaa
