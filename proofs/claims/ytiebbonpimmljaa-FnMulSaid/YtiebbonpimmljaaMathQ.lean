/- Plain numbers: the rounding of a product of two words. No program in sight; no condition. -/
import Derived.Test.YtiebbonpimmljaaMathP
namespace Go.Proofs.Ytiebbonpimmljaa
open Go.RowKit

def absZ (x : Int) : Int := if x < 0 then -x else x
theorem absZ_bd (x : Int) (h : I64 x) : 0 ≤ absZ x ∧ absZ x ≤ 9223372036854775808 := by
  obtain ⟨_, _⟩ := h; unfold absZ; split <;> omega
theorem size_neg (x : Int) (h : I64 x) (hx : x < 0) : IntKind.u64.wrap (-IntKind.u64.wrap x) = absZ x := by
  obtain ⟨_, _⟩ := h; unfold absZ; rw [if_pos hx, u64w, u64w]; omega
theorem size_pos (x : Int) (h : I64 x) (hx : ¬ x < 0) : IntKind.u64.wrap x = absZ x := by
  obtain ⟨_, _⟩ := h; unfold absZ; rw [if_neg hx, u64w]; omega
/-- The product by the sizes. -/
theorem abs_same (x y : Int) (h : x < 0 ↔ y < 0) : x * y = absZ x * absZ y := by
  unfold absZ
  by_cases hx : x < 0
  · rw [if_pos hx, if_pos (h.1 hx), Int.neg_mul_neg]
  · rw [if_neg hx, if_neg (fun e => hx (h.2 e))]
theorem abs_other (x y : Int) (h : ¬ (x < 0 ↔ y < 0)) : x * y = -(absZ x * absZ y) := by
  unfold absZ
  by_cases hx : x < 0
  · have hy : ¬ y < 0 := fun e => h ⟨fun _ => e, fun _ => hx⟩
    rw [if_pos hx, if_neg hy, Int.neg_mul, Int.neg_neg]
  · have hy : y < 0 := by
      by_cases hy : y < 0
      · exact hy
      · exact absurd ⟨fun e => absurd e hx, fun e => absurd e hy⟩ h
    rw [if_neg hx, if_pos hy, Int.mul_neg, Int.neg_neg]
theorem abs_prod (x y : Int) (hx : I64 x) (hy : I64 y) : 0 ≤ absZ x * absZ y ∧ absZ x * absZ y ≤ 85070591730234615865843651857942052864 := by
  have a := absZ_bd x hx
  have b := absZ_bd y hy
  have := mul_bd (absZ x) (absZ y) 9223372036854775808 9223372036854775808 (by omega) (by omega) (by omega) (by omega)
  omega
theorem or_q6 (H L : Int) (h0 : 0 ≤ H) (h : H < 16) (l0 : 0 ≤ L) (l : L < 18446744073709551616) : bits .or .u64 (IntKind.u64.wrap (H * 288230376151711744)) (L / 64) = H * 288230376151711744 + L / 64 := by
  rw [u64w, show H * 288230376151711744 % 18446744073709551616 = H * 288230376151711744 by omega, u64_or _ _ (by omega) (by omega) (by omega) (by omega), nat_join 58 _ _ (by omega) (by omega)]
  omega
theorem or_q12 (H L : Int) (h0 : 0 ≤ H) (h : H < 1024) (l0 : 0 ≤ L) (l : L < 18446744073709551616) : bits .or .u64 (IntKind.u64.wrap (H * 4503599627370496)) (L / 4096) = H * 4503599627370496 + L / 4096 := by
  rw [u64w, show H * 4503599627370496 % 18446744073709551616 = H * 4503599627370496 by omega, u64_or _ _ (by omega) (by omega) (by omega) (by omega), nat_join 52 _ _ (by omega) (by omega)]
  omega
theorem u64_and63 (n : Int) (h0 : 0 ≤ n) (h1 : n < 18446744073709551616) : bits .and .u64 n 63 = n % 64 := by
  rw [u64_and n 63 h0 h1 (by decide) (by decide)]
  have := Nat.and_two_pow_sub_one_eq_mod n.toNat 6
  have e : (63 : Int).toNat = 2 ^ 6 - 1 := by decide
  rw [e, this]
  omega
theorem u64_and4095 (n : Int) (h0 : 0 ≤ n) (h1 : n < 18446744073709551616) : bits .and .u64 n 4095 = n % 4096 := by
  rw [u64_and n 4095 h0 h1 (by decide) (by decide)]
  have := Nat.and_two_pow_sub_one_eq_mod n.toNat 12
  have e : (4095 : Int).toNat = 2 ^ 12 - 1 := by decide
  rw [e, this]
  omega
/-- The nearest number of parts, of two the greater one. -/
def nearZ (b : Bool) (p : Int) : Int := (p + oneZ b / 2) / oneZ b
theorem nearZ_t (p : Int) : nearZ true p = (p + 2048) / 4096 := rfl
theorem nearZ_f (p : Int) : nearZ false p = (p + 32) / 64 := rfl
theorem near_mul (b : Bool) (x y z : Int) (h : z = nearZ b (cutZ b x * cutZ b y)) (hz : I64 z) (hc : z = cutZ b z) : mulZ b x y = z := by
  obtain ⟨_, _⟩ := hz
  cases b
  · rw [mulZ_f]; rw [nearZ_f, cutZ_f, cutZ_f] at h; rw [← h]; exact hc.symm
  · rw [mulZ_t]; rw [nearZ_t, cutZ_t, cutZ_t] at h; rw [← h]; unfold wrap64; omega
end Go.Proofs.Ytiebbonpimmljaa
