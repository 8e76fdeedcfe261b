/- Plain numbers: a point times a number. No program in sight; no condition but that an int64 is one. -/
import Derived.Test.YtcgbkggbffafmaaMathM
namespace Go.Proofs.Ytcgbkggbffafmaa
open Go.RowKit

def tmL (x k : Int) : Int := wrap64 ((wrap64 (x * k)).tdiv 4096)
def tmS (x k : Int) : Int := wrap32 ((wrap32 (x * k)).tdiv 64)
def timesZ (b : Bool) (x k : Int) : Int := if b then tmL x k else tmS (wrap32 x) (wrap32 k)
theorem timesZ_t (x k : Int) : timesZ true x k = tmL x k := rfl
theorem timesZ_f (x k : Int) : timesZ false x k = tmS (wrap32 x) (wrap32 k) := rfl
def sizeZ (x : Int) : Int := max x (wrap64 (-x))
/-- The product has room, as the law asks it: of the three sizes. -/
def roomB (b : Bool) (X Y K : Int) : Bool :=
  if b then decide (X < 1099511627776) && decide (0 ≤ X) && decide (Y < 1099511627776) && decide (0 ≤ Y) && decide (K < 4194304) && decide (0 ≤ K)
  else decide (X < 2147483648) && decide (0 ≤ X) && decide (Y < 2147483648) && decide (0 ≤ Y) && decide (K < 2147483648) && decide (0 ≤ K) && decide (X * K < 2147483648) && decide (Y * K < 2147483648)
def smallB (b : Bool) (x y k : Int) : Bool := roomB b (sizeZ x) (sizeZ y) (sizeZ k)
theorem sizeZ_bd (x : Int) (h : I64 x) : -9223372036854775808 ≤ sizeZ x ∧ sizeZ x ≤ 9223372036854775807 := by
  obtain ⟨_, _⟩ := h; unfold sizeZ wrap64; omega
theorem size_in (x : Int) (h : I64 x) (h0 : 0 ≤ sizeZ x) : -sizeZ x ≤ x ∧ x ≤ sizeZ x ∧ (sizeZ x = x ∨ sizeZ x = -x) := by
  obtain ⟨_, _⟩ := h; unfold sizeZ wrap64 at *; omega
/-- The quotient that is cut, and its rest. -/
theorem tdiv_in (p d : Int) (hd : 0 < d) : -d < d * p.tdiv d - p ∧ d * p.tdiv d - p < d := by
  have h := Int.mul_tdiv_add_tmod p d
  have h1 := Int.tmod_lt_of_pos p hd
  have h2 := Int.lt_tmod_of_pos p hd
  omega
theorem tdiv_bd (p d A : Int) (hd : 1 ≤ d) (h1 : -A ≤ p) (h2 : p ≤ A) : -A ≤ p.tdiv d ∧ p.tdiv d ≤ A := by
  by_cases hp : 0 ≤ p
  · rw [Int.tdiv_eq_ediv_of_nonneg hp]
    have a := Int.ediv_nonneg hp (show 0 ≤ d by omega)
    have b := Int.ediv_le_self d hp
    omega
  · have e := Int.neg_tdiv p d
    rw [Int.tdiv_eq_ediv_of_nonneg (a := -p) (by omega)] at e
    have a := Int.ediv_nonneg (show 0 ≤ -p by omega) (show 0 ≤ d by omega)
    have b := Int.ediv_le_self d (show 0 ≤ -p by omega)
    omega
/-- The product of one number and k, with room: what Times gives, exactly. -/
theorem times_t (x k : Int) (hx : I64 x) (hk : I64 k) (h1 : sizeZ x < 1099511627776) (h2 : 0 ≤ sizeZ x) (h3 : sizeZ k < 4194304) (h4 : 0 ≤ sizeZ k) :
    ∃ p, x * k = p ∧ -4611686018427387904 ≤ p ∧ p ≤ 4611686018427387904 ∧ timesZ true x k = p.tdiv 4096 := by
  obtain ⟨a1, a2, _⟩ := size_in x hx h2
  obtain ⟨b1, b2, _⟩ := size_in k hk h4
  have hp := small_mul x k 1099511627776 4194304 (by omega) (by omega) (by omega) (by omega)
  refine ⟨_, rfl, by omega, by omega, ?_⟩
  rw [timesZ_t]; unfold tmL
  generalize x * k = p at *
  have e : wrap64 p = p := by unfold wrap64; omega
  rw [e]
  have := tdiv_bd p 4096 4611686018427387904 (by omega) (by omega) (by omega)
  unfold wrap64; omega
theorem times_f (x k : Int) (hx : I64 x) (hk : I64 k) (h1 : sizeZ x < 2147483648) (h2 : 0 ≤ sizeZ x) (h3 : sizeZ k < 2147483648) (h4 : 0 ≤ sizeZ k) (h5 : sizeZ x * sizeZ k < 2147483648) :
    ∃ p, x * k = p ∧ -2147483647 ≤ p ∧ p ≤ 2147483647 ∧ timesZ false x k = p.tdiv 64 := by
  obtain ⟨a1, a2, a3⟩ := size_in x hx h2
  obtain ⟨b1, b2, b3⟩ := size_in k hk h4
  have hp : -2147483647 ≤ x * k ∧ x * k ≤ 2147483647 := by
    have hn := Int.mul_nonneg h2 h4
    rcases a3 with a3 | a3 <;> rcases b3 with b3 | b3 <;> rw [a3, b3] at h5 hn
    · omega
    · rw [Int.mul_neg] at h5 hn; omega
    · rw [Int.neg_mul] at h5 hn; omega
    · rw [Int.neg_mul_neg] at h5 hn; omega
  refine ⟨_, rfl, by omega, by omega, ?_⟩
  rw [timesZ_f, show wrap32 x = x by unfold wrap32; omega, show wrap32 k = k by unfold wrap32; omega]
  unfold tmS
  generalize x * k = p at *
  have e : wrap32 p = p := by unfold wrap32; omega
  rw [e]
  have := tdiv_bd p 64 2147483647 (by omega) (by omega) (by omega)
  unfold wrap32; omega
end Go.Proofs.Ytcgbkggbffafmaa
