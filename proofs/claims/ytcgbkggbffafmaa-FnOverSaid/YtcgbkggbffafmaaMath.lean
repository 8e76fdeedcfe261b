/- Plain numbers: what the functions of the fixed point package come to. No program in sight; no condition. -/
import Derived.RowKit
import Derived.IntWalk
import Derived.WalkArith
namespace Go.Proofs.Ytcgbkggbffafmaa
open Go.RowKit

/-- A number cut to its size. -/
def cutZ (b : Bool) (x : Int) : Int := if b then x else wrap32 x
/-- The parts of one. -/
def oneZ (b : Bool) : Int := if b then 4096 else 64
/-- It is a number of 64 bits. -/
def I64 (x : Int) : Prop := -9223372036854775808 ≤ x ∧ x ≤ 9223372036854775807
theorem i64_of_wf {x : Int} (h : (Lit.int .i64 x).wf = true) : I64 x := by
  simp [Lit.wf, IntKind.min, IntKind.max, IntKind.signed, IntKind.bits] at h
  exact ⟨by omega, by omega⟩
theorem cutZ_t (x : Int) : cutZ true x = x := rfl
theorem cutZ_f (x : Int) : cutZ false x = wrap32 x := rfl
theorem oneZ_t : oneZ true = 4096 := rfl
theorem oneZ_f : oneZ false = 64 := rfl
theorem oneZ_bd (b : Bool) : 64 ≤ oneZ b ∧ oneZ b ≤ 4096 := by cases b <;> decide
theorem wrap32_bd (x : Int) : -2147483648 ≤ wrap32 x ∧ wrap32 x ≤ 2147483647 := by unfold wrap32; omega
theorem wrap64_bd (x : Int) : -9223372036854775808 ≤ wrap64 x ∧ wrap64 x ≤ 9223372036854775807 := by unfold wrap64; omega
theorem cutZ_bd (b : Bool) (x : Int) (h : I64 x) : -9223372036854775808 ≤ cutZ b x ∧ cutZ b x ≤ 9223372036854775807 := by
  cases b
  · have := wrap32_bd x; rw [cutZ_f]; omega
  · exact h
theorem cutZ_i64 (b : Bool) (x : Int) (h : I64 x) : I64 (cutZ b x) := cutZ_bd b x h
theorem cutZ_cut (b : Bool) (x : Int) : cutZ b (cutZ b x) = cutZ b x := by
  cases b
  · simp only [cutZ_f]; unfold wrap32; omega
  · rfl

/-- Room for the next whole number. -/
def wholeB (b : Bool) (x : Int) : Bool := if b then decide (x ≤ 9223372036854771711) else decide (wrap32 x ≤ 2147483583)
def floorZ (b : Bool) (x : Int) : Int := cutZ b x / oneZ b
def ceilZ (b : Bool) (x : Int) : Int := if b then wrap64 (x + 4095) / 4096 else wrap32 (wrap32 x + 63) / 64
def roundZ (b : Bool) (x : Int) : Int := if b then wrap64 (x + 2048) / 4096 else wrap32 (wrap32 x + 32) / 64
/-- The reference's. -/
def sFloor (b : Bool) (x : Int) : Int := x / oneZ b
def sCeil (b : Bool) (x : Int) : Int := -((-x) / oneZ b)
def sRound (b : Bool) (x : Int) : Int := (2 * x + oneZ b) / (2 * oneZ b)

theorem floorZ_bd (b : Bool) (x : Int) (h : I64 x) : -2251799813685248 ≤ floorZ b x ∧ floorZ b x ≤ 2251799813685247 := by
  obtain ⟨h1, h2⟩ := h
  unfold floorZ
  cases b
  · have := wrap32_bd x; rw [cutZ_f, oneZ_f]; omega
  · rw [cutZ_t, oneZ_t]; omega
theorem ceilZ_bd (b : Bool) (x : Int) : -2251799813685248 ≤ ceilZ b x ∧ ceilZ b x ≤ 2251799813685247 := by
  unfold ceilZ
  cases b
  · have := wrap32_bd (wrap32 x + 63); simp; omega
  · have := wrap64_bd (x + 4095); simp; omega
theorem roundZ_bd (b : Bool) (x : Int) : -2251799813685248 ≤ roundZ b x ∧ roundZ b x ≤ 2251799813685247 := by
  unfold roundZ
  cases b
  · have := wrap32_bd (wrap32 x + 32); simp; omega
  · have := wrap64_bd (x + 2048); simp; omega
theorem sFloor_bd (b : Bool) (x : Int) (h : I64 x) : -144115188075855872 ≤ sFloor b x ∧ sFloor b x ≤ 144115188075855872 := by
  obtain ⟨h1, h2⟩ := h
  unfold sFloor; cases b
  · rw [oneZ_f]; omega
  · rw [oneZ_t]; omega
theorem sCeil_bd (b : Bool) (x : Int) (h : I64 x) : -144115188075855872 ≤ sCeil b x ∧ sCeil b x ≤ 144115188075855872 := by
  obtain ⟨h1, h2⟩ := h
  unfold sCeil; cases b
  · rw [oneZ_f]; omega
  · rw [oneZ_t]; omega
theorem sRound_bd (b : Bool) (x : Int) (h : I64 x) : -144115188075855872 ≤ sRound b x ∧ sRound b x ≤ 144115188075855872 := by
  obtain ⟨h1, h2⟩ := h
  unfold sRound; cases b
  · rw [oneZ_f]; omega
  · rw [oneZ_t]; omega

/-- Go's division of a number below 0, with its rest. -/
theorem tdiv_below (x k : Int) (h : x < 0) : x.tdiv k = -((-x) / k) := by
  have h2 := Int.neg_tdiv x k
  rw [Int.tdiv_eq_ediv_of_nonneg (a := -x) (by omega)] at h2
  omega
theorem tmod_below (x k : Int) (h : x < 0) : x.tmod k = -((-x) % k) := by
  have h2 := Int.neg_tmod x k
  rw [Int.tmod_eq_emod_of_nonneg (a := -x) (by omega)] at h2
  omega
/-- The quotient and the rest, as plain numbers. -/
theorem below_64 (x : Int) (h : x < 0) : ∃ q r : Int, x.tdiv 64 = q ∧ x.tmod 64 = r ∧ 64 * q + r ≤ x ∧ x ≤ 64 * q + r ∧ -63 ≤ r ∧ r ≤ 0 :=
  ⟨-((-x) / 64), -((-x) % 64), tdiv_below x 64 h, tmod_below x 64 h, by omega, by omega, by omega, by omega⟩
theorem below_4096 (x : Int) (h : x < 0) : ∃ q r : Int, x.tdiv 4096 = q ∧ x.tmod 4096 = r ∧ 4096 * q + r ≤ x ∧ x ≤ 4096 * q + r ∧ -4095 ≤ r ∧ r ≤ 0 :=
  ⟨-((-x) / 4096), -((-x) % 4096), tdiv_below x 4096 h, tmod_below x 4096 h, by omega, by omega, by omega, by omega⟩

/-! The laws of Floor, Ceil, Round. -/
theorem floor_law (b : Bool) (x : Int) : floorZ b x = sFloor b (cutZ b x) := rfl
theorem ceil_law (b : Bool) (x : Int) (h : I64 x) (hw : wholeB b x = true) : ceilZ b x = sCeil b (cutZ b x) := by
  obtain ⟨h1, h2⟩ := h
  unfold wholeB at hw
  unfold ceilZ sCeil
  cases b
  · simp at hw
    have := wrap32_bd x
    rw [cutZ_f, oneZ_f]
    simp only [Bool.false_eq_true, if_false]
    generalize wrap32 x = y at *
    unfold wrap32; omega
  · simp at hw
    rw [cutZ_t, oneZ_t]
    simp only [if_true]
    unfold wrap64; omega
theorem round_law (b : Bool) (x : Int) (h : I64 x) (hw : wholeB b x = true) : roundZ b x = sRound b (cutZ b x) := by
  obtain ⟨h1, h2⟩ := h
  unfold wholeB at hw
  unfold roundZ sRound
  cases b
  · simp at hw
    have := wrap32_bd x
    rw [cutZ_f, oneZ_f]
    simp only [Bool.false_eq_true, if_false]
    generalize wrap32 x = y at *
    unfold wrap32; omega
  · simp at hw
    rw [cutZ_t, oneZ_t]
    simp only [if_true]
    unfold wrap64; omega
end Go.Proofs.Ytcgbkggbffafmaa
