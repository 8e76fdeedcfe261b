/- Plain rectangles: the laws of Empty, In, Intersect and Union on numbers. No program in sight; no condition. -/
import Derived.Test.YtcgbkggbffafmaaMathR
namespace Go.Proofs.Ytcgbkggbffafmaa
open Go.RowKit

theorem pickZ_t (x y : Int) : pickZ true x y = x := rfl
theorem pickZ_f (x y : Int) : pickZ false x y = y := rfl
theorem emptyB_iff (x0 y0 x1 y1 : Int) : emptyB x0 y0 x1 y1 = true ↔ x1 ≤ x0 ∨ y1 ≤ y0 := by simp [emptyB]
theorem emptyB_not (x0 y0 x1 y1 : Int) : emptyB x0 y0 x1 y1 = false ↔ x0 < x1 ∧ y0 < y1 := by simp [emptyB]
theorem iE_left (x0 y0 x1 y1 u0 v0 u1 v1 : Int) (h : emptyB x0 y0 x1 y1 = true) : iE x0 y0 x1 y1 u0 v0 u1 v1 = true := by
  unfold iE; rw [emptyB_iff] at h ⊢; omega
theorem iE_right (x0 y0 x1 y1 u0 v0 u1 v1 : Int) (h : emptyB u0 v0 u1 v1 = true) : iE x0 y0 x1 y1 u0 v0 u1 v1 = true := by
  unfold iE; rw [emptyB_iff] at h ⊢; omega
/-- A point is in Intersect if it is in both. -/
theorem has_inter (x0 y0 x1 y1 u0 v0 u1 v1 px py : Int) : hasB (iX0 x0 y0 x1 y1 u0 v0 u1 v1) (iY0 x0 y0 x1 y1 u0 v0 u1 v1) (iX1 x0 y0 x1 y1 u0 v0 u1 v1) (iY1 x0 y0 x1 y1 u0 v0 u1 v1) px py = (hasB x0 y0 x1 y1 px py && hasB u0 v0 u1 v1 px py) := by
  unfold iX0 iY0 iX1 iY1
  cases h : iE x0 y0 x1 y1 u0 v0 u1 v1
  · simp only [pickZ_f]
    rw [Bool.eq_iff_iff]; simp [hasB]; omega
  · simp only [pickZ_t]
    unfold iE at h
    rw [emptyB_iff] at h
    rw [Bool.eq_iff_iff]; simp [hasB]; omega
end Go.Proofs.Ytcgbkggbffafmaa
