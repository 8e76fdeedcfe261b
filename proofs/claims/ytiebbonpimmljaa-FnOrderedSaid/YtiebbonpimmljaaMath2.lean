/- Plain numbers: the laws that join Floor, Ceil and Round. No program in sight; no condition but that an int64 is one. -/
import Derived.Test.YtiebbonpimmljaaMath
namespace Go.Proofs.Ytiebbonpimmljaa
open Go.RowKit

theorem both_law (b : Bool) (x y : Int) (h : I64 x) (hy : wrap64 (-x) = y) (hw : wholeB b x = true) (hv : wholeB b y = true) (hn : cutZ b x = cutZ b y → cutZ b x = 0) :
    ceilZ b x = -floorZ b y ∧ (ceilZ b x = floorZ b x ∨ ceilZ b x = floorZ b x + 1) ∧ (roundZ b x = floorZ b x ∨ roundZ b x = ceilZ b x) := by
  have hI : I64 y := by have := wrap64_bd (-x); unfold I64; omega
  rw [ceil_law b x h hw, round_law b x h hw]
  obtain ⟨h1, h2⟩ := h
  unfold wholeB at hw hv
  unfold floorZ sCeil sRound
  cases b
  · simp at hw hv
    simp only [cutZ_f] at hn
    simp only [cutZ_f, oneZ_f]
    have e : wrap32 y = wrap32 (-wrap32 x) := by rw [← hy]; unfold wrap64 wrap32; omega
    rw [e] at hn hv ⊢
    have hb := wrap32_bd x
    clear e hy hI
    generalize wrap32 x = z at *
    have hz : wrap32 (-z) = -z ∨ z = 0 ∨ z = -2147483648 := by unfold wrap32; omega
    rcases hz with hz | hz | hz
    · rw [hz] at hn hv ⊢; omega
    · subst hz; unfold wrap32 at *; omega
    · subst hz; unfold wrap32 at *; omega
  · simp at hw hv
    simp only [cutZ_t] at hn
    simp only [cutZ_t, oneZ_t]
    unfold wrap64 at hy
    omega
theorem floor_up (b : Bool) (x y : Int) (h : cutZ b x ≤ cutZ b y) : floorZ b x ≤ floorZ b y := by
  unfold floorZ; cases b
  · rw [oneZ_f]; omega
  · rw [oneZ_t]; omega
theorem ceil_up (b : Bool) (x y : Int) (hx : I64 x) (hy : I64 y) (h : cutZ b x ≤ cutZ b y) (hw : wholeB b x = true) (hv : wholeB b y = true) : ceilZ b x ≤ ceilZ b y := by
  rw [ceil_law b x hx hw, ceil_law b y hy hv]
  unfold sCeil; cases b
  · rw [oneZ_f]; omega
  · rw [oneZ_t]; omega
theorem round_up (b : Bool) (x y : Int) (hx : I64 x) (hy : I64 y) (h : cutZ b x ≤ cutZ b y) (hw : wholeB b x = true) (hv : wholeB b y = true) : roundZ b x ≤ roundZ b y := by
  rw [round_law b x hx hw, round_law b y hy hv]
  unfold sRound; cases b
  · rw [oneZ_f]; omega
  · rw [oneZ_t]; omega
theorem whole_down (b : Bool) (x y : Int) (h : cutZ b x ≤ cutZ b y) (hv : wholeB b y = true) : wholeB b x = true := by
  unfold wholeB at *
  cases b
  · rw [cutZ_f, cutZ_f] at h; simp at *; omega
  · rw [cutZ_t, cutZ_t] at h; simp at *; omega
theorem ceil_one (b : Bool) : ceilZ b 1 = 1 := by
  unfold ceilZ; cases b
  · simp; unfold wrap32; decide
  · simp; unfold wrap64; decide
end Go.Proofs.Ytiebbonpimmljaa
