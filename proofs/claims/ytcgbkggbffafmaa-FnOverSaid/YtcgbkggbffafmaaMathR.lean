/- Plain rectangles: what Empty, In, Intersect, Union come to on four numbers each. No program in sight; no condition. -/
import Derived.Test.YtcgbkggbffafmaaMath
namespace Go.Proofs.Ytcgbkggbffafmaa
open Go.RowKit

def emptyB (x0 y0 x1 y1 : Int) : Bool := decide (x1 ≤ x0) || decide (y1 ≤ y0)
def hasB (x0 y0 x1 y1 px py : Int) : Bool := decide (x0 ≤ px) && decide (px < x1) && decide (y0 ≤ py) && decide (py < y1)
/-- All points of the first are in the second. -/
def inB (x0 y0 x1 y1 u0 v0 u1 v1 : Int) : Bool := emptyB x0 y0 x1 y1 || (decide (u0 ≤ x0) && decide (x1 ≤ u1) && decide (v0 ≤ y0) && decide (y1 ≤ v1))
/-- Intersect: a number, or 0 if the common rectangle is empty. -/
def iE (x0 y0 x1 y1 u0 v0 u1 v1 : Int) : Bool := emptyB (max x0 u0) (max y0 v0) (min x1 u1) (min y1 v1)
def pickZ (b : Bool) (x y : Int) : Int := if b then x else y
def iX0 (x0 y0 x1 y1 u0 v0 u1 v1 : Int) : Int := pickZ (iE x0 y0 x1 y1 u0 v0 u1 v1) 0 (max x0 u0)
def iY0 (x0 y0 x1 y1 u0 v0 u1 v1 : Int) : Int := pickZ (iE x0 y0 x1 y1 u0 v0 u1 v1) 0 (max y0 v0)
def iX1 (x0 y0 x1 y1 u0 v0 u1 v1 : Int) : Int := pickZ (iE x0 y0 x1 y1 u0 v0 u1 v1) 0 (min x1 u1)
def iY1 (x0 y0 x1 y1 u0 v0 u1 v1 : Int) : Int := pickZ (iE x0 y0 x1 y1 u0 v0 u1 v1) 0 (min y1 v1)
/-- Union: a number of the other one, if one is empty. -/
def uZ (e1 e2 : Bool) (x u m : Int) : Int := if e1 then u else if e2 then x else m
def uX0 (x0 y0 x1 y1 u0 v0 u1 v1 : Int) : Int := uZ (emptyB x0 y0 x1 y1) (emptyB u0 v0 u1 v1) x0 u0 (min x0 u0)
def uY0 (x0 y0 x1 y1 u0 v0 u1 v1 : Int) : Int := uZ (emptyB x0 y0 x1 y1) (emptyB u0 v0 u1 v1) y0 v0 (min y0 v0)
def uX1 (x0 y0 x1 y1 u0 v0 u1 v1 : Int) : Int := uZ (emptyB x0 y0 x1 y1) (emptyB u0 v0 u1 v1) x1 u1 (max x1 u1)
def uY1 (x0 y0 x1 y1 u0 v0 u1 v1 : Int) : Int := uZ (emptyB x0 y0 x1 y1) (emptyB u0 v0 u1 v1) y1 v1 (max y1 v1)

theorem max_of_le {a b : Int} (h : a ≤ b) : b = max a b := by omega
theorem max_of_ge {a b : Int} (h : b ≤ a) : a = max a b := by omega
theorem min_of_le {a b : Int} (h : a ≤ b) : a = min a b := by omega
theorem min_of_ge {a b : Int} (h : b ≤ a) : b = min a b := by omega
end Go.Proofs.Ytcgbkggbffafmaa
