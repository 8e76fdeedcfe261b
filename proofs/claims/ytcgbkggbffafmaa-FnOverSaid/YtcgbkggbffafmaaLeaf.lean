/- What the functions on points and rectangles come to that call no other one (or Empty alone): for every value; they make memory and turn nothing that was there. The only condition: a number of 32 bits is one. -/
import Derived.Test.YtcgbkggbffafmaaStruct
import Derived.Test.YtcgbkggbffafmaaMathR
namespace Go.Proofs.Ytcgbkggbffafmaa
open Go.RowKit

def I32 (x : Int) : Prop := -2147483648 ≤ x ∧ x ≤ 2147483647
theorem i32_wrap (x : Int) : I32 (wrap32 x) := wrap32_bd x
theorem large_any (x y : Int) (w : World) : Calls Try.prog 50 #[.agg #[.int .i64 x, .int .i64 y]] w fun e w' => e = .returned (.agg #[.int .i64 x, .int .i64 y]) ∧ Below w.heap.size w w' := by
  go_enter Try.func50, Try.ntmps50
  go_wp2
  simp [bodyPost, results, Try.results50, go_sem]
  exact (by repeat (first | exact Below.refl _ _ | apply Below.drew | (refine Below.setCell ?_ (by first | (simp; done) | (simp; omega)) _) | (refine Below.alloc ?_ (by first | exact Nat.le_refl _ | (simp; done) | (simp; omega)) _)))
theorem small_any (x y : Int) (w : World) : Calls Try.prog 52 #[.agg #[.int .i64 x, .int .i64 y]] w fun e w' => e = .returned (.agg #[.int .i32 (wrap32 x), .int .i32 (wrap32 y)]) ∧ Below w.heap.size w w' := by
  go_enter Try.func52, Try.ntmps52
  go_wp2
  simp [bodyPost, results, Try.results52, go_sem]
  exact (by repeat (first | exact Below.refl _ _ | apply Below.drew | (refine Below.setCell ?_ (by first | (simp; done) | (simp; omega)) _) | (refine Below.alloc ?_ (by first | exact Nat.le_refl _ | (simp; done) | (simp; omega)) _)))
theorem ofLarge_any (x y : Int) (w : World) : Calls Try.prog 55 #[.agg #[.int .i64 x, .int .i64 y]] w fun e w' => e = .returned (.agg #[.int .i64 x, .int .i64 y]) ∧ Below w.heap.size w w' := by
  go_enter Try.func55, Try.ntmps55
  go_wp2
  simp [bodyPost, results, Try.results55, go_sem]
  exact (by repeat (first | exact Below.refl _ _ | apply Below.drew | (refine Below.setCell ?_ (by first | (simp; done) | (simp; omega)) _) | (refine Below.alloc ?_ (by first | exact Nat.le_refl _ | (simp; done) | (simp; omega)) _)))
theorem ofSmall_any (x y : Int) (hx : I32 x) (hy : I32 y) (w : World) : Calls Try.prog 57 #[.agg #[.int .i32 x, .int .i32 y]] w fun e w' => e = .returned (.agg #[.int .i64 x, .int .i64 y]) ∧ Below w.heap.size w w' := by
  obtain ⟨h1, h2⟩ := hx
  obtain ⟨h3, h4⟩ := hy
  go_enter Try.func57, Try.ntmps57
  go_wp2
  simp [bodyPost, results, Try.results57, go_sem]
  exact (by repeat (first | exact Below.refl _ _ | apply Below.drew | (refine Below.setCell ?_ (by first | (simp; done) | (simp; omega)) _) | (refine Below.alloc ?_ (by first | exact Nat.le_refl _ | (simp; done) | (simp; omega)) _)))
theorem emptyL_any (x0 y0 x1 y1 : Int) (w : World) : Calls Try.prog 48 #[.agg #[.int .i64 x0, .int .i64 y0, .int .i64 x1, .int .i64 y1]] w fun e w' => e = .returned (.bool (emptyB x0 y0 x1 y1)) ∧ Below w.heap.size w w' := by
  by_cases c1 : x1 ≤ x0 <;> by_cases c2 : y1 ≤ y0
  all_goals
    go_enter Try.func48, Try.ntmps48
    go_wp2
    go_ret
    exact ⟨ret_bool (by simp [emptyB]; omega), (by repeat (first | exact Below.refl _ _ | apply Below.drew | (refine Below.setCell ?_ (by first | (simp; done) | (simp; omega)) _) | (refine Below.alloc ?_ (by first | exact Nat.le_refl _ | (simp; done) | (simp; omega)) _)))⟩
theorem emptyS_any (x0 y0 x1 y1 : Int) (w : World) : Calls Try.prog 49 #[.agg #[.int .i32 x0, .int .i32 y0, .int .i32 x1, .int .i32 y1]] w fun e w' => e = .returned (.bool (emptyB x0 y0 x1 y1)) ∧ Below w.heap.size w w' := by
  by_cases c1 : x1 ≤ x0 <;> by_cases c2 : y1 ≤ y0
  all_goals
    go_enter Try.func49, Try.ntmps49
    go_wp2
    go_ret
    exact ⟨ret_bool (by simp [emptyB]; omega), (by repeat (first | exact Below.refl _ _ | apply Below.drew | (refine Below.setCell ?_ (by first | (simp; done) | (simp; omega)) _) | (refine Below.alloc ?_ (by first | exact Nat.le_refl _ | (simp; done) | (simp; omega)) _)))⟩
theorem emptySpec_any (x0 y0 x1 y1 : Int) (w : World) : Calls Try.prog 21 #[.agg #[.int .i64 x0, .int .i64 y0, .int .i64 x1, .int .i64 y1]] w fun e w' => e = .returned (.bool (emptyB x0 y0 x1 y1)) ∧ Below w.heap.size w w' := by
  by_cases c1 : x1 ≤ x0 <;> by_cases c2 : y1 ≤ y0
  all_goals
    go_enter Try.func21, Try.ntmps21
    go_wp2
    go_ret
    exact ⟨ret_bool (by simp [emptyB]; omega), (by repeat (first | exact Below.refl _ _ | apply Below.drew | (refine Below.setCell ?_ (by first | (simp; done) | (simp; omega)) _) | (refine Below.alloc ?_ (by first | exact Nat.le_refl _ | (simp; done) | (simp; omega)) _)))⟩
theorem hasL_any (px py x0 y0 x1 y1 : Int) (w : World) : Calls Try.prog 51 #[.agg #[.int .i64 px, .int .i64 py], .agg #[.int .i64 x0, .int .i64 y0, .int .i64 x1, .int .i64 y1]] w fun e w' => e = .returned (.bool (hasB x0 y0 x1 y1 px py)) ∧ Below w.heap.size w w' := by
  by_cases c1 : x0 ≤ px
  · by_cases c2 : px < x1
    · by_cases c3 : y0 ≤ py
      · by_cases c4 : py < y1
        all_goals
          go_enter Try.func51, Try.ntmps51
          go_wp2
          go_ret
          exact ⟨ret_bool (by simp [hasB]; omega), (by repeat (first | exact Below.refl _ _ | apply Below.drew | (refine Below.setCell ?_ (by first | (simp; done) | (simp; omega)) _) | (refine Below.alloc ?_ (by first | exact Nat.le_refl _ | (simp; done) | (simp; omega)) _)))⟩
      · go_enter Try.func51, Try.ntmps51
        go_wp2
        go_ret
        exact ⟨ret_bool (by simp [hasB]; omega), (by repeat (first | exact Below.refl _ _ | apply Below.drew | (refine Below.setCell ?_ (by first | (simp; done) | (simp; omega)) _) | (refine Below.alloc ?_ (by first | exact Nat.le_refl _ | (simp; done) | (simp; omega)) _)))⟩
    · go_enter Try.func51, Try.ntmps51
      go_wp2
      go_ret
      exact ⟨ret_bool (by simp [hasB]; omega), (by repeat (first | exact Below.refl _ _ | apply Below.drew | (refine Below.setCell ?_ (by first | (simp; done) | (simp; omega)) _) | (refine Below.alloc ?_ (by first | exact Nat.le_refl _ | (simp; done) | (simp; omega)) _)))⟩
  · go_enter Try.func51, Try.ntmps51
    go_wp2
    go_ret
    exact ⟨ret_bool (by simp [hasB]; omega), (by repeat (first | exact Below.refl _ _ | apply Below.drew | (refine Below.setCell ?_ (by first | (simp; done) | (simp; omega)) _) | (refine Below.alloc ?_ (by first | exact Nat.le_refl _ | (simp; done) | (simp; omega)) _)))⟩
theorem hasS_any (px py x0 y0 x1 y1 : Int) (w : World) : Calls Try.prog 53 #[.agg #[.int .i32 px, .int .i32 py], .agg #[.int .i32 x0, .int .i32 y0, .int .i32 x1, .int .i32 y1]] w fun e w' => e = .returned (.bool (hasB x0 y0 x1 y1 px py)) ∧ Below w.heap.size w w' := by
  by_cases c1 : x0 ≤ px
  · by_cases c2 : px < x1
    · by_cases c3 : y0 ≤ py
      · by_cases c4 : py < y1
        all_goals
          go_enter Try.func53, Try.ntmps53
          go_wp2
          go_ret
          exact ⟨ret_bool (by simp [hasB]; omega), (by repeat (first | exact Below.refl _ _ | apply Below.drew | (refine Below.setCell ?_ (by first | (simp; done) | (simp; omega)) _) | (refine Below.alloc ?_ (by first | exact Nat.le_refl _ | (simp; done) | (simp; omega)) _)))⟩
      · go_enter Try.func53, Try.ntmps53
        go_wp2
        go_ret
        exact ⟨ret_bool (by simp [hasB]; omega), (by repeat (first | exact Below.refl _ _ | apply Below.drew | (refine Below.setCell ?_ (by first | (simp; done) | (simp; omega)) _) | (refine Below.alloc ?_ (by first | exact Nat.le_refl _ | (simp; done) | (simp; omega)) _)))⟩
    · go_enter Try.func53, Try.ntmps53
      go_wp2
      go_ret
      exact ⟨ret_bool (by simp [hasB]; omega), (by repeat (first | exact Below.refl _ _ | apply Below.drew | (refine Below.setCell ?_ (by first | (simp; done) | (simp; omega)) _) | (refine Below.alloc ?_ (by first | exact Nat.le_refl _ | (simp; done) | (simp; omega)) _)))⟩
  · go_enter Try.func53, Try.ntmps53
    go_wp2
    go_ret
    exact ⟨ret_bool (by simp [hasB]; omega), (by repeat (first | exact Below.refl _ _ | apply Below.drew | (refine Below.setCell ?_ (by first | (simp; done) | (simp; omega)) _) | (refine Below.alloc ?_ (by first | exact Nat.le_refl _ | (simp; done) | (simp; omega)) _)))⟩
theorem hasSpec_any (x0 y0 x1 y1 px py : Int) (w : World) : Calls Try.prog 25 #[.agg #[.int .i64 x0, .int .i64 y0, .int .i64 x1, .int .i64 y1], .int .i64 px, .int .i64 py] w fun e w' => e = .returned (.bool (hasB x0 y0 x1 y1 px py)) ∧ Below w.heap.size w w' := by
  by_cases c1 : x0 ≤ px
  · by_cases c2 : px < x1
    · by_cases c3 : y0 ≤ py
      · by_cases c4 : py < y1
        all_goals
          go_enter Try.func25, Try.ntmps25
          go_wp2
          go_ret
          exact ⟨ret_bool (by simp [hasB]; omega), (by repeat (first | exact Below.refl _ _ | apply Below.drew | (refine Below.setCell ?_ (by first | (simp; done) | (simp; omega)) _) | (refine Below.alloc ?_ (by first | exact Nat.le_refl _ | (simp; done) | (simp; omega)) _)))⟩
      · go_enter Try.func25, Try.ntmps25
        go_wp2
        go_ret
        exact ⟨ret_bool (by simp [hasB]; omega), (by repeat (first | exact Below.refl _ _ | apply Below.drew | (refine Below.setCell ?_ (by first | (simp; done) | (simp; omega)) _) | (refine Below.alloc ?_ (by first | exact Nat.le_refl _ | (simp; done) | (simp; omega)) _)))⟩
    · go_enter Try.func25, Try.ntmps25
      go_wp2
      go_ret
      exact ⟨ret_bool (by simp [hasB]; omega), (by repeat (first | exact Below.refl _ _ | apply Below.drew | (refine Below.setCell ?_ (by first | (simp; done) | (simp; omega)) _) | (refine Below.alloc ?_ (by first | exact Nat.le_refl _ | (simp; done) | (simp; omega)) _)))⟩
  · go_enter Try.func25, Try.ntmps25
    go_wp2
    go_ret
    exact ⟨ret_bool (by simp [hasB]; omega), (by repeat (first | exact Below.refl _ _ | apply Below.drew | (refine Below.setCell ?_ (by first | (simp; done) | (simp; omega)) _) | (refine Below.alloc ?_ (by first | exact Nat.le_refl _ | (simp; done) | (simp; omega)) _)))⟩
end Go.Proofs.Ytcgbkggbffafmaa
