/- What I, P and R of the thin package come to, for whole numbers below 2^25 and from -2^25 on (R: with the smaller numbers first); they make memory and turn nothing that was there. -/
import Derived.Test.YtiebbonpimmljaaStruct
import Derived.Deep.RegionHeld3
namespace Go.Proofs.Ytiebbonpimmljaa
open Go.RowKit

def I32 (x : Int) : Prop := -2147483648 ≤ x ∧ x ≤ 2147483647
def R25 (x : Int) : Prop := -33554432 ≤ x ∧ x < 33554432
theorem i32_64 {x : Int} (h : R25 x) : I32 (x * 64) := by obtain ⟨_, _⟩ := h; unfold I32; omega
theorem iI_any (x : Int) (h : R25 x) (w : World) : Calls Try.prog 22 #[.int .i64 x] w fun e w' => e = .returned (.int .i64 (x * 64)) ∧ w = w' := by
  obtain ⟨h1, h2⟩ := h
  go_enter Try.func22, Try.ntmps22
  go_wp2
  go_ret
  exact ⟨rfl, rfl⟩
theorem ofSmall_any (x y : Int) (hx : I32 x) (hy : I32 y) (w : World) : Calls Try.prog 39 #[.agg #[.int .i32 x, .int .i32 y]] w fun e w' => e = .returned (.agg #[.int .i64 x, .int .i64 y]) ∧ Below w.heap.size w w' := by
  obtain ⟨h1, h2⟩ := hx
  obtain ⟨h3, h4⟩ := hy
  go_enter Try.func39, Try.ntmps39
  go_wp2
  simp [bodyPost, results, Try.results39, go_sem]
  exact (by repeat (first | (with_reducible exact Below.refl _ _) | (with_reducible apply Below.drew) | (with_reducible refine Below.alloc ?_ (by first | exact Nat.le_refl _ | (simp; done) | (simp; omega)) _)))
set_option maxHeartbeats 4000000 in
theorem ofSmallRect_any (x0 y0 x1 y1 : Int) (j0 : I32 x0) (j1 : I32 y0) (j2 : I32 x1) (j3 : I32 y1) (w : World) : Calls Try.prog 41 #[.agg #[.int .i32 x0, .int .i32 y0, .int .i32 x1, .int .i32 y1]] w fun e w' => e = .returned (.agg #[.int .i64 x0, .int .i64 y0, .int .i64 x1, .int .i64 y1]) ∧ Below w.heap.size w w' := by
  go_enter Try.func41, Try.ntmps41
  go_wp2
  go_region_held3 (fun w' => w'.cell? ⟨w.heap.size, 0, none⟩ = some (.int .i32 x0) ∧ w'.cell? ⟨w.heap.size, 1, none⟩ = some (.int .i32 y0) ∧ w'.cell? ⟨w.heap.size, 2, none⟩ = some (.int .i32 x1) ∧ w'.cell? ⟨w.heap.size, 3, none⟩ = some (.int .i32 y1))
    (first | (with_reducible exact ⟨f0, f1, f2, f3⟩) | (simp [go_sem]; done) | (simp [go_sem, f0, f1, f2, f3]; done))
    (first
      | (go_at_call 39; (with_reducible refine (ofSmall_any _ _ (by assumption) (by assumption) _).mono ?_); rintro e w1 ⟨rfl, hb⟩; (first | (replace g4 := keepf hb f4 g4; replace g5 := keepf hb f5 g5; replace g6 := keepf hb f6 g6; replace g7 := keepf hb f7 g7; replace f0 := keepc hb f0; replace f1 := keepc hb f1; replace f2 := keepc hb f2; replace f3 := keepc hb f3; replace f4 := keepc hb f4; replace f5 := keepc hb f5; replace f6 := keepc hb f6; replace f7 := keepc hb f7; replace B := keepb B hb) | (have f0 := keepc hb (p := ⟨w.heap.size, 0, none⟩) (v := .int .i32 x0) (by simp [go_sem]); have f1 := keepc hb (p := ⟨w.heap.size, 1, none⟩) (v := .int .i32 y0) (by simp [go_sem]); have f2 := keepc hb (p := ⟨w.heap.size, 2, none⟩) (v := .int .i32 x1) (by simp [go_sem]); have f3 := keepc hb (p := ⟨w.heap.size, 3, none⟩) (v := .int .i32 y1) (by simp [go_sem]); have f4 := keepc hb (p := ⟨w.heap.size + 1, 0, none⟩) (v := .int .i64 0) (by simp [go_sem]); have f5 := keepc hb (p := ⟨w.heap.size + 1, 1, none⟩) (v := .int .i64 0) (by simp [go_sem]); have f6 := keepc hb (p := ⟨w.heap.size + 1, 2, none⟩) (v := .int .i64 0) (by simp [go_sem]); have f7 := keepc hb (p := ⟨w.heap.size + 1, 3, none⟩) (v := .int .i64 0) (by simp [go_sem]); have g4 := keepf hb (p := ⟨w.heap.size + 1, 0, none⟩) (v := .int .i64 0) (by simp [go_sem]) (by simp [go_sem]); have g5 := keepf hb (p := ⟨w.heap.size + 1, 1, none⟩) (v := .int .i64 0) (by simp [go_sem]) (by simp [go_sem]); have g6 := keepf hb (p := ⟨w.heap.size + 1, 2, none⟩) (v := .int .i64 0) (by simp [go_sem]) (by simp [go_sem]); have g7 := keepf hb (p := ⟨w.heap.size + 1, 3, none⟩) (v := .int .i64 0) (by simp [go_sem]) (by simp [go_sem]); have B := keepb (w := w) (by repeat (first | (with_reducible exact Below.refl _ _) | (with_reducible apply Below.drew) | (with_reducible refine Below.alloc ?_ (by first | exact Nat.le_refl _ | (simp; done) | (simp; omega)) _))) hb)); clear hb))
  go_wp2
  simp [bodyPost, results, Try.results41, go_sem, f4, f5, f6, f7]
  exact (by repeat (first | (with_reducible exact B) | (with_reducible exact Below.refl _ _) | (with_reducible apply Below.drew) | (with_reducible refine Below.setCell ?_ (by first | (simp; done) | (simp; omega)) _) | (with_reducible refine Below.alloc ?_ (by first | exact Nat.le_refl _ | (simp; done) | (simp; omega)) _)))
theorem fixP_any (x y : Int) (hx : R25 x) (hy : R25 y) (w : World) : Calls Try.prog 40 #[.int .i64 x, .int .i64 y] w fun e w' => e = .returned (.agg #[.int .i32 (x * 64), .int .i32 (y * 64)]) ∧ Below w.heap.size w w' := by
  obtain ⟨h1, h2⟩ := hx
  obtain ⟨h3, h4⟩ := hy
  go_enter Try.func40, Try.ntmps40
  go_wp2
  simp [bodyPost, results, Try.results40, go_sem]
  exact (by repeat (first | (with_reducible exact Below.refl _ _) | (with_reducible apply Below.drew) | (with_reducible refine Below.alloc ?_ (by first | exact Nat.le_refl _ | (simp; done) | (simp; omega)) _)))
theorem fixR_any (x0 y0 x1 y1 : Int) (k0 : R25 x0) (k1 : R25 y0) (k2 : R25 x1) (k3 : R25 y1) (hx : x0 ≤ x1) (hy : y0 ≤ y1) (w : World) : Calls Try.prog 42 #[.int .i64 x0, .int .i64 y0, .int .i64 x1, .int .i64 y1] w fun e w' => e = .returned (.agg #[.int .i32 (x0 * 64), .int .i32 (y0 * 64), .int .i32 (x1 * 64), .int .i32 (y1 * 64)]) ∧ Below w.heap.size w w' := by
  obtain ⟨_, _⟩ := k0
  obtain ⟨_, _⟩ := k1
  obtain ⟨_, _⟩ := k2
  obtain ⟨_, _⟩ := k3
  go_enter Try.func42, Try.ntmps42
  go_wp2
  simp [bodyPost, results, Try.results42, go_sem]
  exact (by repeat (first | (with_reducible exact Below.refl _ _) | (with_reducible apply Below.drew) | (with_reducible refine Below.alloc ?_ (by first | exact Nat.le_refl _ | (simp; done) | (simp; omega)) _)))
set_option maxHeartbeats 4000000 in
theorem iP_any (x y : Int) (hx : R25 x) (hy : R25 y) (w : World) : Calls Try.prog 25 #[.int .i64 x, .int .i64 y] w fun e w' => e = .returned (.agg #[.int .i64 (x * 64), .int .i64 (y * 64)]) ∧ Below w.heap.size w w' := by
  go_enter Try.func25, Try.ntmps25
  go_wp2_with (first
      | (go_at_call 40; (with_reducible refine (fixP_any _ _ hx hy _).mono ?_); rintro e w1 ⟨rfl, hb⟩; (first | (replace g0 := keepf hb f0 g0; replace g1 := keepf hb f1 g1; replace f0 := keepc hb f0; replace f1 := keepc hb f1; replace B := keepb B hb) | (have f0 := keepc hb (p := ⟨w.heap.size, 0, none⟩) (v := .int .i64 0) (by simp [go_sem]); have f1 := keepc hb (p := ⟨w.heap.size, 1, none⟩) (v := .int .i64 0) (by simp [go_sem]); have g0 := keepf hb (p := ⟨w.heap.size, 0, none⟩) (v := .int .i64 0) (by simp [go_sem]) (by simp [go_sem]); have g1 := keepf hb (p := ⟨w.heap.size, 1, none⟩) (v := .int .i64 0) (by simp [go_sem]) (by simp [go_sem]); have B := keepb (w := w) (by repeat (first | (with_reducible exact Below.refl _ _) | (with_reducible apply Below.drew) | (with_reducible refine Below.alloc ?_ (by first | exact Nat.le_refl _ | (simp; done) | (simp; omega)) _))) hb)); clear hb)
      | (go_at_call 39; (with_reducible refine (ofSmall_any _ _ (i32_64 hx) (i32_64 hy) _).mono ?_); rintro e w1 ⟨rfl, hb⟩; (first | (replace g0 := keepf hb f0 g0; replace g1 := keepf hb f1 g1; replace f0 := keepc hb f0; replace f1 := keepc hb f1; replace B := keepb B hb) | (have f0 := keepc hb (p := ⟨w.heap.size, 0, none⟩) (v := .int .i64 0) (by simp [go_sem]); have f1 := keepc hb (p := ⟨w.heap.size, 1, none⟩) (v := .int .i64 0) (by simp [go_sem]); have g0 := keepf hb (p := ⟨w.heap.size, 0, none⟩) (v := .int .i64 0) (by simp [go_sem]) (by simp [go_sem]); have g1 := keepf hb (p := ⟨w.heap.size, 1, none⟩) (v := .int .i64 0) (by simp [go_sem]) (by simp [go_sem]); have B := keepb (w := w) (by repeat (first | (with_reducible exact Below.refl _ _) | (with_reducible apply Below.drew) | (with_reducible refine Below.alloc ?_ (by first | exact Nat.le_refl _ | (simp; done) | (simp; omega)) _))) hb)); clear hb))
  simp [bodyPost, results, Try.results25, go_sem, f0, f1]
  exact (by repeat (first | (with_reducible exact B) | (with_reducible exact Below.refl _ _) | (with_reducible apply Below.drew) | (with_reducible refine Below.setCell ?_ (by first | (simp; done) | (simp; omega)) _) | (with_reducible refine Below.alloc ?_ (by first | exact Nat.le_refl _ | (simp; done) | (simp; omega)) _)))
set_option maxHeartbeats 4000000 in
theorem iR_any (x0 y0 x1 y1 : Int) (k0 : R25 x0) (k1 : R25 y0) (k2 : R25 x1) (k3 : R25 y1) (hx : x0 ≤ x1) (hy : y0 ≤ y1) (w : World) : Calls Try.prog 27 #[.int .i64 x0, .int .i64 y0, .int .i64 x1, .int .i64 y1] w fun e w' => e = .returned (.agg #[.int .i64 (x0 * 64), .int .i64 (y0 * 64), .int .i64 (x1 * 64), .int .i64 (y1 * 64)]) ∧ Below w.heap.size w w' := by
  go_enter Try.func27, Try.ntmps27
  go_wp2_with (first
      | (go_at_call 42; (with_reducible refine (fixR_any _ _ _ _ k0 k1 k2 k3 hx hy _).mono ?_); rintro e w1 ⟨rfl, hb⟩; (first | (replace g0 := keepf hb f0 g0; replace g1 := keepf hb f1 g1; replace g2 := keepf hb f2 g2; replace g3 := keepf hb f3 g3; replace f0 := keepc hb f0; replace f1 := keepc hb f1; replace f2 := keepc hb f2; replace f3 := keepc hb f3; replace B := keepb B hb) | (have f0 := keepc hb (p := ⟨w.heap.size, 0, none⟩) (v := .int .i64 0) (by simp [go_sem]); have f1 := keepc hb (p := ⟨w.heap.size, 1, none⟩) (v := .int .i64 0) (by simp [go_sem]); have f2 := keepc hb (p := ⟨w.heap.size, 2, none⟩) (v := .int .i64 0) (by simp [go_sem]); have f3 := keepc hb (p := ⟨w.heap.size, 3, none⟩) (v := .int .i64 0) (by simp [go_sem]); have g0 := keepf hb (p := ⟨w.heap.size, 0, none⟩) (v := .int .i64 0) (by simp [go_sem]) (by simp [go_sem]); have g1 := keepf hb (p := ⟨w.heap.size, 1, none⟩) (v := .int .i64 0) (by simp [go_sem]) (by simp [go_sem]); have g2 := keepf hb (p := ⟨w.heap.size, 2, none⟩) (v := .int .i64 0) (by simp [go_sem]) (by simp [go_sem]); have g3 := keepf hb (p := ⟨w.heap.size, 3, none⟩) (v := .int .i64 0) (by simp [go_sem]) (by simp [go_sem]); have B := keepb (w := w) (by repeat (first | (with_reducible exact Below.refl _ _) | (with_reducible apply Below.drew) | (with_reducible refine Below.alloc ?_ (by first | exact Nat.le_refl _ | (simp; done) | (simp; omega)) _))) hb)); clear hb)
      | (go_at_call 41; (with_reducible refine (ofSmallRect_any _ _ _ _ (i32_64 k0) (i32_64 k1) (i32_64 k2) (i32_64 k3) _).mono ?_); rintro e w1 ⟨rfl, hb⟩; (first | (replace g0 := keepf hb f0 g0; replace g1 := keepf hb f1 g1; replace g2 := keepf hb f2 g2; replace g3 := keepf hb f3 g3; replace f0 := keepc hb f0; replace f1 := keepc hb f1; replace f2 := keepc hb f2; replace f3 := keepc hb f3; replace B := keepb B hb) | (have f0 := keepc hb (p := ⟨w.heap.size, 0, none⟩) (v := .int .i64 0) (by simp [go_sem]); have f1 := keepc hb (p := ⟨w.heap.size, 1, none⟩) (v := .int .i64 0) (by simp [go_sem]); have f2 := keepc hb (p := ⟨w.heap.size, 2, none⟩) (v := .int .i64 0) (by simp [go_sem]); have f3 := keepc hb (p := ⟨w.heap.size, 3, none⟩) (v := .int .i64 0) (by simp [go_sem]); have g0 := keepf hb (p := ⟨w.heap.size, 0, none⟩) (v := .int .i64 0) (by simp [go_sem]) (by simp [go_sem]); have g1 := keepf hb (p := ⟨w.heap.size, 1, none⟩) (v := .int .i64 0) (by simp [go_sem]) (by simp [go_sem]); have g2 := keepf hb (p := ⟨w.heap.size, 2, none⟩) (v := .int .i64 0) (by simp [go_sem]) (by simp [go_sem]); have g3 := keepf hb (p := ⟨w.heap.size, 3, none⟩) (v := .int .i64 0) (by simp [go_sem]) (by simp [go_sem]); have B := keepb (w := w) (by repeat (first | (with_reducible exact Below.refl _ _) | (with_reducible apply Below.drew) | (with_reducible refine Below.alloc ?_ (by first | exact Nat.le_refl _ | (simp; done) | (simp; omega)) _))) hb)); clear hb))
  simp [bodyPost, results, Try.results27, go_sem, f0, f1, f2, f3]
  exact (by repeat (first | (with_reducible exact B) | (with_reducible exact Below.refl _ _) | (with_reducible apply Below.drew) | (with_reducible refine Below.setCell ?_ (by first | (simp; done) | (simp; omega)) _) | (with_reducible refine Below.alloc ?_ (by first | exact Nat.le_refl _ | (simp; done) | (simp; omega)) _)))
theorem rect_any (x0 y0 x1 y1 : Int) (w : World) : Calls Try.prog 26 #[.agg #[.int .i64 x0, .int .i64 y0, .int .i64 x1, .int .i64 y1]] w fun e w' => e = .returned (.agg #[.int .i64 x0, .int .i64 y0, .int .i64 x1, .int .i64 y1]) ∧ Below w.heap.size w w' := by
  go_enter Try.func26, Try.ntmps26
  go_wp2
  simp [bodyPost, results, Try.results26, go_sem]
  exact (by repeat (first | (with_reducible exact Below.refl _ _) | (with_reducible apply Below.drew) | (with_reducible refine Below.alloc ?_ (by first | exact Nat.le_refl _ | (simp; done) | (simp; omega)) _)))
end Go.Proofs.Ytiebbonpimmljaa
