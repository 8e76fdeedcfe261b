/- What Mul of points comes to, in the package (both widths) and in the thin package, and the law's own 'small': for every value; they make memory and turn nothing that was there. -/
import Derived.Test.YtcgbkggbffafmaaConv
import Derived.Test.YtcgbkggbffafmaaKeep
import Derived.Test.YtcgbkggbffafmaaMathT
import Derived.Test.YtcgbkggbffafmaaMul
import Derived.Deep.QuietTactic
import Derived.BigQuiet
namespace Go.Proofs.Ytcgbkggbffafmaa
open Go.RowKit

theorem keepN {B : Nat} {a w : World} (h : Below B a w) (n : Nat) : Below B a (w.drewN n) := ⟨h.os, h.tape, h.output, h.size, h.block⟩
theorem run_max2 {P : Program} (ts : Array TypeId) (t : TypeId) (x y M : Int) (h : max x y = M) (w : World) :
    (Builtin.max_ ts t #[.int .i64 x, .int .i64 y]).run P w = .ok (.int .i64 M) w := by
  have e : ∀ a b : Int, (if b > a then b else a) = max a b := fun a b => by split <;> omega
  simp only [Builtin.max_, List.foldlM, Builtin.max2]
  simp [e]
  omega
theorem run_max4 {P : Program} (ts : Array TypeId) (t : TypeId) (x y z u M : Int) (h : max (max (max x y) z) u = M) (w : World) :
    (Builtin.max_ ts t #[.int .i64 x, .int .i64 y, .int .i64 z, .int .i64 u]).run P w = .ok (.int .i64 M) w := by
  have e : ∀ a b : Int, (if b > a then b else a) = max a b := fun a b => by split <;> omega
  simp only [Builtin.max_, List.foldlM, Builtin.max2]
  simp [e]
  omega
set_option maxHeartbeats 1000000 in
theorem pMulL_any (x y k : Int) (w : World) : Calls Try.prog 63 #[.agg #[.int .i64 x, .int .i64 y], .int .i64 k] w fun e w' => e = .returned (.agg #[.int .i64 (tmL x k), .int .i64 (tmL y k)]) ∧ Below w.heap.size w w' := by
  unfold tmL
  go_enter Try.func63, Try.ntmps63
  go_wp2
  simp [bodyPost, results, Try.results63, go_sem]
  exact (by repeat (first | (with_reducible exact Below.refl _ _) | (with_reducible apply Below.drew) | (with_reducible refine Below.alloc ?_ (by first | exact Nat.le_refl _ | (simp; done) | (simp; omega)) _)))
set_option maxHeartbeats 1000000 in
theorem pMulS_any (x y k : Int) (w : World) : Calls Try.prog 64 #[.agg #[.int .i32 x, .int .i32 y], .int .i32 k] w fun e w' => e = .returned (.agg #[.int .i32 (tmS x k), .int .i32 (tmS y k)]) ∧ Below w.heap.size w w' := by
  unfold tmS
  go_enter Try.func64, Try.ntmps64
  go_wp2
  simp [bodyPost, results, Try.results64, go_sem]
  exact (by repeat (first | (with_reducible exact Below.refl _ _) | (with_reducible apply Below.drew) | (with_reducible refine Below.alloc ?_ (by first | exact Nat.le_refl _ | (simp; done) | (simp; omega)) _)))
set_option maxHeartbeats 4000000 in
theorem iTimes_t (x y k : Int) (w : World) : Calls Try.prog 31 #[.bool true, .agg #[.int .i64 x, .int .i64 y], .int .i64 k] w fun e w' => e = .returned (.agg #[.int .i64 (tmL x k), .int .i64 (tmL y k)]) ∧ Below w.heap.size w w' := by
  go_enter Try.func31, Try.ntmps31
  go_wp2_with (first
      | (go_at_call 50; (with_reducible refine (large_any _ _ _).mono ?_); rintro e w1 ⟨rfl, hb⟩; (first | (replace g2 := keepf hb f2 g2; replace g3 := keepf hb f3 g3; replace f0 := keepc hb f0; replace f1 := keepc hb f1; replace f2 := keepc hb f2; replace f3 := keepc hb f3; replace B := keepb B hb) | (have f0 := keepc hb (p := ⟨w.heap.size, 0, none⟩) (v := .int .i64 x) (by simp [go_sem]); have f1 := keepc hb (p := ⟨w.heap.size, 1, none⟩) (v := .int .i64 y) (by simp [go_sem]); have f2 := keepc hb (p := ⟨w.heap.size + 1, 0, none⟩) (v := .int .i64 0) (by simp [go_sem]); have f3 := keepc hb (p := ⟨w.heap.size + 1, 1, none⟩) (v := .int .i64 0) (by simp [go_sem]); have g2 := keepf hb (p := ⟨w.heap.size + 1, 0, none⟩) (v := .int .i64 0) (by simp [go_sem]) (by simp [go_sem]); have g3 := keepf hb (p := ⟨w.heap.size + 1, 1, none⟩) (v := .int .i64 0) (by simp [go_sem]) (by simp [go_sem]); have B := keepb (w := w) (by repeat (first | (with_reducible exact Below.refl _ _) | (with_reducible apply Below.drew) | (with_reducible refine Below.alloc ?_ (by first | exact Nat.le_refl _ | (simp; done) | (simp; omega)) _))) hb)); clear hb)
      | (go_at_call 63; (with_reducible refine (pMulL_any _ _ _ _).mono ?_); rintro e w1 ⟨rfl, hb⟩; (first | (replace g2 := keepf hb f2 g2; replace g3 := keepf hb f3 g3; replace f0 := keepc hb f0; replace f1 := keepc hb f1; replace f2 := keepc hb f2; replace f3 := keepc hb f3; replace B := keepb B hb) | (have f0 := keepc hb (p := ⟨w.heap.size, 0, none⟩) (v := .int .i64 x) (by simp [go_sem]); have f1 := keepc hb (p := ⟨w.heap.size, 1, none⟩) (v := .int .i64 y) (by simp [go_sem]); have f2 := keepc hb (p := ⟨w.heap.size + 1, 0, none⟩) (v := .int .i64 0) (by simp [go_sem]); have f3 := keepc hb (p := ⟨w.heap.size + 1, 1, none⟩) (v := .int .i64 0) (by simp [go_sem]); have g2 := keepf hb (p := ⟨w.heap.size + 1, 0, none⟩) (v := .int .i64 0) (by simp [go_sem]) (by simp [go_sem]); have g3 := keepf hb (p := ⟨w.heap.size + 1, 1, none⟩) (v := .int .i64 0) (by simp [go_sem]) (by simp [go_sem]); have B := keepb (w := w) (by repeat (first | (with_reducible exact Below.refl _ _) | (with_reducible apply Below.drew) | (with_reducible refine Below.alloc ?_ (by first | exact Nat.le_refl _ | (simp; done) | (simp; omega)) _))) hb)); clear hb)
      | (go_at_call 55; (with_reducible refine (ofLarge_any _ _ _).mono ?_); rintro e w1 ⟨rfl, hb⟩; (first | (replace g2 := keepf hb f2 g2; replace g3 := keepf hb f3 g3; replace f0 := keepc hb f0; replace f1 := keepc hb f1; replace f2 := keepc hb f2; replace f3 := keepc hb f3; replace B := keepb B hb) | (have f0 := keepc hb (p := ⟨w.heap.size, 0, none⟩) (v := .int .i64 x) (by simp [go_sem]); have f1 := keepc hb (p := ⟨w.heap.size, 1, none⟩) (v := .int .i64 y) (by simp [go_sem]); have f2 := keepc hb (p := ⟨w.heap.size + 1, 0, none⟩) (v := .int .i64 0) (by simp [go_sem]); have f3 := keepc hb (p := ⟨w.heap.size + 1, 1, none⟩) (v := .int .i64 0) (by simp [go_sem]); have g2 := keepf hb (p := ⟨w.heap.size + 1, 0, none⟩) (v := .int .i64 0) (by simp [go_sem]) (by simp [go_sem]); have g3 := keepf hb (p := ⟨w.heap.size + 1, 1, none⟩) (v := .int .i64 0) (by simp [go_sem]) (by simp [go_sem]); have B := keepb (w := w) (by repeat (first | (with_reducible exact Below.refl _ _) | (with_reducible apply Below.drew) | (with_reducible refine Below.alloc ?_ (by first | exact Nat.le_refl _ | (simp; done) | (simp; omega)) _))) hb)); clear hb))
  simp [bodyPost, results, Try.results31, go_sem, f2, f3]
  exact (by repeat (first | (with_reducible exact B) | (with_reducible exact Below.refl _ _) | (with_reducible apply Below.drew) | (with_reducible refine Below.setCell ?_ (by first | (simp; done) | (simp; omega)) _) | (with_reducible refine Below.alloc ?_ (by first | exact Nat.le_refl _ | (simp; done) | (simp; omega)) _)))
set_option maxHeartbeats 4000000 in
theorem iTimes_f (x y k : Int) (w : World) : Calls Try.prog 31 #[.bool false, .agg #[.int .i64 x, .int .i64 y], .int .i64 k] w fun e w' => e = .returned (.agg #[.int .i64 (tmS (wrap32 x) (wrap32 k)), .int .i64 (tmS (wrap32 y) (wrap32 k))]) ∧ Below w.heap.size w w' := by
  have j0 : I32 (tmS (wrap32 x) (wrap32 k)) := i32_wrap _
  have j1 : I32 (tmS (wrap32 y) (wrap32 k)) := i32_wrap _
  go_enter Try.func31, Try.ntmps31
  go_wp2_with (first
      | (go_at_call 52; (with_reducible refine (small_any _ _ _).mono ?_); rintro e w1 ⟨rfl, hb⟩; (first | (replace g2 := keepf hb f2 g2; replace g3 := keepf hb f3 g3; replace f0 := keepc hb f0; replace f1 := keepc hb f1; replace f2 := keepc hb f2; replace f3 := keepc hb f3; replace B := keepb B hb) | (have f0 := keepc hb (p := ⟨w.heap.size, 0, none⟩) (v := .int .i64 x) (by simp [go_sem]); have f1 := keepc hb (p := ⟨w.heap.size, 1, none⟩) (v := .int .i64 y) (by simp [go_sem]); have f2 := keepc hb (p := ⟨w.heap.size + 1, 0, none⟩) (v := .int .i64 0) (by simp [go_sem]); have f3 := keepc hb (p := ⟨w.heap.size + 1, 1, none⟩) (v := .int .i64 0) (by simp [go_sem]); have g2 := keepf hb (p := ⟨w.heap.size + 1, 0, none⟩) (v := .int .i64 0) (by simp [go_sem]) (by simp [go_sem]); have g3 := keepf hb (p := ⟨w.heap.size + 1, 1, none⟩) (v := .int .i64 0) (by simp [go_sem]) (by simp [go_sem]); have B := keepb (w := w) (by repeat (first | (with_reducible exact Below.refl _ _) | (with_reducible apply Below.drew) | (with_reducible refine Below.alloc ?_ (by first | exact Nat.le_refl _ | (simp; done) | (simp; omega)) _))) hb)); clear hb)
      | (go_at_call 64; (with_reducible refine (pMulS_any _ _ _ _).mono ?_); rintro e w1 ⟨rfl, hb⟩; (first | (replace g2 := keepf hb f2 g2; replace g3 := keepf hb f3 g3; replace f0 := keepc hb f0; replace f1 := keepc hb f1; replace f2 := keepc hb f2; replace f3 := keepc hb f3; replace B := keepb B hb) | (have f0 := keepc hb (p := ⟨w.heap.size, 0, none⟩) (v := .int .i64 x) (by simp [go_sem]); have f1 := keepc hb (p := ⟨w.heap.size, 1, none⟩) (v := .int .i64 y) (by simp [go_sem]); have f2 := keepc hb (p := ⟨w.heap.size + 1, 0, none⟩) (v := .int .i64 0) (by simp [go_sem]); have f3 := keepc hb (p := ⟨w.heap.size + 1, 1, none⟩) (v := .int .i64 0) (by simp [go_sem]); have g2 := keepf hb (p := ⟨w.heap.size + 1, 0, none⟩) (v := .int .i64 0) (by simp [go_sem]) (by simp [go_sem]); have g3 := keepf hb (p := ⟨w.heap.size + 1, 1, none⟩) (v := .int .i64 0) (by simp [go_sem]) (by simp [go_sem]); have B := keepb (w := w) (by repeat (first | (with_reducible exact Below.refl _ _) | (with_reducible apply Below.drew) | (with_reducible refine Below.alloc ?_ (by first | exact Nat.le_refl _ | (simp; done) | (simp; omega)) _))) hb)); clear hb)
      | (go_at_call 57; (with_reducible refine (ofSmall_any _ _ j0 j1 _).mono ?_); rintro e w1 ⟨rfl, hb⟩; (first | (replace g2 := keepf hb f2 g2; replace g3 := keepf hb f3 g3; replace f0 := keepc hb f0; replace f1 := keepc hb f1; replace f2 := keepc hb f2; replace f3 := keepc hb f3; replace B := keepb B hb) | (have f0 := keepc hb (p := ⟨w.heap.size, 0, none⟩) (v := .int .i64 x) (by simp [go_sem]); have f1 := keepc hb (p := ⟨w.heap.size, 1, none⟩) (v := .int .i64 y) (by simp [go_sem]); have f2 := keepc hb (p := ⟨w.heap.size + 1, 0, none⟩) (v := .int .i64 0) (by simp [go_sem]); have f3 := keepc hb (p := ⟨w.heap.size + 1, 1, none⟩) (v := .int .i64 0) (by simp [go_sem]); have g2 := keepf hb (p := ⟨w.heap.size + 1, 0, none⟩) (v := .int .i64 0) (by simp [go_sem]) (by simp [go_sem]); have g3 := keepf hb (p := ⟨w.heap.size + 1, 1, none⟩) (v := .int .i64 0) (by simp [go_sem]) (by simp [go_sem]); have B := keepb (w := w) (by repeat (first | (with_reducible exact Below.refl _ _) | (with_reducible apply Below.drew) | (with_reducible refine Below.alloc ?_ (by first | exact Nat.le_refl _ | (simp; done) | (simp; omega)) _))) hb)); clear hb))
  simp [bodyPost, results, Try.results31, go_sem, f2, f3]
  exact (by repeat (first | (with_reducible exact B) | (with_reducible exact Below.refl _ _) | (with_reducible apply Below.drew) | (with_reducible refine Below.setCell ?_ (by first | (simp; done) | (simp; omega)) _) | (with_reducible refine Below.alloc ?_ (by first | exact Nat.le_refl _ | (simp; done) | (simp; omega)) _)))
theorem iTimes_any (b : Bool) (x y k : Int) (w : World) : Calls Try.prog 31 #[.bool b, .agg #[.int .i64 x, .int .i64 y], .int .i64 k] w fun e w' => e = .returned (.agg #[.int .i64 (timesZ b x k), .int .i64 (timesZ b y k)]) ∧ Below w.heap.size w w' := by
  cases b
  · exact iTimes_f x y k w
  · exact iTimes_t x y k w
set_option maxHeartbeats 4000000 in
theorem small_t (x y k X Y K : Int) (hX : sizeZ x = X) (hY : sizeZ y = Y) (hK : sizeZ k = K) (iX : I64 X) (iY : I64 Y) (iK : I64 K) (w : World) : Calls Try.prog 33 #[.bool true, .agg #[.int .i64 x, .int .i64 y], .int .i64 k] w fun e w' => e = .returned (.bool (roomB true X Y K)) ∧ Below w.heap.size w w' := by
  obtain ⟨NX, hNX⟩ : ∃ n, wrap64 (-x) = n := ⟨_, rfl⟩
  obtain ⟨NY, hNY⟩ : ∃ n, wrap64 (-y) = n := ⟨_, rfl⟩
  obtain ⟨NK, hNK⟩ : ∃ n, wrap64 (-k) = n := ⟨_, rfl⟩
  have hNX' : IntKind.i64.wrap (-x) = NX := by rw [IntWalk.i64_left]; exact hNX
  have hNY' : IntKind.i64.wrap (-y) = NY := by rw [IntWalk.i64_left]; exact hNY
  have hNK' : IntKind.i64.wrap (-k) = NK := by rw [IntWalk.i64_left]; exact hNK
  have m1 := fun ts t W => run_max2 (P := Try.prog) ts t x NX X (by rw [← hNX]; exact hX) W
  have m2 := fun ts t W => run_max2 (P := Try.prog) ts t y NY Y (by rw [← hNY]; exact hY) W
  have m3 := fun ts t W => run_max2 (P := Try.prog) ts t k NK K (by rw [← hNK]; exact hK) W
  clear hX hY hK
  obtain ⟨iX1, iX2⟩ := iX
  obtain ⟨iY1, iY2⟩ := iY
  obtain ⟨iK1, iK2⟩ := iK
  by_cases c0 : ¬ (X < 1099511627776)
  · go_enter Try.func33, Try.ntmps33
    go_wp2
    go_quiet (fail)
    go_wp2
    go_ret
    exact ⟨ret_bool (by simp [roomB]; omega), (by repeat (first | (with_reducible exact Below.refl _ _) | (with_reducible apply Below.drew) | (with_reducible apply keepN) | (with_reducible refine Below.alloc ?_ (by first | exact Nat.le_refl _ | (simp; done) | (simp; omega)) _)))⟩
  replace c0 : X < 1099511627776 := by omega
  by_cases c1 : ¬ (0 ≤ X)
  · go_enter Try.func33, Try.ntmps33
    go_wp2
    go_quiet (fail)
    go_wp2
    go_ret
    exact ⟨ret_bool (by simp [roomB]; omega), (by repeat (first | (with_reducible exact Below.refl _ _) | (with_reducible apply Below.drew) | (with_reducible apply keepN) | (with_reducible refine Below.alloc ?_ (by first | exact Nat.le_refl _ | (simp; done) | (simp; omega)) _)))⟩
  replace c1 : 0 ≤ X := by omega
  by_cases c2 : ¬ (Y < 1099511627776)
  · go_enter Try.func33, Try.ntmps33
    go_wp2
    go_quiet (fail)
    go_wp2
    go_ret
    exact ⟨ret_bool (by simp [roomB]; omega), (by repeat (first | (with_reducible exact Below.refl _ _) | (with_reducible apply Below.drew) | (with_reducible apply keepN) | (with_reducible refine Below.alloc ?_ (by first | exact Nat.le_refl _ | (simp; done) | (simp; omega)) _)))⟩
  replace c2 : Y < 1099511627776 := by omega
  by_cases c3 : ¬ (0 ≤ Y)
  · go_enter Try.func33, Try.ntmps33
    go_wp2
    go_quiet (fail)
    go_wp2
    go_ret
    exact ⟨ret_bool (by simp [roomB]; omega), (by repeat (first | (with_reducible exact Below.refl _ _) | (with_reducible apply Below.drew) | (with_reducible apply keepN) | (with_reducible refine Below.alloc ?_ (by first | exact Nat.le_refl _ | (simp; done) | (simp; omega)) _)))⟩
  replace c3 : 0 ≤ Y := by omega
  by_cases c4 : ¬ (K < 4194304)
  · go_enter Try.func33, Try.ntmps33
    go_wp2
    go_quiet (fail)
    go_wp2
    go_ret
    exact ⟨ret_bool (by simp [roomB]; omega), (by repeat (first | (with_reducible exact Below.refl _ _) | (with_reducible apply Below.drew) | (with_reducible apply keepN) | (with_reducible refine Below.alloc ?_ (by first | exact Nat.le_refl _ | (simp; done) | (simp; omega)) _)))⟩
  replace c4 : K < 4194304 := by omega
  by_cases c5 : ¬ (0 ≤ K)
  · go_enter Try.func33, Try.ntmps33
    go_wp2
    go_quiet (fail)
    go_wp2
    go_ret
    exact ⟨ret_bool (by simp [roomB]; omega), (by repeat (first | (with_reducible exact Below.refl _ _) | (with_reducible apply Below.drew) | (with_reducible apply keepN) | (with_reducible refine Below.alloc ?_ (by first | exact Nat.le_refl _ | (simp; done) | (simp; omega)) _)))⟩
  replace c5 : 0 ≤ K := by omega
  go_enter Try.func33, Try.ntmps33
  go_wp2
  go_quiet (fail)
  go_wp2
  go_ret
  exact ⟨ret_bool (by simp [roomB]; omega), (by repeat (first | (with_reducible exact Below.refl _ _) | (with_reducible apply Below.drew) | (with_reducible apply keepN) | (with_reducible refine Below.alloc ?_ (by first | exact Nat.le_refl _ | (simp; done) | (simp; omega)) _)))⟩
set_option maxHeartbeats 4000000 in
theorem small_f (x y k X Y K : Int) (hX : sizeZ x = X) (hY : sizeZ y = Y) (hK : sizeZ k = K) (iX : I64 X) (iY : I64 Y) (iK : I64 K) (w : World) : Calls Try.prog 33 #[.bool false, .agg #[.int .i64 x, .int .i64 y], .int .i64 k] w fun e w' => e = .returned (.bool (roomB false X Y K)) ∧ Below w.heap.size w w' := by
  obtain ⟨NX, hNX⟩ : ∃ n, wrap64 (-x) = n := ⟨_, rfl⟩
  obtain ⟨NY, hNY⟩ : ∃ n, wrap64 (-y) = n := ⟨_, rfl⟩
  obtain ⟨NK, hNK⟩ : ∃ n, wrap64 (-k) = n := ⟨_, rfl⟩
  have hNX' : IntKind.i64.wrap (-x) = NX := by rw [IntWalk.i64_left]; exact hNX
  have hNY' : IntKind.i64.wrap (-y) = NY := by rw [IntWalk.i64_left]; exact hNY
  have hNK' : IntKind.i64.wrap (-k) = NK := by rw [IntWalk.i64_left]; exact hNK
  have m1 := fun ts t W => run_max2 (P := Try.prog) ts t x NX X (by rw [← hNX]; exact hX) W
  have m2 := fun ts t W => run_max2 (P := Try.prog) ts t y NY Y (by rw [← hNY]; exact hY) W
  have m3 := fun ts t W => run_max2 (P := Try.prog) ts t k NK K (by rw [← hNK]; exact hK) W
  clear hX hY hK
  obtain ⟨iX1, iX2⟩ := iX
  obtain ⟨iY1, iY2⟩ := iY
  obtain ⟨iK1, iK2⟩ := iK
  by_cases c0 : ¬ (X < 2147483648)
  · go_enter Try.func33, Try.ntmps33
    go_wp2
    go_quiet (fail)
    go_wp2
    go_ret
    exact ⟨ret_bool (by simp [roomB]; omega), (by repeat (first | (with_reducible exact Below.refl _ _) | (with_reducible apply Below.drew) | (with_reducible apply keepN) | (with_reducible refine Below.alloc ?_ (by first | exact Nat.le_refl _ | (simp; done) | (simp; omega)) _)))⟩
  replace c0 : X < 2147483648 := by omega
  by_cases c1 : ¬ (0 ≤ X)
  · go_enter Try.func33, Try.ntmps33
    go_wp2
    go_quiet (fail)
    go_wp2
    go_ret
    exact ⟨ret_bool (by simp [roomB]; omega), (by repeat (first | (with_reducible exact Below.refl _ _) | (with_reducible apply Below.drew) | (with_reducible apply keepN) | (with_reducible refine Below.alloc ?_ (by first | exact Nat.le_refl _ | (simp; done) | (simp; omega)) _)))⟩
  replace c1 : 0 ≤ X := by omega
  by_cases c2 : ¬ (Y < 2147483648)
  · go_enter Try.func33, Try.ntmps33
    go_wp2
    go_quiet (fail)
    go_wp2
    go_ret
    exact ⟨ret_bool (by simp [roomB]; omega), (by repeat (first | (with_reducible exact Below.refl _ _) | (with_reducible apply Below.drew) | (with_reducible apply keepN) | (with_reducible refine Below.alloc ?_ (by first | exact Nat.le_refl _ | (simp; done) | (simp; omega)) _)))⟩
  replace c2 : Y < 2147483648 := by omega
  by_cases c3 : ¬ (0 ≤ Y)
  · go_enter Try.func33, Try.ntmps33
    go_wp2
    go_quiet (fail)
    go_wp2
    go_ret
    exact ⟨ret_bool (by simp [roomB]; omega), (by repeat (first | (with_reducible exact Below.refl _ _) | (with_reducible apply Below.drew) | (with_reducible apply keepN) | (with_reducible refine Below.alloc ?_ (by first | exact Nat.le_refl _ | (simp; done) | (simp; omega)) _)))⟩
  replace c3 : 0 ≤ Y := by omega
  by_cases c4 : ¬ (K < 2147483648)
  · go_enter Try.func33, Try.ntmps33
    go_wp2
    go_quiet (fail)
    go_wp2
    go_ret
    exact ⟨ret_bool (by simp [roomB]; omega), (by repeat (first | (with_reducible exact Below.refl _ _) | (with_reducible apply Below.drew) | (with_reducible apply keepN) | (with_reducible refine Below.alloc ?_ (by first | exact Nat.le_refl _ | (simp; done) | (simp; omega)) _)))⟩
  replace c4 : K < 2147483648 := by omega
  by_cases c5 : ¬ (0 ≤ K)
  · go_enter Try.func33, Try.ntmps33
    go_wp2
    go_quiet (fail)
    go_wp2
    go_ret
    exact ⟨ret_bool (by simp [roomB]; omega), (by repeat (first | (with_reducible exact Below.refl _ _) | (with_reducible apply Below.drew) | (with_reducible apply keepN) | (with_reducible refine Below.alloc ?_ (by first | exact Nat.le_refl _ | (simp; done) | (simp; omega)) _)))⟩
  replace c5 : 0 ≤ K := by omega
  have hp := mul_bd X K 2147483648 2147483648 (by omega) (by omega) (by omega) (by omega)
  have hq := mul_bd Y K 2147483648 2147483648 (by omega) (by omega) (by omega) (by omega)
  obtain ⟨p, ep⟩ : ∃ p, X * K = p := ⟨_, rfl⟩
  obtain ⟨q, hqe⟩ : ∃ q, Y * K = q := ⟨_, rfl⟩
  rw [ep] at hp
  rw [hqe] at hq
  obtain ⟨hp1, hp2⟩ := hp
  obtain ⟨hq1, hq2⟩ := hq
  by_cases c7 : ¬ (p < 2147483648)
  · go_enter Try.func33, Try.ntmps33
    go_wp2
    go_quiet (fail)
    go_wp2
    go_ret
    exact ⟨ret_bool (by simp [roomB, ep, hqe]; omega), (by repeat (first | (with_reducible exact Below.refl _ _) | (with_reducible apply Below.drew) | (with_reducible apply keepN) | (with_reducible refine Below.alloc ?_ (by first | exact Nat.le_refl _ | (simp; done) | (simp; omega)) _)))⟩
  replace c7 : p < 2147483648 := by omega
  by_cases c8 : ¬ (q < 2147483648)
  · go_enter Try.func33, Try.ntmps33
    go_wp2
    go_quiet (fail)
    go_wp2
    go_ret
    exact ⟨ret_bool (by simp [roomB, ep, hqe]; omega), (by repeat (first | (with_reducible exact Below.refl _ _) | (with_reducible apply Below.drew) | (with_reducible apply keepN) | (with_reducible refine Below.alloc ?_ (by first | exact Nat.le_refl _ | (simp; done) | (simp; omega)) _)))⟩
  replace c8 : q < 2147483648 := by omega
  go_enter Try.func33, Try.ntmps33
  go_wp2
  go_quiet (fail)
  go_wp2
  go_ret
  exact ⟨ret_bool (by simp [roomB, ep, hqe]; omega), (by repeat (first | (with_reducible exact Below.refl _ _) | (with_reducible apply Below.drew) | (with_reducible apply keepN) | (with_reducible refine Below.alloc ?_ (by first | exact Nat.le_refl _ | (simp; done) | (simp; omega)) _)))⟩
theorem small_law (b : Bool) (x y k : Int) (hx : I64 x) (hy : I64 y) (hk : I64 k) (w : World) : Calls Try.prog 33 #[.bool b, .agg #[.int .i64 x, .int .i64 y], .int .i64 k] w fun e w' => e = .returned (.bool (smallB b x y k)) ∧ Below w.heap.size w w' := by
  cases b
  · exact small_f x y k _ _ _ rfl rfl rfl (sizeZ_bd x hx) (sizeZ_bd y hy) (sizeZ_bd k hk) w
  · exact small_t x y k _ _ _ rfl rfl rfl (sizeZ_bd x hx) (sizeZ_bd y hy) (sizeZ_bd k hk) w
end Go.Proofs.Ytcgbkggbffafmaa
