/- What Div of points comes to, in the package (both widths) and in the thin package: both numbers, times the parts of one, divided, for a divisor that is not 0; they make memory and turn nothing that was there. -/
import Derived.Test.YtcgbkggbffafmaaImplT
import Derived.Lib.Hide
import Derived.Defers
import Derived.Recover
namespace Go.Proofs.Ytcgbkggbffafmaa
open Go.RowKit

def dvL (x k : Int) : Int := IntKind.i64.wrap ((IntKind.i64.wrap (x * 4096)).tdiv k)
def dvS (x k : Int) : Int := IntKind.i32.wrap ((IntKind.i32.wrap (x * 64)).tdiv k)
theorem dvS_i32 (x k : Int) : I32 (dvS x k) := by
  unfold dvS; rw [IntKind.wrap_i32]; unfold I32; omega
set_option maxHeartbeats 4000000 in
theorem pDivL_any (x y k : Int) (hk : ¬ k = 0) (w : World) : Calls Try.prog 56 #[.agg #[.int .i64 x, .int .i64 y], .int .i64 k] w fun e w' => e = .returned (.agg #[.int .i64 (dvL x k), .int .i64 (dvL y k)]) ∧ Below w.heap.size w w' := by
  unfold dvL
  go_enter Try.func56, Try.ntmps56
  go_wp2
  go_region_held3 (fun w' => w'.cell? ⟨w.heap.size, 0, none⟩ = some (.int .i64 x) ∧ w'.cell? ⟨w.heap.size, 1, none⟩ = some (.int .i64 y))
    (simp [go_sem, World.cell?_alloc_past])
    (first | (go_at_call 0; fail))
  go_wp2
  simp [bodyPost, results, Try.results56, go_sem]
  exact (by repeat (first | (with_reducible exact Below.refl _ _) | (with_reducible apply Below.drew) | (with_reducible apply keepN) | (with_reducible refine Below.alloc ?_ (by first | exact Nat.le_refl _ | (simp; done) | (simp; omega)) _)))
set_option maxHeartbeats 4000000 in
theorem pDivS_any (x y k : Int) (hk : ¬ k = 0) (w : World) : Calls Try.prog 58 #[.agg #[.int .i32 x, .int .i32 y], .int .i32 k] w fun e w' => e = .returned (.agg #[.int .i32 (dvS x k), .int .i32 (dvS y k)]) ∧ Below w.heap.size w w' := by
  unfold dvS
  go_enter Try.func58, Try.ntmps58
  go_wp2
  go_region_held3 (fun w' => w'.cell? ⟨w.heap.size, 0, none⟩ = some (.int .i32 x) ∧ w'.cell? ⟨w.heap.size, 1, none⟩ = some (.int .i32 y))
    (simp [go_sem, World.cell?_alloc_past])
    (first | (go_at_call 0; fail))
  go_wp2
  simp [bodyPost, results, Try.results58, go_sem]
  exact (by repeat (first | (with_reducible exact Below.refl _ _) | (with_reducible apply Below.drew) | (with_reducible apply keepN) | (with_reducible refine Below.alloc ?_ (by first | exact Nat.le_refl _ | (simp; done) | (simp; omega)) _)))
theorem over_idle (p q : Addr) (w : World) :
    CallsD Try.prog 54 #[.pointer (some p), .pointer (some q)] .returning w fun e u' w' => e = .returned (.tuple #[]) ∧ u' = .returning ∧ w' = w := by
  refine callsD_of_wpS Try.func54 rfl fun c₀ cs hu => ?_
  apply wpS_seq
  apply wpS_region
  simp [wpOpsS, go_sem, recoverD, hu, Try.ntmps54, Exit.thenS]
  refine wpS_cond (t := false) (by simp [Act.eval, Array.replicate]) ?_
  simp only [Bool.false_eq_true, if_false]
  refine wpS_of_wp (wp_skip ?_)
  cases c₀
  simp_all [bodyPostS, results, Try.results54]
set_option maxHeartbeats 4000000 in
theorem iOver_t (x y k : Int) (hk : ¬ k = 0) (w : World) : Calls Try.prog 27 #[.bool true, .agg #[.int .i64 x, .int .i64 y], .int .i64 k] w fun e w' => e = .returned (.tuple #[.agg #[.int .i64 (dvL x k), .int .i64 (dvL y k)], .bool true]) ∧ Below w.heap.size w w' := by
  have hmf : ∀ (fn : Fn) (first cap : Array Value) (w : World), (Instr.makeFunc fn first cap).run Try.prog w = .ok (.func fn first cap) w := fun _ _ _ _ => rfl
  go_enter_defers Try.func27, Try.ntmps27
  go_wp2_with (first
    | (go_at_call 50; (with_reducible refine (large_any _ _ _).mono ?_); rintro e w1 ⟨rfl, hb⟩; (first | (replace g2 := keepf hb f2 g2; replace g3 := keepf hb f3 g3; replace g4 := keepf hb f4 g4; replace f0 := keepc hb f0; replace f1 := keepc hb f1; replace f2 := keepc hb f2; replace f3 := keepc hb f3; replace f4 := keepc hb f4; replace B := keepb B hb) | (have f0 := keepc hb (p := ⟨w.heap.size, 0, none⟩) (v := .int .i64 x) (by simp [go_sem]); have f1 := keepc hb (p := ⟨w.heap.size, 1, none⟩) (v := .int .i64 y) (by simp [go_sem]); have f2 := keepc hb (p := ⟨w.heap.size + 1, 0, none⟩) (v := .int .i64 0) (by simp [go_sem]); have f3 := keepc hb (p := ⟨w.heap.size + 1, 1, none⟩) (v := .int .i64 0) (by simp [go_sem]); have f4 := keepc hb (p := ⟨w.heap.size + 1 + 1, 0, none⟩) (v := .bool false) (by simp [go_sem]); have g2 := keepf hb (p := ⟨w.heap.size + 1, 0, none⟩) (v := .int .i64 0) (by simp [go_sem]) (by simp [go_sem]); have g3 := keepf hb (p := ⟨w.heap.size + 1, 1, none⟩) (v := .int .i64 0) (by simp [go_sem]) (by simp [go_sem]); have g4 := keepf hb (p := ⟨w.heap.size + 1 + 1, 0, none⟩) (v := .bool false) (by simp [go_sem]) (by simp [go_sem]); have B := keepb (w := w) (by repeat (first | (with_reducible exact Below.refl _ _) | (with_reducible apply Below.drew) | (with_reducible refine Below.alloc ?_ (by first | exact Nat.le_refl _ | (simp; done) | (simp; omega)) _))) hb)); clear hb)
    | (go_at_call 56; (with_reducible refine (pDivL_any _ _ _ hk _).mono ?_); rintro e w1 ⟨rfl, hb⟩; (first | (replace g2 := keepf hb f2 g2; replace g3 := keepf hb f3 g3; replace g4 := keepf hb f4 g4; replace f0 := keepc hb f0; replace f1 := keepc hb f1; replace f2 := keepc hb f2; replace f3 := keepc hb f3; replace f4 := keepc hb f4; replace B := keepb B hb) | (have f0 := keepc hb (p := ⟨w.heap.size, 0, none⟩) (v := .int .i64 x) (by simp [go_sem]); have f1 := keepc hb (p := ⟨w.heap.size, 1, none⟩) (v := .int .i64 y) (by simp [go_sem]); have f2 := keepc hb (p := ⟨w.heap.size + 1, 0, none⟩) (v := .int .i64 0) (by simp [go_sem]); have f3 := keepc hb (p := ⟨w.heap.size + 1, 1, none⟩) (v := .int .i64 0) (by simp [go_sem]); have f4 := keepc hb (p := ⟨w.heap.size + 1 + 1, 0, none⟩) (v := .bool false) (by simp [go_sem]); have g2 := keepf hb (p := ⟨w.heap.size + 1, 0, none⟩) (v := .int .i64 0) (by simp [go_sem]) (by simp [go_sem]); have g3 := keepf hb (p := ⟨w.heap.size + 1, 1, none⟩) (v := .int .i64 0) (by simp [go_sem]) (by simp [go_sem]); have g4 := keepf hb (p := ⟨w.heap.size + 1 + 1, 0, none⟩) (v := .bool false) (by simp [go_sem]) (by simp [go_sem]); have B := keepb (w := w) (by repeat (first | (with_reducible exact Below.refl _ _) | (with_reducible apply Below.drew) | (with_reducible refine Below.alloc ?_ (by first | exact Nat.le_refl _ | (simp; done) | (simp; omega)) _))) hb)); clear hb)
    | (go_at_call 55; (with_reducible refine (ofLarge_any _ _ _).mono ?_); rintro e w1 ⟨rfl, hb⟩; (first | (replace g2 := keepf hb f2 g2; replace g3 := keepf hb f3 g3; replace g4 := keepf hb f4 g4; replace f0 := keepc hb f0; replace f1 := keepc hb f1; replace f2 := keepc hb f2; replace f3 := keepc hb f3; replace f4 := keepc hb f4; replace B := keepb B hb) | (have f0 := keepc hb (p := ⟨w.heap.size, 0, none⟩) (v := .int .i64 x) (by simp [go_sem]); have f1 := keepc hb (p := ⟨w.heap.size, 1, none⟩) (v := .int .i64 y) (by simp [go_sem]); have f2 := keepc hb (p := ⟨w.heap.size + 1, 0, none⟩) (v := .int .i64 0) (by simp [go_sem]); have f3 := keepc hb (p := ⟨w.heap.size + 1, 1, none⟩) (v := .int .i64 0) (by simp [go_sem]); have f4 := keepc hb (p := ⟨w.heap.size + 1 + 1, 0, none⟩) (v := .bool false) (by simp [go_sem]); have g2 := keepf hb (p := ⟨w.heap.size + 1, 0, none⟩) (v := .int .i64 0) (by simp [go_sem]) (by simp [go_sem]); have g3 := keepf hb (p := ⟨w.heap.size + 1, 1, none⟩) (v := .int .i64 0) (by simp [go_sem]) (by simp [go_sem]); have g4 := keepf hb (p := ⟨w.heap.size + 1 + 1, 0, none⟩) (v := .bool false) (by simp [go_sem]) (by simp [go_sem]); have B := keepb (w := w) (by repeat (first | (with_reducible exact Below.refl _ _) | (with_reducible apply Below.drew) | (with_reducible refine Below.alloc ?_ (by first | exact Nat.le_refl _ | (simp; done) | (simp; omega)) _))) hb)); clear hb))
  refine leaves_cons (f := 54) (args := #[.pointer (some ⟨w.heap.size + 1, 0, none⟩), .pointer (some ⟨w.heap.size + 1 + 1, 0, none⟩)]) (by simp) (by simp [go_sem]) ?_
  refine (over_idle _ _ _).mono ?_
  rintro e u' w'' ⟨rfl, rfl, rfl⟩
  simp [Leaves, settle, results, Try.results27, go_sem, f2, f3, f4]
  exact (by repeat (first | (with_reducible exact B) | (with_reducible exact Below.refl _ _) | (with_reducible apply Below.drew) | (with_reducible apply keepN) | (with_reducible refine Below.setCell ?_ (by first | (simp; done) | (simp; omega)) _) | (with_reducible refine Below.alloc ?_ (by first | exact Nat.le_refl _ | (simp; done) | (simp; omega)) _)))
set_option maxHeartbeats 4000000 in
theorem iOver_f (x y k : Int) (hk : ¬ wrap32 k = 0) (w : World) : Calls Try.prog 27 #[.bool false, .agg #[.int .i64 x, .int .i64 y], .int .i64 k] w fun e w' => e = .returned (.tuple #[.agg #[.int .i64 (dvS (wrap32 x) (wrap32 k)), .int .i64 (dvS (wrap32 y) (wrap32 k))], .bool true]) ∧ Below w.heap.size w w' := by
  have hmf : ∀ (fn : Fn) (first cap : Array Value) (w : World), (Instr.makeFunc fn first cap).run Try.prog w = .ok (.func fn first cap) w := fun _ _ _ _ => rfl
  go_enter_defers Try.func27, Try.ntmps27
  go_wp2_with (first
    | (go_at_call 52; (with_reducible refine (small_any _ _ _).mono ?_); rintro e w1 ⟨rfl, hb⟩; (first | (replace g2 := keepf hb f2 g2; replace g3 := keepf hb f3 g3; replace g4 := keepf hb f4 g4; replace f0 := keepc hb f0; replace f1 := keepc hb f1; replace f2 := keepc hb f2; replace f3 := keepc hb f3; replace f4 := keepc hb f4; replace B := keepb B hb) | (have f0 := keepc hb (p := ⟨w.heap.size, 0, none⟩) (v := .int .i64 x) (by simp [go_sem]); have f1 := keepc hb (p := ⟨w.heap.size, 1, none⟩) (v := .int .i64 y) (by simp [go_sem]); have f2 := keepc hb (p := ⟨w.heap.size + 1, 0, none⟩) (v := .int .i64 0) (by simp [go_sem]); have f3 := keepc hb (p := ⟨w.heap.size + 1, 1, none⟩) (v := .int .i64 0) (by simp [go_sem]); have f4 := keepc hb (p := ⟨w.heap.size + 1 + 1, 0, none⟩) (v := .bool false) (by simp [go_sem]); have g2 := keepf hb (p := ⟨w.heap.size + 1, 0, none⟩) (v := .int .i64 0) (by simp [go_sem]) (by simp [go_sem]); have g3 := keepf hb (p := ⟨w.heap.size + 1, 1, none⟩) (v := .int .i64 0) (by simp [go_sem]) (by simp [go_sem]); have g4 := keepf hb (p := ⟨w.heap.size + 1 + 1, 0, none⟩) (v := .bool false) (by simp [go_sem]) (by simp [go_sem]); have B := keepb (w := w) (by repeat (first | (with_reducible exact Below.refl _ _) | (with_reducible apply Below.drew) | (with_reducible refine Below.alloc ?_ (by first | exact Nat.le_refl _ | (simp; done) | (simp; omega)) _))) hb)); clear hb)
    | (go_at_call 58; (with_reducible refine (pDivS_any _ _ _ hk _).mono ?_); rintro e w1 ⟨rfl, hb⟩; (first | (replace g2 := keepf hb f2 g2; replace g3 := keepf hb f3 g3; replace g4 := keepf hb f4 g4; replace f0 := keepc hb f0; replace f1 := keepc hb f1; replace f2 := keepc hb f2; replace f3 := keepc hb f3; replace f4 := keepc hb f4; replace B := keepb B hb) | (have f0 := keepc hb (p := ⟨w.heap.size, 0, none⟩) (v := .int .i64 x) (by simp [go_sem]); have f1 := keepc hb (p := ⟨w.heap.size, 1, none⟩) (v := .int .i64 y) (by simp [go_sem]); have f2 := keepc hb (p := ⟨w.heap.size + 1, 0, none⟩) (v := .int .i64 0) (by simp [go_sem]); have f3 := keepc hb (p := ⟨w.heap.size + 1, 1, none⟩) (v := .int .i64 0) (by simp [go_sem]); have f4 := keepc hb (p := ⟨w.heap.size + 1 + 1, 0, none⟩) (v := .bool false) (by simp [go_sem]); have g2 := keepf hb (p := ⟨w.heap.size + 1, 0, none⟩) (v := .int .i64 0) (by simp [go_sem]) (by simp [go_sem]); have g3 := keepf hb (p := ⟨w.heap.size + 1, 1, none⟩) (v := .int .i64 0) (by simp [go_sem]) (by simp [go_sem]); have g4 := keepf hb (p := ⟨w.heap.size + 1 + 1, 0, none⟩) (v := .bool false) (by simp [go_sem]) (by simp [go_sem]); have B := keepb (w := w) (by repeat (first | (with_reducible exact Below.refl _ _) | (with_reducible apply Below.drew) | (with_reducible refine Below.alloc ?_ (by first | exact Nat.le_refl _ | (simp; done) | (simp; omega)) _))) hb)); clear hb)
    | (go_at_call 57; (with_reducible refine (ofSmall_any _ _ (dvS_i32 _ _) (dvS_i32 _ _) _).mono ?_); rintro e w1 ⟨rfl, hb⟩; (first | (replace g2 := keepf hb f2 g2; replace g3 := keepf hb f3 g3; replace g4 := keepf hb f4 g4; replace f0 := keepc hb f0; replace f1 := keepc hb f1; replace f2 := keepc hb f2; replace f3 := keepc hb f3; replace f4 := keepc hb f4; replace B := keepb B hb) | (have f0 := keepc hb (p := ⟨w.heap.size, 0, none⟩) (v := .int .i64 x) (by simp [go_sem]); have f1 := keepc hb (p := ⟨w.heap.size, 1, none⟩) (v := .int .i64 y) (by simp [go_sem]); have f2 := keepc hb (p := ⟨w.heap.size + 1, 0, none⟩) (v := .int .i64 0) (by simp [go_sem]); have f3 := keepc hb (p := ⟨w.heap.size + 1, 1, none⟩) (v := .int .i64 0) (by simp [go_sem]); have f4 := keepc hb (p := ⟨w.heap.size + 1 + 1, 0, none⟩) (v := .bool false) (by simp [go_sem]); have g2 := keepf hb (p := ⟨w.heap.size + 1, 0, none⟩) (v := .int .i64 0) (by simp [go_sem]) (by simp [go_sem]); have g3 := keepf hb (p := ⟨w.heap.size + 1, 1, none⟩) (v := .int .i64 0) (by simp [go_sem]) (by simp [go_sem]); have g4 := keepf hb (p := ⟨w.heap.size + 1 + 1, 0, none⟩) (v := .bool false) (by simp [go_sem]) (by simp [go_sem]); have B := keepb (w := w) (by repeat (first | (with_reducible exact Below.refl _ _) | (with_reducible apply Below.drew) | (with_reducible refine Below.alloc ?_ (by first | exact Nat.le_refl _ | (simp; done) | (simp; omega)) _))) hb)); clear hb))
  refine leaves_cons (f := 54) (args := #[.pointer (some ⟨w.heap.size + 1, 0, none⟩), .pointer (some ⟨w.heap.size + 1 + 1, 0, none⟩)]) (by simp) (by simp [go_sem]) ?_
  refine (over_idle _ _ _).mono ?_
  rintro e u' w'' ⟨rfl, rfl, rfl⟩
  simp [Leaves, settle, results, Try.results27, go_sem, f2, f3, f4]
  exact (by repeat (first | (with_reducible exact B) | (with_reducible exact Below.refl _ _) | (with_reducible apply Below.drew) | (with_reducible apply keepN) | (with_reducible refine Below.setCell ?_ (by first | (simp; done) | (simp; omega)) _) | (with_reducible refine Below.alloc ?_ (by first | exact Nat.le_refl _ | (simp; done) | (simp; omega)) _)))
def overZ (b : Bool) (x k : Int) : Int := if b then dvL x k else dvS (wrap32 x) (wrap32 k)
theorem iOver_any (b : Bool) (x y k : Int) (hk : ¬ cutZ b k = 0) (w : World) : Calls Try.prog 27 #[.bool b, .agg #[.int .i64 x, .int .i64 y], .int .i64 k] w fun e w' => e = .returned (.tuple #[.agg #[.int .i64 (overZ b x k), .int .i64 (overZ b y k)], .bool true]) ∧ Below w.heap.size w w' := by
  cases b
  · exact iOver_f x y k hk w
  · exact iOver_t x y k hk w
end Go.Proofs.Ytcgbkggbffafmaa
