/- impl.Over at the divisor 0: Div dies of the division, the deferred closure recovers, and stores the zero point and false; nothing that was there turns. -/
import Derived.Test.YtcgbkggbffafmaaOver
import Derived.RegionDies
namespace Go.Proofs.Ytcgbkggbffafmaa
open Go.RowKit
set_option linter.unusedSimpArgs false
/-- The call dies of one of Go's panics, and nothing that was there has turned. -/
def Dies (w : World) (e : Ending) (w' : World) : Prop := (∃ u pv, e = .panicked [{ v := .iface u pv, recovered := false }]) ∧ Below w.heap.size w w'
set_option maxHeartbeats 2000000 in
theorem pDivL_zero (x y : Int) (w : World) : Calls Try.prog 56 #[.agg #[.int .i64 x, .int .i64 y], .int .i64 0] w (Dies w) := by
  go_enter Try.func56, Try.ntmps56
  go_wp2
  go_region_dies
  all_goals (try go_wp2)
  all_goals exact ⟨rfl, ⟨_, _, rfl⟩, (by repeat (first | (with_reducible exact Below.refl _ _) | (with_reducible apply Below.drew) | (with_reducible refine Below.alloc ?_ (by first | exact Nat.le_refl _ | (simp; done) | (simp; omega)) _)))⟩
set_option maxHeartbeats 2000000 in
theorem pDivS_zero (x y : Int) (w : World) : Calls Try.prog 58 #[.agg #[.int .i32 x, .int .i32 y], .int .i32 0] w (Dies w) := by
  go_enter Try.func58, Try.ntmps58
  go_wp2
  go_region_dies
  all_goals (try go_wp2)
  all_goals exact ⟨rfl, ⟨_, _, rfl⟩, (by repeat (first | (with_reducible exact Below.refl _ _) | (with_reducible apply Below.drew) | (with_reducible refine Below.alloc ?_ (by first | exact Nat.le_refl _ | (simp; done) | (simp; omega)) _)))⟩
theorem over_catch (b c : Nat) (u : TypeId) (pv : Value) (older : List PanicEntry) (w : World) (h0 : w.cell? ⟨b, 0, none⟩ = some (.int .i64 0)) (h1 : w.cell? ⟨b, 1, none⟩ = some (.int .i64 0)) (h2 : w.cell? ⟨c, 0, none⟩ = some (.bool false))
    (z0 : w.frozen? ⟨b, 0, none⟩ = false) (z1 : w.frozen? ⟨b, 1, none⟩ = false) (z2 : w.frozen? ⟨c, 0, none⟩ = false) (hne : b ≠ c) :
    CallsD Try.prog 54 #[.pointer (some ⟨b, 0, none⟩), .pointer (some ⟨c, 0, none⟩)] (.panicking ({ v := .iface u pv, recovered := false } :: older)) w fun e u' w' =>
      e = .returned (.tuple #[]) ∧ u' = .panicking ({ v := .iface u pv, recovered := true } :: older) ∧ w' = ((w.setCell ⟨b, 0, none⟩ (.int .i64 0)).setCell ⟨b, 1, none⟩ (.int .i64 0)).setCell ⟨c, 0, none⟩ (.bool false) := by
  refine callsD_of_wpS Try.func54 rfl fun c₀ cs hu => ?_
  apply wpS_seq
  apply wpS_region
  simp [wpOpsS, go_sem, recoverD, hu, Try.ntmps54, Exit.thenS]
  refine wpS_cond (t := true) (by simp [Act.eval, Array.replicate]) ?_
  simp only [if_true]
  apply wpS_region
  simp [wpOpsS, go_sem, h0, h1, h2, z0, z1, z2, hne, bodyPostS, results, Try.results54]
set_option maxHeartbeats 4000000 in
theorem iOverZ_t (x y k : Int) (hk : k = 0) (w : World) : Calls Try.prog 27 #[.bool true, .agg #[.int .i64 x, .int .i64 y], .int .i64 k] w fun e w' => e = .returned (.tuple #[.agg #[.int .i64 0, .int .i64 0], .bool false]) ∧ Below w.heap.size w w' := by
  subst hk
  have hmf : ∀ (fn : Fn) (first cap : Array Value) (w : World), (Instr.makeFunc fn first cap).run Try.prog w = .ok (.func fn first cap) w := fun _ _ _ _ => rfl
  go_enter_defers Try.func27, Try.ntmps27
  go_wp2_with (first
    | (go_at_call 50; (with_reducible refine (large_any _ _ _).mono ?_); rintro e w1 ⟨rfl, hb⟩; (first | (replace g2 := keepf hb f2 g2; replace g3 := keepf hb f3 g3; replace g4 := keepf hb f4 g4; replace f0 := keepc hb f0; replace f1 := keepc hb f1; replace f2 := keepc hb f2; replace f3 := keepc hb f3; replace f4 := keepc hb f4; replace B := keepb B hb) | (have f0 := keepc hb (p := ⟨w.heap.size, 0, none⟩) (v := .int .i64 x) (by simp [go_sem]); have f1 := keepc hb (p := ⟨w.heap.size, 1, none⟩) (v := .int .i64 y) (by simp [go_sem]); have f2 := keepc hb (p := ⟨w.heap.size + 1, 0, none⟩) (v := .int .i64 0) (by simp [go_sem]); have f3 := keepc hb (p := ⟨w.heap.size + 1, 1, none⟩) (v := .int .i64 0) (by simp [go_sem]); have f4 := keepc hb (p := ⟨w.heap.size + 1 + 1, 0, none⟩) (v := .bool false) (by simp [go_sem]); have g2 := keepf hb (p := ⟨w.heap.size + 1, 0, none⟩) (v := .int .i64 0) (by simp [go_sem]) (by simp [go_sem]); have g3 := keepf hb (p := ⟨w.heap.size + 1, 1, none⟩) (v := .int .i64 0) (by simp [go_sem]) (by simp [go_sem]); have g4 := keepf hb (p := ⟨w.heap.size + 1 + 1, 0, none⟩) (v := .bool false) (by simp [go_sem]) (by simp [go_sem]); have B := keepb (w := w) (by repeat (first | (with_reducible exact Below.refl _ _) | (with_reducible apply Below.drew) | (with_reducible refine Below.alloc ?_ (by first | exact Nat.le_refl _ | (simp; done) | (simp; omega)) _))) hb)); clear hb)
    | (go_at_call 56; (with_reducible refine (pDivL_zero _ _ _).mono ?_); rintro e w1 ⟨⟨u, pv, rfl⟩, hb⟩; (first | (replace g2 := keepf hb f2 g2; replace g3 := keepf hb f3 g3; replace g4 := keepf hb f4 g4; replace f0 := keepc hb f0; replace f1 := keepc hb f1; replace f2 := keepc hb f2; replace f3 := keepc hb f3; replace f4 := keepc hb f4; replace B := keepb B hb) | (have f0 := keepc hb (p := ⟨w.heap.size, 0, none⟩) (v := .int .i64 x) (by simp [go_sem]); have f1 := keepc hb (p := ⟨w.heap.size, 1, none⟩) (v := .int .i64 y) (by simp [go_sem]); have f2 := keepc hb (p := ⟨w.heap.size + 1, 0, none⟩) (v := .int .i64 0) (by simp [go_sem]); have f3 := keepc hb (p := ⟨w.heap.size + 1, 1, none⟩) (v := .int .i64 0) (by simp [go_sem]); have f4 := keepc hb (p := ⟨w.heap.size + 1 + 1, 0, none⟩) (v := .bool false) (by simp [go_sem]); have g2 := keepf hb (p := ⟨w.heap.size + 1, 0, none⟩) (v := .int .i64 0) (by simp [go_sem]) (by simp [go_sem]); have g3 := keepf hb (p := ⟨w.heap.size + 1, 1, none⟩) (v := .int .i64 0) (by simp [go_sem]) (by simp [go_sem]); have g4 := keepf hb (p := ⟨w.heap.size + 1 + 1, 0, none⟩) (v := .bool false) (by simp [go_sem]) (by simp [go_sem]); have B := keepb (w := w) (by repeat (first | (with_reducible exact Below.refl _ _) | (with_reducible apply Below.drew) | (with_reducible refine Below.alloc ?_ (by first | exact Nat.le_refl _ | (simp; done) | (simp; omega)) _))) hb)); clear hb))
  refine leaves_cons (f := 54) (args := #[.pointer (some ⟨w.heap.size + 1, 0, none⟩), .pointer (some ⟨w.heap.size + 1 + 1, 0, none⟩)]) (by simp) (by simp [go_sem]) ?_
  refine (over_catch (w.heap.size + 1) (w.heap.size + 1 + 1) u pv [] _ f2 f3 f4 g2 g3 g4 (by omega)).mono ?_
  rintro e u' w'' ⟨rfl, rfl, rfl⟩
  simp [Leaves, settle, results, Try.results27, go_sem, f2, f3, f4]
  exact (by repeat (first | (with_reducible exact B) | (with_reducible exact Below.refl _ _) | (with_reducible apply Below.drew) | (with_reducible apply keepN) | (with_reducible refine Below.setCell ?_ (by first | (simp; done) | (simp; omega)) _) | (with_reducible refine Below.alloc ?_ (by first | exact Nat.le_refl _ | (simp; done) | (simp; omega)) _)))
set_option maxHeartbeats 4000000 in
theorem iOverZ_f (x y k : Int) (hk : wrap32 k = 0) (w : World) : Calls Try.prog 27 #[.bool false, .agg #[.int .i64 x, .int .i64 y], .int .i64 k] w fun e w' => e = .returned (.tuple #[.agg #[.int .i64 0, .int .i64 0], .bool false]) ∧ Below w.heap.size w w' := by
  have hk2 : IntKind.i32.wrap k = 0 := by rw [IntKind.wrap_i32]; unfold wrap32 at hk; omega
  have hmf : ∀ (fn : Fn) (first cap : Array Value) (w : World), (Instr.makeFunc fn first cap).run Try.prog w = .ok (.func fn first cap) w := fun _ _ _ _ => rfl
  go_enter_defers Try.func27, Try.ntmps27
  go_wp2_with (first
    | (go_at_call 52; (with_reducible refine (small_any _ _ _).mono ?_); rintro e w1 ⟨rfl, hb⟩; (first | (replace g2 := keepf hb f2 g2; replace g3 := keepf hb f3 g3; replace g4 := keepf hb f4 g4; replace f0 := keepc hb f0; replace f1 := keepc hb f1; replace f2 := keepc hb f2; replace f3 := keepc hb f3; replace f4 := keepc hb f4; replace B := keepb B hb) | (have f0 := keepc hb (p := ⟨w.heap.size, 0, none⟩) (v := .int .i64 x) (by simp [go_sem]); have f1 := keepc hb (p := ⟨w.heap.size, 1, none⟩) (v := .int .i64 y) (by simp [go_sem]); have f2 := keepc hb (p := ⟨w.heap.size + 1, 0, none⟩) (v := .int .i64 0) (by simp [go_sem]); have f3 := keepc hb (p := ⟨w.heap.size + 1, 1, none⟩) (v := .int .i64 0) (by simp [go_sem]); have f4 := keepc hb (p := ⟨w.heap.size + 1 + 1, 0, none⟩) (v := .bool false) (by simp [go_sem]); have g2 := keepf hb (p := ⟨w.heap.size + 1, 0, none⟩) (v := .int .i64 0) (by simp [go_sem]) (by simp [go_sem]); have g3 := keepf hb (p := ⟨w.heap.size + 1, 1, none⟩) (v := .int .i64 0) (by simp [go_sem]) (by simp [go_sem]); have g4 := keepf hb (p := ⟨w.heap.size + 1 + 1, 0, none⟩) (v := .bool false) (by simp [go_sem]) (by simp [go_sem]); have B := keepb (w := w) (by repeat (first | (with_reducible exact Below.refl _ _) | (with_reducible apply Below.drew) | (with_reducible refine Below.alloc ?_ (by first | exact Nat.le_refl _ | (simp; done) | (simp; omega)) _))) hb)); clear hb)
    | (go_at_call 58; (with_reducible refine (pDivS_zero _ _ _).mono ?_); rintro e w1 ⟨⟨u, pv, rfl⟩, hb⟩; (first | (replace g2 := keepf hb f2 g2; replace g3 := keepf hb f3 g3; replace g4 := keepf hb f4 g4; replace f0 := keepc hb f0; replace f1 := keepc hb f1; replace f2 := keepc hb f2; replace f3 := keepc hb f3; replace f4 := keepc hb f4; replace B := keepb B hb) | (have f0 := keepc hb (p := ⟨w.heap.size, 0, none⟩) (v := .int .i64 x) (by simp [go_sem]); have f1 := keepc hb (p := ⟨w.heap.size, 1, none⟩) (v := .int .i64 y) (by simp [go_sem]); have f2 := keepc hb (p := ⟨w.heap.size + 1, 0, none⟩) (v := .int .i64 0) (by simp [go_sem]); have f3 := keepc hb (p := ⟨w.heap.size + 1, 1, none⟩) (v := .int .i64 0) (by simp [go_sem]); have f4 := keepc hb (p := ⟨w.heap.size + 1 + 1, 0, none⟩) (v := .bool false) (by simp [go_sem]); have g2 := keepf hb (p := ⟨w.heap.size + 1, 0, none⟩) (v := .int .i64 0) (by simp [go_sem]) (by simp [go_sem]); have g3 := keepf hb (p := ⟨w.heap.size + 1, 1, none⟩) (v := .int .i64 0) (by simp [go_sem]) (by simp [go_sem]); have g4 := keepf hb (p := ⟨w.heap.size + 1 + 1, 0, none⟩) (v := .bool false) (by simp [go_sem]) (by simp [go_sem]); have B := keepb (w := w) (by repeat (first | (with_reducible exact Below.refl _ _) | (with_reducible apply Below.drew) | (with_reducible refine Below.alloc ?_ (by first | exact Nat.le_refl _ | (simp; done) | (simp; omega)) _))) hb)); clear hb))
  refine leaves_cons (f := 54) (args := #[.pointer (some ⟨w.heap.size + 1, 0, none⟩), .pointer (some ⟨w.heap.size + 1 + 1, 0, none⟩)]) (by simp) (by simp [go_sem]) ?_
  refine (over_catch (w.heap.size + 1) (w.heap.size + 1 + 1) u pv [] _ f2 f3 f4 g2 g3 g4 (by omega)).mono ?_
  rintro e u' w'' ⟨rfl, rfl, rfl⟩
  simp [Leaves, settle, results, Try.results27, go_sem, f2, f3, f4]
  exact (by repeat (first | (with_reducible exact B) | (with_reducible exact Below.refl _ _) | (with_reducible apply Below.drew) | (with_reducible apply keepN) | (with_reducible refine Below.setCell ?_ (by first | (simp; done) | (simp; omega)) _) | (with_reducible refine Below.alloc ?_ (by first | exact Nat.le_refl _ | (simp; done) | (simp; omega)) _)))
theorem iOverZ_any (b : Bool) (x y k : Int) (hk : cutZ b k = 0) (w : World) : Calls Try.prog 27 #[.bool b, .agg #[.int .i64 x, .int .i64 y], .int .i64 k] w fun e w' => e = .returned (.tuple #[.agg #[.int .i64 0, .int .i64 0], .bool false]) ∧ Below w.heap.size w w' := by
  cases b
  · exact iOverZ_f x y k hk w
  · exact iOverZ_t x y k hk w
end Go.Proofs.Ytcgbkggbffafmaa
