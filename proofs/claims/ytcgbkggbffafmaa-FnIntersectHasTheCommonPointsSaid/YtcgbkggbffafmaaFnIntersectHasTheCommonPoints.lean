/- FnIntersectHasTheCommonPoints: a point is in Intersect if it is in both.
   The law returns true for every input, and nothing that was in memory turns. No condition. -/
import Derived.Test.YtcgbkggbffafmaaImplC
import Derived.WalkKit
import Derived.ProofKit
import Derived.OpenShut
namespace Go.Proofs.Ytcgbkggbffafmaa.fnIntersectHasTheCommonPoints
open Go.ChangeShapes Go.WideShapes Go.ChangeAt Go.RowKit
set_option linter.unusedVariables false

theorem own : ownKnob Try.prog.godebug = none := by kernel_rfl

set_option linter.unusedSimpArgs false
set_option maxHeartbeats 4000000 in
theorem way_r (a0 : Bool) (a1x a1y a1z a1t a2x a2y a2z a2t a3x a3y : Int) (q0 : (cutZ a0 (iX0 (cutZ a0 a1x) (cutZ a0 a1y) (cutZ a0 a1z) (cutZ a0 a1t) (cutZ a0 a2x) (cutZ a0 a2y) (cutZ a0 a2z) (cutZ a0 a2t))) = iX0 (cutZ a0 a1x) (cutZ a0 a1y) (cutZ a0 a1z) (cutZ a0 a1t) (cutZ a0 a2x) (cutZ a0 a2y) (cutZ a0 a2z) (cutZ a0 a2t)) (q1 : (cutZ a0 (iY0 (cutZ a0 a1x) (cutZ a0 a1y) (cutZ a0 a1z) (cutZ a0 a1t) (cutZ a0 a2x) (cutZ a0 a2y) (cutZ a0 a2z) (cutZ a0 a2t))) = iY0 (cutZ a0 a1x) (cutZ a0 a1y) (cutZ a0 a1z) (cutZ a0 a1t) (cutZ a0 a2x) (cutZ a0 a2y) (cutZ a0 a2z) (cutZ a0 a2t)) (q2 : (cutZ a0 (iX1 (cutZ a0 a1x) (cutZ a0 a1y) (cutZ a0 a1z) (cutZ a0 a1t) (cutZ a0 a2x) (cutZ a0 a2y) (cutZ a0 a2z) (cutZ a0 a2t))) = iX1 (cutZ a0 a1x) (cutZ a0 a1y) (cutZ a0 a1z) (cutZ a0 a1t) (cutZ a0 a2x) (cutZ a0 a2y) (cutZ a0 a2z) (cutZ a0 a2t)) (q3 : (cutZ a0 (iY1 (cutZ a0 a1x) (cutZ a0 a1y) (cutZ a0 a1z) (cutZ a0 a1t) (cutZ a0 a2x) (cutZ a0 a2y) (cutZ a0 a2z) (cutZ a0 a2t))) = iY1 (cutZ a0 a1x) (cutZ a0 a1y) (cutZ a0 a1z) (cutZ a0 a1t) (cutZ a0 a2x) (cutZ a0 a2y) (cutZ a0 a2z) (cutZ a0 a2t)) (hr : hasB (cutZ a0 a1x) (cutZ a0 a1y) (cutZ a0 a1z) (cutZ a0 a1t) (cutZ a0 a3x) (cutZ a0 a3y) = false) (hi : hasB (iX0 (cutZ a0 a1x) (cutZ a0 a1y) (cutZ a0 a1z) (cutZ a0 a1t) (cutZ a0 a2x) (cutZ a0 a2y) (cutZ a0 a2z) (cutZ a0 a2t)) (iY0 (cutZ a0 a1x) (cutZ a0 a1y) (cutZ a0 a1z) (cutZ a0 a1t) (cutZ a0 a2x) (cutZ a0 a2y) (cutZ a0 a2z) (cutZ a0 a2t)) (iX1 (cutZ a0 a1x) (cutZ a0 a1y) (cutZ a0 a1z) (cutZ a0 a1t) (cutZ a0 a2x) (cutZ a0 a2y) (cutZ a0 a2z) (cutZ a0 a2t)) (iY1 (cutZ a0 a1x) (cutZ a0 a1y) (cutZ a0 a1z) (cutZ a0 a1t) (cutZ a0 a2x) (cutZ a0 a2y) (cutZ a0 a2z) (cutZ a0 a2t)) (cutZ a0 a3x) (cutZ a0 a3y) = false) (w : World) :
    Calls Try.prog 15 #[.bool a0, .agg #[.int .i64 a1x, .int .i64 a1y, .int .i64 a1z, .int .i64 a1t], .agg #[.int .i64 a2x, .int .i64 a2y, .int .i64 a2z, .int .i64 a2t], .agg #[.int .i64 a3x, .int .i64 a3y]] w fun e w' => e = .returned (.bool true) ∧ Below w.heap.size w w' := by
  have k0 := cut_0 a0
  have k1 := cut_1 a0
  have e0 : hasB 0 0 1 1 0 0 = true := by decide
  go_enter Try.func15, Try.ntmps15
  go_wp2
  refine wp_region_held_drew (S := (fun w' => w'.cell? ⟨w.heap.size, 0, none⟩ = some (.int .i64 a1x) ∧ w'.cell? ⟨w.heap.size, 1, none⟩ = some (.int .i64 a1y) ∧ w'.cell? ⟨w.heap.size, 2, none⟩ = some (.int .i64 a1z) ∧ w'.cell? ⟨w.heap.size, 3, none⟩ = some (.int .i64 a1t) ∧ w'.cell? ⟨w.heap.size + 1, 0, none⟩ = some (.int .i64 a2x) ∧ w'.cell? ⟨w.heap.size + 1, 1, none⟩ = some (.int .i64 a2y) ∧ w'.cell? ⟨w.heap.size + 1, 2, none⟩ = some (.int .i64 a2z) ∧ w'.cell? ⟨w.heap.size + 1, 3, none⟩ = some (.int .i64 a2t) ∧ w'.cell? ⟨w.heap.size + 1 + 1, 0, none⟩ = some (.int .i64 a3x) ∧ w'.cell? ⟨w.heap.size + 1 + 1, 1, none⟩ = some (.int .i64 a3y))) (by kernel_rfl) ?_ (fun hHeld => ?_)
  · (try dsimp only); (first | (with_reducible exact ⟨f0, f1, f2, f3, f4, f5, f6, f7, f8, f9⟩) | (simp [go_sem]; done) | (simp [go_sem, f0, f1, f2, f3, f4, f5, f6, f7, f8, f9]; done))
  refine wpAnyH_take (i := 0) (oi := ?o1) (v := ?v1) ?hi1 (by kernel_rfl) (by kernel_rfl) (by kernel_rfl) ?hQ1 (Or.inl ⟨?hg1, ?hy1⟩) (by assumption) ?rest1
  case hi1 => (simp only [List.getElem?_toArray, List.getElem?_cons_zero, List.getElem?_cons_succ]; (first | done | with_reducible rfl))
  case hQ1 => exact fun _ _ _ h => h
  case hg1 => rfl
  case hy1 => (intro w hSw; (try dsimp only at hSw); go_simp; (first | done | (with_reducible rfl)))
  (try simp only [Act.put, List.setIfInBounds_toArray, List.set_cons_zero, List.set_cons_succ])
  refine wpAnyH_take (i := 1) (oi := ?o2) (v := ?v2) ?hi2 (by kernel_rfl) (by kernel_rfl) (by kernel_rfl) ?hQ2 (Or.inl ⟨?hg2, ?hy2⟩) (by assumption) ?rest2
  case hi2 => (simp only [List.getElem?_toArray, List.getElem?_cons_zero, List.getElem?_cons_succ]; (first | done | with_reducible rfl))
  case hQ2 => exact fun _ _ _ h => h
  case hg2 => rfl
  case hy2 => (intro w hSw; (try dsimp only at hSw); go_simp; (first | done | (with_reducible rfl)))
  (try simp only [Act.put, List.setIfInBounds_toArray, List.set_cons_zero, List.set_cons_succ])
  refine wpAnyH_take (i := 2) (oi := ?o3) (v := ?v3) ?hi3 (by kernel_rfl) (by kernel_rfl) (by kernel_rfl) ?hQ3 (Or.inl ⟨?hg3, ?hy3⟩) (by assumption) ?rest3
  case hi3 => (simp only [List.getElem?_toArray, List.getElem?_cons_zero, List.getElem?_cons_succ]; (first | done | with_reducible rfl))
  case hQ3 => exact fun _ _ _ h => h
  case hg3 => rfl
  case hy3 => (intro w hSw; (try dsimp only at hSw); go_simp; (first | done | (with_reducible rfl)))
  (try simp only [Act.put, List.setIfInBounds_toArray, List.set_cons_zero, List.set_cons_succ])
  refine wpAnyH_take (i := 3) (oi := ?o4) (v := ?v4) ?hi4 (by kernel_rfl) (by kernel_rfl) (by kernel_rfl) ?hQ4 (Or.inl ⟨?hg4, ?hy4⟩) (by assumption) ?rest4
  case hi4 => (simp only [List.getElem?_toArray, List.getElem?_cons_zero, List.getElem?_cons_succ]; (first | done | with_reducible rfl))
  case hQ4 => exact fun _ _ _ h => h
  case hg4 => rfl
  case hy4 => (intro w hSw; (try dsimp only at hSw); go_simp; (first | done | (with_reducible rfl)))
  (try simp only [Act.put, List.setIfInBounds_toArray, List.set_cons_zero, List.set_cons_succ])
  refine wpAnyH_take (i := 4) (oi := ?o5) (v := ?v5) ?hi5 (by kernel_rfl) (by kernel_rfl) (by kernel_rfl) ?hQ5 (Or.inl ⟨?hg5, ?hy5⟩) (by assumption) ?rest5
  case hi5 => (simp only [List.getElem?_toArray, List.getElem?_cons_zero, List.getElem?_cons_succ]; (first | done | with_reducible rfl))
  case hQ5 => exact fun _ _ _ h => h
  case hg5 => rfl
  case hy5 => (intro w hSw; (try dsimp only at hSw); go_simp; (first | done | (with_reducible rfl)))
  (try simp only [Act.put, List.setIfInBounds_toArray, List.set_cons_zero, List.set_cons_succ])
  refine wpAnyH_take (i := 7) (oi := ?o6) (v := ?v6) ?hi6 (by kernel_rfl) (by kernel_rfl) (by kernel_rfl) ?hQ6 (Or.inl ⟨?hg6, ?hy6⟩) (by assumption) ?rest6
  case hi6 => (simp only [List.getElem?_toArray, List.getElem?_cons_zero, List.getElem?_cons_succ]; (first | done | with_reducible rfl))
  case hQ6 => exact fun _ _ _ h => h
  case hg6 => rfl
  case hy6 => (intro w hSw; (try dsimp only at hSw); go_simp; (first | done | (with_reducible rfl)))
  (try simp only [Act.put, List.setIfInBounds_toArray, List.set_cons_zero, List.set_cons_succ])
  refine wpAnyH_take (i := 8) (oi := ?o7) (v := ?v7) ?hi7 (by kernel_rfl) (by kernel_rfl) (by kernel_rfl) ?hQ7 (Or.inl ⟨?hg7, ?hy7⟩) (by assumption) ?rest7
  case hi7 => (simp only [List.getElem?_toArray, List.getElem?_cons_zero, List.getElem?_cons_succ]; (first | done | with_reducible rfl))
  case hQ7 => exact fun _ _ _ h => h
  case hg7 => rfl
  case hy7 => (intro w hSw; (try dsimp only at hSw); go_simp; (first | done | (with_reducible rfl)))
  (try simp only [Act.put, List.setIfInBounds_toArray, List.set_cons_zero, List.set_cons_succ])
  refine wpAnyH_take (i := 9) (oi := ?o8) (v := ?v8) ?hi8 (by kernel_rfl) (by kernel_rfl) (by kernel_rfl) ?hQ8 (Or.inl ⟨?hg8, ?hy8⟩) (by assumption) ?rest8
  case hi8 => (simp only [List.getElem?_toArray, List.getElem?_cons_zero, List.getElem?_cons_succ]; (first | done | with_reducible rfl))
  case hQ8 => exact fun _ _ _ h => h
  case hg8 => rfl
  case hy8 => (intro w hSw; (try dsimp only at hSw); go_simp; (first | done | (with_reducible rfl)))
  (try simp only [Act.put, List.setIfInBounds_toArray, List.set_cons_zero, List.set_cons_succ])
  refine wpAnyH_ready (rs := [5]) (by kernel_rfl) (by simp) ?_
  refine AllReadyH.cons (o := ?o9) ?hi9 (fun K hK => ?step9) AllReadyH.nil
  case hi9 => (simp only [List.getElem?_toArray, List.getElem?_cons_zero, List.getElem?_cons_succ]; (first | done | with_reducible rfl))
  go_simp
  (go_at_call 16; (with_reducible refine (iInter_any _ _ _ _ _ _ _ _ _ _).mono ?_); rintro e w1 ⟨rfl, hb⟩; (first | (replace f0 := keepc hb f0; replace f1 := keepc hb f1; replace f2 := keepc hb f2; replace f3 := keepc hb f3; replace f4 := keepc hb f4; replace f5 := keepc hb f5; replace f6 := keepc hb f6; replace f7 := keepc hb f7; replace f8 := keepc hb f8; replace f9 := keepc hb f9; replace B := keepb B hb) | (have f0 := keepc hb (p := ⟨w.heap.size, 0, none⟩) (v := .int .i64 a1x) (by simp [go_sem]); have f1 := keepc hb (p := ⟨w.heap.size, 1, none⟩) (v := .int .i64 a1y) (by simp [go_sem]); have f2 := keepc hb (p := ⟨w.heap.size, 2, none⟩) (v := .int .i64 a1z) (by simp [go_sem]); have f3 := keepc hb (p := ⟨w.heap.size, 3, none⟩) (v := .int .i64 a1t) (by simp [go_sem]); have f4 := keepc hb (p := ⟨w.heap.size + 1, 0, none⟩) (v := .int .i64 a2x) (by simp [go_sem]); have f5 := keepc hb (p := ⟨w.heap.size + 1, 1, none⟩) (v := .int .i64 a2y) (by simp [go_sem]); have f6 := keepc hb (p := ⟨w.heap.size + 1, 2, none⟩) (v := .int .i64 a2z) (by simp [go_sem]); have f7 := keepc hb (p := ⟨w.heap.size + 1, 3, none⟩) (v := .int .i64 a2t) (by simp [go_sem]); have f8 := keepc hb (p := ⟨w.heap.size + 1 + 1, 0, none⟩) (v := .int .i64 a3x) (by simp [go_sem]); have f9 := keepc hb (p := ⟨w.heap.size + 1 + 1, 1, none⟩) (v := .int .i64 a3y) (by simp [go_sem]); have B := keepb (w := w) (by repeat (first | (with_reducible exact Below.refl _ _) | (with_reducible apply Below.drew) | (with_reducible refine Below.alloc ?_ (by first | exact Nat.le_refl _ | (simp; done) | (simp; omega)) _))) hb)); clear hb)
  refine hK.out _ _ ?_ (fun hHeld => ?_)
  · (try dsimp only); (first | (with_reducible exact ⟨f0, f1, f2, f3, f4, f5, f6, f7, f8, f9⟩) | (simp [go_sem]; done) | (simp [go_sem, f0, f1, f2, f3, f4, f5, f6, f7, f8, f9]; done))
  clear hK K
  (try simp only [Act.put, List.setIfInBounds_toArray, List.set_cons_zero, List.set_cons_succ])
  refine wpAnyH_ready (rs := [6]) (by kernel_rfl) (by simp) ?_
  refine AllReadyH.cons (o := ?o10) ?hi10 (fun K hK => ?step10) AllReadyH.nil
  case hi10 => (simp only [List.getElem?_toArray, List.getElem?_cons_zero, List.getElem?_cons_succ]; (first | done | with_reducible rfl))
  go_simp
  (go_at_call 24; (with_reducible refine (iPointIn_any _ _ _ _ _ _ _ _).mono ?_); rintro e w1 ⟨rfl, hb⟩; (first | (replace f0 := keepc hb f0; replace f1 := keepc hb f1; replace f2 := keepc hb f2; replace f3 := keepc hb f3; replace f4 := keepc hb f4; replace f5 := keepc hb f5; replace f6 := keepc hb f6; replace f7 := keepc hb f7; replace f8 := keepc hb f8; replace f9 := keepc hb f9; replace B := keepb B hb) | (have f0 := keepc hb (p := ⟨w.heap.size, 0, none⟩) (v := .int .i64 a1x) (by simp [go_sem]); have f1 := keepc hb (p := ⟨w.heap.size, 1, none⟩) (v := .int .i64 a1y) (by simp [go_sem]); have f2 := keepc hb (p := ⟨w.heap.size, 2, none⟩) (v := .int .i64 a1z) (by simp [go_sem]); have f3 := keepc hb (p := ⟨w.heap.size, 3, none⟩) (v := .int .i64 a1t) (by simp [go_sem]); have f4 := keepc hb (p := ⟨w.heap.size + 1, 0, none⟩) (v := .int .i64 a2x) (by simp [go_sem]); have f5 := keepc hb (p := ⟨w.heap.size + 1, 1, none⟩) (v := .int .i64 a2y) (by simp [go_sem]); have f6 := keepc hb (p := ⟨w.heap.size + 1, 2, none⟩) (v := .int .i64 a2z) (by simp [go_sem]); have f7 := keepc hb (p := ⟨w.heap.size + 1, 3, none⟩) (v := .int .i64 a2t) (by simp [go_sem]); have f8 := keepc hb (p := ⟨w.heap.size + 1 + 1, 0, none⟩) (v := .int .i64 a3x) (by simp [go_sem]); have f9 := keepc hb (p := ⟨w.heap.size + 1 + 1, 1, none⟩) (v := .int .i64 a3y) (by simp [go_sem]); have B := keepb (w := w) (by repeat (first | (with_reducible exact Below.refl _ _) | (with_reducible apply Below.drew) | (with_reducible refine Below.alloc ?_ (by first | exact Nat.le_refl _ | (simp; done) | (simp; omega)) _))) hb)); clear hb)
  refine hK.out _ _ ?_ (fun hHeld => ?_)
  · (try dsimp only); (first | (with_reducible exact ⟨f0, f1, f2, f3, f4, f5, f6, f7, f8, f9⟩) | (simp [go_sem]; done) | (simp [go_sem, f0, f1, f2, f3, f4, f5, f6, f7, f8, f9]; done))
  clear hK K
  (try simp only [Act.put, List.setIfInBounds_toArray, List.set_cons_zero, List.set_cons_succ])
  refine wpAnyH_ready (rs := [10]) (by kernel_rfl) (by simp) ?_
  refine AllReadyH.cons (o := ?o11) ?hi11 (fun K hK => ?step11) AllReadyH.nil
  case hi11 => (simp only [List.getElem?_toArray, List.getElem?_cons_zero, List.getElem?_cons_succ]; (first | done | with_reducible rfl))
  go_simp
  (go_at_call 24; (with_reducible refine (iPointIn_any _ _ _ _ _ _ _ _).mono ?_); rintro e w1 ⟨rfl, hb⟩; (first | (replace f0 := keepc hb f0; replace f1 := keepc hb f1; replace f2 := keepc hb f2; replace f3 := keepc hb f3; replace f4 := keepc hb f4; replace f5 := keepc hb f5; replace f6 := keepc hb f6; replace f7 := keepc hb f7; replace f8 := keepc hb f8; replace f9 := keepc hb f9; replace B := keepb B hb) | (have f0 := keepc hb (p := ⟨w.heap.size, 0, none⟩) (v := .int .i64 a1x) (by simp [go_sem]); have f1 := keepc hb (p := ⟨w.heap.size, 1, none⟩) (v := .int .i64 a1y) (by simp [go_sem]); have f2 := keepc hb (p := ⟨w.heap.size, 2, none⟩) (v := .int .i64 a1z) (by simp [go_sem]); have f3 := keepc hb (p := ⟨w.heap.size, 3, none⟩) (v := .int .i64 a1t) (by simp [go_sem]); have f4 := keepc hb (p := ⟨w.heap.size + 1, 0, none⟩) (v := .int .i64 a2x) (by simp [go_sem]); have f5 := keepc hb (p := ⟨w.heap.size + 1, 1, none⟩) (v := .int .i64 a2y) (by simp [go_sem]); have f6 := keepc hb (p := ⟨w.heap.size + 1, 2, none⟩) (v := .int .i64 a2z) (by simp [go_sem]); have f7 := keepc hb (p := ⟨w.heap.size + 1, 3, none⟩) (v := .int .i64 a2t) (by simp [go_sem]); have f8 := keepc hb (p := ⟨w.heap.size + 1 + 1, 0, none⟩) (v := .int .i64 a3x) (by simp [go_sem]); have f9 := keepc hb (p := ⟨w.heap.size + 1 + 1, 1, none⟩) (v := .int .i64 a3y) (by simp [go_sem]); have B := keepb (w := w) (by repeat (first | (with_reducible exact Below.refl _ _) | (with_reducible apply Below.drew) | (with_reducible refine Below.alloc ?_ (by first | exact Nat.le_refl _ | (simp; done) | (simp; omega)) _))) hb)); clear hb)
  refine hK.out _ _ ?_ (fun hHeld => ?_)
  · (try dsimp only); (first | (with_reducible exact ⟨f0, f1, f2, f3, f4, f5, f6, f7, f8, f9⟩) | (simp [go_sem]; done) | (simp [go_sem, f0, f1, f2, f3, f4, f5, f6, f7, f8, f9]; done))
  clear hK K
  (try simp only [Act.put, List.setIfInBounds_toArray, List.set_cons_zero, List.set_cons_succ])
  simp only [q0, q1, q2, q3, hr, hi]
  refine wpAnyH_take (i := 11) (oi := ?o12) (v := ?v12) ?hi12 (by kernel_rfl) (by kernel_rfl) (by kernel_rfl) ?hQ12 (Or.inl ⟨?hg12, ?hy12⟩) (by assumption) ?rest12
  case hi12 => (simp only [List.getElem?_toArray, List.getElem?_cons_zero, List.getElem?_cons_succ]; (first | done | with_reducible rfl))
  case hQ12 => exact fun _ _ _ h => h
  case hg12 => rfl
  case hy12 => (intro w hSw; (try dsimp only at hSw); go_simp; (first | done | (with_reducible rfl)))
  (try simp only [Act.put, List.setIfInBounds_toArray, List.set_cons_zero, List.set_cons_succ])
  refine wpAnyH_take (i := 12) (oi := ?o13) (v := undef) ?hi13 (by kernel_rfl) (by kernel_rfl) (by kernel_rfl) ?hQ13 (Or.inr ⟨?hg13, rfl⟩) (by assumption) ?rest13
  case hi13 => (simp only [List.getElem?_toArray, List.getElem?_cons_zero, List.getElem?_cons_succ]; (first | done | with_reducible rfl))
  case hQ13 => exact fun _ _ _ h => h
  case hg13 => rfl
  (try simp only [Act.put, List.setIfInBounds_toArray, List.set_cons_zero, List.set_cons_succ])
  refine wpAnyH_take (i := 13) (oi := ?o14) (v := undef) ?hi14 (by kernel_rfl) (by kernel_rfl) (by kernel_rfl) ?hQ14 (Or.inr ⟨?hg14, rfl⟩) (by assumption) ?rest14
  case hi14 => (simp only [List.getElem?_toArray, List.getElem?_cons_zero, List.getElem?_cons_succ]; (first | done | with_reducible rfl))
  case hQ14 => exact fun _ _ _ h => h
  case hg14 => rfl
  (try simp only [Act.put, List.setIfInBounds_toArray, List.set_cons_zero, List.set_cons_succ])
  refine wpAnyH_take (i := 14) (oi := ?o15) (v := undef) ?hi15 (by kernel_rfl) (by kernel_rfl) (by kernel_rfl) ?hQ15 (Or.inr ⟨?hg15, rfl⟩) (by assumption) ?rest15
  case hi15 => (simp only [List.getElem?_toArray, List.getElem?_cons_zero, List.getElem?_cons_succ]; (first | done | with_reducible rfl))
  case hQ15 => exact fun _ _ _ h => h
  case hg15 => rfl
  (try simp only [Act.put, List.setIfInBounds_toArray, List.set_cons_zero, List.set_cons_succ])
  refine wpAnyH_take (i := 15) (oi := ?o16) (v := undef) ?hi16 (by kernel_rfl) (by kernel_rfl) (by kernel_rfl) ?hQ16 (Or.inr ⟨?hg16, rfl⟩) (by assumption) ?rest16
  case hi16 => (simp only [List.getElem?_toArray, List.getElem?_cons_zero, List.getElem?_cons_succ]; (first | done | with_reducible rfl))
  case hQ16 => exact fun _ _ _ h => h
  case hg16 => rfl
  (try simp only [Act.put, List.setIfInBounds_toArray, List.set_cons_zero, List.set_cons_succ])
  refine wpAnyH_take (i := 16) (oi := ?o17) (v := ?v17) ?hi17 (by kernel_rfl) (by kernel_rfl) (by kernel_rfl) ?hQ17 (Or.inl ⟨?hg17, ?hy17⟩) (by assumption) ?rest17
  case hi17 => (simp only [List.getElem?_toArray, List.getElem?_cons_zero, List.getElem?_cons_succ]; (first | done | with_reducible rfl))
  case hQ17 => exact fun _ _ _ h => h
  case hg17 => rfl
  case hy17 => (intro w hSw; (try dsimp only at hSw); go_simp; (first | done | (with_reducible rfl)))
  (try simp only [Act.put, List.setIfInBounds_toArray, List.set_cons_zero, List.set_cons_succ])
  refine wpAnyH_take (i := 17) (oi := ?o18) (v := ?v18) ?hi18 (by kernel_rfl) (by kernel_rfl) (by kernel_rfl) ?hQ18 (Or.inl ⟨?hg18, ?hy18⟩) (by assumption) ?rest18
  case hi18 => (simp only [List.getElem?_toArray, List.getElem?_cons_zero, List.getElem?_cons_succ]; (first | done | with_reducible rfl))
  case hQ18 => exact fun _ _ _ h => h
  case hg18 => rfl
  case hy18 => (intro w hSw; (try dsimp only at hSw); go_simp; (first | done | (with_reducible rfl)))
  (try simp only [Act.put, List.setIfInBounds_toArray, List.set_cons_zero, List.set_cons_succ])
  refine wpAnyH_take (i := 18) (oi := ?o19) (v := ?v19) ?hi19 (by kernel_rfl) (by kernel_rfl) (by kernel_rfl) ?hQ19 (Or.inl ⟨?hg19, ?hy19⟩) (by assumption) ?rest19
  case hi19 => (simp only [List.getElem?_toArray, List.getElem?_cons_zero, List.getElem?_cons_succ]; (first | done | with_reducible rfl))
  case hQ19 => exact fun _ _ _ h => h
  case hg19 => rfl
  case hy19 => (intro w hSw; (try dsimp only at hSw); go_simp; (first | done | (with_reducible rfl)))
  (try simp only [Act.put, List.setIfInBounds_toArray, List.set_cons_zero, List.set_cons_succ])
  refine wpAnyH_take (i := 19) (oi := ?o20) (v := ?v20) ?hi20 (by kernel_rfl) (by kernel_rfl) (by kernel_rfl) ?hQ20 (Or.inl ⟨?hg20, ?hy20⟩) (by assumption) ?rest20
  case hi20 => (simp only [List.getElem?_toArray, List.getElem?_cons_zero, List.getElem?_cons_succ]; (first | done | with_reducible rfl))
  case hQ20 => exact fun _ _ _ h => h
  case hg20 => rfl
  case hy20 => (intro w hSw; (try dsimp only at hSw); go_simp; (first | done | (with_reducible rfl)))
  (try simp only [Act.put, List.setIfInBounds_toArray, List.set_cons_zero, List.set_cons_succ])
  refine wpAnyH_take (i := 20) (oi := ?o21) (v := ?v21) ?hi21 (by kernel_rfl) (by kernel_rfl) (by kernel_rfl) ?hQ21 (Or.inl ⟨?hg21, ?hy21⟩) (by assumption) ?rest21
  case hi21 => (simp only [List.getElem?_toArray, List.getElem?_cons_zero, List.getElem?_cons_succ]; (first | done | with_reducible rfl))
  case hQ21 => exact fun _ _ _ h => h
  case hg21 => rfl
  case hy21 => (intro w hSw; (try dsimp only at hSw); go_simp; (first | done | (with_reducible rfl)))
  (try simp only [Act.put, List.setIfInBounds_toArray, List.set_cons_zero, List.set_cons_succ])
  refine wpAnyH_take (i := 21) (oi := ?o22) (v := ?v22) ?hi22 (by kernel_rfl) (by kernel_rfl) (by kernel_rfl) ?hQ22 (Or.inl ⟨?hg22, ?hy22⟩) (by assumption) ?rest22
  case hi22 => (simp only [List.getElem?_toArray, List.getElem?_cons_zero, List.getElem?_cons_succ]; (first | done | with_reducible rfl))
  case hQ22 => exact fun _ _ _ h => h
  case hg22 => rfl
  case hy22 => (intro w hSw; (try dsimp only at hSw); go_simp; (first | done | (with_reducible rfl)))
  (try simp only [Act.put, List.setIfInBounds_toArray, List.set_cons_zero, List.set_cons_succ])
  refine wpAnyH_take (i := 22) (oi := ?o23) (v := ?v23) ?hi23 (by kernel_rfl) (by kernel_rfl) (by kernel_rfl) ?hQ23 (Or.inl ⟨?hg23, ?hy23⟩) (by assumption) ?rest23
  case hi23 => (simp only [List.getElem?_toArray, List.getElem?_cons_zero, List.getElem?_cons_succ]; (first | done | with_reducible rfl))
  case hQ23 => exact fun _ _ _ h => h
  case hg23 => rfl
  case hy23 => (intro w hSw; (try dsimp only at hSw); go_simp; (first | done | (with_reducible rfl)))
  (try simp only [Act.put, List.setIfInBounds_toArray, List.set_cons_zero, List.set_cons_succ])
  refine wpAnyH_ready (rs := [23]) (by kernel_rfl) (by simp) ?_
  refine AllReadyH.cons (o := ?o24) ?hi24 (fun K hK => ?step24) AllReadyH.nil
  case hi24 => (simp only [List.getElem?_toArray, List.getElem?_cons_zero, List.getElem?_cons_succ]; (first | done | with_reducible rfl))
  go_simp
  (go_at_call 24; (with_reducible refine (iPointIn_any _ _ _ _ _ _ _ _).mono ?_); rintro e w1 ⟨rfl, hb⟩; (first | (replace f0 := keepc hb f0; replace f1 := keepc hb f1; replace f2 := keepc hb f2; replace f3 := keepc hb f3; replace f4 := keepc hb f4; replace f5 := keepc hb f5; replace f6 := keepc hb f6; replace f7 := keepc hb f7; replace f8 := keepc hb f8; replace f9 := keepc hb f9; replace B := keepb B hb) | (have f0 := keepc hb (p := ⟨w.heap.size, 0, none⟩) (v := .int .i64 a1x) (by simp [go_sem]); have f1 := keepc hb (p := ⟨w.heap.size, 1, none⟩) (v := .int .i64 a1y) (by simp [go_sem]); have f2 := keepc hb (p := ⟨w.heap.size, 2, none⟩) (v := .int .i64 a1z) (by simp [go_sem]); have f3 := keepc hb (p := ⟨w.heap.size, 3, none⟩) (v := .int .i64 a1t) (by simp [go_sem]); have f4 := keepc hb (p := ⟨w.heap.size + 1, 0, none⟩) (v := .int .i64 a2x) (by simp [go_sem]); have f5 := keepc hb (p := ⟨w.heap.size + 1, 1, none⟩) (v := .int .i64 a2y) (by simp [go_sem]); have f6 := keepc hb (p := ⟨w.heap.size + 1, 2, none⟩) (v := .int .i64 a2z) (by simp [go_sem]); have f7 := keepc hb (p := ⟨w.heap.size + 1, 3, none⟩) (v := .int .i64 a2t) (by simp [go_sem]); have f8 := keepc hb (p := ⟨w.heap.size + 1 + 1, 0, none⟩) (v := .int .i64 a3x) (by simp [go_sem]); have f9 := keepc hb (p := ⟨w.heap.size + 1 + 1, 1, none⟩) (v := .int .i64 a3y) (by simp [go_sem]); have B := keepb (w := w) (by repeat (first | (with_reducible exact Below.refl _ _) | (with_reducible apply Below.drew) | (with_reducible refine Below.alloc ?_ (by first | exact Nat.le_refl _ | (simp; done) | (simp; omega)) _))) hb)); clear hb)
  refine hK.out _ _ ?_ (fun hHeld => ?_)
  · (try dsimp only); (first | (with_reducible exact ⟨f0, f1, f2, f3, f4, f5, f6, f7, f8, f9⟩) | (simp [go_sem]; done) | (simp [go_sem, f0, f1, f2, f3, f4, f5, f6, f7, f8, f9]; done))
  clear hK K
  (try simp only [Act.put, List.setIfInBounds_toArray, List.set_cons_zero, List.set_cons_succ])
  simp only [k0, k1, e0]
  refine wpAnyH_take (i := 24) (oi := ?o25) (v := ?v25) ?hi25 (by kernel_rfl) (by kernel_rfl) (by kernel_rfl) ?hQ25 (Or.inl ⟨?hg25, ?hy25⟩) (by assumption) ?rest25
  case hi25 => (simp only [List.getElem?_toArray, List.getElem?_cons_zero, List.getElem?_cons_succ]; (first | done | with_reducible rfl))
  case hQ25 => exact fun _ _ _ h => h
  case hg25 => rfl
  case hy25 => (intro w hSw; (try dsimp only at hSw); go_simp; (first | done | (with_reducible rfl)))
  (try simp only [Act.put, List.setIfInBounds_toArray, List.set_cons_zero, List.set_cons_succ])
  refine wpAnyH_take (i := 25) (oi := ?o26) (v := ?v26) ?hi26 (by kernel_rfl) (by kernel_rfl) (by kernel_rfl) ?hQ26 (Or.inl ⟨?hg26, ?hy26⟩) (by assumption) ?rest26
  case hi26 => (simp only [List.getElem?_toArray, List.getElem?_cons_zero, List.getElem?_cons_succ]; (first | done | with_reducible rfl))
  case hQ26 => exact fun _ _ _ h => h
  case hg26 => rfl
  case hy26 => (intro w hSw; (try dsimp only at hSw); go_simp; (first | done | (with_reducible rfl)))
  (try simp only [Act.put, List.setIfInBounds_toArray, List.set_cons_zero, List.set_cons_succ])
  refine wpAnyH_done (by kernel_rfl) ?_ _
  go_wp2
  go_ret
  exact ⟨rfl, (by repeat (first | (with_reducible exact B) | (with_reducible exact Below.refl _ _) | (with_reducible apply Below.drew) | (with_reducible refine Below.setCell ?_ (by first | (simp; done) | (simp; omega)) _) | (with_reducible refine Below.alloc ?_ (by first | exact Nat.le_refl _ | (simp; done) | (simp; omega)) _)))⟩
set_option maxHeartbeats 4000000 in
theorem way_s (a0 : Bool) (a1x a1y a1z a1t a2x a2y a2z a2t a3x a3y : Int) (q0 : (cutZ a0 (iX0 (cutZ a0 a1x) (cutZ a0 a1y) (cutZ a0 a1z) (cutZ a0 a1t) (cutZ a0 a2x) (cutZ a0 a2y) (cutZ a0 a2z) (cutZ a0 a2t))) = iX0 (cutZ a0 a1x) (cutZ a0 a1y) (cutZ a0 a1z) (cutZ a0 a1t) (cutZ a0 a2x) (cutZ a0 a2y) (cutZ a0 a2z) (cutZ a0 a2t)) (q1 : (cutZ a0 (iY0 (cutZ a0 a1x) (cutZ a0 a1y) (cutZ a0 a1z) (cutZ a0 a1t) (cutZ a0 a2x) (cutZ a0 a2y) (cutZ a0 a2z) (cutZ a0 a2t))) = iY0 (cutZ a0 a1x) (cutZ a0 a1y) (cutZ a0 a1z) (cutZ a0 a1t) (cutZ a0 a2x) (cutZ a0 a2y) (cutZ a0 a2z) (cutZ a0 a2t)) (q2 : (cutZ a0 (iX1 (cutZ a0 a1x) (cutZ a0 a1y) (cutZ a0 a1z) (cutZ a0 a1t) (cutZ a0 a2x) (cutZ a0 a2y) (cutZ a0 a2z) (cutZ a0 a2t))) = iX1 (cutZ a0 a1x) (cutZ a0 a1y) (cutZ a0 a1z) (cutZ a0 a1t) (cutZ a0 a2x) (cutZ a0 a2y) (cutZ a0 a2z) (cutZ a0 a2t)) (q3 : (cutZ a0 (iY1 (cutZ a0 a1x) (cutZ a0 a1y) (cutZ a0 a1z) (cutZ a0 a1t) (cutZ a0 a2x) (cutZ a0 a2y) (cutZ a0 a2z) (cutZ a0 a2t))) = iY1 (cutZ a0 a1x) (cutZ a0 a1y) (cutZ a0 a1z) (cutZ a0 a1t) (cutZ a0 a2x) (cutZ a0 a2y) (cutZ a0 a2z) (cutZ a0 a2t)) (hr : hasB (cutZ a0 a1x) (cutZ a0 a1y) (cutZ a0 a1z) (cutZ a0 a1t) (cutZ a0 a3x) (cutZ a0 a3y) = true) (hs : hasB (cutZ a0 a2x) (cutZ a0 a2y) (cutZ a0 a2z) (cutZ a0 a2t) (cutZ a0 a3x) (cutZ a0 a3y) = false) (hi : hasB (iX0 (cutZ a0 a1x) (cutZ a0 a1y) (cutZ a0 a1z) (cutZ a0 a1t) (cutZ a0 a2x) (cutZ a0 a2y) (cutZ a0 a2z) (cutZ a0 a2t)) (iY0 (cutZ a0 a1x) (cutZ a0 a1y) (cutZ a0 a1z) (cutZ a0 a1t) (cutZ a0 a2x) (cutZ a0 a2y) (cutZ a0 a2z) (cutZ a0 a2t)) (iX1 (cutZ a0 a1x) (cutZ a0 a1y) (cutZ a0 a1z) (cutZ a0 a1t) (cutZ a0 a2x) (cutZ a0 a2y) (cutZ a0 a2z) (cutZ a0 a2t)) (iY1 (cutZ a0 a1x) (cutZ a0 a1y) (cutZ a0 a1z) (cutZ a0 a1t) (cutZ a0 a2x) (cutZ a0 a2y) (cutZ a0 a2z) (cutZ a0 a2t)) (cutZ a0 a3x) (cutZ a0 a3y) = false) (w : World) :
    Calls Try.prog 15 #[.bool a0, .agg #[.int .i64 a1x, .int .i64 a1y, .int .i64 a1z, .int .i64 a1t], .agg #[.int .i64 a2x, .int .i64 a2y, .int .i64 a2z, .int .i64 a2t], .agg #[.int .i64 a3x, .int .i64 a3y]] w fun e w' => e = .returned (.bool true) ∧ Below w.heap.size w w' := by
  have k0 := cut_0 a0
  have k1 := cut_1 a0
  have e0 : hasB 0 0 1 1 0 0 = true := by decide
  go_enter Try.func15, Try.ntmps15
  go_wp2
  go_region_held3 (fun w' => w'.cell? ⟨w.heap.size, 0, none⟩ = some (.int .i64 a1x) ∧ w'.cell? ⟨w.heap.size, 1, none⟩ = some (.int .i64 a1y) ∧ w'.cell? ⟨w.heap.size, 2, none⟩ = some (.int .i64 a1z) ∧ w'.cell? ⟨w.heap.size, 3, none⟩ = some (.int .i64 a1t) ∧ w'.cell? ⟨w.heap.size + 1, 0, none⟩ = some (.int .i64 a2x) ∧ w'.cell? ⟨w.heap.size + 1, 1, none⟩ = some (.int .i64 a2y) ∧ w'.cell? ⟨w.heap.size + 1, 2, none⟩ = some (.int .i64 a2z) ∧ w'.cell? ⟨w.heap.size + 1, 3, none⟩ = some (.int .i64 a2t) ∧ w'.cell? ⟨w.heap.size + 1 + 1, 0, none⟩ = some (.int .i64 a3x) ∧ w'.cell? ⟨w.heap.size + 1 + 1, 1, none⟩ = some (.int .i64 a3y))
    (first | (with_reducible exact ⟨f0, f1, f2, f3, f4, f5, f6, f7, f8, f9⟩) | (simp [go_sem]; done) | (simp [go_sem, f0, f1, f2, f3, f4, f5, f6, f7, f8, f9]; done))
    (first
      | (go_at_call 16; (with_reducible refine (iInter_any _ _ _ _ _ _ _ _ _ _).mono ?_); rintro e w1 ⟨rfl, hb⟩; (first | (replace f0 := keepc hb f0; replace f1 := keepc hb f1; replace f2 := keepc hb f2; replace f3 := keepc hb f3; replace f4 := keepc hb f4; replace f5 := keepc hb f5; replace f6 := keepc hb f6; replace f7 := keepc hb f7; replace f8 := keepc hb f8; replace f9 := keepc hb f9; replace B := keepb B hb) | (have f0 := keepc hb (p := ⟨w.heap.size, 0, none⟩) (v := .int .i64 a1x) (by simp [go_sem]); have f1 := keepc hb (p := ⟨w.heap.size, 1, none⟩) (v := .int .i64 a1y) (by simp [go_sem]); have f2 := keepc hb (p := ⟨w.heap.size, 2, none⟩) (v := .int .i64 a1z) (by simp [go_sem]); have f3 := keepc hb (p := ⟨w.heap.size, 3, none⟩) (v := .int .i64 a1t) (by simp [go_sem]); have f4 := keepc hb (p := ⟨w.heap.size + 1, 0, none⟩) (v := .int .i64 a2x) (by simp [go_sem]); have f5 := keepc hb (p := ⟨w.heap.size + 1, 1, none⟩) (v := .int .i64 a2y) (by simp [go_sem]); have f6 := keepc hb (p := ⟨w.heap.size + 1, 2, none⟩) (v := .int .i64 a2z) (by simp [go_sem]); have f7 := keepc hb (p := ⟨w.heap.size + 1, 3, none⟩) (v := .int .i64 a2t) (by simp [go_sem]); have f8 := keepc hb (p := ⟨w.heap.size + 1 + 1, 0, none⟩) (v := .int .i64 a3x) (by simp [go_sem]); have f9 := keepc hb (p := ⟨w.heap.size + 1 + 1, 1, none⟩) (v := .int .i64 a3y) (by simp [go_sem]); have B := keepb (w := w) (by repeat (first | (with_reducible exact Below.refl _ _) | (with_reducible apply Below.drew) | (with_reducible refine Below.alloc ?_ (by first | exact Nat.le_refl _ | (simp; done) | (simp; omega)) _))) hb)); clear hb)
      | (go_at_call 24; (with_reducible refine (iPointIn_any _ _ _ _ _ _ _ _).mono ?_); rintro e w1 ⟨rfl, hb⟩; (first | (replace f0 := keepc hb f0; replace f1 := keepc hb f1; replace f2 := keepc hb f2; replace f3 := keepc hb f3; replace f4 := keepc hb f4; replace f5 := keepc hb f5; replace f6 := keepc hb f6; replace f7 := keepc hb f7; replace f8 := keepc hb f8; replace f9 := keepc hb f9; replace B := keepb B hb) | (have f0 := keepc hb (p := ⟨w.heap.size, 0, none⟩) (v := .int .i64 a1x) (by simp [go_sem]); have f1 := keepc hb (p := ⟨w.heap.size, 1, none⟩) (v := .int .i64 a1y) (by simp [go_sem]); have f2 := keepc hb (p := ⟨w.heap.size, 2, none⟩) (v := .int .i64 a1z) (by simp [go_sem]); have f3 := keepc hb (p := ⟨w.heap.size, 3, none⟩) (v := .int .i64 a1t) (by simp [go_sem]); have f4 := keepc hb (p := ⟨w.heap.size + 1, 0, none⟩) (v := .int .i64 a2x) (by simp [go_sem]); have f5 := keepc hb (p := ⟨w.heap.size + 1, 1, none⟩) (v := .int .i64 a2y) (by simp [go_sem]); have f6 := keepc hb (p := ⟨w.heap.size + 1, 2, none⟩) (v := .int .i64 a2z) (by simp [go_sem]); have f7 := keepc hb (p := ⟨w.heap.size + 1, 3, none⟩) (v := .int .i64 a2t) (by simp [go_sem]); have f8 := keepc hb (p := ⟨w.heap.size + 1 + 1, 0, none⟩) (v := .int .i64 a3x) (by simp [go_sem]); have f9 := keepc hb (p := ⟨w.heap.size + 1 + 1, 1, none⟩) (v := .int .i64 a3y) (by simp [go_sem]); have B := keepb (w := w) (by repeat (first | (with_reducible exact Below.refl _ _) | (with_reducible apply Below.drew) | (with_reducible refine Below.alloc ?_ (by first | exact Nat.le_refl _ | (simp; done) | (simp; omega)) _))) hb)); clear hb))
  go_wp2
  go_ret
  exact ⟨rfl, (by repeat (first | (with_reducible exact B) | (with_reducible exact Below.refl _ _) | (with_reducible apply Below.drew) | (with_reducible refine Below.setCell ?_ (by first | (simp; done) | (simp; omega)) _) | (with_reducible refine Below.alloc ?_ (by first | exact Nat.le_refl _ | (simp; done) | (simp; omega)) _)))⟩
set_option maxHeartbeats 4000000 in
theorem way_b (a0 : Bool) (a1x a1y a1z a1t a2x a2y a2z a2t a3x a3y : Int) (q0 : (cutZ a0 (iX0 (cutZ a0 a1x) (cutZ a0 a1y) (cutZ a0 a1z) (cutZ a0 a1t) (cutZ a0 a2x) (cutZ a0 a2y) (cutZ a0 a2z) (cutZ a0 a2t))) = iX0 (cutZ a0 a1x) (cutZ a0 a1y) (cutZ a0 a1z) (cutZ a0 a1t) (cutZ a0 a2x) (cutZ a0 a2y) (cutZ a0 a2z) (cutZ a0 a2t)) (q1 : (cutZ a0 (iY0 (cutZ a0 a1x) (cutZ a0 a1y) (cutZ a0 a1z) (cutZ a0 a1t) (cutZ a0 a2x) (cutZ a0 a2y) (cutZ a0 a2z) (cutZ a0 a2t))) = iY0 (cutZ a0 a1x) (cutZ a0 a1y) (cutZ a0 a1z) (cutZ a0 a1t) (cutZ a0 a2x) (cutZ a0 a2y) (cutZ a0 a2z) (cutZ a0 a2t)) (q2 : (cutZ a0 (iX1 (cutZ a0 a1x) (cutZ a0 a1y) (cutZ a0 a1z) (cutZ a0 a1t) (cutZ a0 a2x) (cutZ a0 a2y) (cutZ a0 a2z) (cutZ a0 a2t))) = iX1 (cutZ a0 a1x) (cutZ a0 a1y) (cutZ a0 a1z) (cutZ a0 a1t) (cutZ a0 a2x) (cutZ a0 a2y) (cutZ a0 a2z) (cutZ a0 a2t)) (q3 : (cutZ a0 (iY1 (cutZ a0 a1x) (cutZ a0 a1y) (cutZ a0 a1z) (cutZ a0 a1t) (cutZ a0 a2x) (cutZ a0 a2y) (cutZ a0 a2z) (cutZ a0 a2t))) = iY1 (cutZ a0 a1x) (cutZ a0 a1y) (cutZ a0 a1z) (cutZ a0 a1t) (cutZ a0 a2x) (cutZ a0 a2y) (cutZ a0 a2z) (cutZ a0 a2t)) (hr : hasB (cutZ a0 a1x) (cutZ a0 a1y) (cutZ a0 a1z) (cutZ a0 a1t) (cutZ a0 a3x) (cutZ a0 a3y) = true) (hs : hasB (cutZ a0 a2x) (cutZ a0 a2y) (cutZ a0 a2z) (cutZ a0 a2t) (cutZ a0 a3x) (cutZ a0 a3y) = true) (hi : hasB (iX0 (cutZ a0 a1x) (cutZ a0 a1y) (cutZ a0 a1z) (cutZ a0 a1t) (cutZ a0 a2x) (cutZ a0 a2y) (cutZ a0 a2z) (cutZ a0 a2t)) (iY0 (cutZ a0 a1x) (cutZ a0 a1y) (cutZ a0 a1z) (cutZ a0 a1t) (cutZ a0 a2x) (cutZ a0 a2y) (cutZ a0 a2z) (cutZ a0 a2t)) (iX1 (cutZ a0 a1x) (cutZ a0 a1y) (cutZ a0 a1z) (cutZ a0 a1t) (cutZ a0 a2x) (cutZ a0 a2y) (cutZ a0 a2z) (cutZ a0 a2t)) (iY1 (cutZ a0 a1x) (cutZ a0 a1y) (cutZ a0 a1z) (cutZ a0 a1t) (cutZ a0 a2x) (cutZ a0 a2y) (cutZ a0 a2z) (cutZ a0 a2t)) (cutZ a0 a3x) (cutZ a0 a3y) = true) (w : World) :
    Calls Try.prog 15 #[.bool a0, .agg #[.int .i64 a1x, .int .i64 a1y, .int .i64 a1z, .int .i64 a1t], .agg #[.int .i64 a2x, .int .i64 a2y, .int .i64 a2z, .int .i64 a2t], .agg #[.int .i64 a3x, .int .i64 a3y]] w fun e w' => e = .returned (.bool true) ∧ Below w.heap.size w w' := by
  have k0 := cut_0 a0
  have k1 := cut_1 a0
  have e0 : hasB 0 0 1 1 0 0 = true := by decide
  go_enter Try.func15, Try.ntmps15
  go_wp2
  go_region_held3 (fun w' => w'.cell? ⟨w.heap.size, 0, none⟩ = some (.int .i64 a1x) ∧ w'.cell? ⟨w.heap.size, 1, none⟩ = some (.int .i64 a1y) ∧ w'.cell? ⟨w.heap.size, 2, none⟩ = some (.int .i64 a1z) ∧ w'.cell? ⟨w.heap.size, 3, none⟩ = some (.int .i64 a1t) ∧ w'.cell? ⟨w.heap.size + 1, 0, none⟩ = some (.int .i64 a2x) ∧ w'.cell? ⟨w.heap.size + 1, 1, none⟩ = some (.int .i64 a2y) ∧ w'.cell? ⟨w.heap.size + 1, 2, none⟩ = some (.int .i64 a2z) ∧ w'.cell? ⟨w.heap.size + 1, 3, none⟩ = some (.int .i64 a2t) ∧ w'.cell? ⟨w.heap.size + 1 + 1, 0, none⟩ = some (.int .i64 a3x) ∧ w'.cell? ⟨w.heap.size + 1 + 1, 1, none⟩ = some (.int .i64 a3y))
    (first | (with_reducible exact ⟨f0, f1, f2, f3, f4, f5, f6, f7, f8, f9⟩) | (simp [go_sem]; done) | (simp [go_sem, f0, f1, f2, f3, f4, f5, f6, f7, f8, f9]; done))
    (first
      | (go_at_call 16; (with_reducible refine (iInter_any _ _ _ _ _ _ _ _ _ _).mono ?_); rintro e w1 ⟨rfl, hb⟩; (first | (replace f0 := keepc hb f0; replace f1 := keepc hb f1; replace f2 := keepc hb f2; replace f3 := keepc hb f3; replace f4 := keepc hb f4; replace f5 := keepc hb f5; replace f6 := keepc hb f6; replace f7 := keepc hb f7; replace f8 := keepc hb f8; replace f9 := keepc hb f9; replace B := keepb B hb) | (have f0 := keepc hb (p := ⟨w.heap.size, 0, none⟩) (v := .int .i64 a1x) (by simp [go_sem]); have f1 := keepc hb (p := ⟨w.heap.size, 1, none⟩) (v := .int .i64 a1y) (by simp [go_sem]); have f2 := keepc hb (p := ⟨w.heap.size, 2, none⟩) (v := .int .i64 a1z) (by simp [go_sem]); have f3 := keepc hb (p := ⟨w.heap.size, 3, none⟩) (v := .int .i64 a1t) (by simp [go_sem]); have f4 := keepc hb (p := ⟨w.heap.size + 1, 0, none⟩) (v := .int .i64 a2x) (by simp [go_sem]); have f5 := keepc hb (p := ⟨w.heap.size + 1, 1, none⟩) (v := .int .i64 a2y) (by simp [go_sem]); have f6 := keepc hb (p := ⟨w.heap.size + 1, 2, none⟩) (v := .int .i64 a2z) (by simp [go_sem]); have f7 := keepc hb (p := ⟨w.heap.size + 1, 3, none⟩) (v := .int .i64 a2t) (by simp [go_sem]); have f8 := keepc hb (p := ⟨w.heap.size + 1 + 1, 0, none⟩) (v := .int .i64 a3x) (by simp [go_sem]); have f9 := keepc hb (p := ⟨w.heap.size + 1 + 1, 1, none⟩) (v := .int .i64 a3y) (by simp [go_sem]); have B := keepb (w := w) (by repeat (first | (with_reducible exact Below.refl _ _) | (with_reducible apply Below.drew) | (with_reducible refine Below.alloc ?_ (by first | exact Nat.le_refl _ | (simp; done) | (simp; omega)) _))) hb)); clear hb)
      | (go_at_call 24; (with_reducible refine (iPointIn_any _ _ _ _ _ _ _ _).mono ?_); rintro e w1 ⟨rfl, hb⟩; (first | (replace f0 := keepc hb f0; replace f1 := keepc hb f1; replace f2 := keepc hb f2; replace f3 := keepc hb f3; replace f4 := keepc hb f4; replace f5 := keepc hb f5; replace f6 := keepc hb f6; replace f7 := keepc hb f7; replace f8 := keepc hb f8; replace f9 := keepc hb f9; replace B := keepb B hb) | (have f0 := keepc hb (p := ⟨w.heap.size, 0, none⟩) (v := .int .i64 a1x) (by simp [go_sem]); have f1 := keepc hb (p := ⟨w.heap.size, 1, none⟩) (v := .int .i64 a1y) (by simp [go_sem]); have f2 := keepc hb (p := ⟨w.heap.size, 2, none⟩) (v := .int .i64 a1z) (by simp [go_sem]); have f3 := keepc hb (p := ⟨w.heap.size, 3, none⟩) (v := .int .i64 a1t) (by simp [go_sem]); have f4 := keepc hb (p := ⟨w.heap.size + 1, 0, none⟩) (v := .int .i64 a2x) (by simp [go_sem]); have f5 := keepc hb (p := ⟨w.heap.size + 1, 1, none⟩) (v := .int .i64 a2y) (by simp [go_sem]); have f6 := keepc hb (p := ⟨w.heap.size + 1, 2, none⟩) (v := .int .i64 a2z) (by simp [go_sem]); have f7 := keepc hb (p := ⟨w.heap.size + 1, 3, none⟩) (v := .int .i64 a2t) (by simp [go_sem]); have f8 := keepc hb (p := ⟨w.heap.size + 1 + 1, 0, none⟩) (v := .int .i64 a3x) (by simp [go_sem]); have f9 := keepc hb (p := ⟨w.heap.size + 1 + 1, 1, none⟩) (v := .int .i64 a3y) (by simp [go_sem]); have B := keepb (w := w) (by repeat (first | (with_reducible exact Below.refl _ _) | (with_reducible apply Below.drew) | (with_reducible refine Below.alloc ?_ (by first | exact Nat.le_refl _ | (simp; done) | (simp; omega)) _))) hb)); clear hb))
  go_wp2
  go_ret
  exact ⟨rfl, (by repeat (first | (with_reducible exact B) | (with_reducible exact Below.refl _ _) | (with_reducible apply Below.drew) | (with_reducible refine Below.setCell ?_ (by first | (simp; done) | (simp; omega)) _) | (with_reducible refine Below.alloc ?_ (by first | exact Nat.le_refl _ | (simp; done) | (simp; omega)) _)))⟩
theorem cut_pick (b c : Bool) (x : Int) (h : cutZ b x = x) : cutZ b (pickZ c 0 x) = pickZ c 0 x := by
  cases c
  · exact h
  · exact cut_0 b
theorem cut_max (b : Bool) (x y : Int) (h : cutZ b x = x) (k : cutZ b y = y) : cutZ b (max x y) = max x y := by
  by_cases c : x ≤ y
  · rw [Int.max_eq_right c]; exact k
  · rw [Int.max_eq_left (by omega)]; exact h
theorem cut_min (b : Bool) (x y : Int) (h : cutZ b x = x) (k : cutZ b y = y) : cutZ b (min x y) = min x y := by
  by_cases c : x ≤ y
  · rw [Int.min_eq_left c]; exact h
  · rw [Int.min_eq_right (by omega)]; exact k
theorem walk (a0 : Bool) (a1x a1y a1z a1t a2x a2y a2z a2t a3x a3y : Int) (w1x : (Lit.int .i64 a1x).wf = true) (w1y : (Lit.int .i64 a1y).wf = true) (w1z : (Lit.int .i64 a1z).wf = true) (w1t : (Lit.int .i64 a1t).wf = true) (w2x : (Lit.int .i64 a2x).wf = true) (w2y : (Lit.int .i64 a2y).wf = true) (w2z : (Lit.int .i64 a2z).wf = true) (w2t : (Lit.int .i64 a2t).wf = true) (w3x : (Lit.int .i64 a3x).wf = true) (w3y : (Lit.int .i64 a3y).wf = true) (w : World) :
    Calls Try.prog 15 #[.bool a0, .agg #[.int .i64 a1x, .int .i64 a1y, .int .i64 a1z, .int .i64 a1t], .agg #[.int .i64 a2x, .int .i64 a2y, .int .i64 a2z, .int .i64 a2t], .agg #[.int .i64 a3x, .int .i64 a3y]] w fun e w' => e = .returned (.bool true) ∧ Below w.heap.size w w' := by
  have q0 : (cutZ a0 (iX0 (cutZ a0 a1x) (cutZ a0 a1y) (cutZ a0 a1z) (cutZ a0 a1t) (cutZ a0 a2x) (cutZ a0 a2y) (cutZ a0 a2z) (cutZ a0 a2t))) = iX0 (cutZ a0 a1x) (cutZ a0 a1y) (cutZ a0 a1z) (cutZ a0 a1t) (cutZ a0 a2x) (cutZ a0 a2y) (cutZ a0 a2z) (cutZ a0 a2t) := cut_pick _ _ _ (cut_max _ _ _ (cutZ_cut _ _) (cutZ_cut _ _))
  have q1 : (cutZ a0 (iY0 (cutZ a0 a1x) (cutZ a0 a1y) (cutZ a0 a1z) (cutZ a0 a1t) (cutZ a0 a2x) (cutZ a0 a2y) (cutZ a0 a2z) (cutZ a0 a2t))) = iY0 (cutZ a0 a1x) (cutZ a0 a1y) (cutZ a0 a1z) (cutZ a0 a1t) (cutZ a0 a2x) (cutZ a0 a2y) (cutZ a0 a2z) (cutZ a0 a2t) := cut_pick _ _ _ (cut_max _ _ _ (cutZ_cut _ _) (cutZ_cut _ _))
  have q2 : (cutZ a0 (iX1 (cutZ a0 a1x) (cutZ a0 a1y) (cutZ a0 a1z) (cutZ a0 a1t) (cutZ a0 a2x) (cutZ a0 a2y) (cutZ a0 a2z) (cutZ a0 a2t))) = iX1 (cutZ a0 a1x) (cutZ a0 a1y) (cutZ a0 a1z) (cutZ a0 a1t) (cutZ a0 a2x) (cutZ a0 a2y) (cutZ a0 a2z) (cutZ a0 a2t) := cut_pick _ _ _ (cut_min _ _ _ (cutZ_cut _ _) (cutZ_cut _ _))
  have q3 : (cutZ a0 (iY1 (cutZ a0 a1x) (cutZ a0 a1y) (cutZ a0 a1z) (cutZ a0 a1t) (cutZ a0 a2x) (cutZ a0 a2y) (cutZ a0 a2z) (cutZ a0 a2t))) = iY1 (cutZ a0 a1x) (cutZ a0 a1y) (cutZ a0 a1z) (cutZ a0 a1t) (cutZ a0 a2x) (cutZ a0 a2y) (cutZ a0 a2z) (cutZ a0 a2t) := cut_pick _ _ _ (cut_min _ _ _ (cutZ_cut _ _) (cutZ_cut _ _))
  have hh := has_inter (cutZ a0 a1x) (cutZ a0 a1y) (cutZ a0 a1z) (cutZ a0 a1t) (cutZ a0 a2x) (cutZ a0 a2y) (cutZ a0 a2z) (cutZ a0 a2t) (cutZ a0 a3x) (cutZ a0 a3y)
  cases hr : hasB (cutZ a0 a1x) (cutZ a0 a1y) (cutZ a0 a1z) (cutZ a0 a1t) (cutZ a0 a3x) (cutZ a0 a3y)
  · exact way_r a0 a1x a1y a1z a1t a2x a2y a2z a2t a3x a3y q0 q1 q2 q3 hr (by rw [hh, hr]; rfl) w
  · cases hs : hasB (cutZ a0 a2x) (cutZ a0 a2y) (cutZ a0 a2z) (cutZ a0 a2t) (cutZ a0 a3x) (cutZ a0 a3y)
    · exact way_s a0 a1x a1y a1z a1t a2x a2y a2z a2t a3x a3y q0 q1 q2 q3 hr hs (by rw [hh, hr, hs]; rfl) w
    · exact way_b a0 a1x a1y a1z a1t a2x a2y a2z a2t a3x a3y q0 q1 q2 q3 hr hs (by rw [hh, hr, hs]; rfl) w

set_option maxRecDepth 100000 in
theorem lifted (os : Os) (started : os.Started) (H : Type) (enc : TypeId × Value → H) :
    ReturnsInHanded {} Try.checked os 15 .any (Rows.fnIntersectHasTheCommonPointsSpec.pre6 enc Try.prog Try.f15 Rows.fnIntersectHasTheCommonPointsRow.domain false) (Rows.fnIntersectHasTheCommonPointsSpec.post enc Try.prog Try.f15 false true false false) := by
  refine returnsInHanded_of_change (C := Try.checked) own started (by kernel_rfl) Try.func15
    (ChangeSpec.witness6 (enc := enc) (C := Try.checked) false ⟨#[], #[.bool false, .agg #[.int .i64 0, .int .i64 0, .int .i64 0, .int .i64 0], .agg #[.int .i64 0, .int .i64 0, .int .i64 0, .int .i64 0], .agg #[.int .i64 0, .int .i64 0]], []⟩ 8 (by kernel_rfl) (by kernel_rfl) (by kernel_rfl) (by kernel_rfl)) ?_
  intro W base args ds gs before hval0 hW hcnd _
  have hval : ∀ (j : Nat) t v, Try.f15.params[j]? = some t → args[j]? = some v → Value.okWide Try.prog W .any base t v := hval0
  have hW' := hW
  obtain ⟨p, q, hA0, hV, rfl, hfz, hnd⟩ := hW
  have hA : DataW.TrodAll enc Try.prog W 0 (fun _ => true) true Try.f15.params.toList args.toList ds p := hA0
  rw [Try.params15] at hA hval
  obtain ⟨v0, vs0, d0, ds0, p0, q0, hargs, rfl, rfl, h0, r0⟩ := trodAll_cons hA
  obtain ⟨v1, vs1, d1, ds1, p1, q1, rfl, rfl, rfl, h1, r1⟩ := trodAll_cons r0
  obtain ⟨v2, vs2, d2, ds2, p2, q2, rfl, rfl, rfl, h2, r2⟩ := trodAll_cons r1
  obtain ⟨v3, vs3, d3, ds3, p3, q3, rfl, rfl, rfl, h3, r3⟩ := trodAll_cons r2
  obtain ⟨rfl, rfl, rfl⟩ := trodAll_nil r3
  obtain rfl : args = #[v0, v1, v2, v3] := by cases args; simp_all
  obtain ⟨rfl, rfl⟩ := trodVars_none hV
  obtain ⟨a0, rfl, rfl, rfl⟩ := open_bool Try.underlying4 (hval 0 4 v0 rfl rfl) h0
  obtain ⟨a1x, a1y, a1z, a1t, rfl, rfl, rfl, w1x, w1y, w1z, w1t⟩ := open_rect (hval 1 25 v1 rfl rfl) h1
  obtain ⟨a2x, a2y, a2z, a2t, rfl, rfl, rfl, w2x, w2y, w2z, w2t⟩ := open_rect (hval 2 25 v2 rfl rfl) h2
  obtain ⟨a3x, a3y, rfl, rfl, rfl, w3x, w3y⟩ := open_point (hval 3 23 v3 rfl rfl) h3
  clear hA0 hval0
  refine (walk a0 a1x a1y a1z a1t a2x a2y a2z a2t a3x a3y w1x w1y w1z w1t w2x w2y w2z w2t w3x w3y W).mono fun e W' ⟨he, bel⟩ => ?_
  subst he
  exact ⟨_, rfl, _, _, _, [], _, [], hW', trodAll_mk1 (shut_bool Try.underlying4 _), (trodAll_cons_mk (shut_bool Try.underlying4 _) (trodAll_cons_mk (shut_rect w1x w1y w1z w1t) (trodAll_cons_mk (shut_rect w2x w2y w2z w2t) (trodAll_cons_mk (shut_point w3x w3y) trodAll_mk0)))), rfl, bel.frame _, fun h => by cases h⟩

theorem over : Rows.fnIntersectHasTheCommonPointsRow.holds Try.pinned (OpenSpec.ofChange Rows.fnIntersectHasTheCommonPointsSpec) :=
  OpenClaim.holds_of_wide 15 Try.f15 rfl rfl rfl rfl rfl rfl rfl ⟨rfl, rfl, rfl, rfl, rfl⟩ rfl rfl rfl rfl rfl (by kernel_rfl) Try.func15 (by kernel_rfl)
    (of_decide_eq_true (by kernel_rfl)) (by unfold Func.isWrapper; first | (rw [if_pos (by decide +kernel)]; kernel_rfl) | (rw [if_neg (by decide +kernel)]; exact ⟨rfl, rfl⟩))
    (fun os started H enc _ => lifted os started H enc)

/-- The statement. -/
theorem proved : Rows.FnIntersectHasTheCommonPointsSaid :=
  over
#print axioms proved
end Go.Proofs.Ytcgbkggbffafmaa.fnIntersectHasTheCommonPoints
