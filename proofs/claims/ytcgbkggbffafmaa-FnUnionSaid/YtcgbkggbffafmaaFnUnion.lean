/- FnUnion: Union has both, and each rectangle that has both has it; of an empty rectangle and another one it is the other one.
   The law returns true for every input, and nothing that was in memory turns. No condition. -/
import Derived.Test.YtcgbkggbffafmaaImplD
import Derived.Test.YtcgbkggbffafmaaHold
import Derived.Test.YtcgbkggbffafmaaKeep
import Derived.WalkKit
import Derived.ProofKit
import Derived.OpenShut
namespace Go.Proofs.Ytcgbkggbffafmaa.fnUnion
open Go.ChangeShapes Go.WideShapes Go.ChangeAt Go.RowKit
set_option linter.unusedVariables false

theorem own : ownKnob Try.prog.godebug = none := by kernel_rfl

set_option linter.unusedSimpArgs false
set_option maxHeartbeats 4000000 in
theorem way_r (a0 : Bool) (a1x a1y a1z a1t a2x a2y a2z a2t a3x a3y a3z a3t : Int) (r0 r1 r2 r3 s0 s1 s2 s3 t0 t1 t2 t3 : Int) (er0 : cutZ a0 a1x = r0) (kr0 : cutZ a0 r0 = r0) (er1 : cutZ a0 a1y = r1) (kr1 : cutZ a0 r1 = r1) (er2 : cutZ a0 a1z = r2) (kr2 : cutZ a0 r2 = r2) (er3 : cutZ a0 a1t = r3) (kr3 : cutZ a0 r3 = r3) (es0 : cutZ a0 a2x = s0) (ks0 : cutZ a0 s0 = s0) (es1 : cutZ a0 a2y = s1) (ks1 : cutZ a0 s1 = s1) (es2 : cutZ a0 a2z = s2) (ks2 : cutZ a0 s2 = s2) (es3 : cutZ a0 a2t = s3) (ks3 : cutZ a0 s3 = s3) (et0 : cutZ a0 a3x = t0) (kt0 : cutZ a0 t0 = t0) (et1 : cutZ a0 a3y = t1) (kt1 : cutZ a0 t1 = t1) (et2 : cutZ a0 a3z = t2) (kt2 : cutZ a0 t2 = t2) (et3 : cutZ a0 a3t = t3) (kt3 : cutZ a0 t3 = t3) (qu0 : uX0 r0 r1 r2 r3 s0 s1 s2 s3 = s0) (qu1 : uY0 r0 r1 r2 r3 s0 s1 s2 s3 = s1) (qu2 : uX1 r0 r1 r2 r3 s0 s1 s2 s3 = s2) (qu3 : uY1 r0 r1 r2 r3 s0 s1 s2 s3 = s3) (he : emptyB r0 r1 r2 r3 = true) (w : World) :
    Calls Try.prog 13 #[.bool a0, .agg #[.int .i64 a1x, .int .i64 a1y, .int .i64 a1z, .int .i64 a1t], .agg #[.int .i64 a2x, .int .i64 a2y, .int .i64 a2z, .int .i64 a2t], .agg #[.int .i64 a3x, .int .i64 a3y, .int .i64 a3z, .int .i64 a3t]] w fun e w' => e = .returned (.bool true) ∧ Below w.heap.size w w' := by
  go_enter Try.func13, Try.ntmps13
  go_wp2
  refine region_R (S := (fun W' => W'.cell? ⟨w.heap.size, 0, none⟩ = some (.int .i64 a1x) ∧ W'.cell? ⟨w.heap.size, 1, none⟩ = some (.int .i64 a1y) ∧ W'.cell? ⟨w.heap.size, 2, none⟩ = some (.int .i64 a1z) ∧ W'.cell? ⟨w.heap.size, 3, none⟩ = some (.int .i64 a1t) ∧ W'.cell? ⟨w.heap.size + 1, 0, none⟩ = some (.int .i64 a2x) ∧ W'.cell? ⟨w.heap.size + 1, 1, none⟩ = some (.int .i64 a2y) ∧ W'.cell? ⟨w.heap.size + 1, 2, none⟩ = some (.int .i64 a2z) ∧ W'.cell? ⟨w.heap.size + 1, 3, none⟩ = some (.int .i64 a2t) ∧ W'.cell? ⟨w.heap.size + 1 + 1, 0, none⟩ = some (.int .i64 a3x) ∧ W'.cell? ⟨w.heap.size + 1 + 1, 1, none⟩ = some (.int .i64 a3y) ∧ W'.cell? ⟨w.heap.size + 1 + 1, 2, none⟩ = some (.int .i64 a3z) ∧ W'.cell? ⟨w.heap.size + 1 + 1, 3, none⟩ = some (.int .i64 a3t))) (N := [9, 10, 11]) (fun W' => Below w.heap.size w W' ∧ W'.cell? ⟨w.heap.size, 0, none⟩ = some (.int .i64 a1x) ∧ W'.cell? ⟨w.heap.size, 1, none⟩ = some (.int .i64 a1y) ∧ W'.cell? ⟨w.heap.size, 2, none⟩ = some (.int .i64 a1z) ∧ W'.cell? ⟨w.heap.size, 3, none⟩ = some (.int .i64 a1t) ∧ W'.cell? ⟨w.heap.size + 1, 0, none⟩ = some (.int .i64 a2x) ∧ W'.cell? ⟨w.heap.size + 1, 1, none⟩ = some (.int .i64 a2y) ∧ W'.cell? ⟨w.heap.size + 1, 2, none⟩ = some (.int .i64 a2z) ∧ W'.cell? ⟨w.heap.size + 1, 3, none⟩ = some (.int .i64 a2t) ∧ W'.cell? ⟨w.heap.size + 1 + 1, 0, none⟩ = some (.int .i64 a3x) ∧ W'.cell? ⟨w.heap.size + 1 + 1, 1, none⟩ = some (.int .i64 a3y) ∧ W'.cell? ⟨w.heap.size + 1 + 1, 2, none⟩ = some (.int .i64 a3z) ∧ W'.cell? ⟨w.heap.size + 1 + 1, 3, none⟩ = some (.int .i64 a3t) ∧ W'.frozen? ⟨w.heap.size, 0, none⟩ = false ∧ W'.frozen? ⟨w.heap.size, 1, none⟩ = false ∧ W'.frozen? ⟨w.heap.size, 2, none⟩ = false ∧ W'.frozen? ⟨w.heap.size, 3, none⟩ = false ∧ W'.frozen? ⟨w.heap.size + 1, 0, none⟩ = false ∧ W'.frozen? ⟨w.heap.size + 1, 1, none⟩ = false ∧ W'.frozen? ⟨w.heap.size + 1, 2, none⟩ = false ∧ W'.frozen? ⟨w.heap.size + 1, 3, none⟩ = false ∧ W'.frozen? ⟨w.heap.size + 1 + 1, 0, none⟩ = false ∧ W'.frozen? ⟨w.heap.size + 1 + 1, 1, none⟩ = false ∧ W'.frozen? ⟨w.heap.size + 1 + 1, 2, none⟩ = false ∧ W'.frozen? ⟨w.heap.size + 1 + 1, 3, none⟩ = false) (by kernel_rfl) ?_ ?_
  · (try dsimp only)
    refine ⟨?_, ?_, ?_, ?_, ?_, ?_, ?_, ?_, ?_, ?_, ?_, ?_, ?_, ?_, ?_, ?_, ?_, ?_, ?_, ?_, ?_, ?_, ?_, ?_, ?_⟩
    · repeat (first | (with_reducible exact Below.refl _ _) | (with_reducible apply Below.drew) | (with_reducible refine Below.alloc ?_ (by first | exact Nat.le_refl _ | (simp; done) | (simp; omega)) _))
    all_goals (simp [go_sem]; done)
  rintro W ⟨B, f0, f1, f2, f3, f4, f5, f6, f7, f8, f9, f10, f11, g0, g1, g2, g3, g4, g5, g6, g7, g8, g9, g10, g11⟩
  refine anyN_take [2, 5, 8, 9, 10, 11] (i := 0) (oi := ?o1) (v := ?v1) ?hi1 (by kernel_rfl) (by kernel_rfl) (by kernel_rfl) (by kernel_rfl) (by kernel_rfl) ?hQ1 (Or.inl ⟨?hg1, ?hy1⟩) ⟨f0, f1, f2, f3, f4, f5, f6, f7, f8, f9, f10, f11⟩ ?rest1
  case hi1 => (simp only [List.getElem?_toArray, List.getElem?_cons_zero, List.getElem?_cons_succ]; (first | done | with_reducible rfl))
  case hQ1 => exact fun _ _ _ h => h
  case hg1 => rfl
  case hy1 => (intro w hSw; (try dsimp only at hSw); go_simp; (first | done | (with_reducible rfl)))
  (try simp only [Act.put, List.setIfInBounds_toArray, List.set_cons_zero, List.set_cons_succ])
  refine anyN_take [2, 5, 8, 9, 10, 11] (i := 1) (oi := ?o2) (v := ?v2) ?hi2 (by kernel_rfl) (by kernel_rfl) (by kernel_rfl) (by kernel_rfl) (by kernel_rfl) ?hQ2 (Or.inl ⟨?hg2, ?hy2⟩) ⟨f0, f1, f2, f3, f4, f5, f6, f7, f8, f9, f10, f11⟩ ?rest2
  case hi2 => (simp only [List.getElem?_toArray, List.getElem?_cons_zero, List.getElem?_cons_succ]; (first | done | with_reducible rfl))
  case hQ2 => exact fun _ _ _ h => h
  case hg2 => rfl
  case hy2 => (intro w hSw; (try dsimp only at hSw); go_simp; (first | done | (with_reducible rfl)))
  (try simp only [Act.put, List.setIfInBounds_toArray, List.set_cons_zero, List.set_cons_succ])
  refine anyN_take [5, 8, 9, 10, 11] (i := 3) (oi := ?o3) (v := ?v3) ?hi3 (by kernel_rfl) (by kernel_rfl) (by kernel_rfl) (by kernel_rfl) (by kernel_rfl) ?hQ3 (Or.inl ⟨?hg3, ?hy3⟩) ⟨f0, f1, f2, f3, f4, f5, f6, f7, f8, f9, f10, f11⟩ ?rest3
  case hi3 => (simp only [List.getElem?_toArray, List.getElem?_cons_zero, List.getElem?_cons_succ]; (first | done | with_reducible rfl))
  case hQ3 => exact fun _ _ _ h => h
  case hg3 => rfl
  case hy3 => (intro w hSw; (try dsimp only at hSw); go_simp; (first | done | (with_reducible rfl)))
  (try simp only [Act.put, List.setIfInBounds_toArray, List.set_cons_zero, List.set_cons_succ])
  refine anyN_take [5, 8, 9, 10, 11] (i := 4) (oi := ?o4) (v := ?v4) ?hi4 (by kernel_rfl) (by kernel_rfl) (by kernel_rfl) (by kernel_rfl) (by kernel_rfl) ?hQ4 (Or.inl ⟨?hg4, ?hy4⟩) ⟨f0, f1, f2, f3, f4, f5, f6, f7, f8, f9, f10, f11⟩ ?rest4
  case hi4 => (simp only [List.getElem?_toArray, List.getElem?_cons_zero, List.getElem?_cons_succ]; (first | done | with_reducible rfl))
  case hQ4 => exact fun _ _ _ h => h
  case hg4 => rfl
  case hy4 => (intro w hSw; (try dsimp only at hSw); go_simp; (first | done | (with_reducible rfl)))
  (try simp only [Act.put, List.setIfInBounds_toArray, List.set_cons_zero, List.set_cons_succ])
  refine anyN_take [8, 9, 10, 11] (i := 6) (oi := ?o5) (v := ?v5) ?hi5 (by kernel_rfl) (by kernel_rfl) (by kernel_rfl) (by kernel_rfl) (by kernel_rfl) ?hQ5 (Or.inl ⟨?hg5, ?hy5⟩) ⟨f0, f1, f2, f3, f4, f5, f6, f7, f8, f9, f10, f11⟩ ?rest5
  case hi5 => (simp only [List.getElem?_toArray, List.getElem?_cons_zero, List.getElem?_cons_succ]; (first | done | with_reducible rfl))
  case hQ5 => exact fun _ _ _ h => h
  case hg5 => rfl
  case hy5 => (intro w hSw; (try dsimp only at hSw); go_simp; (first | done | (with_reducible rfl)))
  (try simp only [Act.put, List.setIfInBounds_toArray, List.set_cons_zero, List.set_cons_succ])
  refine anyN_take [8, 9, 10, 11] (i := 7) (oi := ?o6) (v := ?v6) ?hi6 (by kernel_rfl) (by kernel_rfl) (by kernel_rfl) (by kernel_rfl) (by kernel_rfl) ?hQ6 (Or.inl ⟨?hg6, ?hy6⟩) ⟨f0, f1, f2, f3, f4, f5, f6, f7, f8, f9, f10, f11⟩ ?rest6
  case hi6 => (simp only [List.getElem?_toArray, List.getElem?_cons_zero, List.getElem?_cons_succ]; (first | done | with_reducible rfl))
  case hQ6 => exact fun _ _ _ h => h
  case hg6 => rfl
  case hy6 => (intro w hSw; (try dsimp only at hSw); go_simp; (first | done | (with_reducible rfl)))
  (try simp only [Act.put, List.setIfInBounds_toArray, List.set_cons_zero, List.set_cons_succ])
  refine anyN_ready (rs := [2]) (by kernel_rfl) (by simp) ?_
  refine AllN.cons (o := ?o7) ?hi7 (fun K hK => ?step7) AllN.nil
  case hi7 => (simp only [List.getElem?_toArray, List.getElem?_cons_zero, List.getElem?_cons_succ]; (first | done | with_reducible rfl))
  go_simp
  (go_at_call 20; (with_reducible refine (cutR_any _ _ _ _ _ _).mono ?_); rintro e w1 ⟨rfl, hb⟩; replace g0 := keepf hb f0 g0; replace g1 := keepf hb f1 g1; replace g2 := keepf hb f2 g2; replace g3 := keepf hb f3 g3; replace g4 := keepf hb f4 g4; replace g5 := keepf hb f5 g5; replace g6 := keepf hb f6 g6; replace g7 := keepf hb f7 g7; replace g8 := keepf hb f8 g8; replace g9 := keepf hb f9 g9; replace g10 := keepf hb f10 g10; replace g11 := keepf hb f11 g11; replace f0 := keepc hb f0; replace f1 := keepc hb f1; replace f2 := keepc hb f2; replace f3 := keepc hb f3; replace f4 := keepc hb f4; replace f5 := keepc hb f5; replace f6 := keepc hb f6; replace f7 := keepc hb f7; replace f8 := keepc hb f8; replace f9 := keepc hb f9; replace f10 := keepc hb f10; replace f11 := keepc hb f11; replace B := keepb B hb; clear hb)
  refine hK.out _ _ ⟨f0, f1, f2, f3, f4, f5, f6, f7, f8, f9, f10, f11⟩ (fun _ => ?_)
  clear hK K
  (try simp only [Act.put, List.setIfInBounds_toArray, List.set_cons_zero, List.set_cons_succ])
  simp only [er0, er1, er2, er3]
  refine anyN_ready (rs := [5]) (by kernel_rfl) (by simp) ?_
  refine AllN.cons (o := ?o8) ?hi8 (fun K hK => ?step8) AllN.nil
  case hi8 => (simp only [List.getElem?_toArray, List.getElem?_cons_zero, List.getElem?_cons_succ]; (first | done | with_reducible rfl))
  go_simp
  (go_at_call 20; (with_reducible refine (cutR_any _ _ _ _ _ _).mono ?_); rintro e w1 ⟨rfl, hb⟩; replace g0 := keepf hb f0 g0; replace g1 := keepf hb f1 g1; replace g2 := keepf hb f2 g2; replace g3 := keepf hb f3 g3; replace g4 := keepf hb f4 g4; replace g5 := keepf hb f5 g5; replace g6 := keepf hb f6 g6; replace g7 := keepf hb f7 g7; replace g8 := keepf hb f8 g8; replace g9 := keepf hb f9 g9; replace g10 := keepf hb f10 g10; replace g11 := keepf hb f11 g11; replace f0 := keepc hb f0; replace f1 := keepc hb f1; replace f2 := keepc hb f2; replace f3 := keepc hb f3; replace f4 := keepc hb f4; replace f5 := keepc hb f5; replace f6 := keepc hb f6; replace f7 := keepc hb f7; replace f8 := keepc hb f8; replace f9 := keepc hb f9; replace f10 := keepc hb f10; replace f11 := keepc hb f11; replace B := keepb B hb; clear hb)
  refine hK.out _ _ ⟨f0, f1, f2, f3, f4, f5, f6, f7, f8, f9, f10, f11⟩ (fun _ => ?_)
  clear hK K
  (try simp only [Act.put, List.setIfInBounds_toArray, List.set_cons_zero, List.set_cons_succ])
  simp only [es0, es1, es2, es3]
  refine anyN_ready (rs := [8]) (by kernel_rfl) (by simp) ?_
  refine AllN.cons (o := ?o9) ?hi9 (fun K hK => ?step9) AllN.nil
  case hi9 => (simp only [List.getElem?_toArray, List.getElem?_cons_zero, List.getElem?_cons_succ]; (first | done | with_reducible rfl))
  go_simp
  (go_at_call 20; (with_reducible refine (cutR_any _ _ _ _ _ _).mono ?_); rintro e w1 ⟨rfl, hb⟩; replace g0 := keepf hb f0 g0; replace g1 := keepf hb f1 g1; replace g2 := keepf hb f2 g2; replace g3 := keepf hb f3 g3; replace g4 := keepf hb f4 g4; replace g5 := keepf hb f5 g5; replace g6 := keepf hb f6 g6; replace g7 := keepf hb f7 g7; replace g8 := keepf hb f8 g8; replace g9 := keepf hb f9 g9; replace g10 := keepf hb f10 g10; replace g11 := keepf hb f11 g11; replace f0 := keepc hb f0; replace f1 := keepc hb f1; replace f2 := keepc hb f2; replace f3 := keepc hb f3; replace f4 := keepc hb f4; replace f5 := keepc hb f5; replace f6 := keepc hb f6; replace f7 := keepc hb f7; replace f8 := keepc hb f8; replace f9 := keepc hb f9; replace f10 := keepc hb f10; replace f11 := keepc hb f11; replace B := keepb B hb; clear hb)
  refine hK.out _ _ ⟨f0, f1, f2, f3, f4, f5, f6, f7, f8, f9, f10, f11⟩ (fun _ => ?_)
  clear hK K
  (try simp only [Act.put, List.setIfInBounds_toArray, List.set_cons_zero, List.set_cons_succ])
  simp only [et0, et1, et2, et3]
  refine anyN_ready (rs := [9]) (by kernel_rfl) (by simp) ?_
  refine AllN.last (o := ?o10) ?hi10 (by simp) (fun K hK => ?step10) AllN.nil
  case hi10 => (simp only [List.getElem?_toArray, List.getElem?_cons_zero, List.getElem?_cons_succ]; (first | done | with_reducible rfl))
  go_simp
  refine named (K := K) (fun W' => Below w.heap.size w W' ∧ W'.cell? ⟨w.heap.size, 0, none⟩ = some (.int .i64 r0) ∧ W'.cell? ⟨w.heap.size, 1, none⟩ = some (.int .i64 r1) ∧ W'.cell? ⟨w.heap.size, 2, none⟩ = some (.int .i64 r2) ∧ W'.cell? ⟨w.heap.size, 3, none⟩ = some (.int .i64 r3) ∧ W'.cell? ⟨w.heap.size + 1, 0, none⟩ = some (.int .i64 a2x) ∧ W'.cell? ⟨w.heap.size + 1, 1, none⟩ = some (.int .i64 a2y) ∧ W'.cell? ⟨w.heap.size + 1, 2, none⟩ = some (.int .i64 a2z) ∧ W'.cell? ⟨w.heap.size + 1, 3, none⟩ = some (.int .i64 a2t) ∧ W'.cell? ⟨w.heap.size + 1 + 1, 0, none⟩ = some (.int .i64 a3x) ∧ W'.cell? ⟨w.heap.size + 1 + 1, 1, none⟩ = some (.int .i64 a3y) ∧ W'.cell? ⟨w.heap.size + 1 + 1, 2, none⟩ = some (.int .i64 a3z) ∧ W'.cell? ⟨w.heap.size + 1 + 1, 3, none⟩ = some (.int .i64 a3t) ∧ W'.frozen? ⟨w.heap.size + 1, 0, none⟩ = false ∧ W'.frozen? ⟨w.heap.size + 1, 1, none⟩ = false ∧ W'.frozen? ⟨w.heap.size + 1, 2, none⟩ = false ∧ W'.frozen? ⟨w.heap.size + 1, 3, none⟩ = false ∧ W'.frozen? ⟨w.heap.size + 1 + 1, 0, none⟩ = false ∧ W'.frozen? ⟨w.heap.size + 1 + 1, 1, none⟩ = false ∧ W'.frozen? ⟨w.heap.size + 1 + 1, 2, none⟩ = false ∧ W'.frozen? ⟨w.heap.size + 1 + 1, 3, none⟩ = false) ?_ ?_
  · (try dsimp only)
    refine ⟨?_, ?_, ?_, ?_, ?_, ?_, ?_, ?_, ?_, ?_, ?_, ?_, ?_, ?_, ?_, ?_, ?_, ?_, ?_, ?_, ?_⟩
    · repeat (first | (with_reducible exact B) | (with_reducible exact Below.refl _ _) | (with_reducible apply Below.drew) | (with_reducible refine Below.setCell ?_ (by first | (simp; done) | (simp; omega)) _) | (with_reducible refine Below.alloc ?_ (by first | exact Nat.le_refl _ | (simp; done) | (simp; omega)) _))
    all_goals (first | (simp [go_sem]; done) | (simp [go_sem, f0, f1, f2, f3, f4, f5, f6, f7, f8, f9, f10, f11, g0, g1, g2, g3, g4, g5, g6, g7, g8, g9, g10, g11]; done))
  rintro W ⟨B, f0, f1, f2, f3, f4, f5, f6, f7, f8, f9, f10, f11, g4, g5, g6, g7, g8, g9, g10, g11⟩
  refine hK.out _ _ ?_
  clear hK K
  (try simp only [Act.put, List.setIfInBounds_toArray, List.set_cons_zero, List.set_cons_succ])
  refine anyN_ready (rs := [10]) (by kernel_rfl) (by simp) ?_
  refine AllN.last (o := ?o11) ?hi11 (by simp) (fun K hK => ?step11) AllN.nil
  case hi11 => (simp only [List.getElem?_toArray, List.getElem?_cons_zero, List.getElem?_cons_succ]; (first | done | with_reducible rfl))
  go_simp
  refine named (K := K) (fun W' => Below w.heap.size w W' ∧ W'.cell? ⟨w.heap.size, 0, none⟩ = some (.int .i64 r0) ∧ W'.cell? ⟨w.heap.size, 1, none⟩ = some (.int .i64 r1) ∧ W'.cell? ⟨w.heap.size, 2, none⟩ = some (.int .i64 r2) ∧ W'.cell? ⟨w.heap.size, 3, none⟩ = some (.int .i64 r3) ∧ W'.cell? ⟨w.heap.size + 1, 0, none⟩ = some (.int .i64 s0) ∧ W'.cell? ⟨w.heap.size + 1, 1, none⟩ = some (.int .i64 s1) ∧ W'.cell? ⟨w.heap.size + 1, 2, none⟩ = some (.int .i64 s2) ∧ W'.cell? ⟨w.heap.size + 1, 3, none⟩ = some (.int .i64 s3) ∧ W'.cell? ⟨w.heap.size + 1 + 1, 0, none⟩ = some (.int .i64 a3x) ∧ W'.cell? ⟨w.heap.size + 1 + 1, 1, none⟩ = some (.int .i64 a3y) ∧ W'.cell? ⟨w.heap.size + 1 + 1, 2, none⟩ = some (.int .i64 a3z) ∧ W'.cell? ⟨w.heap.size + 1 + 1, 3, none⟩ = some (.int .i64 a3t) ∧ W'.frozen? ⟨w.heap.size + 1 + 1, 0, none⟩ = false ∧ W'.frozen? ⟨w.heap.size + 1 + 1, 1, none⟩ = false ∧ W'.frozen? ⟨w.heap.size + 1 + 1, 2, none⟩ = false ∧ W'.frozen? ⟨w.heap.size + 1 + 1, 3, none⟩ = false) ?_ ?_
  · (try dsimp only)
    refine ⟨?_, ?_, ?_, ?_, ?_, ?_, ?_, ?_, ?_, ?_, ?_, ?_, ?_, ?_, ?_, ?_, ?_⟩
    · repeat (first | (with_reducible exact B) | (with_reducible exact Below.refl _ _) | (with_reducible apply Below.drew) | (with_reducible refine Below.setCell ?_ (by first | (simp; done) | (simp; omega)) _) | (with_reducible refine Below.alloc ?_ (by first | exact Nat.le_refl _ | (simp; done) | (simp; omega)) _))
    all_goals (first | (simp [go_sem]; done) | (simp [go_sem, f0, f1, f2, f3, f4, f5, f6, f7, f8, f9, f10, f11, g4, g5, g6, g7, g8, g9, g10, g11]; done))
  rintro W ⟨B, f0, f1, f2, f3, f4, f5, f6, f7, f8, f9, f10, f11, g8, g9, g10, g11⟩
  refine hK.out _ _ ?_
  clear hK K
  (try simp only [Act.put, List.setIfInBounds_toArray, List.set_cons_zero, List.set_cons_succ])
  refine anyN_ready (rs := [11]) (by kernel_rfl) (by simp) ?_
  refine AllN.last (o := ?o12) ?hi12 (by simp) (fun K hK => ?step12) AllN.nil
  case hi12 => (simp only [List.getElem?_toArray, List.getElem?_cons_zero, List.getElem?_cons_succ]; (first | done | with_reducible rfl))
  go_simp
  refine named (K := K) (fun W' => Below w.heap.size w W' ∧ W'.cell? ⟨w.heap.size, 0, none⟩ = some (.int .i64 r0) ∧ W'.cell? ⟨w.heap.size, 1, none⟩ = some (.int .i64 r1) ∧ W'.cell? ⟨w.heap.size, 2, none⟩ = some (.int .i64 r2) ∧ W'.cell? ⟨w.heap.size, 3, none⟩ = some (.int .i64 r3) ∧ W'.cell? ⟨w.heap.size + 1, 0, none⟩ = some (.int .i64 s0) ∧ W'.cell? ⟨w.heap.size + 1, 1, none⟩ = some (.int .i64 s1) ∧ W'.cell? ⟨w.heap.size + 1, 2, none⟩ = some (.int .i64 s2) ∧ W'.cell? ⟨w.heap.size + 1, 3, none⟩ = some (.int .i64 s3) ∧ W'.cell? ⟨w.heap.size + 1 + 1, 0, none⟩ = some (.int .i64 t0) ∧ W'.cell? ⟨w.heap.size + 1 + 1, 1, none⟩ = some (.int .i64 t1) ∧ W'.cell? ⟨w.heap.size + 1 + 1, 2, none⟩ = some (.int .i64 t2) ∧ W'.cell? ⟨w.heap.size + 1 + 1, 3, none⟩ = some (.int .i64 t3)) ?_ ?_
  · (try dsimp only)
    refine ⟨?_, ?_, ?_, ?_, ?_, ?_, ?_, ?_, ?_, ?_, ?_, ?_, ?_⟩
    · repeat (first | (with_reducible exact B) | (with_reducible exact Below.refl _ _) | (with_reducible apply Below.drew) | (with_reducible refine Below.setCell ?_ (by first | (simp; done) | (simp; omega)) _) | (with_reducible refine Below.alloc ?_ (by first | exact Nat.le_refl _ | (simp; done) | (simp; omega)) _))
    all_goals (first | (simp [go_sem]; done) | (simp [go_sem, f0, f1, f2, f3, f4, f5, f6, f7, f8, f9, f10, f11, g8, g9, g10, g11]; done))
  rintro W ⟨B, f0, f1, f2, f3, f4, f5, f6, f7, f8, f9, f10, f11⟩
  refine hK.out _ _ ?_
  clear hK K
  (try simp only [Act.put, List.setIfInBounds_toArray, List.set_cons_zero, List.set_cons_succ])
  refine anyN_done (by kernel_rfl) ?_ _
  go_upto_region 3 with (go_at_call 17; (with_reducible refine (iUnio_any _ _ _ _ _ _ _ _ _ _).mono ?_); rintro e w5 ⟨rfl, hb⟩; replace f0 := keepc hb f0; replace f1 := keepc hb f1; replace f2 := keepc hb f2; replace f3 := keepc hb f3; replace f4 := keepc hb f4; replace f5 := keepc hb f5; replace f6 := keepc hb f6; replace f7 := keepc hb f7; replace f8 := keepc hb f8; replace f9 := keepc hb f9; replace f10 := keepc hb f10; replace f11 := keepc hb f11; replace B := keepb B hb; clear hb)
  refine wp_named (fun W' => Below w.heap.size w W' ∧ W'.cell? ⟨w.heap.size, 0, none⟩ = some (.int .i64 r0) ∧ W'.cell? ⟨w.heap.size, 1, none⟩ = some (.int .i64 r1) ∧ W'.cell? ⟨w.heap.size, 2, none⟩ = some (.int .i64 r2) ∧ W'.cell? ⟨w.heap.size, 3, none⟩ = some (.int .i64 r3) ∧ W'.cell? ⟨w.heap.size + 1, 0, none⟩ = some (.int .i64 s0) ∧ W'.cell? ⟨w.heap.size + 1, 1, none⟩ = some (.int .i64 s1) ∧ W'.cell? ⟨w.heap.size + 1, 2, none⟩ = some (.int .i64 s2) ∧ W'.cell? ⟨w.heap.size + 1, 3, none⟩ = some (.int .i64 s3) ∧ W'.cell? ⟨w.heap.size + 1 + 1, 0, none⟩ = some (.int .i64 t0) ∧ W'.cell? ⟨w.heap.size + 1 + 1, 1, none⟩ = some (.int .i64 t1) ∧ W'.cell? ⟨w.heap.size + 1 + 1, 2, none⟩ = some (.int .i64 t2) ∧ W'.cell? ⟨w.heap.size + 1 + 1, 3, none⟩ = some (.int .i64 t3) ∧ W'.cell? ⟨w5.heap.size, 0, none⟩ = some (.int .i64 s0) ∧ W'.cell? ⟨w5.heap.size, 1, none⟩ = some (.int .i64 s1) ∧ W'.cell? ⟨w5.heap.size, 2, none⟩ = some (.int .i64 s2) ∧ W'.cell? ⟨w5.heap.size, 3, none⟩ = some (.int .i64 s3)) ?_ ?_
  · (try dsimp only)
    refine ⟨?_, ?_, ?_, ?_, ?_, ?_, ?_, ?_, ?_, ?_, ?_, ?_, ?_, ?_, ?_, ?_, ?_⟩
    · exact B.alloc B.size _
    all_goals (first | (with_reducible refine keepA _ ?_; with_reducible assumption) | (simp [go_sem]; done))
  rintro W ⟨B, f0, f1, f2, f3, f4, f5, f6, f7, f8, f9, f10, f11, f12, f13, f14, f15⟩
  go_wp2_with (first | (go_at_call 22; (with_reducible refine (rect_any _ _ _ _ _).mono ?_); rintro e w6 ⟨rfl, hb⟩; replace f0 := keepc hb f0; replace f1 := keepc hb f1; replace f2 := keepc hb f2; replace f3 := keepc hb f3; replace f4 := keepc hb f4; replace f5 := keepc hb f5; replace f6 := keepc hb f6; replace f7 := keepc hb f7; replace f8 := keepc hb f8; replace f9 := keepc hb f9; replace f10 := keepc hb f10; replace f11 := keepc hb f11; replace f12 := keepc hb f12; replace f13 := keepc hb f13; replace f14 := keepc hb f14; replace f15 := keepc hb f15; replace B := keepb B hb; clear hb) | (go_at_call 21; (with_reducible refine (emptySpec_any _ _ _ _ _).mono ?_); rintro e w6 ⟨rfl, hb⟩; replace f0 := keepc hb f0; replace f1 := keepc hb f1; replace f2 := keepc hb f2; replace f3 := keepc hb f3; replace f4 := keepc hb f4; replace f5 := keepc hb f5; replace f6 := keepc hb f6; replace f7 := keepc hb f7; replace f8 := keepc hb f8; replace f9 := keepc hb f9; replace f10 := keepc hb f10; replace f11 := keepc hb f11; replace f12 := keepc hb f12; replace f13 := keepc hb f13; replace f14 := keepc hb f14; replace f15 := keepc hb f15; replace B := keepb B hb; clear hb))
  go_ret
  exact ⟨rfl, B⟩
set_option maxHeartbeats 4000000 in
theorem way_s (a0 : Bool) (a1x a1y a1z a1t a2x a2y a2z a2t a3x a3y a3z a3t : Int) (r0 r1 r2 r3 s0 s1 s2 s3 t0 t1 t2 t3 : Int) (er0 : cutZ a0 a1x = r0) (kr0 : cutZ a0 r0 = r0) (er1 : cutZ a0 a1y = r1) (kr1 : cutZ a0 r1 = r1) (er2 : cutZ a0 a1z = r2) (kr2 : cutZ a0 r2 = r2) (er3 : cutZ a0 a1t = r3) (kr3 : cutZ a0 r3 = r3) (es0 : cutZ a0 a2x = s0) (ks0 : cutZ a0 s0 = s0) (es1 : cutZ a0 a2y = s1) (ks1 : cutZ a0 s1 = s1) (es2 : cutZ a0 a2z = s2) (ks2 : cutZ a0 s2 = s2) (es3 : cutZ a0 a2t = s3) (ks3 : cutZ a0 s3 = s3) (et0 : cutZ a0 a3x = t0) (kt0 : cutZ a0 t0 = t0) (et1 : cutZ a0 a3y = t1) (kt1 : cutZ a0 t1 = t1) (et2 : cutZ a0 a3z = t2) (kt2 : cutZ a0 t2 = t2) (et3 : cutZ a0 a3t = t3) (kt3 : cutZ a0 t3 = t3) (qu0 : uX0 r0 r1 r2 r3 s0 s1 s2 s3 = r0) (qu1 : uY0 r0 r1 r2 r3 s0 s1 s2 s3 = r1) (qu2 : uX1 r0 r1 r2 r3 s0 s1 s2 s3 = r2) (qu3 : uY1 r0 r1 r2 r3 s0 s1 s2 s3 = r3) (he : emptyB r0 r1 r2 r3 = false) (hf : emptyB s0 s1 s2 s3 = true) (w : World) :
    Calls Try.prog 13 #[.bool a0, .agg #[.int .i64 a1x, .int .i64 a1y, .int .i64 a1z, .int .i64 a1t], .agg #[.int .i64 a2x, .int .i64 a2y, .int .i64 a2z, .int .i64 a2t], .agg #[.int .i64 a3x, .int .i64 a3y, .int .i64 a3z, .int .i64 a3t]] w fun e w' => e = .returned (.bool true) ∧ Below w.heap.size w w' := by
  go_enter Try.func13, Try.ntmps13
  go_wp2
  refine region_R (S := (fun W' => W'.cell? ⟨w.heap.size, 0, none⟩ = some (.int .i64 a1x) ∧ W'.cell? ⟨w.heap.size, 1, none⟩ = some (.int .i64 a1y) ∧ W'.cell? ⟨w.heap.size, 2, none⟩ = some (.int .i64 a1z) ∧ W'.cell? ⟨w.heap.size, 3, none⟩ = some (.int .i64 a1t) ∧ W'.cell? ⟨w.heap.size + 1, 0, none⟩ = some (.int .i64 a2x) ∧ W'.cell? ⟨w.heap.size + 1, 1, none⟩ = some (.int .i64 a2y) ∧ W'.cell? ⟨w.heap.size + 1, 2, none⟩ = some (.int .i64 a2z) ∧ W'.cell? ⟨w.heap.size + 1, 3, none⟩ = some (.int .i64 a2t) ∧ W'.cell? ⟨w.heap.size + 1 + 1, 0, none⟩ = some (.int .i64 a3x) ∧ W'.cell? ⟨w.heap.size + 1 + 1, 1, none⟩ = some (.int .i64 a3y) ∧ W'.cell? ⟨w.heap.size + 1 + 1, 2, none⟩ = some (.int .i64 a3z) ∧ W'.cell? ⟨w.heap.size + 1 + 1, 3, none⟩ = some (.int .i64 a3t))) (N := [9, 10, 11]) (fun W' => Below w.heap.size w W' ∧ W'.cell? ⟨w.heap.size, 0, none⟩ = some (.int .i64 a1x) ∧ W'.cell? ⟨w.heap.size, 1, none⟩ = some (.int .i64 a1y) ∧ W'.cell? ⟨w.heap.size, 2, none⟩ = some (.int .i64 a1z) ∧ W'.cell? ⟨w.heap.size, 3, none⟩ = some (.int .i64 a1t) ∧ W'.cell? ⟨w.heap.size + 1, 0, none⟩ = some (.int .i64 a2x) ∧ W'.cell? ⟨w.heap.size + 1, 1, none⟩ = some (.int .i64 a2y) ∧ W'.cell? ⟨w.heap.size + 1, 2, none⟩ = some (.int .i64 a2z) ∧ W'.cell? ⟨w.heap.size + 1, 3, none⟩ = some (.int .i64 a2t) ∧ W'.cell? ⟨w.heap.size + 1 + 1, 0, none⟩ = some (.int .i64 a3x) ∧ W'.cell? ⟨w.heap.size + 1 + 1, 1, none⟩ = some (.int .i64 a3y) ∧ W'.cell? ⟨w.heap.size + 1 + 1, 2, none⟩ = some (.int .i64 a3z) ∧ W'.cell? ⟨w.heap.size + 1 + 1, 3, none⟩ = some (.int .i64 a3t) ∧ W'.frozen? ⟨w.heap.size, 0, none⟩ = false ∧ W'.frozen? ⟨w.heap.size, 1, none⟩ = false ∧ W'.frozen? ⟨w.heap.size, 2, none⟩ = false ∧ W'.frozen? ⟨w.heap.size, 3, none⟩ = false ∧ W'.frozen? ⟨w.heap.size + 1, 0, none⟩ = false ∧ W'.frozen? ⟨w.heap.size + 1, 1, none⟩ = false ∧ W'.frozen? ⟨w.heap.size + 1, 2, none⟩ = false ∧ W'.frozen? ⟨w.heap.size + 1, 3, none⟩ = false ∧ W'.frozen? ⟨w.heap.size + 1 + 1, 0, none⟩ = false ∧ W'.frozen? ⟨w.heap.size + 1 + 1, 1, none⟩ = false ∧ W'.frozen? ⟨w.heap.size + 1 + 1, 2, none⟩ = false ∧ W'.frozen? ⟨w.heap.size + 1 + 1, 3, none⟩ = false) (by kernel_rfl) ?_ ?_
  · (try dsimp only)
    refine ⟨?_, ?_, ?_, ?_, ?_, ?_, ?_, ?_, ?_, ?_, ?_, ?_, ?_, ?_, ?_, ?_, ?_, ?_, ?_, ?_, ?_, ?_, ?_, ?_, ?_⟩
    · repeat (first | (with_reducible exact Below.refl _ _) | (with_reducible apply Below.drew) | (with_reducible refine Below.alloc ?_ (by first | exact Nat.le_refl _ | (simp; done) | (simp; omega)) _))
    all_goals (simp [go_sem]; done)
  rintro W ⟨B, f0, f1, f2, f3, f4, f5, f6, f7, f8, f9, f10, f11, g0, g1, g2, g3, g4, g5, g6, g7, g8, g9, g10, g11⟩
  refine anyN_take [2, 5, 8, 9, 10, 11] (i := 0) (oi := ?o13) (v := ?v13) ?hi13 (by kernel_rfl) (by kernel_rfl) (by kernel_rfl) (by kernel_rfl) (by kernel_rfl) ?hQ13 (Or.inl ⟨?hg13, ?hy13⟩) ⟨f0, f1, f2, f3, f4, f5, f6, f7, f8, f9, f10, f11⟩ ?rest13
  case hi13 => (simp only [List.getElem?_toArray, List.getElem?_cons_zero, List.getElem?_cons_succ]; (first | done | with_reducible rfl))
  case hQ13 => exact fun _ _ _ h => h
  case hg13 => rfl
  case hy13 => (intro w hSw; (try dsimp only at hSw); go_simp; (first | done | (with_reducible rfl)))
  (try simp only [Act.put, List.setIfInBounds_toArray, List.set_cons_zero, List.set_cons_succ])
  refine anyN_take [2, 5, 8, 9, 10, 11] (i := 1) (oi := ?o14) (v := ?v14) ?hi14 (by kernel_rfl) (by kernel_rfl) (by kernel_rfl) (by kernel_rfl) (by kernel_rfl) ?hQ14 (Or.inl ⟨?hg14, ?hy14⟩) ⟨f0, f1, f2, f3, f4, f5, f6, f7, f8, f9, f10, f11⟩ ?rest14
  case hi14 => (simp only [List.getElem?_toArray, List.getElem?_cons_zero, List.getElem?_cons_succ]; (first | done | with_reducible rfl))
  case hQ14 => exact fun _ _ _ h => h
  case hg14 => rfl
  case hy14 => (intro w hSw; (try dsimp only at hSw); go_simp; (first | done | (with_reducible rfl)))
  (try simp only [Act.put, List.setIfInBounds_toArray, List.set_cons_zero, List.set_cons_succ])
  refine anyN_take [5, 8, 9, 10, 11] (i := 3) (oi := ?o15) (v := ?v15) ?hi15 (by kernel_rfl) (by kernel_rfl) (by kernel_rfl) (by kernel_rfl) (by kernel_rfl) ?hQ15 (Or.inl ⟨?hg15, ?hy15⟩) ⟨f0, f1, f2, f3, f4, f5, f6, f7, f8, f9, f10, f11⟩ ?rest15
  case hi15 => (simp only [List.getElem?_toArray, List.getElem?_cons_zero, List.getElem?_cons_succ]; (first | done | with_reducible rfl))
  case hQ15 => exact fun _ _ _ h => h
  case hg15 => rfl
  case hy15 => (intro w hSw; (try dsimp only at hSw); go_simp; (first | done | (with_reducible rfl)))
  (try simp only [Act.put, List.setIfInBounds_toArray, List.set_cons_zero, List.set_cons_succ])
  refine anyN_take [5, 8, 9, 10, 11] (i := 4) (oi := ?o16) (v := ?v16) ?hi16 (by kernel_rfl) (by kernel_rfl) (by kernel_rfl) (by kernel_rfl) (by kernel_rfl) ?hQ16 (Or.inl ⟨?hg16, ?hy16⟩) ⟨f0, f1, f2, f3, f4, f5, f6, f7, f8, f9, f10, f11⟩ ?rest16
  case hi16 => (simp only [List.getElem?_toArray, List.getElem?_cons_zero, List.getElem?_cons_succ]; (first | done | with_reducible rfl))
  case hQ16 => exact fun _ _ _ h => h
  case hg16 => rfl
  case hy16 => (intro w hSw; (try dsimp only at hSw); go_simp; (first | done | (with_reducible rfl)))
  (try simp only [Act.put, List.setIfInBounds_toArray, List.set_cons_zero, List.set_cons_succ])
  refine anyN_take [8, 9, 10, 11] (i := 6) (oi := ?o17) (v := ?v17) ?hi17 (by kernel_rfl) (by kernel_rfl) (by kernel_rfl) (by kernel_rfl) (by kernel_rfl) ?hQ17 (Or.inl ⟨?hg17, ?hy17⟩) ⟨f0, f1, f2, f3, f4, f5, f6, f7, f8, f9, f10, f11⟩ ?rest17
  case hi17 => (simp only [List.getElem?_toArray, List.getElem?_cons_zero, List.getElem?_cons_succ]; (first | done | with_reducible rfl))
  case hQ17 => exact fun _ _ _ h => h
  case hg17 => rfl
  case hy17 => (intro w hSw; (try dsimp only at hSw); go_simp; (first | done | (with_reducible rfl)))
  (try simp only [Act.put, List.setIfInBounds_toArray, List.set_cons_zero, List.set_cons_succ])
  refine anyN_take [8, 9, 10, 11] (i := 7) (oi := ?o18) (v := ?v18) ?hi18 (by kernel_rfl) (by kernel_rfl) (by kernel_rfl) (by kernel_rfl) (by kernel_rfl) ?hQ18 (Or.inl ⟨?hg18, ?hy18⟩) ⟨f0, f1, f2, f3, f4, f5, f6, f7, f8, f9, f10, f11⟩ ?rest18
  case hi18 => (simp only [List.getElem?_toArray, List.getElem?_cons_zero, List.getElem?_cons_succ]; (first | done | with_reducible rfl))
  case hQ18 => exact fun _ _ _ h => h
  case hg18 => rfl
  case hy18 => (intro w hSw; (try dsimp only at hSw); go_simp; (first | done | (with_reducible rfl)))
  (try simp only [Act.put, List.setIfInBounds_toArray, List.set_cons_zero, List.set_cons_succ])
  refine anyN_ready (rs := [2]) (by kernel_rfl) (by simp) ?_
  refine AllN.cons (o := ?o19) ?hi19 (fun K hK => ?step19) AllN.nil
  case hi19 => (simp only [List.getElem?_toArray, List.getElem?_cons_zero, List.getElem?_cons_succ]; (first | done | with_reducible rfl))
  go_simp
  (go_at_call 20; (with_reducible refine (cutR_any _ _ _ _ _ _).mono ?_); rintro e w1 ⟨rfl, hb⟩; replace g0 := keepf hb f0 g0; replace g1 := keepf hb f1 g1; replace g2 := keepf hb f2 g2; replace g3 := keepf hb f3 g3; replace g4 := keepf hb f4 g4; replace g5 := keepf hb f5 g5; replace g6 := keepf hb f6 g6; replace g7 := keepf hb f7 g7; replace g8 := keepf hb f8 g8; replace g9 := keepf hb f9 g9; replace g10 := keepf hb f10 g10; replace g11 := keepf hb f11 g11; replace f0 := keepc hb f0; replace f1 := keepc hb f1; replace f2 := keepc hb f2; replace f3 := keepc hb f3; replace f4 := keepc hb f4; replace f5 := keepc hb f5; replace f6 := keepc hb f6; replace f7 := keepc hb f7; replace f8 := keepc hb f8; replace f9 := keepc hb f9; replace f10 := keepc hb f10; replace f11 := keepc hb f11; replace B := keepb B hb; clear hb)
  refine hK.out _ _ ⟨f0, f1, f2, f3, f4, f5, f6, f7, f8, f9, f10, f11⟩ (fun _ => ?_)
  clear hK K
  (try simp only [Act.put, List.setIfInBounds_toArray, List.set_cons_zero, List.set_cons_succ])
  simp only [er0, er1, er2, er3]
  refine anyN_ready (rs := [5]) (by kernel_rfl) (by simp) ?_
  refine AllN.cons (o := ?o20) ?hi20 (fun K hK => ?step20) AllN.nil
  case hi20 => (simp only [List.getElem?_toArray, List.getElem?_cons_zero, List.getElem?_cons_succ]; (first | done | with_reducible rfl))
  go_simp
  (go_at_call 20; (with_reducible refine (cutR_any _ _ _ _ _ _).mono ?_); rintro e w1 ⟨rfl, hb⟩; replace g0 := keepf hb f0 g0; replace g1 := keepf hb f1 g1; replace g2 := keepf hb f2 g2; replace g3 := keepf hb f3 g3; replace g4 := keepf hb f4 g4; replace g5 := keepf hb f5 g5; replace g6 := keepf hb f6 g6; replace g7 := keepf hb f7 g7; replace g8 := keepf hb f8 g8; replace g9 := keepf hb f9 g9; replace g10 := keepf hb f10 g10; replace g11 := keepf hb f11 g11; replace f0 := keepc hb f0; replace f1 := keepc hb f1; replace f2 := keepc hb f2; replace f3 := keepc hb f3; replace f4 := keepc hb f4; replace f5 := keepc hb f5; replace f6 := keepc hb f6; replace f7 := keepc hb f7; replace f8 := keepc hb f8; replace f9 := keepc hb f9; replace f10 := keepc hb f10; replace f11 := keepc hb f11; replace B := keepb B hb; clear hb)
  refine hK.out _ _ ⟨f0, f1, f2, f3, f4, f5, f6, f7, f8, f9, f10, f11⟩ (fun _ => ?_)
  clear hK K
  (try simp only [Act.put, List.setIfInBounds_toArray, List.set_cons_zero, List.set_cons_succ])
  simp only [es0, es1, es2, es3]
  refine anyN_ready (rs := [8]) (by kernel_rfl) (by simp) ?_
  refine AllN.cons (o := ?o21) ?hi21 (fun K hK => ?step21) AllN.nil
  case hi21 => (simp only [List.getElem?_toArray, List.getElem?_cons_zero, List.getElem?_cons_succ]; (first | done | with_reducible rfl))
  go_simp
  (go_at_call 20; (with_reducible refine (cutR_any _ _ _ _ _ _).mono ?_); rintro e w1 ⟨rfl, hb⟩; replace g0 := keepf hb f0 g0; replace g1 := keepf hb f1 g1; replace g2 := keepf hb f2 g2; replace g3 := keepf hb f3 g3; replace g4 := keepf hb f4 g4; replace g5 := keepf hb f5 g5; replace g6 := keepf hb f6 g6; replace g7 := keepf hb f7 g7; replace g8 := keepf hb f8 g8; replace g9 := keepf hb f9 g9; replace g10 := keepf hb f10 g10; replace g11 := keepf hb f11 g11; replace f0 := keepc hb f0; replace f1 := keepc hb f1; replace f2 := keepc hb f2; replace f3 := keepc hb f3; replace f4 := keepc hb f4; replace f5 := keepc hb f5; replace f6 := keepc hb f6; replace f7 := keepc hb f7; replace f8 := keepc hb f8; replace f9 := keepc hb f9; replace f10 := keepc hb f10; replace f11 := keepc hb f11; replace B := keepb B hb; clear hb)
  refine hK.out _ _ ⟨f0, f1, f2, f3, f4, f5, f6, f7, f8, f9, f10, f11⟩ (fun _ => ?_)
  clear hK K
  (try simp only [Act.put, List.setIfInBounds_toArray, List.set_cons_zero, List.set_cons_succ])
  simp only [et0, et1, et2, et3]
  refine anyN_ready (rs := [9]) (by kernel_rfl) (by simp) ?_
  refine AllN.last (o := ?o22) ?hi22 (by simp) (fun K hK => ?step22) AllN.nil
  case hi22 => (simp only [List.getElem?_toArray, List.getElem?_cons_zero, List.getElem?_cons_succ]; (first | done | with_reducible rfl))
  go_simp
  refine named (K := K) (fun W' => Below w.heap.size w W' ∧ W'.cell? ⟨w.heap.size, 0, none⟩ = some (.int .i64 r0) ∧ W'.cell? ⟨w.heap.size, 1, none⟩ = some (.int .i64 r1) ∧ W'.cell? ⟨w.heap.size, 2, none⟩ = some (.int .i64 r2) ∧ W'.cell? ⟨w.heap.size, 3, none⟩ = some (.int .i64 r3) ∧ W'.cell? ⟨w.heap.size + 1, 0, none⟩ = some (.int .i64 a2x) ∧ W'.cell? ⟨w.heap.size + 1, 1, none⟩ = some (.int .i64 a2y) ∧ W'.cell? ⟨w.heap.size + 1, 2, none⟩ = some (.int .i64 a2z) ∧ W'.cell? ⟨w.heap.size + 1, 3, none⟩ = some (.int .i64 a2t) ∧ W'.cell? ⟨w.heap.size + 1 + 1, 0, none⟩ = some (.int .i64 a3x) ∧ W'.cell? ⟨w.heap.size + 1 + 1, 1, none⟩ = some (.int .i64 a3y) ∧ W'.cell? ⟨w.heap.size + 1 + 1, 2, none⟩ = some (.int .i64 a3z) ∧ W'.cell? ⟨w.heap.size + 1 + 1, 3, none⟩ = some (.int .i64 a3t) ∧ W'.frozen? ⟨w.heap.size + 1, 0, none⟩ = false ∧ W'.frozen? ⟨w.heap.size + 1, 1, none⟩ = false ∧ W'.frozen? ⟨w.heap.size + 1, 2, none⟩ = false ∧ W'.frozen? ⟨w.heap.size + 1, 3, none⟩ = false ∧ W'.frozen? ⟨w.heap.size + 1 + 1, 0, none⟩ = false ∧ W'.frozen? ⟨w.heap.size + 1 + 1, 1, none⟩ = false ∧ W'.frozen? ⟨w.heap.size + 1 + 1, 2, none⟩ = false ∧ W'.frozen? ⟨w.heap.size + 1 + 1, 3, none⟩ = false) ?_ ?_
  · (try dsimp only)
    refine ⟨?_, ?_, ?_, ?_, ?_, ?_, ?_, ?_, ?_, ?_, ?_, ?_, ?_, ?_, ?_, ?_, ?_, ?_, ?_, ?_, ?_⟩
    · repeat (first | (with_reducible exact B) | (with_reducible exact Below.refl _ _) | (with_reducible apply Below.drew) | (with_reducible refine Below.setCell ?_ (by first | (simp; done) | (simp; omega)) _) | (with_reducible refine Below.alloc ?_ (by first | exact Nat.le_refl _ | (simp; done) | (simp; omega)) _))
    all_goals (first | (simp [go_sem]; done) | (simp [go_sem, f0, f1, f2, f3, f4, f5, f6, f7, f8, f9, f10, f11, g0, g1, g2, g3, g4, g5, g6, g7, g8, g9, g10, g11]; done))
  rintro W ⟨B, f0, f1, f2, f3, f4, f5, f6, f7, f8, f9, f10, f11, g4, g5, g6, g7, g8, g9, g10, g11⟩
  refine hK.out _ _ ?_
  clear hK K
  (try simp only [Act.put, List.setIfInBounds_toArray, List.set_cons_zero, List.set_cons_succ])
  refine anyN_ready (rs := [10]) (by kernel_rfl) (by simp) ?_
  refine AllN.last (o := ?o23) ?hi23 (by simp) (fun K hK => ?step23) AllN.nil
  case hi23 => (simp only [List.getElem?_toArray, List.getElem?_cons_zero, List.getElem?_cons_succ]; (first | done | with_reducible rfl))
  go_simp
  refine named (K := K) (fun W' => Below w.heap.size w W' ∧ W'.cell? ⟨w.heap.size, 0, none⟩ = some (.int .i64 r0) ∧ W'.cell? ⟨w.heap.size, 1, none⟩ = some (.int .i64 r1) ∧ W'.cell? ⟨w.heap.size, 2, none⟩ = some (.int .i64 r2) ∧ W'.cell? ⟨w.heap.size, 3, none⟩ = some (.int .i64 r3) ∧ W'.cell? ⟨w.heap.size + 1, 0, none⟩ = some (.int .i64 s0) ∧ W'.cell? ⟨w.heap.size + 1, 1, none⟩ = some (.int .i64 s1) ∧ W'.cell? ⟨w.heap.size + 1, 2, none⟩ = some (.int .i64 s2) ∧ W'.cell? ⟨w.heap.size + 1, 3, none⟩ = some (.int .i64 s3) ∧ W'.cell? ⟨w.heap.size + 1 + 1, 0, none⟩ = some (.int .i64 a3x) ∧ W'.cell? ⟨w.heap.size + 1 + 1, 1, none⟩ = some (.int .i64 a3y) ∧ W'.cell? ⟨w.heap.size + 1 + 1, 2, none⟩ = some (.int .i64 a3z) ∧ W'.cell? ⟨w.heap.size + 1 + 1, 3, none⟩ = some (.int .i64 a3t) ∧ W'.frozen? ⟨w.heap.size + 1 + 1, 0, none⟩ = false ∧ W'.frozen? ⟨w.heap.size + 1 + 1, 1, none⟩ = false ∧ W'.frozen? ⟨w.heap.size + 1 + 1, 2, none⟩ = false ∧ W'.frozen? ⟨w.heap.size + 1 + 1, 3, none⟩ = false) ?_ ?_
  · (try dsimp only)
    refine ⟨?_, ?_, ?_, ?_, ?_, ?_, ?_, ?_, ?_, ?_, ?_, ?_, ?_, ?_, ?_, ?_, ?_⟩
    · repeat (first | (with_reducible exact B) | (with_reducible exact Below.refl _ _) | (with_reducible apply Below.drew) | (with_reducible refine Below.setCell ?_ (by first | (simp; done) | (simp; omega)) _) | (with_reducible refine Below.alloc ?_ (by first | exact Nat.le_refl _ | (simp; done) | (simp; omega)) _))
    all_goals (first | (simp [go_sem]; done) | (simp [go_sem, f0, f1, f2, f3, f4, f5, f6, f7, f8, f9, f10, f11, g4, g5, g6, g7, g8, g9, g10, g11]; done))
  rintro W ⟨B, f0, f1, f2, f3, f4, f5, f6, f7, f8, f9, f10, f11, g8, g9, g10, g11⟩
  refine hK.out _ _ ?_
  clear hK K
  (try simp only [Act.put, List.setIfInBounds_toArray, List.set_cons_zero, List.set_cons_succ])
  refine anyN_ready (rs := [11]) (by kernel_rfl) (by simp) ?_
  refine AllN.last (o := ?o24) ?hi24 (by simp) (fun K hK => ?step24) AllN.nil
  case hi24 => (simp only [List.getElem?_toArray, List.getElem?_cons_zero, List.getElem?_cons_succ]; (first | done | with_reducible rfl))
  go_simp
  refine named (K := K) (fun W' => Below w.heap.size w W' ∧ W'.cell? ⟨w.heap.size, 0, none⟩ = some (.int .i64 r0) ∧ W'.cell? ⟨w.heap.size, 1, none⟩ = some (.int .i64 r1) ∧ W'.cell? ⟨w.heap.size, 2, none⟩ = some (.int .i64 r2) ∧ W'.cell? ⟨w.heap.size, 3, none⟩ = some (.int .i64 r3) ∧ W'.cell? ⟨w.heap.size + 1, 0, none⟩ = some (.int .i64 s0) ∧ W'.cell? ⟨w.heap.size + 1, 1, none⟩ = some (.int .i64 s1) ∧ W'.cell? ⟨w.heap.size + 1, 2, none⟩ = some (.int .i64 s2) ∧ W'.cell? ⟨w.heap.size + 1, 3, none⟩ = some (.int .i64 s3) ∧ W'.cell? ⟨w.heap.size + 1 + 1, 0, none⟩ = some (.int .i64 t0) ∧ W'.cell? ⟨w.heap.size + 1 + 1, 1, none⟩ = some (.int .i64 t1) ∧ W'.cell? ⟨w.heap.size + 1 + 1, 2, none⟩ = some (.int .i64 t2) ∧ W'.cell? ⟨w.heap.size + 1 + 1, 3, none⟩ = some (.int .i64 t3)) ?_ ?_
  · (try dsimp only)
    refine ⟨?_, ?_, ?_, ?_, ?_, ?_, ?_, ?_, ?_, ?_, ?_, ?_, ?_⟩
    · repeat (first | (with_reducible exact B) | (with_reducible exact Below.refl _ _) | (with_reducible apply Below.drew) | (with_reducible refine Below.setCell ?_ (by first | (simp; done) | (simp; omega)) _) | (with_reducible refine Below.alloc ?_ (by first | exact Nat.le_refl _ | (simp; done) | (simp; omega)) _))
    all_goals (first | (simp [go_sem]; done) | (simp [go_sem, f0, f1, f2, f3, f4, f5, f6, f7, f8, f9, f10, f11, g8, g9, g10, g11]; done))
  rintro W ⟨B, f0, f1, f2, f3, f4, f5, f6, f7, f8, f9, f10, f11⟩
  refine hK.out _ _ ?_
  clear hK K
  (try simp only [Act.put, List.setIfInBounds_toArray, List.set_cons_zero, List.set_cons_succ])
  refine anyN_done (by kernel_rfl) ?_ _
  go_upto_region 3 with (go_at_call 17; (with_reducible refine (iUnio_any _ _ _ _ _ _ _ _ _ _).mono ?_); rintro e w5 ⟨rfl, hb⟩; replace f0 := keepc hb f0; replace f1 := keepc hb f1; replace f2 := keepc hb f2; replace f3 := keepc hb f3; replace f4 := keepc hb f4; replace f5 := keepc hb f5; replace f6 := keepc hb f6; replace f7 := keepc hb f7; replace f8 := keepc hb f8; replace f9 := keepc hb f9; replace f10 := keepc hb f10; replace f11 := keepc hb f11; replace B := keepb B hb; clear hb)
  refine wp_named (fun W' => Below w.heap.size w W' ∧ W'.cell? ⟨w.heap.size, 0, none⟩ = some (.int .i64 r0) ∧ W'.cell? ⟨w.heap.size, 1, none⟩ = some (.int .i64 r1) ∧ W'.cell? ⟨w.heap.size, 2, none⟩ = some (.int .i64 r2) ∧ W'.cell? ⟨w.heap.size, 3, none⟩ = some (.int .i64 r3) ∧ W'.cell? ⟨w.heap.size + 1, 0, none⟩ = some (.int .i64 s0) ∧ W'.cell? ⟨w.heap.size + 1, 1, none⟩ = some (.int .i64 s1) ∧ W'.cell? ⟨w.heap.size + 1, 2, none⟩ = some (.int .i64 s2) ∧ W'.cell? ⟨w.heap.size + 1, 3, none⟩ = some (.int .i64 s3) ∧ W'.cell? ⟨w.heap.size + 1 + 1, 0, none⟩ = some (.int .i64 t0) ∧ W'.cell? ⟨w.heap.size + 1 + 1, 1, none⟩ = some (.int .i64 t1) ∧ W'.cell? ⟨w.heap.size + 1 + 1, 2, none⟩ = some (.int .i64 t2) ∧ W'.cell? ⟨w.heap.size + 1 + 1, 3, none⟩ = some (.int .i64 t3) ∧ W'.cell? ⟨w5.heap.size, 0, none⟩ = some (.int .i64 r0) ∧ W'.cell? ⟨w5.heap.size, 1, none⟩ = some (.int .i64 r1) ∧ W'.cell? ⟨w5.heap.size, 2, none⟩ = some (.int .i64 r2) ∧ W'.cell? ⟨w5.heap.size, 3, none⟩ = some (.int .i64 r3)) ?_ ?_
  · (try dsimp only)
    refine ⟨?_, ?_, ?_, ?_, ?_, ?_, ?_, ?_, ?_, ?_, ?_, ?_, ?_, ?_, ?_, ?_, ?_⟩
    · exact B.alloc B.size _
    all_goals (first | (with_reducible refine keepA _ ?_; with_reducible assumption) | (simp [go_sem]; done))
  rintro W ⟨B, f0, f1, f2, f3, f4, f5, f6, f7, f8, f9, f10, f11, f12, f13, f14, f15⟩
  go_wp2_with (first | (go_at_call 22; (with_reducible refine (rect_any _ _ _ _ _).mono ?_); rintro e w6 ⟨rfl, hb⟩; replace f0 := keepc hb f0; replace f1 := keepc hb f1; replace f2 := keepc hb f2; replace f3 := keepc hb f3; replace f4 := keepc hb f4; replace f5 := keepc hb f5; replace f6 := keepc hb f6; replace f7 := keepc hb f7; replace f8 := keepc hb f8; replace f9 := keepc hb f9; replace f10 := keepc hb f10; replace f11 := keepc hb f11; replace f12 := keepc hb f12; replace f13 := keepc hb f13; replace f14 := keepc hb f14; replace f15 := keepc hb f15; replace B := keepb B hb; clear hb) | (go_at_call 21; (with_reducible refine (emptySpec_any _ _ _ _ _).mono ?_); rintro e w6 ⟨rfl, hb⟩; replace f0 := keepc hb f0; replace f1 := keepc hb f1; replace f2 := keepc hb f2; replace f3 := keepc hb f3; replace f4 := keepc hb f4; replace f5 := keepc hb f5; replace f6 := keepc hb f6; replace f7 := keepc hb f7; replace f8 := keepc hb f8; replace f9 := keepc hb f9; replace f10 := keepc hb f10; replace f11 := keepc hb f11; replace f12 := keepc hb f12; replace f13 := keepc hb f13; replace f14 := keepc hb f14; replace f15 := keepc hb f15; replace B := keepb B hb; clear hb))
  go_ret
  exact ⟨rfl, B⟩
set_option maxHeartbeats 4000000 in
theorem way_0 (a0 : Bool) (a1x a1y a1z a1t a2x a2y a2z a2t a3x a3y a3z a3t : Int) (r0 r1 r2 r3 s0 s1 s2 s3 t0 t1 t2 t3 : Int) (u0 u1 u2 u3 : Int) (er0 : cutZ a0 a1x = r0) (kr0 : cutZ a0 r0 = r0) (er1 : cutZ a0 a1y = r1) (kr1 : cutZ a0 r1 = r1) (er2 : cutZ a0 a1z = r2) (kr2 : cutZ a0 r2 = r2) (er3 : cutZ a0 a1t = r3) (kr3 : cutZ a0 r3 = r3) (es0 : cutZ a0 a2x = s0) (ks0 : cutZ a0 s0 = s0) (es1 : cutZ a0 a2y = s1) (ks1 : cutZ a0 s1 = s1) (es2 : cutZ a0 a2z = s2) (ks2 : cutZ a0 s2 = s2) (es3 : cutZ a0 a2t = s3) (ks3 : cutZ a0 s3 = s3) (et0 : cutZ a0 a3x = t0) (kt0 : cutZ a0 t0 = t0) (et1 : cutZ a0 a3y = t1) (kt1 : cutZ a0 t1 = t1) (et2 : cutZ a0 a3z = t2) (kt2 : cutZ a0 t2 = t2) (et3 : cutZ a0 a3t = t3) (kt3 : cutZ a0 t3 = t3) (qu0 : uX0 r0 r1 r2 r3 s0 s1 s2 s3 = u0) (qu1 : uY0 r0 r1 r2 r3 s0 s1 s2 s3 = u1) (qu2 : uX1 r0 r1 r2 r3 s0 s1 s2 s3 = u2) (qu3 : uY1 r0 r1 r2 r3 s0 s1 s2 s3 = u3) (he : emptyB r0 r1 r2 r3 = false) (hf : emptyB s0 s1 s2 s3 = false) (hru : inB r0 r1 r2 r3 u0 u1 u2 u3 = true) (hsu : inB s0 s1 s2 s3 u0 u1 u2 u3 = true) (hrt : inB r0 r1 r2 r3 t0 t1 t2 t3 = false) (w : World) :
    Calls Try.prog 13 #[.bool a0, .agg #[.int .i64 a1x, .int .i64 a1y, .int .i64 a1z, .int .i64 a1t], .agg #[.int .i64 a2x, .int .i64 a2y, .int .i64 a2z, .int .i64 a2t], .agg #[.int .i64 a3x, .int .i64 a3y, .int .i64 a3z, .int .i64 a3t]] w fun e w' => e = .returned (.bool true) ∧ Below w.heap.size w w' := by
  go_enter Try.func13, Try.ntmps13
  go_wp2
  refine region_R (S := (fun W' => W'.cell? ⟨w.heap.size, 0, none⟩ = some (.int .i64 a1x) ∧ W'.cell? ⟨w.heap.size, 1, none⟩ = some (.int .i64 a1y) ∧ W'.cell? ⟨w.heap.size, 2, none⟩ = some (.int .i64 a1z) ∧ W'.cell? ⟨w.heap.size, 3, none⟩ = some (.int .i64 a1t) ∧ W'.cell? ⟨w.heap.size + 1, 0, none⟩ = some (.int .i64 a2x) ∧ W'.cell? ⟨w.heap.size + 1, 1, none⟩ = some (.int .i64 a2y) ∧ W'.cell? ⟨w.heap.size + 1, 2, none⟩ = some (.int .i64 a2z) ∧ W'.cell? ⟨w.heap.size + 1, 3, none⟩ = some (.int .i64 a2t) ∧ W'.cell? ⟨w.heap.size + 1 + 1, 0, none⟩ = some (.int .i64 a3x) ∧ W'.cell? ⟨w.heap.size + 1 + 1, 1, none⟩ = some (.int .i64 a3y) ∧ W'.cell? ⟨w.heap.size + 1 + 1, 2, none⟩ = some (.int .i64 a3z) ∧ W'.cell? ⟨w.heap.size + 1 + 1, 3, none⟩ = some (.int .i64 a3t))) (N := [9, 10, 11]) (fun W' => Below w.heap.size w W' ∧ W'.cell? ⟨w.heap.size, 0, none⟩ = some (.int .i64 a1x) ∧ W'.cell? ⟨w.heap.size, 1, none⟩ = some (.int .i64 a1y) ∧ W'.cell? ⟨w.heap.size, 2, none⟩ = some (.int .i64 a1z) ∧ W'.cell? ⟨w.heap.size, 3, none⟩ = some (.int .i64 a1t) ∧ W'.cell? ⟨w.heap.size + 1, 0, none⟩ = some (.int .i64 a2x) ∧ W'.cell? ⟨w.heap.size + 1, 1, none⟩ = some (.int .i64 a2y) ∧ W'.cell? ⟨w.heap.size + 1, 2, none⟩ = some (.int .i64 a2z) ∧ W'.cell? ⟨w.heap.size + 1, 3, none⟩ = some (.int .i64 a2t) ∧ W'.cell? ⟨w.heap.size + 1 + 1, 0, none⟩ = some (.int .i64 a3x) ∧ W'.cell? ⟨w.heap.size + 1 + 1, 1, none⟩ = some (.int .i64 a3y) ∧ W'.cell? ⟨w.heap.size + 1 + 1, 2, none⟩ = some (.int .i64 a3z) ∧ W'.cell? ⟨w.heap.size + 1 + 1, 3, none⟩ = some (.int .i64 a3t) ∧ W'.frozen? ⟨w.heap.size, 0, none⟩ = false ∧ W'.frozen? ⟨w.heap.size, 1, none⟩ = false ∧ W'.frozen? ⟨w.heap.size, 2, none⟩ = false ∧ W'.frozen? ⟨w.heap.size, 3, none⟩ = false ∧ W'.frozen? ⟨w.heap.size + 1, 0, none⟩ = false ∧ W'.frozen? ⟨w.heap.size + 1, 1, none⟩ = false ∧ W'.frozen? ⟨w.heap.size + 1, 2, none⟩ = false ∧ W'.frozen? ⟨w.heap.size + 1, 3, none⟩ = false ∧ W'.frozen? ⟨w.heap.size + 1 + 1, 0, none⟩ = false ∧ W'.frozen? ⟨w.heap.size + 1 + 1, 1, none⟩ = false ∧ W'.frozen? ⟨w.heap.size + 1 + 1, 2, none⟩ = false ∧ W'.frozen? ⟨w.heap.size + 1 + 1, 3, none⟩ = false) (by kernel_rfl) ?_ ?_
  · (try dsimp only)
    refine ⟨?_, ?_, ?_, ?_, ?_, ?_, ?_, ?_, ?_, ?_, ?_, ?_, ?_, ?_, ?_, ?_, ?_, ?_, ?_, ?_, ?_, ?_, ?_, ?_, ?_⟩
    · repeat (first | (with_reducible exact Below.refl _ _) | (with_reducible apply Below.drew) | (with_reducible refine Below.alloc ?_ (by first | exact Nat.le_refl _ | (simp; done) | (simp; omega)) _))
    all_goals (simp [go_sem]; done)
  rintro W ⟨B, f0, f1, f2, f3, f4, f5, f6, f7, f8, f9, f10, f11, g0, g1, g2, g3, g4, g5, g6, g7, g8, g9, g10, g11⟩
  refine anyN_take [2, 5, 8, 9, 10, 11] (i := 0) (oi := ?o25) (v := ?v25) ?hi25 (by kernel_rfl) (by kernel_rfl) (by kernel_rfl) (by kernel_rfl) (by kernel_rfl) ?hQ25 (Or.inl ⟨?hg25, ?hy25⟩) ⟨f0, f1, f2, f3, f4, f5, f6, f7, f8, f9, f10, f11⟩ ?rest25
  case hi25 => (simp only [List.getElem?_toArray, List.getElem?_cons_zero, List.getElem?_cons_succ]; (first | done | with_reducible rfl))
  case hQ25 => exact fun _ _ _ h => h
  case hg25 => rfl
  case hy25 => (intro w hSw; (try dsimp only at hSw); go_simp; (first | done | (with_reducible rfl)))
  (try simp only [Act.put, List.setIfInBounds_toArray, List.set_cons_zero, List.set_cons_succ])
  refine anyN_take [2, 5, 8, 9, 10, 11] (i := 1) (oi := ?o26) (v := ?v26) ?hi26 (by kernel_rfl) (by kernel_rfl) (by kernel_rfl) (by kernel_rfl) (by kernel_rfl) ?hQ26 (Or.inl ⟨?hg26, ?hy26⟩) ⟨f0, f1, f2, f3, f4, f5, f6, f7, f8, f9, f10, f11⟩ ?rest26
  case hi26 => (simp only [List.getElem?_toArray, List.getElem?_cons_zero, List.getElem?_cons_succ]; (first | done | with_reducible rfl))
  case hQ26 => exact fun _ _ _ h => h
  case hg26 => rfl
  case hy26 => (intro w hSw; (try dsimp only at hSw); go_simp; (first | done | (with_reducible rfl)))
  (try simp only [Act.put, List.setIfInBounds_toArray, List.set_cons_zero, List.set_cons_succ])
  refine anyN_take [5, 8, 9, 10, 11] (i := 3) (oi := ?o27) (v := ?v27) ?hi27 (by kernel_rfl) (by kernel_rfl) (by kernel_rfl) (by kernel_rfl) (by kernel_rfl) ?hQ27 (Or.inl ⟨?hg27, ?hy27⟩) ⟨f0, f1, f2, f3, f4, f5, f6, f7, f8, f9, f10, f11⟩ ?rest27
  case hi27 => (simp only [List.getElem?_toArray, List.getElem?_cons_zero, List.getElem?_cons_succ]; (first | done | with_reducible rfl))
  case hQ27 => exact fun _ _ _ h => h
  case hg27 => rfl
  case hy27 => (intro w hSw; (try dsimp only at hSw); go_simp; (first | done | (with_reducible rfl)))
  (try simp only [Act.put, List.setIfInBounds_toArray, List.set_cons_zero, List.set_cons_succ])
  refine anyN_take [5, 8, 9, 10, 11] (i := 4) (oi := ?o28) (v := ?v28) ?hi28 (by kernel_rfl) (by kernel_rfl) (by kernel_rfl) (by kernel_rfl) (by kernel_rfl) ?hQ28 (Or.inl ⟨?hg28, ?hy28⟩) ⟨f0, f1, f2, f3, f4, f5, f6, f7, f8, f9, f10, f11⟩ ?rest28
  case hi28 => (simp only [List.getElem?_toArray, List.getElem?_cons_zero, List.getElem?_cons_succ]; (first | done | with_reducible rfl))
  case hQ28 => exact fun _ _ _ h => h
  case hg28 => rfl
  case hy28 => (intro w hSw; (try dsimp only at hSw); go_simp; (first | done | (with_reducible rfl)))
  (try simp only [Act.put, List.setIfInBounds_toArray, List.set_cons_zero, List.set_cons_succ])
  refine anyN_take [8, 9, 10, 11] (i := 6) (oi := ?o29) (v := ?v29) ?hi29 (by kernel_rfl) (by kernel_rfl) (by kernel_rfl) (by kernel_rfl) (by kernel_rfl) ?hQ29 (Or.inl ⟨?hg29, ?hy29⟩) ⟨f0, f1, f2, f3, f4, f5, f6, f7, f8, f9, f10, f11⟩ ?rest29
  case hi29 => (simp only [List.getElem?_toArray, List.getElem?_cons_zero, List.getElem?_cons_succ]; (first | done | with_reducible rfl))
  case hQ29 => exact fun _ _ _ h => h
  case hg29 => rfl
  case hy29 => (intro w hSw; (try dsimp only at hSw); go_simp; (first | done | (with_reducible rfl)))
  (try simp only [Act.put, List.setIfInBounds_toArray, List.set_cons_zero, List.set_cons_succ])
  refine anyN_take [8, 9, 10, 11] (i := 7) (oi := ?o30) (v := ?v30) ?hi30 (by kernel_rfl) (by kernel_rfl) (by kernel_rfl) (by kernel_rfl) (by kernel_rfl) ?hQ30 (Or.inl ⟨?hg30, ?hy30⟩) ⟨f0, f1, f2, f3, f4, f5, f6, f7, f8, f9, f10, f11⟩ ?rest30
  case hi30 => (simp only [List.getElem?_toArray, List.getElem?_cons_zero, List.getElem?_cons_succ]; (first | done | with_reducible rfl))
  case hQ30 => exact fun _ _ _ h => h
  case hg30 => rfl
  case hy30 => (intro w hSw; (try dsimp only at hSw); go_simp; (first | done | (with_reducible rfl)))
  (try simp only [Act.put, List.setIfInBounds_toArray, List.set_cons_zero, List.set_cons_succ])
  refine anyN_ready (rs := [2]) (by kernel_rfl) (by simp) ?_
  refine AllN.cons (o := ?o31) ?hi31 (fun K hK => ?step31) AllN.nil
  case hi31 => (simp only [List.getElem?_toArray, List.getElem?_cons_zero, List.getElem?_cons_succ]; (first | done | with_reducible rfl))
  go_simp
  (go_at_call 20; (with_reducible refine (cutR_any _ _ _ _ _ _).mono ?_); rintro e w1 ⟨rfl, hb⟩; replace g0 := keepf hb f0 g0; replace g1 := keepf hb f1 g1; replace g2 := keepf hb f2 g2; replace g3 := keepf hb f3 g3; replace g4 := keepf hb f4 g4; replace g5 := keepf hb f5 g5; replace g6 := keepf hb f6 g6; replace g7 := keepf hb f7 g7; replace g8 := keepf hb f8 g8; replace g9 := keepf hb f9 g9; replace g10 := keepf hb f10 g10; replace g11 := keepf hb f11 g11; replace f0 := keepc hb f0; replace f1 := keepc hb f1; replace f2 := keepc hb f2; replace f3 := keepc hb f3; replace f4 := keepc hb f4; replace f5 := keepc hb f5; replace f6 := keepc hb f6; replace f7 := keepc hb f7; replace f8 := keepc hb f8; replace f9 := keepc hb f9; replace f10 := keepc hb f10; replace f11 := keepc hb f11; replace B := keepb B hb; clear hb)
  refine hK.out _ _ ⟨f0, f1, f2, f3, f4, f5, f6, f7, f8, f9, f10, f11⟩ (fun _ => ?_)
  clear hK K
  (try simp only [Act.put, List.setIfInBounds_toArray, List.set_cons_zero, List.set_cons_succ])
  simp only [er0, er1, er2, er3]
  refine anyN_ready (rs := [5]) (by kernel_rfl) (by simp) ?_
  refine AllN.cons (o := ?o32) ?hi32 (fun K hK => ?step32) AllN.nil
  case hi32 => (simp only [List.getElem?_toArray, List.getElem?_cons_zero, List.getElem?_cons_succ]; (first | done | with_reducible rfl))
  go_simp
  (go_at_call 20; (with_reducible refine (cutR_any _ _ _ _ _ _).mono ?_); rintro e w1 ⟨rfl, hb⟩; replace g0 := keepf hb f0 g0; replace g1 := keepf hb f1 g1; replace g2 := keepf hb f2 g2; replace g3 := keepf hb f3 g3; replace g4 := keepf hb f4 g4; replace g5 := keepf hb f5 g5; replace g6 := keepf hb f6 g6; replace g7 := keepf hb f7 g7; replace g8 := keepf hb f8 g8; replace g9 := keepf hb f9 g9; replace g10 := keepf hb f10 g10; replace g11 := keepf hb f11 g11; replace f0 := keepc hb f0; replace f1 := keepc hb f1; replace f2 := keepc hb f2; replace f3 := keepc hb f3; replace f4 := keepc hb f4; replace f5 := keepc hb f5; replace f6 := keepc hb f6; replace f7 := keepc hb f7; replace f8 := keepc hb f8; replace f9 := keepc hb f9; replace f10 := keepc hb f10; replace f11 := keepc hb f11; replace B := keepb B hb; clear hb)
  refine hK.out _ _ ⟨f0, f1, f2, f3, f4, f5, f6, f7, f8, f9, f10, f11⟩ (fun _ => ?_)
  clear hK K
  (try simp only [Act.put, List.setIfInBounds_toArray, List.set_cons_zero, List.set_cons_succ])
  simp only [es0, es1, es2, es3]
  refine anyN_ready (rs := [8]) (by kernel_rfl) (by simp) ?_
  refine AllN.cons (o := ?o33) ?hi33 (fun K hK => ?step33) AllN.nil
  case hi33 => (simp only [List.getElem?_toArray, List.getElem?_cons_zero, List.getElem?_cons_succ]; (first | done | with_reducible rfl))
  go_simp
  (go_at_call 20; (with_reducible refine (cutR_any _ _ _ _ _ _).mono ?_); rintro e w1 ⟨rfl, hb⟩; replace g0 := keepf hb f0 g0; replace g1 := keepf hb f1 g1; replace g2 := keepf hb f2 g2; replace g3 := keepf hb f3 g3; replace g4 := keepf hb f4 g4; replace g5 := keepf hb f5 g5; replace g6 := keepf hb f6 g6; replace g7 := keepf hb f7 g7; replace g8 := keepf hb f8 g8; replace g9 := keepf hb f9 g9; replace g10 := keepf hb f10 g10; replace g11 := keepf hb f11 g11; replace f0 := keepc hb f0; replace f1 := keepc hb f1; replace f2 := keepc hb f2; replace f3 := keepc hb f3; replace f4 := keepc hb f4; replace f5 := keepc hb f5; replace f6 := keepc hb f6; replace f7 := keepc hb f7; replace f8 := keepc hb f8; replace f9 := keepc hb f9; replace f10 := keepc hb f10; replace f11 := keepc hb f11; replace B := keepb B hb; clear hb)
  refine hK.out _ _ ⟨f0, f1, f2, f3, f4, f5, f6, f7, f8, f9, f10, f11⟩ (fun _ => ?_)
  clear hK K
  (try simp only [Act.put, List.setIfInBounds_toArray, List.set_cons_zero, List.set_cons_succ])
  simp only [et0, et1, et2, et3]
  refine anyN_ready (rs := [9]) (by kernel_rfl) (by simp) ?_
  refine AllN.last (o := ?o34) ?hi34 (by simp) (fun K hK => ?step34) AllN.nil
  case hi34 => (simp only [List.getElem?_toArray, List.getElem?_cons_zero, List.getElem?_cons_succ]; (first | done | with_reducible rfl))
  go_simp
  refine named (K := K) (fun W' => Below w.heap.size w W' ∧ W'.cell? ⟨w.heap.size, 0, none⟩ = some (.int .i64 r0) ∧ W'.cell? ⟨w.heap.size, 1, none⟩ = some (.int .i64 r1) ∧ W'.cell? ⟨w.heap.size, 2, none⟩ = some (.int .i64 r2) ∧ W'.cell? ⟨w.heap.size, 3, none⟩ = some (.int .i64 r3) ∧ W'.cell? ⟨w.heap.size + 1, 0, none⟩ = some (.int .i64 a2x) ∧ W'.cell? ⟨w.heap.size + 1, 1, none⟩ = some (.int .i64 a2y) ∧ W'.cell? ⟨w.heap.size + 1, 2, none⟩ = some (.int .i64 a2z) ∧ W'.cell? ⟨w.heap.size + 1, 3, none⟩ = some (.int .i64 a2t) ∧ W'.cell? ⟨w.heap.size + 1 + 1, 0, none⟩ = some (.int .i64 a3x) ∧ W'.cell? ⟨w.heap.size + 1 + 1, 1, none⟩ = some (.int .i64 a3y) ∧ W'.cell? ⟨w.heap.size + 1 + 1, 2, none⟩ = some (.int .i64 a3z) ∧ W'.cell? ⟨w.heap.size + 1 + 1, 3, none⟩ = some (.int .i64 a3t) ∧ W'.frozen? ⟨w.heap.size + 1, 0, none⟩ = false ∧ W'.frozen? ⟨w.heap.size + 1, 1, none⟩ = false ∧ W'.frozen? ⟨w.heap.size + 1, 2, none⟩ = false ∧ W'.frozen? ⟨w.heap.size + 1, 3, none⟩ = false ∧ W'.frozen? ⟨w.heap.size + 1 + 1, 0, none⟩ = false ∧ W'.frozen? ⟨w.heap.size + 1 + 1, 1, none⟩ = false ∧ W'.frozen? ⟨w.heap.size + 1 + 1, 2, none⟩ = false ∧ W'.frozen? ⟨w.heap.size + 1 + 1, 3, none⟩ = false) ?_ ?_
  · (try dsimp only)
    refine ⟨?_, ?_, ?_, ?_, ?_, ?_, ?_, ?_, ?_, ?_, ?_, ?_, ?_, ?_, ?_, ?_, ?_, ?_, ?_, ?_, ?_⟩
    · repeat (first | (with_reducible exact B) | (with_reducible exact Below.refl _ _) | (with_reducible apply Below.drew) | (with_reducible refine Below.setCell ?_ (by first | (simp; done) | (simp; omega)) _) | (with_reducible refine Below.alloc ?_ (by first | exact Nat.le_refl _ | (simp; done) | (simp; omega)) _))
    all_goals (first | (simp [go_sem]; done) | (simp [go_sem, f0, f1, f2, f3, f4, f5, f6, f7, f8, f9, f10, f11, g0, g1, g2, g3, g4, g5, g6, g7, g8, g9, g10, g11]; done))
  rintro W ⟨B, f0, f1, f2, f3, f4, f5, f6, f7, f8, f9, f10, f11, g4, g5, g6, g7, g8, g9, g10, g11⟩
  refine hK.out _ _ ?_
  clear hK K
  (try simp only [Act.put, List.setIfInBounds_toArray, List.set_cons_zero, List.set_cons_succ])
  refine anyN_ready (rs := [10]) (by kernel_rfl) (by simp) ?_
  refine AllN.last (o := ?o35) ?hi35 (by simp) (fun K hK => ?step35) AllN.nil
  case hi35 => (simp only [List.getElem?_toArray, List.getElem?_cons_zero, List.getElem?_cons_succ]; (first | done | with_reducible rfl))
  go_simp
  refine named (K := K) (fun W' => Below w.heap.size w W' ∧ W'.cell? ⟨w.heap.size, 0, none⟩ = some (.int .i64 r0) ∧ W'.cell? ⟨w.heap.size, 1, none⟩ = some (.int .i64 r1) ∧ W'.cell? ⟨w.heap.size, 2, none⟩ = some (.int .i64 r2) ∧ W'.cell? ⟨w.heap.size, 3, none⟩ = some (.int .i64 r3) ∧ W'.cell? ⟨w.heap.size + 1, 0, none⟩ = some (.int .i64 s0) ∧ W'.cell? ⟨w.heap.size + 1, 1, none⟩ = some (.int .i64 s1) ∧ W'.cell? ⟨w.heap.size + 1, 2, none⟩ = some (.int .i64 s2) ∧ W'.cell? ⟨w.heap.size + 1, 3, none⟩ = some (.int .i64 s3) ∧ W'.cell? ⟨w.heap.size + 1 + 1, 0, none⟩ = some (.int .i64 a3x) ∧ W'.cell? ⟨w.heap.size + 1 + 1, 1, none⟩ = some (.int .i64 a3y) ∧ W'.cell? ⟨w.heap.size + 1 + 1, 2, none⟩ = some (.int .i64 a3z) ∧ W'.cell? ⟨w.heap.size + 1 + 1, 3, none⟩ = some (.int .i64 a3t) ∧ W'.frozen? ⟨w.heap.size + 1 + 1, 0, none⟩ = false ∧ W'.frozen? ⟨w.heap.size + 1 + 1, 1, none⟩ = false ∧ W'.frozen? ⟨w.heap.size + 1 + 1, 2, none⟩ = false ∧ W'.frozen? ⟨w.heap.size + 1 + 1, 3, none⟩ = false) ?_ ?_
  · (try dsimp only)
    refine ⟨?_, ?_, ?_, ?_, ?_, ?_, ?_, ?_, ?_, ?_, ?_, ?_, ?_, ?_, ?_, ?_, ?_⟩
    · repeat (first | (with_reducible exact B) | (with_reducible exact Below.refl _ _) | (with_reducible apply Below.drew) | (with_reducible refine Below.setCell ?_ (by first | (simp; done) | (simp; omega)) _) | (with_reducible refine Below.alloc ?_ (by first | exact Nat.le_refl _ | (simp; done) | (simp; omega)) _))
    all_goals (first | (simp [go_sem]; done) | (simp [go_sem, f0, f1, f2, f3, f4, f5, f6, f7, f8, f9, f10, f11, g4, g5, g6, g7, g8, g9, g10, g11]; done))
  rintro W ⟨B, f0, f1, f2, f3, f4, f5, f6, f7, f8, f9, f10, f11, g8, g9, g10, g11⟩
  refine hK.out _ _ ?_
  clear hK K
  (try simp only [Act.put, List.setIfInBounds_toArray, List.set_cons_zero, List.set_cons_succ])
  refine anyN_ready (rs := [11]) (by kernel_rfl) (by simp) ?_
  refine AllN.last (o := ?o36) ?hi36 (by simp) (fun K hK => ?step36) AllN.nil
  case hi36 => (simp only [List.getElem?_toArray, List.getElem?_cons_zero, List.getElem?_cons_succ]; (first | done | with_reducible rfl))
  go_simp
  refine named (K := K) (fun W' => Below w.heap.size w W' ∧ W'.cell? ⟨w.heap.size, 0, none⟩ = some (.int .i64 r0) ∧ W'.cell? ⟨w.heap.size, 1, none⟩ = some (.int .i64 r1) ∧ W'.cell? ⟨w.heap.size, 2, none⟩ = some (.int .i64 r2) ∧ W'.cell? ⟨w.heap.size, 3, none⟩ = some (.int .i64 r3) ∧ W'.cell? ⟨w.heap.size + 1, 0, none⟩ = some (.int .i64 s0) ∧ W'.cell? ⟨w.heap.size + 1, 1, none⟩ = some (.int .i64 s1) ∧ W'.cell? ⟨w.heap.size + 1, 2, none⟩ = some (.int .i64 s2) ∧ W'.cell? ⟨w.heap.size + 1, 3, none⟩ = some (.int .i64 s3) ∧ W'.cell? ⟨w.heap.size + 1 + 1, 0, none⟩ = some (.int .i64 t0) ∧ W'.cell? ⟨w.heap.size + 1 + 1, 1, none⟩ = some (.int .i64 t1) ∧ W'.cell? ⟨w.heap.size + 1 + 1, 2, none⟩ = some (.int .i64 t2) ∧ W'.cell? ⟨w.heap.size + 1 + 1, 3, none⟩ = some (.int .i64 t3)) ?_ ?_
  · (try dsimp only)
    refine ⟨?_, ?_, ?_, ?_, ?_, ?_, ?_, ?_, ?_, ?_, ?_, ?_, ?_⟩
    · repeat (first | (with_reducible exact B) | (with_reducible exact Below.refl _ _) | (with_reducible apply Below.drew) | (with_reducible refine Below.setCell ?_ (by first | (simp; done) | (simp; omega)) _) | (with_reducible refine Below.alloc ?_ (by first | exact Nat.le_refl _ | (simp; done) | (simp; omega)) _))
    all_goals (first | (simp [go_sem]; done) | (simp [go_sem, f0, f1, f2, f3, f4, f5, f6, f7, f8, f9, f10, f11, g8, g9, g10, g11]; done))
  rintro W ⟨B, f0, f1, f2, f3, f4, f5, f6, f7, f8, f9, f10, f11⟩
  refine hK.out _ _ ?_
  clear hK K
  (try simp only [Act.put, List.setIfInBounds_toArray, List.set_cons_zero, List.set_cons_succ])
  refine anyN_done (by kernel_rfl) ?_ _
  go_upto_region 3 with (go_at_call 17; (with_reducible refine (iUnio_any _ _ _ _ _ _ _ _ _ _).mono ?_); rintro e w5 ⟨rfl, hb⟩; replace f0 := keepc hb f0; replace f1 := keepc hb f1; replace f2 := keepc hb f2; replace f3 := keepc hb f3; replace f4 := keepc hb f4; replace f5 := keepc hb f5; replace f6 := keepc hb f6; replace f7 := keepc hb f7; replace f8 := keepc hb f8; replace f9 := keepc hb f9; replace f10 := keepc hb f10; replace f11 := keepc hb f11; replace B := keepb B hb; clear hb)
  refine wp_named (fun W' => Below w.heap.size w W' ∧ W'.cell? ⟨w.heap.size, 0, none⟩ = some (.int .i64 r0) ∧ W'.cell? ⟨w.heap.size, 1, none⟩ = some (.int .i64 r1) ∧ W'.cell? ⟨w.heap.size, 2, none⟩ = some (.int .i64 r2) ∧ W'.cell? ⟨w.heap.size, 3, none⟩ = some (.int .i64 r3) ∧ W'.cell? ⟨w.heap.size + 1, 0, none⟩ = some (.int .i64 s0) ∧ W'.cell? ⟨w.heap.size + 1, 1, none⟩ = some (.int .i64 s1) ∧ W'.cell? ⟨w.heap.size + 1, 2, none⟩ = some (.int .i64 s2) ∧ W'.cell? ⟨w.heap.size + 1, 3, none⟩ = some (.int .i64 s3) ∧ W'.cell? ⟨w.heap.size + 1 + 1, 0, none⟩ = some (.int .i64 t0) ∧ W'.cell? ⟨w.heap.size + 1 + 1, 1, none⟩ = some (.int .i64 t1) ∧ W'.cell? ⟨w.heap.size + 1 + 1, 2, none⟩ = some (.int .i64 t2) ∧ W'.cell? ⟨w.heap.size + 1 + 1, 3, none⟩ = some (.int .i64 t3) ∧ W'.cell? ⟨w5.heap.size, 0, none⟩ = some (.int .i64 u0) ∧ W'.cell? ⟨w5.heap.size, 1, none⟩ = some (.int .i64 u1) ∧ W'.cell? ⟨w5.heap.size, 2, none⟩ = some (.int .i64 u2) ∧ W'.cell? ⟨w5.heap.size, 3, none⟩ = some (.int .i64 u3)) ?_ ?_
  · (try dsimp only)
    refine ⟨?_, ?_, ?_, ?_, ?_, ?_, ?_, ?_, ?_, ?_, ?_, ?_, ?_, ?_, ?_, ?_, ?_⟩
    · exact B.alloc B.size _
    all_goals (first | (with_reducible refine keepA _ ?_; with_reducible assumption) | (simp [go_sem]; done))
  rintro W ⟨B, f0, f1, f2, f3, f4, f5, f6, f7, f8, f9, f10, f11, f12, f13, f14, f15⟩
  go_wp2_with (first | (go_at_call 22; (with_reducible refine (rect_any _ _ _ _ _).mono ?_); rintro e w6 ⟨rfl, hb⟩; replace f0 := keepc hb f0; replace f1 := keepc hb f1; replace f2 := keepc hb f2; replace f3 := keepc hb f3; replace f4 := keepc hb f4; replace f5 := keepc hb f5; replace f6 := keepc hb f6; replace f7 := keepc hb f7; replace f8 := keepc hb f8; replace f9 := keepc hb f9; replace f10 := keepc hb f10; replace f11 := keepc hb f11; replace f12 := keepc hb f12; replace f13 := keepc hb f13; replace f14 := keepc hb f14; replace f15 := keepc hb f15; replace B := keepb B hb; clear hb) | (go_at_call 21; (with_reducible refine (emptySpec_any _ _ _ _ _).mono ?_); rintro e w6 ⟨rfl, hb⟩; replace f0 := keepc hb f0; replace f1 := keepc hb f1; replace f2 := keepc hb f2; replace f3 := keepc hb f3; replace f4 := keepc hb f4; replace f5 := keepc hb f5; replace f6 := keepc hb f6; replace f7 := keepc hb f7; replace f8 := keepc hb f8; replace f9 := keepc hb f9; replace f10 := keepc hb f10; replace f11 := keepc hb f11; replace f12 := keepc hb f12; replace f13 := keepc hb f13; replace f14 := keepc hb f14; replace f15 := keepc hb f15; replace B := keepb B hb; clear hb))
  refine region_R (S := (fun W' => W'.cell? ⟨w.heap.size, 0, none⟩ = some (.int .i64 r0) ∧ W'.cell? ⟨w.heap.size, 1, none⟩ = some (.int .i64 r1) ∧ W'.cell? ⟨w.heap.size, 2, none⟩ = some (.int .i64 r2) ∧ W'.cell? ⟨w.heap.size, 3, none⟩ = some (.int .i64 r3) ∧ W'.cell? ⟨w.heap.size + 1, 0, none⟩ = some (.int .i64 s0) ∧ W'.cell? ⟨w.heap.size + 1, 1, none⟩ = some (.int .i64 s1) ∧ W'.cell? ⟨w.heap.size + 1, 2, none⟩ = some (.int .i64 s2) ∧ W'.cell? ⟨w.heap.size + 1, 3, none⟩ = some (.int .i64 s3) ∧ W'.cell? ⟨w.heap.size + 1 + 1, 0, none⟩ = some (.int .i64 t0) ∧ W'.cell? ⟨w.heap.size + 1 + 1, 1, none⟩ = some (.int .i64 t1) ∧ W'.cell? ⟨w.heap.size + 1 + 1, 2, none⟩ = some (.int .i64 t2) ∧ W'.cell? ⟨w.heap.size + 1 + 1, 3, none⟩ = some (.int .i64 t3) ∧ W'.cell? ⟨w5.heap.size, 0, none⟩ = some (.int .i64 u0) ∧ W'.cell? ⟨w5.heap.size, 1, none⟩ = some (.int .i64 u1) ∧ W'.cell? ⟨w5.heap.size, 2, none⟩ = some (.int .i64 u2) ∧ W'.cell? ⟨w5.heap.size, 3, none⟩ = some (.int .i64 u3))) (N := []) (fun W' => Below w.heap.size w W' ∧ W'.cell? ⟨w.heap.size, 0, none⟩ = some (.int .i64 r0) ∧ W'.cell? ⟨w.heap.size, 1, none⟩ = some (.int .i64 r1) ∧ W'.cell? ⟨w.heap.size, 2, none⟩ = some (.int .i64 r2) ∧ W'.cell? ⟨w.heap.size, 3, none⟩ = some (.int .i64 r3) ∧ W'.cell? ⟨w.heap.size + 1, 0, none⟩ = some (.int .i64 s0) ∧ W'.cell? ⟨w.heap.size + 1, 1, none⟩ = some (.int .i64 s1) ∧ W'.cell? ⟨w.heap.size + 1, 2, none⟩ = some (.int .i64 s2) ∧ W'.cell? ⟨w.heap.size + 1, 3, none⟩ = some (.int .i64 s3) ∧ W'.cell? ⟨w.heap.size + 1 + 1, 0, none⟩ = some (.int .i64 t0) ∧ W'.cell? ⟨w.heap.size + 1 + 1, 1, none⟩ = some (.int .i64 t1) ∧ W'.cell? ⟨w.heap.size + 1 + 1, 2, none⟩ = some (.int .i64 t2) ∧ W'.cell? ⟨w.heap.size + 1 + 1, 3, none⟩ = some (.int .i64 t3) ∧ W'.cell? ⟨w5.heap.size, 0, none⟩ = some (.int .i64 u0) ∧ W'.cell? ⟨w5.heap.size, 1, none⟩ = some (.int .i64 u1) ∧ W'.cell? ⟨w5.heap.size, 2, none⟩ = some (.int .i64 u2) ∧ W'.cell? ⟨w5.heap.size, 3, none⟩ = some (.int .i64 u3)) (by kernel_rfl) ?_ ?_
  · (try dsimp only)
    refine ⟨?_, ?_, ?_, ?_, ?_, ?_, ?_, ?_, ?_, ?_, ?_, ?_, ?_, ?_, ?_, ?_, ?_⟩
    · exact B.drew
    all_goals (simp [go_sem, f0, f1, f2, f3, f4, f5, f6, f7, f8, f9, f10, f11, f12, f13, f14, f15]; done)
  rintro W ⟨B, f0, f1, f2, f3, f4, f5, f6, f7, f8, f9, f10, f11, f12, f13, f14, f15⟩
  refine anyN_take [] (i := 0) (oi := ?o37) (v := ?v37) ?hi37 (by kernel_rfl) (by kernel_rfl) (by kernel_rfl) (by kernel_rfl) (by kernel_rfl) ?hQ37 (Or.inl ⟨?hg37, ?hy37⟩) ⟨f0, f1, f2, f3, f4, f5, f6, f7, f8, f9, f10, f11, f12, f13, f14, f15⟩ ?rest37
  case hi37 => (simp only [List.getElem?_toArray, List.getElem?_cons_zero, List.getElem?_cons_succ]; (first | done | with_reducible rfl))
  case hQ37 => exact fun _ _ _ h => h
  case hg37 => rfl
  case hy37 => (intro w hSw; (try dsimp only at hSw); go_simp; (first | done | (with_reducible rfl)))
  (try simp only [Act.put, List.setIfInBounds_toArray, List.set_cons_zero, List.set_cons_succ])
  refine anyN_take [] (i := 2) (oi := ?o38) (v := ?v38) ?hi38 (by kernel_rfl) (by kernel_rfl) (by kernel_rfl) (by kernel_rfl) (by kernel_rfl) ?hQ38 (Or.inl ⟨?hg38, ?hy38⟩) ⟨f0, f1, f2, f3, f4, f5, f6, f7, f8, f9, f10, f11, f12, f13, f14, f15⟩ ?rest38
  case hi38 => (simp only [List.getElem?_toArray, List.getElem?_cons_zero, List.getElem?_cons_succ]; (first | done | with_reducible rfl))
  case hQ38 => exact fun _ _ _ h => h
  case hg38 => rfl
  case hy38 => (intro w hSw; (try dsimp only at hSw); go_simp; (first | done | (with_reducible rfl)))
  (try simp only [Act.put, List.setIfInBounds_toArray, List.set_cons_zero, List.set_cons_succ])
  refine anyN_ready (rs := [1]) (by kernel_rfl) (by simp) ?_
  refine AllN.cons (o := ?o39) ?hi39 (fun K hK => ?step39) AllN.nil
  case hi39 => (simp only [List.getElem?_toArray, List.getElem?_cons_zero, List.getElem?_cons_succ]; (first | done | with_reducible rfl))
  go_simp
  (go_at_call 22; (with_reducible refine (rect_any _ _ _ _ _).mono ?_); rintro e w1 ⟨rfl, hb⟩; replace f0 := keepc hb f0; replace f1 := keepc hb f1; replace f2 := keepc hb f2; replace f3 := keepc hb f3; replace f4 := keepc hb f4; replace f5 := keepc hb f5; replace f6 := keepc hb f6; replace f7 := keepc hb f7; replace f8 := keepc hb f8; replace f9 := keepc hb f9; replace f10 := keepc hb f10; replace f11 := keepc hb f11; replace f12 := keepc hb f12; replace f13 := keepc hb f13; replace f14 := keepc hb f14; replace f15 := keepc hb f15; replace B := keepb B hb; clear hb)
  refine hK.out _ _ ⟨f0, f1, f2, f3, f4, f5, f6, f7, f8, f9, f10, f11, f12, f13, f14, f15⟩ (fun _ => ?_)
  clear hK K
  (try simp only [Act.put, List.setIfInBounds_toArray, List.set_cons_zero, List.set_cons_succ])
  refine anyN_ready (rs := [3]) (by kernel_rfl) (by simp) ?_
  refine AllN.cons (o := ?o40) ?hi40 (fun K hK => ?step40) AllN.nil
  case hi40 => (simp only [List.getElem?_toArray, List.getElem?_cons_zero, List.getElem?_cons_succ]; (first | done | with_reducible rfl))
  go_simp
  (go_at_call 22; (with_reducible refine (rect_any _ _ _ _ _).mono ?_); rintro e w1 ⟨rfl, hb⟩; replace f0 := keepc hb f0; replace f1 := keepc hb f1; replace f2 := keepc hb f2; replace f3 := keepc hb f3; replace f4 := keepc hb f4; replace f5 := keepc hb f5; replace f6 := keepc hb f6; replace f7 := keepc hb f7; replace f8 := keepc hb f8; replace f9 := keepc hb f9; replace f10 := keepc hb f10; replace f11 := keepc hb f11; replace f12 := keepc hb f12; replace f13 := keepc hb f13; replace f14 := keepc hb f14; replace f15 := keepc hb f15; replace B := keepb B hb; clear hb)
  refine hK.out _ _ ⟨f0, f1, f2, f3, f4, f5, f6, f7, f8, f9, f10, f11, f12, f13, f14, f15⟩ (fun _ => ?_)
  clear hK K
  (try simp only [Act.put, List.setIfInBounds_toArray, List.set_cons_zero, List.set_cons_succ])
  refine anyN_ready (rs := [4]) (by kernel_rfl) (by simp) ?_
  refine AllN.cons (o := ?o41) ?hi41 (fun K hK => ?step41) AllN.nil
  case hi41 => (simp only [List.getElem?_toArray, List.getElem?_cons_zero, List.getElem?_cons_succ]; (first | done | with_reducible rfl))
  go_simp
  (go_at_call 32; (with_reducible refine (inSpec_any _ _ _ _ _ _ _ _ _).mono ?_); rintro e w1 ⟨rfl, hb⟩; replace f0 := keepc hb f0; replace f1 := keepc hb f1; replace f2 := keepc hb f2; replace f3 := keepc hb f3; replace f4 := keepc hb f4; replace f5 := keepc hb f5; replace f6 := keepc hb f6; replace f7 := keepc hb f7; replace f8 := keepc hb f8; replace f9 := keepc hb f9; replace f10 := keepc hb f10; replace f11 := keepc hb f11; replace f12 := keepc hb f12; replace f13 := keepc hb f13; replace f14 := keepc hb f14; replace f15 := keepc hb f15; replace B := keepb B hb; clear hb)
  refine hK.out _ _ ⟨f0, f1, f2, f3, f4, f5, f6, f7, f8, f9, f10, f11, f12, f13, f14, f15⟩ (fun _ => ?_)
  clear hK K
  (try simp only [Act.put, List.setIfInBounds_toArray, List.set_cons_zero, List.set_cons_succ])
  simp only [hru, hsu, hrt]
  refine anyN_take [] (i := 5) (oi := ?o42) (v := ?v42) ?hi42 (by kernel_rfl) (by kernel_rfl) (by kernel_rfl) (by kernel_rfl) (by kernel_rfl) ?hQ42 (Or.inl ⟨?hg42, ?hy42⟩) ⟨f0, f1, f2, f3, f4, f5, f6, f7, f8, f9, f10, f11, f12, f13, f14, f15⟩ ?rest42
  case hi42 => (simp only [List.getElem?_toArray, List.getElem?_cons_zero, List.getElem?_cons_succ]; (first | done | with_reducible rfl))
  case hQ42 => exact fun _ _ _ h => h
  case hg42 => rfl
  case hy42 => (intro w hSw; (try dsimp only at hSw); go_simp; (first | done | (with_reducible rfl)))
  (try simp only [Act.put, List.setIfInBounds_toArray, List.set_cons_zero, List.set_cons_succ])
  refine anyN_take [] (i := 6) (oi := ?o43) (v := ?v43) ?hi43 (by kernel_rfl) (by kernel_rfl) (by kernel_rfl) (by kernel_rfl) (by kernel_rfl) ?hQ43 (Or.inl ⟨?hg43, ?hy43⟩) ⟨f0, f1, f2, f3, f4, f5, f6, f7, f8, f9, f10, f11, f12, f13, f14, f15⟩ ?rest43
  case hi43 => (simp only [List.getElem?_toArray, List.getElem?_cons_zero, List.getElem?_cons_succ]; (first | done | with_reducible rfl))
  case hQ43 => exact fun _ _ _ h => h
  case hg43 => rfl
  case hy43 => (intro w hSw; (try dsimp only at hSw); go_simp; (first | done | (with_reducible rfl)))
  (try simp only [Act.put, List.setIfInBounds_toArray, List.set_cons_zero, List.set_cons_succ])
  refine anyN_take [] (i := 8) (oi := ?o44) (v := ?v44) ?hi44 (by kernel_rfl) (by kernel_rfl) (by kernel_rfl) (by kernel_rfl) (by kernel_rfl) ?hQ44 (Or.inl ⟨?hg44, ?hy44⟩) ⟨f0, f1, f2, f3, f4, f5, f6, f7, f8, f9, f10, f11, f12, f13, f14, f15⟩ ?rest44
  case hi44 => (simp only [List.getElem?_toArray, List.getElem?_cons_zero, List.getElem?_cons_succ]; (first | done | with_reducible rfl))
  case hQ44 => exact fun _ _ _ h => h
  case hg44 => rfl
  case hy44 => (intro w hSw; (try dsimp only at hSw); go_simp; (first | done | (with_reducible rfl)))
  (try simp only [Act.put, List.setIfInBounds_toArray, List.set_cons_zero, List.set_cons_succ])
  refine anyN_ready (rs := [7]) (by kernel_rfl) (by simp) ?_
  refine AllN.cons (o := ?o45) ?hi45 (fun K hK => ?step45) AllN.nil
  case hi45 => (simp only [List.getElem?_toArray, List.getElem?_cons_zero, List.getElem?_cons_succ]; (first | done | with_reducible rfl))
  go_simp
  (go_at_call 22; (with_reducible refine (rect_any _ _ _ _ _).mono ?_); rintro e w1 ⟨rfl, hb⟩; replace f0 := keepc hb f0; replace f1 := keepc hb f1; replace f2 := keepc hb f2; replace f3 := keepc hb f3; replace f4 := keepc hb f4; replace f5 := keepc hb f5; replace f6 := keepc hb f6; replace f7 := keepc hb f7; replace f8 := keepc hb f8; replace f9 := keepc hb f9; replace f10 := keepc hb f10; replace f11 := keepc hb f11; replace f12 := keepc hb f12; replace f13 := keepc hb f13; replace f14 := keepc hb f14; replace f15 := keepc hb f15; replace B := keepb B hb; clear hb)
  refine hK.out _ _ ⟨f0, f1, f2, f3, f4, f5, f6, f7, f8, f9, f10, f11, f12, f13, f14, f15⟩ (fun _ => ?_)
  clear hK K
  (try simp only [Act.put, List.setIfInBounds_toArray, List.set_cons_zero, List.set_cons_succ])
  refine anyN_ready (rs := [9]) (by kernel_rfl) (by simp) ?_
  refine AllN.cons (o := ?o46) ?hi46 (fun K hK => ?step46) AllN.nil
  case hi46 => (simp only [List.getElem?_toArray, List.getElem?_cons_zero, List.getElem?_cons_succ]; (first | done | with_reducible rfl))
  go_simp
  (go_at_call 22; (with_reducible refine (rect_any _ _ _ _ _).mono ?_); rintro e w1 ⟨rfl, hb⟩; replace f0 := keepc hb f0; replace f1 := keepc hb f1; replace f2 := keepc hb f2; replace f3 := keepc hb f3; replace f4 := keepc hb f4; replace f5 := keepc hb f5; replace f6 := keepc hb f6; replace f7 := keepc hb f7; replace f8 := keepc hb f8; replace f9 := keepc hb f9; replace f10 := keepc hb f10; replace f11 := keepc hb f11; replace f12 := keepc hb f12; replace f13 := keepc hb f13; replace f14 := keepc hb f14; replace f15 := keepc hb f15; replace B := keepb B hb; clear hb)
  refine hK.out _ _ ⟨f0, f1, f2, f3, f4, f5, f6, f7, f8, f9, f10, f11, f12, f13, f14, f15⟩ (fun _ => ?_)
  clear hK K
  (try simp only [Act.put, List.setIfInBounds_toArray, List.set_cons_zero, List.set_cons_succ])
  refine anyN_ready (rs := [10]) (by kernel_rfl) (by simp) ?_
  refine AllN.cons (o := ?o47) ?hi47 (fun K hK => ?step47) AllN.nil
  case hi47 => (simp only [List.getElem?_toArray, List.getElem?_cons_zero, List.getElem?_cons_succ]; (first | done | with_reducible rfl))
  go_simp
  (go_at_call 32; (with_reducible refine (inSpec_any _ _ _ _ _ _ _ _ _).mono ?_); rintro e w1 ⟨rfl, hb⟩; replace f0 := keepc hb f0; replace f1 := keepc hb f1; replace f2 := keepc hb f2; replace f3 := keepc hb f3; replace f4 := keepc hb f4; replace f5 := keepc hb f5; replace f6 := keepc hb f6; replace f7 := keepc hb f7; replace f8 := keepc hb f8; replace f9 := keepc hb f9; replace f10 := keepc hb f10; replace f11 := keepc hb f11; replace f12 := keepc hb f12; replace f13 := keepc hb f13; replace f14 := keepc hb f14; replace f15 := keepc hb f15; replace B := keepb B hb; clear hb)
  refine hK.out _ _ ⟨f0, f1, f2, f3, f4, f5, f6, f7, f8, f9, f10, f11, f12, f13, f14, f15⟩ (fun _ => ?_)
  clear hK K
  (try simp only [Act.put, List.setIfInBounds_toArray, List.set_cons_zero, List.set_cons_succ])
  simp only [hru, hsu, hrt]
  refine anyN_take [] (i := 11) (oi := ?o48) (v := ?v48) ?hi48 (by kernel_rfl) (by kernel_rfl) (by kernel_rfl) (by kernel_rfl) (by kernel_rfl) ?hQ48 (Or.inl ⟨?hg48, ?hy48⟩) ⟨f0, f1, f2, f3, f4, f5, f6, f7, f8, f9, f10, f11, f12, f13, f14, f15⟩ ?rest48
  case hi48 => (simp only [List.getElem?_toArray, List.getElem?_cons_zero, List.getElem?_cons_succ]; (first | done | with_reducible rfl))
  case hQ48 => exact fun _ _ _ h => h
  case hg48 => rfl
  case hy48 => (intro w hSw; (try dsimp only at hSw); go_simp; (first | done | (with_reducible rfl)))
  (try simp only [Act.put, List.setIfInBounds_toArray, List.set_cons_zero, List.set_cons_succ])
  refine anyN_take [] (i := 12) (oi := ?o49) (v := ?v49) ?hi49 (by kernel_rfl) (by kernel_rfl) (by kernel_rfl) (by kernel_rfl) (by kernel_rfl) ?hQ49 (Or.inl ⟨?hg49, ?hy49⟩) ⟨f0, f1, f2, f3, f4, f5, f6, f7, f8, f9, f10, f11, f12, f13, f14, f15⟩ ?rest49
  case hi49 => (simp only [List.getElem?_toArray, List.getElem?_cons_zero, List.getElem?_cons_succ]; (first | done | with_reducible rfl))
  case hQ49 => exact fun _ _ _ h => h
  case hg49 => rfl
  case hy49 => (intro w hSw; (try dsimp only at hSw); go_simp; (first | done | (with_reducible rfl)))
  (try simp only [Act.put, List.setIfInBounds_toArray, List.set_cons_zero, List.set_cons_succ])
  refine anyN_take [] (i := 13) (oi := ?o50) (v := ?v50) ?hi50 (by kernel_rfl) (by kernel_rfl) (by kernel_rfl) (by kernel_rfl) (by kernel_rfl) ?hQ50 (Or.inl ⟨?hg50, ?hy50⟩) ⟨f0, f1, f2, f3, f4, f5, f6, f7, f8, f9, f10, f11, f12, f13, f14, f15⟩ ?rest50
  case hi50 => (simp only [List.getElem?_toArray, List.getElem?_cons_zero, List.getElem?_cons_succ]; (first | done | with_reducible rfl))
  case hQ50 => exact fun _ _ _ h => h
  case hg50 => rfl
  case hy50 => (intro w hSw; (try dsimp only at hSw); go_simp; (first | done | (with_reducible rfl)))
  (try simp only [Act.put, List.setIfInBounds_toArray, List.set_cons_zero, List.set_cons_succ])
  refine anyN_take [] (i := 15) (oi := ?o51) (v := ?v51) ?hi51 (by kernel_rfl) (by kernel_rfl) (by kernel_rfl) (by kernel_rfl) (by kernel_rfl) ?hQ51 (Or.inl ⟨?hg51, ?hy51⟩) ⟨f0, f1, f2, f3, f4, f5, f6, f7, f8, f9, f10, f11, f12, f13, f14, f15⟩ ?rest51
  case hi51 => (simp only [List.getElem?_toArray, List.getElem?_cons_zero, List.getElem?_cons_succ]; (first | done | with_reducible rfl))
  case hQ51 => exact fun _ _ _ h => h
  case hg51 => rfl
  case hy51 => (intro w hSw; (try dsimp only at hSw); go_simp; (first | done | (with_reducible rfl)))
  (try simp only [Act.put, List.setIfInBounds_toArray, List.set_cons_zero, List.set_cons_succ])
  refine anyN_ready (rs := [14]) (by kernel_rfl) (by simp) ?_
  refine AllN.cons (o := ?o52) ?hi52 (fun K hK => ?step52) AllN.nil
  case hi52 => (simp only [List.getElem?_toArray, List.getElem?_cons_zero, List.getElem?_cons_succ]; (first | done | with_reducible rfl))
  go_simp
  (go_at_call 22; (with_reducible refine (rect_any _ _ _ _ _).mono ?_); rintro e w1 ⟨rfl, hb⟩; replace f0 := keepc hb f0; replace f1 := keepc hb f1; replace f2 := keepc hb f2; replace f3 := keepc hb f3; replace f4 := keepc hb f4; replace f5 := keepc hb f5; replace f6 := keepc hb f6; replace f7 := keepc hb f7; replace f8 := keepc hb f8; replace f9 := keepc hb f9; replace f10 := keepc hb f10; replace f11 := keepc hb f11; replace f12 := keepc hb f12; replace f13 := keepc hb f13; replace f14 := keepc hb f14; replace f15 := keepc hb f15; replace B := keepb B hb; clear hb)
  refine hK.out _ _ ⟨f0, f1, f2, f3, f4, f5, f6, f7, f8, f9, f10, f11, f12, f13, f14, f15⟩ (fun _ => ?_)
  clear hK K
  (try simp only [Act.put, List.setIfInBounds_toArray, List.set_cons_zero, List.set_cons_succ])
  refine anyN_ready (rs := [16]) (by kernel_rfl) (by simp) ?_
  refine AllN.cons (o := ?o53) ?hi53 (fun K hK => ?step53) AllN.nil
  case hi53 => (simp only [List.getElem?_toArray, List.getElem?_cons_zero, List.getElem?_cons_succ]; (first | done | with_reducible rfl))
  go_simp
  (go_at_call 22; (with_reducible refine (rect_any _ _ _ _ _).mono ?_); rintro e w1 ⟨rfl, hb⟩; replace f0 := keepc hb f0; replace f1 := keepc hb f1; replace f2 := keepc hb f2; replace f3 := keepc hb f3; replace f4 := keepc hb f4; replace f5 := keepc hb f5; replace f6 := keepc hb f6; replace f7 := keepc hb f7; replace f8 := keepc hb f8; replace f9 := keepc hb f9; replace f10 := keepc hb f10; replace f11 := keepc hb f11; replace f12 := keepc hb f12; replace f13 := keepc hb f13; replace f14 := keepc hb f14; replace f15 := keepc hb f15; replace B := keepb B hb; clear hb)
  refine hK.out _ _ ⟨f0, f1, f2, f3, f4, f5, f6, f7, f8, f9, f10, f11, f12, f13, f14, f15⟩ (fun _ => ?_)
  clear hK K
  (try simp only [Act.put, List.setIfInBounds_toArray, List.set_cons_zero, List.set_cons_succ])
  refine anyN_ready (rs := [17]) (by kernel_rfl) (by simp) ?_
  refine AllN.cons (o := ?o54) ?hi54 (fun K hK => ?step54) AllN.nil
  case hi54 => (simp only [List.getElem?_toArray, List.getElem?_cons_zero, List.getElem?_cons_succ]; (first | done | with_reducible rfl))
  go_simp
  (go_at_call 32; (with_reducible refine (inSpec_any _ _ _ _ _ _ _ _ _).mono ?_); rintro e w1 ⟨rfl, hb⟩; replace f0 := keepc hb f0; replace f1 := keepc hb f1; replace f2 := keepc hb f2; replace f3 := keepc hb f3; replace f4 := keepc hb f4; replace f5 := keepc hb f5; replace f6 := keepc hb f6; replace f7 := keepc hb f7; replace f8 := keepc hb f8; replace f9 := keepc hb f9; replace f10 := keepc hb f10; replace f11 := keepc hb f11; replace f12 := keepc hb f12; replace f13 := keepc hb f13; replace f14 := keepc hb f14; replace f15 := keepc hb f15; replace B := keepb B hb; clear hb)
  refine hK.out _ _ ⟨f0, f1, f2, f3, f4, f5, f6, f7, f8, f9, f10, f11, f12, f13, f14, f15⟩ (fun _ => ?_)
  clear hK K
  (try simp only [Act.put, List.setIfInBounds_toArray, List.set_cons_zero, List.set_cons_succ])
  simp only [hru, hsu, hrt]
  refine anyN_take [] (i := 18) (oi := ?o55) (v := ?v55) ?hi55 (by kernel_rfl) (by kernel_rfl) (by kernel_rfl) (by kernel_rfl) (by kernel_rfl) ?hQ55 (Or.inl ⟨?hg55, ?hy55⟩) ⟨f0, f1, f2, f3, f4, f5, f6, f7, f8, f9, f10, f11, f12, f13, f14, f15⟩ ?rest55
  case hi55 => (simp only [List.getElem?_toArray, List.getElem?_cons_zero, List.getElem?_cons_succ]; (first | done | with_reducible rfl))
  case hQ55 => exact fun _ _ _ h => h
  case hg55 => rfl
  case hy55 => (intro w hSw; (try dsimp only at hSw); go_simp; (first | done | (with_reducible rfl)))
  (try simp only [Act.put, List.setIfInBounds_toArray, List.set_cons_zero, List.set_cons_succ])
  refine anyN_take [] (i := 19) (oi := ?o56) (v := ?v56) ?hi56 (by kernel_rfl) (by kernel_rfl) (by kernel_rfl) (by kernel_rfl) (by kernel_rfl) ?hQ56 (Or.inl ⟨?hg56, ?hy56⟩) ⟨f0, f1, f2, f3, f4, f5, f6, f7, f8, f9, f10, f11, f12, f13, f14, f15⟩ ?rest56
  case hi56 => (simp only [List.getElem?_toArray, List.getElem?_cons_zero, List.getElem?_cons_succ]; (first | done | with_reducible rfl))
  case hQ56 => exact fun _ _ _ h => h
  case hg56 => rfl
  case hy56 => (intro w hSw; (try dsimp only at hSw); go_simp; (first | done | (with_reducible rfl)))
  (try simp only [Act.put, List.setIfInBounds_toArray, List.set_cons_zero, List.set_cons_succ])
  refine anyN_take [] (i := 20) (oi := ?o57) (v := undef) ?hi57 (by kernel_rfl) (by kernel_rfl) (by kernel_rfl) (by kernel_rfl) (by kernel_rfl) ?hQ57 (Or.inr ⟨?hg57, rfl⟩) ⟨f0, f1, f2, f3, f4, f5, f6, f7, f8, f9, f10, f11, f12, f13, f14, f15⟩ ?rest57
  case hi57 => (simp only [List.getElem?_toArray, List.getElem?_cons_zero, List.getElem?_cons_succ]; (first | done | with_reducible rfl))
  case hQ57 => exact fun _ _ _ h => h
  case hg57 => rfl
  (try simp only [Act.put, List.setIfInBounds_toArray, List.set_cons_zero, List.set_cons_succ])
  refine anyN_take [] (i := 21) (oi := ?o58) (v := undef) ?hi58 (by kernel_rfl) (by kernel_rfl) (by kernel_rfl) (by kernel_rfl) (by kernel_rfl) ?hQ58 (Or.inr ⟨?hg58, rfl⟩) ⟨f0, f1, f2, f3, f4, f5, f6, f7, f8, f9, f10, f11, f12, f13, f14, f15⟩ ?rest58
  case hi58 => (simp only [List.getElem?_toArray, List.getElem?_cons_zero, List.getElem?_cons_succ]; (first | done | with_reducible rfl))
  case hQ58 => exact fun _ _ _ h => h
  case hg58 => rfl
  (try simp only [Act.put, List.setIfInBounds_toArray, List.set_cons_zero, List.set_cons_succ])
  refine anyN_take [] (i := 22) (oi := ?o59) (v := undef) ?hi59 (by kernel_rfl) (by kernel_rfl) (by kernel_rfl) (by kernel_rfl) (by kernel_rfl) ?hQ59 (Or.inr ⟨?hg59, rfl⟩) ⟨f0, f1, f2, f3, f4, f5, f6, f7, f8, f9, f10, f11, f12, f13, f14, f15⟩ ?rest59
  case hi59 => (simp only [List.getElem?_toArray, List.getElem?_cons_zero, List.getElem?_cons_succ]; (first | done | with_reducible rfl))
  case hQ59 => exact fun _ _ _ h => h
  case hg59 => rfl
  (try simp only [Act.put, List.setIfInBounds_toArray, List.set_cons_zero, List.set_cons_succ])
  refine anyN_take [] (i := 23) (oi := ?o60) (v := undef) ?hi60 (by kernel_rfl) (by kernel_rfl) (by kernel_rfl) (by kernel_rfl) (by kernel_rfl) ?hQ60 (Or.inr ⟨?hg60, rfl⟩) ⟨f0, f1, f2, f3, f4, f5, f6, f7, f8, f9, f10, f11, f12, f13, f14, f15⟩ ?rest60
  case hi60 => (simp only [List.getElem?_toArray, List.getElem?_cons_zero, List.getElem?_cons_succ]; (first | done | with_reducible rfl))
  case hQ60 => exact fun _ _ _ h => h
  case hg60 => rfl
  (try simp only [Act.put, List.setIfInBounds_toArray, List.set_cons_zero, List.set_cons_succ])
  refine anyN_take [] (i := 24) (oi := ?o61) (v := undef) ?hi61 (by kernel_rfl) (by kernel_rfl) (by kernel_rfl) (by kernel_rfl) (by kernel_rfl) ?hQ61 (Or.inr ⟨?hg61, rfl⟩) ⟨f0, f1, f2, f3, f4, f5, f6, f7, f8, f9, f10, f11, f12, f13, f14, f15⟩ ?rest61
  case hi61 => (simp only [List.getElem?_toArray, List.getElem?_cons_zero, List.getElem?_cons_succ]; (first | done | with_reducible rfl))
  case hQ61 => exact fun _ _ _ h => h
  case hg61 => rfl
  (try simp only [Act.put, List.setIfInBounds_toArray, List.set_cons_zero, List.set_cons_succ])
  refine anyN_take [] (i := 25) (oi := ?o62) (v := undef) ?hi62 (by kernel_rfl) (by kernel_rfl) (by kernel_rfl) (by kernel_rfl) (by kernel_rfl) ?hQ62 (Or.inr ⟨?hg62, rfl⟩) ⟨f0, f1, f2, f3, f4, f5, f6, f7, f8, f9, f10, f11, f12, f13, f14, f15⟩ ?rest62
  case hi62 => (simp only [List.getElem?_toArray, List.getElem?_cons_zero, List.getElem?_cons_succ]; (first | done | with_reducible rfl))
  case hQ62 => exact fun _ _ _ h => h
  case hg62 => rfl
  (try simp only [Act.put, List.setIfInBounds_toArray, List.set_cons_zero, List.set_cons_succ])
  refine anyN_take [] (i := 26) (oi := ?o63) (v := ?v63) ?hi63 (by kernel_rfl) (by kernel_rfl) (by kernel_rfl) (by kernel_rfl) (by kernel_rfl) ?hQ63 (Or.inl ⟨?hg63, ?hy63⟩) ⟨f0, f1, f2, f3, f4, f5, f6, f7, f8, f9, f10, f11, f12, f13, f14, f15⟩ ?rest63
  case hi63 => (simp only [List.getElem?_toArray, List.getElem?_cons_zero, List.getElem?_cons_succ]; (first | done | with_reducible rfl))
  case hQ63 => exact fun _ _ _ h => h
  case hg63 => rfl
  case hy63 => (intro w hSw; (try dsimp only at hSw); go_simp; (first | done | (with_reducible rfl)))
  (try simp only [Act.put, List.setIfInBounds_toArray, List.set_cons_zero, List.set_cons_succ])
  refine anyN_take [] (i := 27) (oi := ?o64) (v := ?v64) ?hi64 (by kernel_rfl) (by kernel_rfl) (by kernel_rfl) (by kernel_rfl) (by kernel_rfl) ?hQ64 (Or.inl ⟨?hg64, ?hy64⟩) ⟨f0, f1, f2, f3, f4, f5, f6, f7, f8, f9, f10, f11, f12, f13, f14, f15⟩ ?rest64
  case hi64 => (simp only [List.getElem?_toArray, List.getElem?_cons_zero, List.getElem?_cons_succ]; (first | done | with_reducible rfl))
  case hQ64 => exact fun _ _ _ h => h
  case hg64 => rfl
  case hy64 => (intro w hSw; (try dsimp only at hSw); go_simp; (first | done | (with_reducible rfl)))
  (try simp only [Act.put, List.setIfInBounds_toArray, List.set_cons_zero, List.set_cons_succ])
  refine anyN_take [] (i := 28) (oi := ?o65) (v := undef) ?hi65 (by kernel_rfl) (by kernel_rfl) (by kernel_rfl) (by kernel_rfl) (by kernel_rfl) ?hQ65 (Or.inr ⟨?hg65, rfl⟩) ⟨f0, f1, f2, f3, f4, f5, f6, f7, f8, f9, f10, f11, f12, f13, f14, f15⟩ ?rest65
  case hi65 => (simp only [List.getElem?_toArray, List.getElem?_cons_zero, List.getElem?_cons_succ]; (first | done | with_reducible rfl))
  case hQ65 => exact fun _ _ _ h => h
  case hg65 => rfl
  (try simp only [Act.put, List.setIfInBounds_toArray, List.set_cons_zero, List.set_cons_succ])
  refine anyN_take [] (i := 29) (oi := ?o66) (v := undef) ?hi66 (by kernel_rfl) (by kernel_rfl) (by kernel_rfl) (by kernel_rfl) (by kernel_rfl) ?hQ66 (Or.inr ⟨?hg66, rfl⟩) ⟨f0, f1, f2, f3, f4, f5, f6, f7, f8, f9, f10, f11, f12, f13, f14, f15⟩ ?rest66
  case hi66 => (simp only [List.getElem?_toArray, List.getElem?_cons_zero, List.getElem?_cons_succ]; (first | done | with_reducible rfl))
  case hQ66 => exact fun _ _ _ h => h
  case hg66 => rfl
  (try simp only [Act.put, List.setIfInBounds_toArray, List.set_cons_zero, List.set_cons_succ])
  refine anyN_take [] (i := 30) (oi := ?o67) (v := undef) ?hi67 (by kernel_rfl) (by kernel_rfl) (by kernel_rfl) (by kernel_rfl) (by kernel_rfl) ?hQ67 (Or.inr ⟨?hg67, rfl⟩) ⟨f0, f1, f2, f3, f4, f5, f6, f7, f8, f9, f10, f11, f12, f13, f14, f15⟩ ?rest67
  case hi67 => (simp only [List.getElem?_toArray, List.getElem?_cons_zero, List.getElem?_cons_succ]; (first | done | with_reducible rfl))
  case hQ67 => exact fun _ _ _ h => h
  case hg67 => rfl
  (try simp only [Act.put, List.setIfInBounds_toArray, List.set_cons_zero, List.set_cons_succ])
  refine anyN_take [] (i := 31) (oi := ?o68) (v := undef) ?hi68 (by kernel_rfl) (by kernel_rfl) (by kernel_rfl) (by kernel_rfl) (by kernel_rfl) ?hQ68 (Or.inr ⟨?hg68, rfl⟩) ⟨f0, f1, f2, f3, f4, f5, f6, f7, f8, f9, f10, f11, f12, f13, f14, f15⟩ ?rest68
  case hi68 => (simp only [List.getElem?_toArray, List.getElem?_cons_zero, List.getElem?_cons_succ]; (first | done | with_reducible rfl))
  case hQ68 => exact fun _ _ _ h => h
  case hg68 => rfl
  (try simp only [Act.put, List.setIfInBounds_toArray, List.set_cons_zero, List.set_cons_succ])
  refine anyN_take [] (i := 32) (oi := ?o69) (v := undef) ?hi69 (by kernel_rfl) (by kernel_rfl) (by kernel_rfl) (by kernel_rfl) (by kernel_rfl) ?hQ69 (Or.inr ⟨?hg69, rfl⟩) ⟨f0, f1, f2, f3, f4, f5, f6, f7, f8, f9, f10, f11, f12, f13, f14, f15⟩ ?rest69
  case hi69 => (simp only [List.getElem?_toArray, List.getElem?_cons_zero, List.getElem?_cons_succ]; (first | done | with_reducible rfl))
  case hQ69 => exact fun _ _ _ h => h
  case hg69 => rfl
  (try simp only [Act.put, List.setIfInBounds_toArray, List.set_cons_zero, List.set_cons_succ])
  refine anyN_take [] (i := 33) (oi := ?o70) (v := ?v70) ?hi70 (by kernel_rfl) (by kernel_rfl) (by kernel_rfl) (by kernel_rfl) (by kernel_rfl) ?hQ70 (Or.inl ⟨?hg70, ?hy70⟩) ⟨f0, f1, f2, f3, f4, f5, f6, f7, f8, f9, f10, f11, f12, f13, f14, f15⟩ ?rest70
  case hi70 => (simp only [List.getElem?_toArray, List.getElem?_cons_zero, List.getElem?_cons_succ]; (first | done | with_reducible rfl))
  case hQ70 => exact fun _ _ _ h => h
  case hg70 => rfl
  case hy70 => (intro w hSw; (try dsimp only at hSw); go_simp; (first | done | (with_reducible rfl)))
  (try simp only [Act.put, List.setIfInBounds_toArray, List.set_cons_zero, List.set_cons_succ])
  refine anyN_take [] (i := 34) (oi := ?o71) (v := ?v71) ?hi71 (by kernel_rfl) (by kernel_rfl) (by kernel_rfl) (by kernel_rfl) (by kernel_rfl) ?hQ71 (Or.inl ⟨?hg71, ?hy71⟩) ⟨f0, f1, f2, f3, f4, f5, f6, f7, f8, f9, f10, f11, f12, f13, f14, f15⟩ ?rest71
  case hi71 => (simp only [List.getElem?_toArray, List.getElem?_cons_zero, List.getElem?_cons_succ]; (first | done | with_reducible rfl))
  case hQ71 => exact fun _ _ _ h => h
  case hg71 => rfl
  case hy71 => (intro w hSw; (try dsimp only at hSw); go_simp; (first | done | (with_reducible rfl)))
  (try simp only [Act.put, List.setIfInBounds_toArray, List.set_cons_zero, List.set_cons_succ])
  refine anyN_take [] (i := 35) (oi := ?o72) (v := ?v72) ?hi72 (by kernel_rfl) (by kernel_rfl) (by kernel_rfl) (by kernel_rfl) (by kernel_rfl) ?hQ72 (Or.inl ⟨?hg72, ?hy72⟩) ⟨f0, f1, f2, f3, f4, f5, f6, f7, f8, f9, f10, f11, f12, f13, f14, f15⟩ ?rest72
  case hi72 => (simp only [List.getElem?_toArray, List.getElem?_cons_zero, List.getElem?_cons_succ]; (first | done | with_reducible rfl))
  case hQ72 => exact fun _ _ _ h => h
  case hg72 => rfl
  case hy72 => (intro w hSw; (try dsimp only at hSw); go_simp; (first | done | (with_reducible rfl)))
  (try simp only [Act.put, List.setIfInBounds_toArray, List.set_cons_zero, List.set_cons_succ])
  refine anyN_done (by kernel_rfl) ?_ _
  go_wp2
  go_ret
  exact ⟨rfl, B⟩
set_option maxHeartbeats 4000000 in
theorem way_1 (a0 : Bool) (a1x a1y a1z a1t a2x a2y a2z a2t a3x a3y a3z a3t : Int) (r0 r1 r2 r3 s0 s1 s2 s3 t0 t1 t2 t3 : Int) (u0 u1 u2 u3 : Int) (er0 : cutZ a0 a1x = r0) (kr0 : cutZ a0 r0 = r0) (er1 : cutZ a0 a1y = r1) (kr1 : cutZ a0 r1 = r1) (er2 : cutZ a0 a1z = r2) (kr2 : cutZ a0 r2 = r2) (er3 : cutZ a0 a1t = r3) (kr3 : cutZ a0 r3 = r3) (es0 : cutZ a0 a2x = s0) (ks0 : cutZ a0 s0 = s0) (es1 : cutZ a0 a2y = s1) (ks1 : cutZ a0 s1 = s1) (es2 : cutZ a0 a2z = s2) (ks2 : cutZ a0 s2 = s2) (es3 : cutZ a0 a2t = s3) (ks3 : cutZ a0 s3 = s3) (et0 : cutZ a0 a3x = t0) (kt0 : cutZ a0 t0 = t0) (et1 : cutZ a0 a3y = t1) (kt1 : cutZ a0 t1 = t1) (et2 : cutZ a0 a3z = t2) (kt2 : cutZ a0 t2 = t2) (et3 : cutZ a0 a3t = t3) (kt3 : cutZ a0 t3 = t3) (qu0 : uX0 r0 r1 r2 r3 s0 s1 s2 s3 = u0) (qu1 : uY0 r0 r1 r2 r3 s0 s1 s2 s3 = u1) (qu2 : uX1 r0 r1 r2 r3 s0 s1 s2 s3 = u2) (qu3 : uY1 r0 r1 r2 r3 s0 s1 s2 s3 = u3) (he : emptyB r0 r1 r2 r3 = false) (hf : emptyB s0 s1 s2 s3 = false) (hru : inB r0 r1 r2 r3 u0 u1 u2 u3 = true) (hsu : inB s0 s1 s2 s3 u0 u1 u2 u3 = true) (hrt : inB r0 r1 r2 r3 t0 t1 t2 t3 = true) (hst : inB s0 s1 s2 s3 t0 t1 t2 t3 = false) (w : World) :
    Calls Try.prog 13 #[.bool a0, .agg #[.int .i64 a1x, .int .i64 a1y, .int .i64 a1z, .int .i64 a1t], .agg #[.int .i64 a2x, .int .i64 a2y, .int .i64 a2z, .int .i64 a2t], .agg #[.int .i64 a3x, .int .i64 a3y, .int .i64 a3z, .int .i64 a3t]] w fun e w' => e = .returned (.bool true) ∧ Below w.heap.size w w' := by
  go_enter Try.func13, Try.ntmps13
  go_wp2
  refine region_R (S := (fun W' => W'.cell? ⟨w.heap.size, 0, none⟩ = some (.int .i64 a1x) ∧ W'.cell? ⟨w.heap.size, 1, none⟩ = some (.int .i64 a1y) ∧ W'.cell? ⟨w.heap.size, 2, none⟩ = some (.int .i64 a1z) ∧ W'.cell? ⟨w.heap.size, 3, none⟩ = some (.int .i64 a1t) ∧ W'.cell? ⟨w.heap.size + 1, 0, none⟩ = some (.int .i64 a2x) ∧ W'.cell? ⟨w.heap.size + 1, 1, none⟩ = some (.int .i64 a2y) ∧ W'.cell? ⟨w.heap.size + 1, 2, none⟩ = some (.int .i64 a2z) ∧ W'.cell? ⟨w.heap.size + 1, 3, none⟩ = some (.int .i64 a2t) ∧ W'.cell? ⟨w.heap.size + 1 + 1, 0, none⟩ = some (.int .i64 a3x) ∧ W'.cell? ⟨w.heap.size + 1 + 1, 1, none⟩ = some (.int .i64 a3y) ∧ W'.cell? ⟨w.heap.size + 1 + 1, 2, none⟩ = some (.int .i64 a3z) ∧ W'.cell? ⟨w.heap.size + 1 + 1, 3, none⟩ = some (.int .i64 a3t))) (N := [9, 10, 11]) (fun W' => Below w.heap.size w W' ∧ W'.cell? ⟨w.heap.size, 0, none⟩ = some (.int .i64 a1x) ∧ W'.cell? ⟨w.heap.size, 1, none⟩ = some (.int .i64 a1y) ∧ W'.cell? ⟨w.heap.size, 2, none⟩ = some (.int .i64 a1z) ∧ W'.cell? ⟨w.heap.size, 3, none⟩ = some (.int .i64 a1t) ∧ W'.cell? ⟨w.heap.size + 1, 0, none⟩ = some (.int .i64 a2x) ∧ W'.cell? ⟨w.heap.size + 1, 1, none⟩ = some (.int .i64 a2y) ∧ W'.cell? ⟨w.heap.size + 1, 2, none⟩ = some (.int .i64 a2z) ∧ W'.cell? ⟨w.heap.size + 1, 3, none⟩ = some (.int .i64 a2t) ∧ W'.cell? ⟨w.heap.size + 1 + 1, 0, none⟩ = some (.int .i64 a3x) ∧ W'.cell? ⟨w.heap.size + 1 + 1, 1, none⟩ = some (.int .i64 a3y) ∧ W'.cell? ⟨w.heap.size + 1 + 1, 2, none⟩ = some (.int .i64 a3z) ∧ W'.cell? ⟨w.heap.size + 1 + 1, 3, none⟩ = some (.int .i64 a3t) ∧ W'.frozen? ⟨w.heap.size, 0, none⟩ = false ∧ W'.frozen? ⟨w.heap.size, 1, none⟩ = false ∧ W'.frozen? ⟨w.heap.size, 2, none⟩ = false ∧ W'.frozen? ⟨w.heap.size, 3, none⟩ = false ∧ W'.frozen? ⟨w.heap.size + 1, 0, none⟩ = false ∧ W'.frozen? ⟨w.heap.size + 1, 1, none⟩ = false ∧ W'.frozen? ⟨w.heap.size + 1, 2, none⟩ = false ∧ W'.frozen? ⟨w.heap.size + 1, 3, none⟩ = false ∧ W'.frozen? ⟨w.heap.size + 1 + 1, 0, none⟩ = false ∧ W'.frozen? ⟨w.heap.size + 1 + 1, 1, none⟩ = false ∧ W'.frozen? ⟨w.heap.size + 1 + 1, 2, none⟩ = false ∧ W'.frozen? ⟨w.heap.size + 1 + 1, 3, none⟩ = false) (by kernel_rfl) ?_ ?_
  · (try dsimp only)
    refine ⟨?_, ?_, ?_, ?_, ?_, ?_, ?_, ?_, ?_, ?_, ?_, ?_, ?_, ?_, ?_, ?_, ?_, ?_, ?_, ?_, ?_, ?_, ?_, ?_, ?_⟩
    · repeat (first | (with_reducible exact Below.refl _ _) | (with_reducible apply Below.drew) | (with_reducible refine Below.alloc ?_ (by first | exact Nat.le_refl _ | (simp; done) | (simp; omega)) _))
    all_goals (simp [go_sem]; done)
  rintro W ⟨B, f0, f1, f2, f3, f4, f5, f6, f7, f8, f9, f10, f11, g0, g1, g2, g3, g4, g5, g6, g7, g8, g9, g10, g11⟩
  refine anyN_take [2, 5, 8, 9, 10, 11] (i := 0) (oi := ?o73) (v := ?v73) ?hi73 (by kernel_rfl) (by kernel_rfl) (by kernel_rfl) (by kernel_rfl) (by kernel_rfl) ?hQ73 (Or.inl ⟨?hg73, ?hy73⟩) ⟨f0, f1, f2, f3, f4, f5, f6, f7, f8, f9, f10, f11⟩ ?rest73
  case hi73 => (simp only [List.getElem?_toArray, List.getElem?_cons_zero, List.getElem?_cons_succ]; (first | done | with_reducible rfl))
  case hQ73 => exact fun _ _ _ h => h
  case hg73 => rfl
  case hy73 => (intro w hSw; (try dsimp only at hSw); go_simp; (first | done | (with_reducible rfl)))
  (try simp only [Act.put, List.setIfInBounds_toArray, List.set_cons_zero, List.set_cons_succ])
  refine anyN_take [2, 5, 8, 9, 10, 11] (i := 1) (oi := ?o74) (v := ?v74) ?hi74 (by kernel_rfl) (by kernel_rfl) (by kernel_rfl) (by kernel_rfl) (by kernel_rfl) ?hQ74 (Or.inl ⟨?hg74, ?hy74⟩) ⟨f0, f1, f2, f3, f4, f5, f6, f7, f8, f9, f10, f11⟩ ?rest74
  case hi74 => (simp only [List.getElem?_toArray, List.getElem?_cons_zero, List.getElem?_cons_succ]; (first | done | with_reducible rfl))
  case hQ74 => exact fun _ _ _ h => h
  case hg74 => rfl
  case hy74 => (intro w hSw; (try dsimp only at hSw); go_simp; (first | done | (with_reducible rfl)))
  (try simp only [Act.put, List.setIfInBounds_toArray, List.set_cons_zero, List.set_cons_succ])
  refine anyN_take [5, 8, 9, 10, 11] (i := 3) (oi := ?o75) (v := ?v75) ?hi75 (by kernel_rfl) (by kernel_rfl) (by kernel_rfl) (by kernel_rfl) (by kernel_rfl) ?hQ75 (Or.inl ⟨?hg75, ?hy75⟩) ⟨f0, f1, f2, f3, f4, f5, f6, f7, f8, f9, f10, f11⟩ ?rest75
  case hi75 => (simp only [List.getElem?_toArray, List.getElem?_cons_zero, List.getElem?_cons_succ]; (first | done | with_reducible rfl))
  case hQ75 => exact fun _ _ _ h => h
  case hg75 => rfl
  case hy75 => (intro w hSw; (try dsimp only at hSw); go_simp; (first | done | (with_reducible rfl)))
  (try simp only [Act.put, List.setIfInBounds_toArray, List.set_cons_zero, List.set_cons_succ])
  refine anyN_take [5, 8, 9, 10, 11] (i := 4) (oi := ?o76) (v := ?v76) ?hi76 (by kernel_rfl) (by kernel_rfl) (by kernel_rfl) (by kernel_rfl) (by kernel_rfl) ?hQ76 (Or.inl ⟨?hg76, ?hy76⟩) ⟨f0, f1, f2, f3, f4, f5, f6, f7, f8, f9, f10, f11⟩ ?rest76
  case hi76 => (simp only [List.getElem?_toArray, List.getElem?_cons_zero, List.getElem?_cons_succ]; (first | done | with_reducible rfl))
  case hQ76 => exact fun _ _ _ h => h
  case hg76 => rfl
  case hy76 => (intro w hSw; (try dsimp only at hSw); go_simp; (first | done | (with_reducible rfl)))
  (try simp only [Act.put, List.setIfInBounds_toArray, List.set_cons_zero, List.set_cons_succ])
  refine anyN_take [8, 9, 10, 11] (i := 6) (oi := ?o77) (v := ?v77) ?hi77 (by kernel_rfl) (by kernel_rfl) (by kernel_rfl) (by kernel_rfl) (by kernel_rfl) ?hQ77 (Or.inl ⟨?hg77, ?hy77⟩) ⟨f0, f1, f2, f3, f4, f5, f6, f7, f8, f9, f10, f11⟩ ?rest77
  case hi77 => (simp only [List.getElem?_toArray, List.getElem?_cons_zero, List.getElem?_cons_succ]; (first | done | with_reducible rfl))
  case hQ77 => exact fun _ _ _ h => h
  case hg77 => rfl
  case hy77 => (intro w hSw; (try dsimp only at hSw); go_simp; (first | done | (with_reducible rfl)))
  (try simp only [Act.put, List.setIfInBounds_toArray, List.set_cons_zero, List.set_cons_succ])
  refine anyN_take [8, 9, 10, 11] (i := 7) (oi := ?o78) (v := ?v78) ?hi78 (by kernel_rfl) (by kernel_rfl) (by kernel_rfl) (by kernel_rfl) (by kernel_rfl) ?hQ78 (Or.inl ⟨?hg78, ?hy78⟩) ⟨f0, f1, f2, f3, f4, f5, f6, f7, f8, f9, f10, f11⟩ ?rest78
  case hi78 => (simp only [List.getElem?_toArray, List.getElem?_cons_zero, List.getElem?_cons_succ]; (first | done | with_reducible rfl))
  case hQ78 => exact fun _ _ _ h => h
  case hg78 => rfl
  case hy78 => (intro w hSw; (try dsimp only at hSw); go_simp; (first | done | (with_reducible rfl)))
  (try simp only [Act.put, List.setIfInBounds_toArray, List.set_cons_zero, List.set_cons_succ])
  refine anyN_ready (rs := [2]) (by kernel_rfl) (by simp) ?_
  refine AllN.cons (o := ?o79) ?hi79 (fun K hK => ?step79) AllN.nil
  case hi79 => (simp only [List.getElem?_toArray, List.getElem?_cons_zero, List.getElem?_cons_succ]; (first | done | with_reducible rfl))
  go_simp
  (go_at_call 20; (with_reducible refine (cutR_any _ _ _ _ _ _).mono ?_); rintro e w1 ⟨rfl, hb⟩; replace g0 := keepf hb f0 g0; replace g1 := keepf hb f1 g1; replace g2 := keepf hb f2 g2; replace g3 := keepf hb f3 g3; replace g4 := keepf hb f4 g4; replace g5 := keepf hb f5 g5; replace g6 := keepf hb f6 g6; replace g7 := keepf hb f7 g7; replace g8 := keepf hb f8 g8; replace g9 := keepf hb f9 g9; replace g10 := keepf hb f10 g10; replace g11 := keepf hb f11 g11; replace f0 := keepc hb f0; replace f1 := keepc hb f1; replace f2 := keepc hb f2; replace f3 := keepc hb f3; replace f4 := keepc hb f4; replace f5 := keepc hb f5; replace f6 := keepc hb f6; replace f7 := keepc hb f7; replace f8 := keepc hb f8; replace f9 := keepc hb f9; replace f10 := keepc hb f10; replace f11 := keepc hb f11; replace B := keepb B hb; clear hb)
  refine hK.out _ _ ⟨f0, f1, f2, f3, f4, f5, f6, f7, f8, f9, f10, f11⟩ (fun _ => ?_)
  clear hK K
  (try simp only [Act.put, List.setIfInBounds_toArray, List.set_cons_zero, List.set_cons_succ])
  simp only [er0, er1, er2, er3]
  refine anyN_ready (rs := [5]) (by kernel_rfl) (by simp) ?_
  refine AllN.cons (o := ?o80) ?hi80 (fun K hK => ?step80) AllN.nil
  case hi80 => (simp only [List.getElem?_toArray, List.getElem?_cons_zero, List.getElem?_cons_succ]; (first | done | with_reducible rfl))
  go_simp
  (go_at_call 20; (with_reducible refine (cutR_any _ _ _ _ _ _).mono ?_); rintro e w1 ⟨rfl, hb⟩; replace g0 := keepf hb f0 g0; replace g1 := keepf hb f1 g1; replace g2 := keepf hb f2 g2; replace g3 := keepf hb f3 g3; replace g4 := keepf hb f4 g4; replace g5 := keepf hb f5 g5; replace g6 := keepf hb f6 g6; replace g7 := keepf hb f7 g7; replace g8 := keepf hb f8 g8; replace g9 := keepf hb f9 g9; replace g10 := keepf hb f10 g10; replace g11 := keepf hb f11 g11; replace f0 := keepc hb f0; replace f1 := keepc hb f1; replace f2 := keepc hb f2; replace f3 := keepc hb f3; replace f4 := keepc hb f4; replace f5 := keepc hb f5; replace f6 := keepc hb f6; replace f7 := keepc hb f7; replace f8 := keepc hb f8; replace f9 := keepc hb f9; replace f10 := keepc hb f10; replace f11 := keepc hb f11; replace B := keepb B hb; clear hb)
  refine hK.out _ _ ⟨f0, f1, f2, f3, f4, f5, f6, f7, f8, f9, f10, f11⟩ (fun _ => ?_)
  clear hK K
  (try simp only [Act.put, List.setIfInBounds_toArray, List.set_cons_zero, List.set_cons_succ])
  simp only [es0, es1, es2, es3]
  refine anyN_ready (rs := [8]) (by kernel_rfl) (by simp) ?_
  refine AllN.cons (o := ?o81) ?hi81 (fun K hK => ?step81) AllN.nil
  case hi81 => (simp only [List.getElem?_toArray, List.getElem?_cons_zero, List.getElem?_cons_succ]; (first | done | with_reducible rfl))
  go_simp
  (go_at_call 20; (with_reducible refine (cutR_any _ _ _ _ _ _).mono ?_); rintro e w1 ⟨rfl, hb⟩; replace g0 := keepf hb f0 g0; replace g1 := keepf hb f1 g1; replace g2 := keepf hb f2 g2; replace g3 := keepf hb f3 g3; replace g4 := keepf hb f4 g4; replace g5 := keepf hb f5 g5; replace g6 := keepf hb f6 g6; replace g7 := keepf hb f7 g7; replace g8 := keepf hb f8 g8; replace g9 := keepf hb f9 g9; replace g10 := keepf hb f10 g10; replace g11 := keepf hb f11 g11; replace f0 := keepc hb f0; replace f1 := keepc hb f1; replace f2 := keepc hb f2; replace f3 := keepc hb f3; replace f4 := keepc hb f4; replace f5 := keepc hb f5; replace f6 := keepc hb f6; replace f7 := keepc hb f7; replace f8 := keepc hb f8; replace f9 := keepc hb f9; replace f10 := keepc hb f10; replace f11 := keepc hb f11; replace B := keepb B hb; clear hb)
  refine hK.out _ _ ⟨f0, f1, f2, f3, f4, f5, f6, f7, f8, f9, f10, f11⟩ (fun _ => ?_)
  clear hK K
  (try simp only [Act.put, List.setIfInBounds_toArray, List.set_cons_zero, List.set_cons_succ])
  simp only [et0, et1, et2, et3]
  refine anyN_ready (rs := [9]) (by kernel_rfl) (by simp) ?_
  refine AllN.last (o := ?o82) ?hi82 (by simp) (fun K hK => ?step82) AllN.nil
  case hi82 => (simp only [List.getElem?_toArray, List.getElem?_cons_zero, List.getElem?_cons_succ]; (first | done | with_reducible rfl))
  go_simp
  refine named (K := K) (fun W' => Below w.heap.size w W' ∧ W'.cell? ⟨w.heap.size, 0, none⟩ = some (.int .i64 r0) ∧ W'.cell? ⟨w.heap.size, 1, none⟩ = some (.int .i64 r1) ∧ W'.cell? ⟨w.heap.size, 2, none⟩ = some (.int .i64 r2) ∧ W'.cell? ⟨w.heap.size, 3, none⟩ = some (.int .i64 r3) ∧ W'.cell? ⟨w.heap.size + 1, 0, none⟩ = some (.int .i64 a2x) ∧ W'.cell? ⟨w.heap.size + 1, 1, none⟩ = some (.int .i64 a2y) ∧ W'.cell? ⟨w.heap.size + 1, 2, none⟩ = some (.int .i64 a2z) ∧ W'.cell? ⟨w.heap.size + 1, 3, none⟩ = some (.int .i64 a2t) ∧ W'.cell? ⟨w.heap.size + 1 + 1, 0, none⟩ = some (.int .i64 a3x) ∧ W'.cell? ⟨w.heap.size + 1 + 1, 1, none⟩ = some (.int .i64 a3y) ∧ W'.cell? ⟨w.heap.size + 1 + 1, 2, none⟩ = some (.int .i64 a3z) ∧ W'.cell? ⟨w.heap.size + 1 + 1, 3, none⟩ = some (.int .i64 a3t) ∧ W'.frozen? ⟨w.heap.size + 1, 0, none⟩ = false ∧ W'.frozen? ⟨w.heap.size + 1, 1, none⟩ = false ∧ W'.frozen? ⟨w.heap.size + 1, 2, none⟩ = false ∧ W'.frozen? ⟨w.heap.size + 1, 3, none⟩ = false ∧ W'.frozen? ⟨w.heap.size + 1 + 1, 0, none⟩ = false ∧ W'.frozen? ⟨w.heap.size + 1 + 1, 1, none⟩ = false ∧ W'.frozen? ⟨w.heap.size + 1 + 1, 2, none⟩ = false ∧ W'.frozen? ⟨w.heap.size + 1 + 1, 3, none⟩ = false) ?_ ?_
  · (try dsimp only)
    refine ⟨?_, ?_, ?_, ?_, ?_, ?_, ?_, ?_, ?_, ?_, ?_, ?_, ?_, ?_, ?_, ?_, ?_, ?_, ?_, ?_, ?_⟩
    · repeat (first | (with_reducible exact B) | (with_reducible exact Below.refl _ _) | (with_reducible apply Below.drew) | (with_reducible refine Below.setCell ?_ (by first | (simp; done) | (simp; omega)) _) | (with_reducible refine Below.alloc ?_ (by first | exact Nat.le_refl _ | (simp; done) | (simp; omega)) _))
    all_goals (first | (simp [go_sem]; done) | (simp [go_sem, f0, f1, f2, f3, f4, f5, f6, f7, f8, f9, f10, f11, g0, g1, g2, g3, g4, g5, g6, g7, g8, g9, g10, g11]; done))
  rintro W ⟨B, f0, f1, f2, f3, f4, f5, f6, f7, f8, f9, f10, f11, g4, g5, g6, g7, g8, g9, g10, g11⟩
  refine hK.out _ _ ?_
  clear hK K
  (try simp only [Act.put, List.setIfInBounds_toArray, List.set_cons_zero, List.set_cons_succ])
  refine anyN_ready (rs := [10]) (by kernel_rfl) (by simp) ?_
  refine AllN.last (o := ?o83) ?hi83 (by simp) (fun K hK => ?step83) AllN.nil
  case hi83 => (simp only [List.getElem?_toArray, List.getElem?_cons_zero, List.getElem?_cons_succ]; (first | done | with_reducible rfl))
  go_simp
  refine named (K := K) (fun W' => Below w.heap.size w W' ∧ W'.cell? ⟨w.heap.size, 0, none⟩ = some (.int .i64 r0) ∧ W'.cell? ⟨w.heap.size, 1, none⟩ = some (.int .i64 r1) ∧ W'.cell? ⟨w.heap.size, 2, none⟩ = some (.int .i64 r2) ∧ W'.cell? ⟨w.heap.size, 3, none⟩ = some (.int .i64 r3) ∧ W'.cell? ⟨w.heap.size + 1, 0, none⟩ = some (.int .i64 s0) ∧ W'.cell? ⟨w.heap.size + 1, 1, none⟩ = some (.int .i64 s1) ∧ W'.cell? ⟨w.heap.size + 1, 2, none⟩ = some (.int .i64 s2) ∧ W'.cell? ⟨w.heap.size + 1, 3, none⟩ = some (.int .i64 s3) ∧ W'.cell? ⟨w.heap.size + 1 + 1, 0, none⟩ = some (.int .i64 a3x) ∧ W'.cell? ⟨w.heap.size + 1 + 1, 1, none⟩ = some (.int .i64 a3y) ∧ W'.cell? ⟨w.heap.size + 1 + 1, 2, none⟩ = some (.int .i64 a3z) ∧ W'.cell? ⟨w.heap.size + 1 + 1, 3, none⟩ = some (.int .i64 a3t) ∧ W'.frozen? ⟨w.heap.size + 1 + 1, 0, none⟩ = false ∧ W'.frozen? ⟨w.heap.size + 1 + 1, 1, none⟩ = false ∧ W'.frozen? ⟨w.heap.size + 1 + 1, 2, none⟩ = false ∧ W'.frozen? ⟨w.heap.size + 1 + 1, 3, none⟩ = false) ?_ ?_
  · (try dsimp only)
    refine ⟨?_, ?_, ?_, ?_, ?_, ?_, ?_, ?_, ?_, ?_, ?_, ?_, ?_, ?_, ?_, ?_, ?_⟩
    · repeat (first | (with_reducible exact B) | (with_reducible exact Below.refl _ _) | (with_reducible apply Below.drew) | (with_reducible refine Below.setCell ?_ (by first | (simp; done) | (simp; omega)) _) | (with_reducible refine Below.alloc ?_ (by first | exact Nat.le_refl _ | (simp; done) | (simp; omega)) _))
    all_goals (first | (simp [go_sem]; done) | (simp [go_sem, f0, f1, f2, f3, f4, f5, f6, f7, f8, f9, f10, f11, g4, g5, g6, g7, g8, g9, g10, g11]; done))
  rintro W ⟨B, f0, f1, f2, f3, f4, f5, f6, f7, f8, f9, f10, f11, g8, g9, g10, g11⟩
  refine hK.out _ _ ?_
  clear hK K
  (try simp only [Act.put, List.setIfInBounds_toArray, List.set_cons_zero, List.set_cons_succ])
  refine anyN_ready (rs := [11]) (by kernel_rfl) (by simp) ?_
  refine AllN.last (o := ?o84) ?hi84 (by simp) (fun K hK => ?step84) AllN.nil
  case hi84 => (simp only [List.getElem?_toArray, List.getElem?_cons_zero, List.getElem?_cons_succ]; (first | done | with_reducible rfl))
  go_simp
  refine named (K := K) (fun W' => Below w.heap.size w W' ∧ W'.cell? ⟨w.heap.size, 0, none⟩ = some (.int .i64 r0) ∧ W'.cell? ⟨w.heap.size, 1, none⟩ = some (.int .i64 r1) ∧ W'.cell? ⟨w.heap.size, 2, none⟩ = some (.int .i64 r2) ∧ W'.cell? ⟨w.heap.size, 3, none⟩ = some (.int .i64 r3) ∧ W'.cell? ⟨w.heap.size + 1, 0, none⟩ = some (.int .i64 s0) ∧ W'.cell? ⟨w.heap.size + 1, 1, none⟩ = some (.int .i64 s1) ∧ W'.cell? ⟨w.heap.size + 1, 2, none⟩ = some (.int .i64 s2) ∧ W'.cell? ⟨w.heap.size + 1, 3, none⟩ = some (.int .i64 s3) ∧ W'.cell? ⟨w.heap.size + 1 + 1, 0, none⟩ = some (.int .i64 t0) ∧ W'.cell? ⟨w.heap.size + 1 + 1, 1, none⟩ = some (.int .i64 t1) ∧ W'.cell? ⟨w.heap.size + 1 + 1, 2, none⟩ = some (.int .i64 t2) ∧ W'.cell? ⟨w.heap.size + 1 + 1, 3, none⟩ = some (.int .i64 t3)) ?_ ?_
  · (try dsimp only)
    refine ⟨?_, ?_, ?_, ?_, ?_, ?_, ?_, ?_, ?_, ?_, ?_, ?_, ?_⟩
    · repeat (first | (with_reducible exact B) | (with_reducible exact Below.refl _ _) | (with_reducible apply Below.drew) | (with_reducible refine Below.setCell ?_ (by first | (simp; done) | (simp; omega)) _) | (with_reducible refine Below.alloc ?_ (by first | exact Nat.le_refl _ | (simp; done) | (simp; omega)) _))
    all_goals (first | (simp [go_sem]; done) | (simp [go_sem, f0, f1, f2, f3, f4, f5, f6, f7, f8, f9, f10, f11, g8, g9, g10, g11]; done))
  rintro W ⟨B, f0, f1, f2, f3, f4, f5, f6, f7, f8, f9, f10, f11⟩
  refine hK.out _ _ ?_
  clear hK K
  (try simp only [Act.put, List.setIfInBounds_toArray, List.set_cons_zero, List.set_cons_succ])
  refine anyN_done (by kernel_rfl) ?_ _
  go_upto_region 3 with (go_at_call 17; (with_reducible refine (iUnio_any _ _ _ _ _ _ _ _ _ _).mono ?_); rintro e w5 ⟨rfl, hb⟩; replace f0 := keepc hb f0; replace f1 := keepc hb f1; replace f2 := keepc hb f2; replace f3 := keepc hb f3; replace f4 := keepc hb f4; replace f5 := keepc hb f5; replace f6 := keepc hb f6; replace f7 := keepc hb f7; replace f8 := keepc hb f8; replace f9 := keepc hb f9; replace f10 := keepc hb f10; replace f11 := keepc hb f11; replace B := keepb B hb; clear hb)
  refine wp_named (fun W' => Below w.heap.size w W' ∧ W'.cell? ⟨w.heap.size, 0, none⟩ = some (.int .i64 r0) ∧ W'.cell? ⟨w.heap.size, 1, none⟩ = some (.int .i64 r1) ∧ W'.cell? ⟨w.heap.size, 2, none⟩ = some (.int .i64 r2) ∧ W'.cell? ⟨w.heap.size, 3, none⟩ = some (.int .i64 r3) ∧ W'.cell? ⟨w.heap.size + 1, 0, none⟩ = some (.int .i64 s0) ∧ W'.cell? ⟨w.heap.size + 1, 1, none⟩ = some (.int .i64 s1) ∧ W'.cell? ⟨w.heap.size + 1, 2, none⟩ = some (.int .i64 s2) ∧ W'.cell? ⟨w.heap.size + 1, 3, none⟩ = some (.int .i64 s3) ∧ W'.cell? ⟨w.heap.size + 1 + 1, 0, none⟩ = some (.int .i64 t0) ∧ W'.cell? ⟨w.heap.size + 1 + 1, 1, none⟩ = some (.int .i64 t1) ∧ W'.cell? ⟨w.heap.size + 1 + 1, 2, none⟩ = some (.int .i64 t2) ∧ W'.cell? ⟨w.heap.size + 1 + 1, 3, none⟩ = some (.int .i64 t3) ∧ W'.cell? ⟨w5.heap.size, 0, none⟩ = some (.int .i64 u0) ∧ W'.cell? ⟨w5.heap.size, 1, none⟩ = some (.int .i64 u1) ∧ W'.cell? ⟨w5.heap.size, 2, none⟩ = some (.int .i64 u2) ∧ W'.cell? ⟨w5.heap.size, 3, none⟩ = some (.int .i64 u3)) ?_ ?_
  · (try dsimp only)
    refine ⟨?_, ?_, ?_, ?_, ?_, ?_, ?_, ?_, ?_, ?_, ?_, ?_, ?_, ?_, ?_, ?_, ?_⟩
    · exact B.alloc B.size _
    all_goals (first | (with_reducible refine keepA _ ?_; with_reducible assumption) | (simp [go_sem]; done))
  rintro W ⟨B, f0, f1, f2, f3, f4, f5, f6, f7, f8, f9, f10, f11, f12, f13, f14, f15⟩
  go_wp2_with (first | (go_at_call 22; (with_reducible refine (rect_any _ _ _ _ _).mono ?_); rintro e w6 ⟨rfl, hb⟩; replace f0 := keepc hb f0; replace f1 := keepc hb f1; replace f2 := keepc hb f2; replace f3 := keepc hb f3; replace f4 := keepc hb f4; replace f5 := keepc hb f5; replace f6 := keepc hb f6; replace f7 := keepc hb f7; replace f8 := keepc hb f8; replace f9 := keepc hb f9; replace f10 := keepc hb f10; replace f11 := keepc hb f11; replace f12 := keepc hb f12; replace f13 := keepc hb f13; replace f14 := keepc hb f14; replace f15 := keepc hb f15; replace B := keepb B hb; clear hb) | (go_at_call 21; (with_reducible refine (emptySpec_any _ _ _ _ _).mono ?_); rintro e w6 ⟨rfl, hb⟩; replace f0 := keepc hb f0; replace f1 := keepc hb f1; replace f2 := keepc hb f2; replace f3 := keepc hb f3; replace f4 := keepc hb f4; replace f5 := keepc hb f5; replace f6 := keepc hb f6; replace f7 := keepc hb f7; replace f8 := keepc hb f8; replace f9 := keepc hb f9; replace f10 := keepc hb f10; replace f11 := keepc hb f11; replace f12 := keepc hb f12; replace f13 := keepc hb f13; replace f14 := keepc hb f14; replace f15 := keepc hb f15; replace B := keepb B hb; clear hb))
  refine region_R (S := (fun W' => W'.cell? ⟨w.heap.size, 0, none⟩ = some (.int .i64 r0) ∧ W'.cell? ⟨w.heap.size, 1, none⟩ = some (.int .i64 r1) ∧ W'.cell? ⟨w.heap.size, 2, none⟩ = some (.int .i64 r2) ∧ W'.cell? ⟨w.heap.size, 3, none⟩ = some (.int .i64 r3) ∧ W'.cell? ⟨w.heap.size + 1, 0, none⟩ = some (.int .i64 s0) ∧ W'.cell? ⟨w.heap.size + 1, 1, none⟩ = some (.int .i64 s1) ∧ W'.cell? ⟨w.heap.size + 1, 2, none⟩ = some (.int .i64 s2) ∧ W'.cell? ⟨w.heap.size + 1, 3, none⟩ = some (.int .i64 s3) ∧ W'.cell? ⟨w.heap.size + 1 + 1, 0, none⟩ = some (.int .i64 t0) ∧ W'.cell? ⟨w.heap.size + 1 + 1, 1, none⟩ = some (.int .i64 t1) ∧ W'.cell? ⟨w.heap.size + 1 + 1, 2, none⟩ = some (.int .i64 t2) ∧ W'.cell? ⟨w.heap.size + 1 + 1, 3, none⟩ = some (.int .i64 t3) ∧ W'.cell? ⟨w5.heap.size, 0, none⟩ = some (.int .i64 u0) ∧ W'.cell? ⟨w5.heap.size, 1, none⟩ = some (.int .i64 u1) ∧ W'.cell? ⟨w5.heap.size, 2, none⟩ = some (.int .i64 u2) ∧ W'.cell? ⟨w5.heap.size, 3, none⟩ = some (.int .i64 u3))) (N := []) (fun W' => Below w.heap.size w W' ∧ W'.cell? ⟨w.heap.size, 0, none⟩ = some (.int .i64 r0) ∧ W'.cell? ⟨w.heap.size, 1, none⟩ = some (.int .i64 r1) ∧ W'.cell? ⟨w.heap.size, 2, none⟩ = some (.int .i64 r2) ∧ W'.cell? ⟨w.heap.size, 3, none⟩ = some (.int .i64 r3) ∧ W'.cell? ⟨w.heap.size + 1, 0, none⟩ = some (.int .i64 s0) ∧ W'.cell? ⟨w.heap.size + 1, 1, none⟩ = some (.int .i64 s1) ∧ W'.cell? ⟨w.heap.size + 1, 2, none⟩ = some (.int .i64 s2) ∧ W'.cell? ⟨w.heap.size + 1, 3, none⟩ = some (.int .i64 s3) ∧ W'.cell? ⟨w.heap.size + 1 + 1, 0, none⟩ = some (.int .i64 t0) ∧ W'.cell? ⟨w.heap.size + 1 + 1, 1, none⟩ = some (.int .i64 t1) ∧ W'.cell? ⟨w.heap.size + 1 + 1, 2, none⟩ = some (.int .i64 t2) ∧ W'.cell? ⟨w.heap.size + 1 + 1, 3, none⟩ = some (.int .i64 t3) ∧ W'.cell? ⟨w5.heap.size, 0, none⟩ = some (.int .i64 u0) ∧ W'.cell? ⟨w5.heap.size, 1, none⟩ = some (.int .i64 u1) ∧ W'.cell? ⟨w5.heap.size, 2, none⟩ = some (.int .i64 u2) ∧ W'.cell? ⟨w5.heap.size, 3, none⟩ = some (.int .i64 u3)) (by kernel_rfl) ?_ ?_
  · (try dsimp only)
    refine ⟨?_, ?_, ?_, ?_, ?_, ?_, ?_, ?_, ?_, ?_, ?_, ?_, ?_, ?_, ?_, ?_, ?_⟩
    · exact B.drew
    all_goals (simp [go_sem, f0, f1, f2, f3, f4, f5, f6, f7, f8, f9, f10, f11, f12, f13, f14, f15]; done)
  rintro W ⟨B, f0, f1, f2, f3, f4, f5, f6, f7, f8, f9, f10, f11, f12, f13, f14, f15⟩
  refine anyN_take [] (i := 0) (oi := ?o85) (v := ?v85) ?hi85 (by kernel_rfl) (by kernel_rfl) (by kernel_rfl) (by kernel_rfl) (by kernel_rfl) ?hQ85 (Or.inl ⟨?hg85, ?hy85⟩) ⟨f0, f1, f2, f3, f4, f5, f6, f7, f8, f9, f10, f11, f12, f13, f14, f15⟩ ?rest85
  case hi85 => (simp only [List.getElem?_toArray, List.getElem?_cons_zero, List.getElem?_cons_succ]; (first | done | with_reducible rfl))
  case hQ85 => exact fun _ _ _ h => h
  case hg85 => rfl
  case hy85 => (intro w hSw; (try dsimp only at hSw); go_simp; (first | done | (with_reducible rfl)))
  (try simp only [Act.put, List.setIfInBounds_toArray, List.set_cons_zero, List.set_cons_succ])
  refine anyN_take [] (i := 2) (oi := ?o86) (v := ?v86) ?hi86 (by kernel_rfl) (by kernel_rfl) (by kernel_rfl) (by kernel_rfl) (by kernel_rfl) ?hQ86 (Or.inl ⟨?hg86, ?hy86⟩) ⟨f0, f1, f2, f3, f4, f5, f6, f7, f8, f9, f10, f11, f12, f13, f14, f15⟩ ?rest86
  case hi86 => (simp only [List.getElem?_toArray, List.getElem?_cons_zero, List.getElem?_cons_succ]; (first | done | with_reducible rfl))
  case hQ86 => exact fun _ _ _ h => h
  case hg86 => rfl
  case hy86 => (intro w hSw; (try dsimp only at hSw); go_simp; (first | done | (with_reducible rfl)))
  (try simp only [Act.put, List.setIfInBounds_toArray, List.set_cons_zero, List.set_cons_succ])
  refine anyN_ready (rs := [1]) (by kernel_rfl) (by simp) ?_
  refine AllN.cons (o := ?o87) ?hi87 (fun K hK => ?step87) AllN.nil
  case hi87 => (simp only [List.getElem?_toArray, List.getElem?_cons_zero, List.getElem?_cons_succ]; (first | done | with_reducible rfl))
  go_simp
  (go_at_call 22; (with_reducible refine (rect_any _ _ _ _ _).mono ?_); rintro e w1 ⟨rfl, hb⟩; replace f0 := keepc hb f0; replace f1 := keepc hb f1; replace f2 := keepc hb f2; replace f3 := keepc hb f3; replace f4 := keepc hb f4; replace f5 := keepc hb f5; replace f6 := keepc hb f6; replace f7 := keepc hb f7; replace f8 := keepc hb f8; replace f9 := keepc hb f9; replace f10 := keepc hb f10; replace f11 := keepc hb f11; replace f12 := keepc hb f12; replace f13 := keepc hb f13; replace f14 := keepc hb f14; replace f15 := keepc hb f15; replace B := keepb B hb; clear hb)
  refine hK.out _ _ ⟨f0, f1, f2, f3, f4, f5, f6, f7, f8, f9, f10, f11, f12, f13, f14, f15⟩ (fun _ => ?_)
  clear hK K
  (try simp only [Act.put, List.setIfInBounds_toArray, List.set_cons_zero, List.set_cons_succ])
  refine anyN_ready (rs := [3]) (by kernel_rfl) (by simp) ?_
  refine AllN.cons (o := ?o88) ?hi88 (fun K hK => ?step88) AllN.nil
  case hi88 => (simp only [List.getElem?_toArray, List.getElem?_cons_zero, List.getElem?_cons_succ]; (first | done | with_reducible rfl))
  go_simp
  (go_at_call 22; (with_reducible refine (rect_any _ _ _ _ _).mono ?_); rintro e w1 ⟨rfl, hb⟩; replace f0 := keepc hb f0; replace f1 := keepc hb f1; replace f2 := keepc hb f2; replace f3 := keepc hb f3; replace f4 := keepc hb f4; replace f5 := keepc hb f5; replace f6 := keepc hb f6; replace f7 := keepc hb f7; replace f8 := keepc hb f8; replace f9 := keepc hb f9; replace f10 := keepc hb f10; replace f11 := keepc hb f11; replace f12 := keepc hb f12; replace f13 := keepc hb f13; replace f14 := keepc hb f14; replace f15 := keepc hb f15; replace B := keepb B hb; clear hb)
  refine hK.out _ _ ⟨f0, f1, f2, f3, f4, f5, f6, f7, f8, f9, f10, f11, f12, f13, f14, f15⟩ (fun _ => ?_)
  clear hK K
  (try simp only [Act.put, List.setIfInBounds_toArray, List.set_cons_zero, List.set_cons_succ])
  refine anyN_ready (rs := [4]) (by kernel_rfl) (by simp) ?_
  refine AllN.cons (o := ?o89) ?hi89 (fun K hK => ?step89) AllN.nil
  case hi89 => (simp only [List.getElem?_toArray, List.getElem?_cons_zero, List.getElem?_cons_succ]; (first | done | with_reducible rfl))
  go_simp
  (go_at_call 32; (with_reducible refine (inSpec_any _ _ _ _ _ _ _ _ _).mono ?_); rintro e w1 ⟨rfl, hb⟩; replace f0 := keepc hb f0; replace f1 := keepc hb f1; replace f2 := keepc hb f2; replace f3 := keepc hb f3; replace f4 := keepc hb f4; replace f5 := keepc hb f5; replace f6 := keepc hb f6; replace f7 := keepc hb f7; replace f8 := keepc hb f8; replace f9 := keepc hb f9; replace f10 := keepc hb f10; replace f11 := keepc hb f11; replace f12 := keepc hb f12; replace f13 := keepc hb f13; replace f14 := keepc hb f14; replace f15 := keepc hb f15; replace B := keepb B hb; clear hb)
  refine hK.out _ _ ⟨f0, f1, f2, f3, f4, f5, f6, f7, f8, f9, f10, f11, f12, f13, f14, f15⟩ (fun _ => ?_)
  clear hK K
  (try simp only [Act.put, List.setIfInBounds_toArray, List.set_cons_zero, List.set_cons_succ])
  simp only [hru, hsu, hrt, hst]
  refine anyN_take [] (i := 5) (oi := ?o90) (v := ?v90) ?hi90 (by kernel_rfl) (by kernel_rfl) (by kernel_rfl) (by kernel_rfl) (by kernel_rfl) ?hQ90 (Or.inl ⟨?hg90, ?hy90⟩) ⟨f0, f1, f2, f3, f4, f5, f6, f7, f8, f9, f10, f11, f12, f13, f14, f15⟩ ?rest90
  case hi90 => (simp only [List.getElem?_toArray, List.getElem?_cons_zero, List.getElem?_cons_succ]; (first | done | with_reducible rfl))
  case hQ90 => exact fun _ _ _ h => h
  case hg90 => rfl
  case hy90 => (intro w hSw; (try dsimp only at hSw); go_simp; (first | done | (with_reducible rfl)))
  (try simp only [Act.put, List.setIfInBounds_toArray, List.set_cons_zero, List.set_cons_succ])
  refine anyN_take [] (i := 6) (oi := ?o91) (v := ?v91) ?hi91 (by kernel_rfl) (by kernel_rfl) (by kernel_rfl) (by kernel_rfl) (by kernel_rfl) ?hQ91 (Or.inl ⟨?hg91, ?hy91⟩) ⟨f0, f1, f2, f3, f4, f5, f6, f7, f8, f9, f10, f11, f12, f13, f14, f15⟩ ?rest91
  case hi91 => (simp only [List.getElem?_toArray, List.getElem?_cons_zero, List.getElem?_cons_succ]; (first | done | with_reducible rfl))
  case hQ91 => exact fun _ _ _ h => h
  case hg91 => rfl
  case hy91 => (intro w hSw; (try dsimp only at hSw); go_simp; (first | done | (with_reducible rfl)))
  (try simp only [Act.put, List.setIfInBounds_toArray, List.set_cons_zero, List.set_cons_succ])
  refine anyN_take [] (i := 8) (oi := ?o92) (v := ?v92) ?hi92 (by kernel_rfl) (by kernel_rfl) (by kernel_rfl) (by kernel_rfl) (by kernel_rfl) ?hQ92 (Or.inl ⟨?hg92, ?hy92⟩) ⟨f0, f1, f2, f3, f4, f5, f6, f7, f8, f9, f10, f11, f12, f13, f14, f15⟩ ?rest92
  case hi92 => (simp only [List.getElem?_toArray, List.getElem?_cons_zero, List.getElem?_cons_succ]; (first | done | with_reducible rfl))
  case hQ92 => exact fun _ _ _ h => h
  case hg92 => rfl
  case hy92 => (intro w hSw; (try dsimp only at hSw); go_simp; (first | done | (with_reducible rfl)))
  (try simp only [Act.put, List.setIfInBounds_toArray, List.set_cons_zero, List.set_cons_succ])
  refine anyN_ready (rs := [7]) (by kernel_rfl) (by simp) ?_
  refine AllN.cons (o := ?o93) ?hi93 (fun K hK => ?step93) AllN.nil
  case hi93 => (simp only [List.getElem?_toArray, List.getElem?_cons_zero, List.getElem?_cons_succ]; (first | done | with_reducible rfl))
  go_simp
  (go_at_call 22; (with_reducible refine (rect_any _ _ _ _ _).mono ?_); rintro e w1 ⟨rfl, hb⟩; replace f0 := keepc hb f0; replace f1 := keepc hb f1; replace f2 := keepc hb f2; replace f3 := keepc hb f3; replace f4 := keepc hb f4; replace f5 := keepc hb f5; replace f6 := keepc hb f6; replace f7 := keepc hb f7; replace f8 := keepc hb f8; replace f9 := keepc hb f9; replace f10 := keepc hb f10; replace f11 := keepc hb f11; replace f12 := keepc hb f12; replace f13 := keepc hb f13; replace f14 := keepc hb f14; replace f15 := keepc hb f15; replace B := keepb B hb; clear hb)
  refine hK.out _ _ ⟨f0, f1, f2, f3, f4, f5, f6, f7, f8, f9, f10, f11, f12, f13, f14, f15⟩ (fun _ => ?_)
  clear hK K
  (try simp only [Act.put, List.setIfInBounds_toArray, List.set_cons_zero, List.set_cons_succ])
  refine anyN_ready (rs := [9]) (by kernel_rfl) (by simp) ?_
  refine AllN.cons (o := ?o94) ?hi94 (fun K hK => ?step94) AllN.nil
  case hi94 => (simp only [List.getElem?_toArray, List.getElem?_cons_zero, List.getElem?_cons_succ]; (first | done | with_reducible rfl))
  go_simp
  (go_at_call 22; (with_reducible refine (rect_any _ _ _ _ _).mono ?_); rintro e w1 ⟨rfl, hb⟩; replace f0 := keepc hb f0; replace f1 := keepc hb f1; replace f2 := keepc hb f2; replace f3 := keepc hb f3; replace f4 := keepc hb f4; replace f5 := keepc hb f5; replace f6 := keepc hb f6; replace f7 := keepc hb f7; replace f8 := keepc hb f8; replace f9 := keepc hb f9; replace f10 := keepc hb f10; replace f11 := keepc hb f11; replace f12 := keepc hb f12; replace f13 := keepc hb f13; replace f14 := keepc hb f14; replace f15 := keepc hb f15; replace B := keepb B hb; clear hb)
  refine hK.out _ _ ⟨f0, f1, f2, f3, f4, f5, f6, f7, f8, f9, f10, f11, f12, f13, f14, f15⟩ (fun _ => ?_)
  clear hK K
  (try simp only [Act.put, List.setIfInBounds_toArray, List.set_cons_zero, List.set_cons_succ])
  refine anyN_ready (rs := [10]) (by kernel_rfl) (by simp) ?_
  refine AllN.cons (o := ?o95) ?hi95 (fun K hK => ?step95) AllN.nil
  case hi95 => (simp only [List.getElem?_toArray, List.getElem?_cons_zero, List.getElem?_cons_succ]; (first | done | with_reducible rfl))
  go_simp
  (go_at_call 32; (with_reducible refine (inSpec_any _ _ _ _ _ _ _ _ _).mono ?_); rintro e w1 ⟨rfl, hb⟩; replace f0 := keepc hb f0; replace f1 := keepc hb f1; replace f2 := keepc hb f2; replace f3 := keepc hb f3; replace f4 := keepc hb f4; replace f5 := keepc hb f5; replace f6 := keepc hb f6; replace f7 := keepc hb f7; replace f8 := keepc hb f8; replace f9 := keepc hb f9; replace f10 := keepc hb f10; replace f11 := keepc hb f11; replace f12 := keepc hb f12; replace f13 := keepc hb f13; replace f14 := keepc hb f14; replace f15 := keepc hb f15; replace B := keepb B hb; clear hb)
  refine hK.out _ _ ⟨f0, f1, f2, f3, f4, f5, f6, f7, f8, f9, f10, f11, f12, f13, f14, f15⟩ (fun _ => ?_)
  clear hK K
  (try simp only [Act.put, List.setIfInBounds_toArray, List.set_cons_zero, List.set_cons_succ])
  simp only [hru, hsu, hrt, hst]
  refine anyN_take [] (i := 11) (oi := ?o96) (v := ?v96) ?hi96 (by kernel_rfl) (by kernel_rfl) (by kernel_rfl) (by kernel_rfl) (by kernel_rfl) ?hQ96 (Or.inl ⟨?hg96, ?hy96⟩) ⟨f0, f1, f2, f3, f4, f5, f6, f7, f8, f9, f10, f11, f12, f13, f14, f15⟩ ?rest96
  case hi96 => (simp only [List.getElem?_toArray, List.getElem?_cons_zero, List.getElem?_cons_succ]; (first | done | with_reducible rfl))
  case hQ96 => exact fun _ _ _ h => h
  case hg96 => rfl
  case hy96 => (intro w hSw; (try dsimp only at hSw); go_simp; (first | done | (with_reducible rfl)))
  (try simp only [Act.put, List.setIfInBounds_toArray, List.set_cons_zero, List.set_cons_succ])
  refine anyN_take [] (i := 12) (oi := ?o97) (v := ?v97) ?hi97 (by kernel_rfl) (by kernel_rfl) (by kernel_rfl) (by kernel_rfl) (by kernel_rfl) ?hQ97 (Or.inl ⟨?hg97, ?hy97⟩) ⟨f0, f1, f2, f3, f4, f5, f6, f7, f8, f9, f10, f11, f12, f13, f14, f15⟩ ?rest97
  case hi97 => (simp only [List.getElem?_toArray, List.getElem?_cons_zero, List.getElem?_cons_succ]; (first | done | with_reducible rfl))
  case hQ97 => exact fun _ _ _ h => h
  case hg97 => rfl
  case hy97 => (intro w hSw; (try dsimp only at hSw); go_simp; (first | done | (with_reducible rfl)))
  (try simp only [Act.put, List.setIfInBounds_toArray, List.set_cons_zero, List.set_cons_succ])
  refine anyN_take [] (i := 13) (oi := ?o98) (v := ?v98) ?hi98 (by kernel_rfl) (by kernel_rfl) (by kernel_rfl) (by kernel_rfl) (by kernel_rfl) ?hQ98 (Or.inl ⟨?hg98, ?hy98⟩) ⟨f0, f1, f2, f3, f4, f5, f6, f7, f8, f9, f10, f11, f12, f13, f14, f15⟩ ?rest98
  case hi98 => (simp only [List.getElem?_toArray, List.getElem?_cons_zero, List.getElem?_cons_succ]; (first | done | with_reducible rfl))
  case hQ98 => exact fun _ _ _ h => h
  case hg98 => rfl
  case hy98 => (intro w hSw; (try dsimp only at hSw); go_simp; (first | done | (with_reducible rfl)))
  (try simp only [Act.put, List.setIfInBounds_toArray, List.set_cons_zero, List.set_cons_succ])
  refine anyN_take [] (i := 15) (oi := ?o99) (v := ?v99) ?hi99 (by kernel_rfl) (by kernel_rfl) (by kernel_rfl) (by kernel_rfl) (by kernel_rfl) ?hQ99 (Or.inl ⟨?hg99, ?hy99⟩) ⟨f0, f1, f2, f3, f4, f5, f6, f7, f8, f9, f10, f11, f12, f13, f14, f15⟩ ?rest99
  case hi99 => (simp only [List.getElem?_toArray, List.getElem?_cons_zero, List.getElem?_cons_succ]; (first | done | with_reducible rfl))
  case hQ99 => exact fun _ _ _ h => h
  case hg99 => rfl
  case hy99 => (intro w hSw; (try dsimp only at hSw); go_simp; (first | done | (with_reducible rfl)))
  (try simp only [Act.put, List.setIfInBounds_toArray, List.set_cons_zero, List.set_cons_succ])
  refine anyN_ready (rs := [14]) (by kernel_rfl) (by simp) ?_
  refine AllN.cons (o := ?o100) ?hi100 (fun K hK => ?step100) AllN.nil
  case hi100 => (simp only [List.getElem?_toArray, List.getElem?_cons_zero, List.getElem?_cons_succ]; (first | done | with_reducible rfl))
  go_simp
  (go_at_call 22; (with_reducible refine (rect_any _ _ _ _ _).mono ?_); rintro e w1 ⟨rfl, hb⟩; replace f0 := keepc hb f0; replace f1 := keepc hb f1; replace f2 := keepc hb f2; replace f3 := keepc hb f3; replace f4 := keepc hb f4; replace f5 := keepc hb f5; replace f6 := keepc hb f6; replace f7 := keepc hb f7; replace f8 := keepc hb f8; replace f9 := keepc hb f9; replace f10 := keepc hb f10; replace f11 := keepc hb f11; replace f12 := keepc hb f12; replace f13 := keepc hb f13; replace f14 := keepc hb f14; replace f15 := keepc hb f15; replace B := keepb B hb; clear hb)
  refine hK.out _ _ ⟨f0, f1, f2, f3, f4, f5, f6, f7, f8, f9, f10, f11, f12, f13, f14, f15⟩ (fun _ => ?_)
  clear hK K
  (try simp only [Act.put, List.setIfInBounds_toArray, List.set_cons_zero, List.set_cons_succ])
  refine anyN_ready (rs := [16]) (by kernel_rfl) (by simp) ?_
  refine AllN.cons (o := ?o101) ?hi101 (fun K hK => ?step101) AllN.nil
  case hi101 => (simp only [List.getElem?_toArray, List.getElem?_cons_zero, List.getElem?_cons_succ]; (first | done | with_reducible rfl))
  go_simp
  (go_at_call 22; (with_reducible refine (rect_any _ _ _ _ _).mono ?_); rintro e w1 ⟨rfl, hb⟩; replace f0 := keepc hb f0; replace f1 := keepc hb f1; replace f2 := keepc hb f2; replace f3 := keepc hb f3; replace f4 := keepc hb f4; replace f5 := keepc hb f5; replace f6 := keepc hb f6; replace f7 := keepc hb f7; replace f8 := keepc hb f8; replace f9 := keepc hb f9; replace f10 := keepc hb f10; replace f11 := keepc hb f11; replace f12 := keepc hb f12; replace f13 := keepc hb f13; replace f14 := keepc hb f14; replace f15 := keepc hb f15; replace B := keepb B hb; clear hb)
  refine hK.out _ _ ⟨f0, f1, f2, f3, f4, f5, f6, f7, f8, f9, f10, f11, f12, f13, f14, f15⟩ (fun _ => ?_)
  clear hK K
  (try simp only [Act.put, List.setIfInBounds_toArray, List.set_cons_zero, List.set_cons_succ])
  refine anyN_ready (rs := [17]) (by kernel_rfl) (by simp) ?_
  refine AllN.cons (o := ?o102) ?hi102 (fun K hK => ?step102) AllN.nil
  case hi102 => (simp only [List.getElem?_toArray, List.getElem?_cons_zero, List.getElem?_cons_succ]; (first | done | with_reducible rfl))
  go_simp
  (go_at_call 32; (with_reducible refine (inSpec_any _ _ _ _ _ _ _ _ _).mono ?_); rintro e w1 ⟨rfl, hb⟩; replace f0 := keepc hb f0; replace f1 := keepc hb f1; replace f2 := keepc hb f2; replace f3 := keepc hb f3; replace f4 := keepc hb f4; replace f5 := keepc hb f5; replace f6 := keepc hb f6; replace f7 := keepc hb f7; replace f8 := keepc hb f8; replace f9 := keepc hb f9; replace f10 := keepc hb f10; replace f11 := keepc hb f11; replace f12 := keepc hb f12; replace f13 := keepc hb f13; replace f14 := keepc hb f14; replace f15 := keepc hb f15; replace B := keepb B hb; clear hb)
  refine hK.out _ _ ⟨f0, f1, f2, f3, f4, f5, f6, f7, f8, f9, f10, f11, f12, f13, f14, f15⟩ (fun _ => ?_)
  clear hK K
  (try simp only [Act.put, List.setIfInBounds_toArray, List.set_cons_zero, List.set_cons_succ])
  simp only [hru, hsu, hrt, hst]
  refine anyN_take [] (i := 18) (oi := ?o103) (v := ?v103) ?hi103 (by kernel_rfl) (by kernel_rfl) (by kernel_rfl) (by kernel_rfl) (by kernel_rfl) ?hQ103 (Or.inl ⟨?hg103, ?hy103⟩) ⟨f0, f1, f2, f3, f4, f5, f6, f7, f8, f9, f10, f11, f12, f13, f14, f15⟩ ?rest103
  case hi103 => (simp only [List.getElem?_toArray, List.getElem?_cons_zero, List.getElem?_cons_succ]; (first | done | with_reducible rfl))
  case hQ103 => exact fun _ _ _ h => h
  case hg103 => rfl
  case hy103 => (intro w hSw; (try dsimp only at hSw); go_simp; (first | done | (with_reducible rfl)))
  (try simp only [Act.put, List.setIfInBounds_toArray, List.set_cons_zero, List.set_cons_succ])
  refine anyN_take [] (i := 19) (oi := ?o104) (v := ?v104) ?hi104 (by kernel_rfl) (by kernel_rfl) (by kernel_rfl) (by kernel_rfl) (by kernel_rfl) ?hQ104 (Or.inl ⟨?hg104, ?hy104⟩) ⟨f0, f1, f2, f3, f4, f5, f6, f7, f8, f9, f10, f11, f12, f13, f14, f15⟩ ?rest104
  case hi104 => (simp only [List.getElem?_toArray, List.getElem?_cons_zero, List.getElem?_cons_succ]; (first | done | with_reducible rfl))
  case hQ104 => exact fun _ _ _ h => h
  case hg104 => rfl
  case hy104 => (intro w hSw; (try dsimp only at hSw); go_simp; (first | done | (with_reducible rfl)))
  (try simp only [Act.put, List.setIfInBounds_toArray, List.set_cons_zero, List.set_cons_succ])
  refine anyN_take [] (i := 20) (oi := ?o105) (v := ?v105) ?hi105 (by kernel_rfl) (by kernel_rfl) (by kernel_rfl) (by kernel_rfl) (by kernel_rfl) ?hQ105 (Or.inl ⟨?hg105, ?hy105⟩) ⟨f0, f1, f2, f3, f4, f5, f6, f7, f8, f9, f10, f11, f12, f13, f14, f15⟩ ?rest105
  case hi105 => (simp only [List.getElem?_toArray, List.getElem?_cons_zero, List.getElem?_cons_succ]; (first | done | with_reducible rfl))
  case hQ105 => exact fun _ _ _ h => h
  case hg105 => rfl
  case hy105 => (intro w hSw; (try dsimp only at hSw); go_simp; (first | done | (with_reducible rfl)))
  (try simp only [Act.put, List.setIfInBounds_toArray, List.set_cons_zero, List.set_cons_succ])
  refine anyN_take [] (i := 22) (oi := ?o106) (v := ?v106) ?hi106 (by kernel_rfl) (by kernel_rfl) (by kernel_rfl) (by kernel_rfl) (by kernel_rfl) ?hQ106 (Or.inl ⟨?hg106, ?hy106⟩) ⟨f0, f1, f2, f3, f4, f5, f6, f7, f8, f9, f10, f11, f12, f13, f14, f15⟩ ?rest106
  case hi106 => (simp only [List.getElem?_toArray, List.getElem?_cons_zero, List.getElem?_cons_succ]; (first | done | with_reducible rfl))
  case hQ106 => exact fun _ _ _ h => h
  case hg106 => rfl
  case hy106 => (intro w hSw; (try dsimp only at hSw); go_simp; (first | done | (with_reducible rfl)))
  (try simp only [Act.put, List.setIfInBounds_toArray, List.set_cons_zero, List.set_cons_succ])
  refine anyN_ready (rs := [21]) (by kernel_rfl) (by simp) ?_
  refine AllN.cons (o := ?o107) ?hi107 (fun K hK => ?step107) AllN.nil
  case hi107 => (simp only [List.getElem?_toArray, List.getElem?_cons_zero, List.getElem?_cons_succ]; (first | done | with_reducible rfl))
  go_simp
  (go_at_call 22; (with_reducible refine (rect_any _ _ _ _ _).mono ?_); rintro e w1 ⟨rfl, hb⟩; replace f0 := keepc hb f0; replace f1 := keepc hb f1; replace f2 := keepc hb f2; replace f3 := keepc hb f3; replace f4 := keepc hb f4; replace f5 := keepc hb f5; replace f6 := keepc hb f6; replace f7 := keepc hb f7; replace f8 := keepc hb f8; replace f9 := keepc hb f9; replace f10 := keepc hb f10; replace f11 := keepc hb f11; replace f12 := keepc hb f12; replace f13 := keepc hb f13; replace f14 := keepc hb f14; replace f15 := keepc hb f15; replace B := keepb B hb; clear hb)
  refine hK.out _ _ ⟨f0, f1, f2, f3, f4, f5, f6, f7, f8, f9, f10, f11, f12, f13, f14, f15⟩ (fun _ => ?_)
  clear hK K
  (try simp only [Act.put, List.setIfInBounds_toArray, List.set_cons_zero, List.set_cons_succ])
  refine anyN_ready (rs := [23]) (by kernel_rfl) (by simp) ?_
  refine AllN.cons (o := ?o108) ?hi108 (fun K hK => ?step108) AllN.nil
  case hi108 => (simp only [List.getElem?_toArray, List.getElem?_cons_zero, List.getElem?_cons_succ]; (first | done | with_reducible rfl))
  go_simp
  (go_at_call 22; (with_reducible refine (rect_any _ _ _ _ _).mono ?_); rintro e w1 ⟨rfl, hb⟩; replace f0 := keepc hb f0; replace f1 := keepc hb f1; replace f2 := keepc hb f2; replace f3 := keepc hb f3; replace f4 := keepc hb f4; replace f5 := keepc hb f5; replace f6 := keepc hb f6; replace f7 := keepc hb f7; replace f8 := keepc hb f8; replace f9 := keepc hb f9; replace f10 := keepc hb f10; replace f11 := keepc hb f11; replace f12 := keepc hb f12; replace f13 := keepc hb f13; replace f14 := keepc hb f14; replace f15 := keepc hb f15; replace B := keepb B hb; clear hb)
  refine hK.out _ _ ⟨f0, f1, f2, f3, f4, f5, f6, f7, f8, f9, f10, f11, f12, f13, f14, f15⟩ (fun _ => ?_)
  clear hK K
  (try simp only [Act.put, List.setIfInBounds_toArray, List.set_cons_zero, List.set_cons_succ])
  refine anyN_ready (rs := [24]) (by kernel_rfl) (by simp) ?_
  refine AllN.cons (o := ?o109) ?hi109 (fun K hK => ?step109) AllN.nil
  case hi109 => (simp only [List.getElem?_toArray, List.getElem?_cons_zero, List.getElem?_cons_succ]; (first | done | with_reducible rfl))
  go_simp
  (go_at_call 32; (with_reducible refine (inSpec_any _ _ _ _ _ _ _ _ _).mono ?_); rintro e w1 ⟨rfl, hb⟩; replace f0 := keepc hb f0; replace f1 := keepc hb f1; replace f2 := keepc hb f2; replace f3 := keepc hb f3; replace f4 := keepc hb f4; replace f5 := keepc hb f5; replace f6 := keepc hb f6; replace f7 := keepc hb f7; replace f8 := keepc hb f8; replace f9 := keepc hb f9; replace f10 := keepc hb f10; replace f11 := keepc hb f11; replace f12 := keepc hb f12; replace f13 := keepc hb f13; replace f14 := keepc hb f14; replace f15 := keepc hb f15; replace B := keepb B hb; clear hb)
  refine hK.out _ _ ⟨f0, f1, f2, f3, f4, f5, f6, f7, f8, f9, f10, f11, f12, f13, f14, f15⟩ (fun _ => ?_)
  clear hK K
  (try simp only [Act.put, List.setIfInBounds_toArray, List.set_cons_zero, List.set_cons_succ])
  simp only [hru, hsu, hrt, hst]
  refine anyN_take [] (i := 25) (oi := ?o110) (v := ?v110) ?hi110 (by kernel_rfl) (by kernel_rfl) (by kernel_rfl) (by kernel_rfl) (by kernel_rfl) ?hQ110 (Or.inl ⟨?hg110, ?hy110⟩) ⟨f0, f1, f2, f3, f4, f5, f6, f7, f8, f9, f10, f11, f12, f13, f14, f15⟩ ?rest110
  case hi110 => (simp only [List.getElem?_toArray, List.getElem?_cons_zero, List.getElem?_cons_succ]; (first | done | with_reducible rfl))
  case hQ110 => exact fun _ _ _ h => h
  case hg110 => rfl
  case hy110 => (intro w hSw; (try dsimp only at hSw); go_simp; (first | done | (with_reducible rfl)))
  (try simp only [Act.put, List.setIfInBounds_toArray, List.set_cons_zero, List.set_cons_succ])
  refine anyN_take [] (i := 26) (oi := ?o111) (v := ?v111) ?hi111 (by kernel_rfl) (by kernel_rfl) (by kernel_rfl) (by kernel_rfl) (by kernel_rfl) ?hQ111 (Or.inl ⟨?hg111, ?hy111⟩) ⟨f0, f1, f2, f3, f4, f5, f6, f7, f8, f9, f10, f11, f12, f13, f14, f15⟩ ?rest111
  case hi111 => (simp only [List.getElem?_toArray, List.getElem?_cons_zero, List.getElem?_cons_succ]; (first | done | with_reducible rfl))
  case hQ111 => exact fun _ _ _ h => h
  case hg111 => rfl
  case hy111 => (intro w hSw; (try dsimp only at hSw); go_simp; (first | done | (with_reducible rfl)))
  (try simp only [Act.put, List.setIfInBounds_toArray, List.set_cons_zero, List.set_cons_succ])
  refine anyN_take [] (i := 27) (oi := ?o112) (v := ?v112) ?hi112 (by kernel_rfl) (by kernel_rfl) (by kernel_rfl) (by kernel_rfl) (by kernel_rfl) ?hQ112 (Or.inl ⟨?hg112, ?hy112⟩) ⟨f0, f1, f2, f3, f4, f5, f6, f7, f8, f9, f10, f11, f12, f13, f14, f15⟩ ?rest112
  case hi112 => (simp only [List.getElem?_toArray, List.getElem?_cons_zero, List.getElem?_cons_succ]; (first | done | with_reducible rfl))
  case hQ112 => exact fun _ _ _ h => h
  case hg112 => rfl
  case hy112 => (intro w hSw; (try dsimp only at hSw); go_simp; (first | done | (with_reducible rfl)))
  (try simp only [Act.put, List.setIfInBounds_toArray, List.set_cons_zero, List.set_cons_succ])
  refine anyN_take [] (i := 28) (oi := ?o113) (v := undef) ?hi113 (by kernel_rfl) (by kernel_rfl) (by kernel_rfl) (by kernel_rfl) (by kernel_rfl) ?hQ113 (Or.inr ⟨?hg113, rfl⟩) ⟨f0, f1, f2, f3, f4, f5, f6, f7, f8, f9, f10, f11, f12, f13, f14, f15⟩ ?rest113
  case hi113 => (simp only [List.getElem?_toArray, List.getElem?_cons_zero, List.getElem?_cons_succ]; (first | done | with_reducible rfl))
  case hQ113 => exact fun _ _ _ h => h
  case hg113 => rfl
  (try simp only [Act.put, List.setIfInBounds_toArray, List.set_cons_zero, List.set_cons_succ])
  refine anyN_take [] (i := 29) (oi := ?o114) (v := undef) ?hi114 (by kernel_rfl) (by kernel_rfl) (by kernel_rfl) (by kernel_rfl) (by kernel_rfl) ?hQ114 (Or.inr ⟨?hg114, rfl⟩) ⟨f0, f1, f2, f3, f4, f5, f6, f7, f8, f9, f10, f11, f12, f13, f14, f15⟩ ?rest114
  case hi114 => (simp only [List.getElem?_toArray, List.getElem?_cons_zero, List.getElem?_cons_succ]; (first | done | with_reducible rfl))
  case hQ114 => exact fun _ _ _ h => h
  case hg114 => rfl
  (try simp only [Act.put, List.setIfInBounds_toArray, List.set_cons_zero, List.set_cons_succ])
  refine anyN_take [] (i := 30) (oi := ?o115) (v := undef) ?hi115 (by kernel_rfl) (by kernel_rfl) (by kernel_rfl) (by kernel_rfl) (by kernel_rfl) ?hQ115 (Or.inr ⟨?hg115, rfl⟩) ⟨f0, f1, f2, f3, f4, f5, f6, f7, f8, f9, f10, f11, f12, f13, f14, f15⟩ ?rest115
  case hi115 => (simp only [List.getElem?_toArray, List.getElem?_cons_zero, List.getElem?_cons_succ]; (first | done | with_reducible rfl))
  case hQ115 => exact fun _ _ _ h => h
  case hg115 => rfl
  (try simp only [Act.put, List.setIfInBounds_toArray, List.set_cons_zero, List.set_cons_succ])
  refine anyN_take [] (i := 31) (oi := ?o116) (v := undef) ?hi116 (by kernel_rfl) (by kernel_rfl) (by kernel_rfl) (by kernel_rfl) (by kernel_rfl) ?hQ116 (Or.inr ⟨?hg116, rfl⟩) ⟨f0, f1, f2, f3, f4, f5, f6, f7, f8, f9, f10, f11, f12, f13, f14, f15⟩ ?rest116
  case hi116 => (simp only [List.getElem?_toArray, List.getElem?_cons_zero, List.getElem?_cons_succ]; (first | done | with_reducible rfl))
  case hQ116 => exact fun _ _ _ h => h
  case hg116 => rfl
  (try simp only [Act.put, List.setIfInBounds_toArray, List.set_cons_zero, List.set_cons_succ])
  refine anyN_take [] (i := 32) (oi := ?o117) (v := undef) ?hi117 (by kernel_rfl) (by kernel_rfl) (by kernel_rfl) (by kernel_rfl) (by kernel_rfl) ?hQ117 (Or.inr ⟨?hg117, rfl⟩) ⟨f0, f1, f2, f3, f4, f5, f6, f7, f8, f9, f10, f11, f12, f13, f14, f15⟩ ?rest117
  case hi117 => (simp only [List.getElem?_toArray, List.getElem?_cons_zero, List.getElem?_cons_succ]; (first | done | with_reducible rfl))
  case hQ117 => exact fun _ _ _ h => h
  case hg117 => rfl
  (try simp only [Act.put, List.setIfInBounds_toArray, List.set_cons_zero, List.set_cons_succ])
  refine anyN_take [] (i := 33) (oi := ?o118) (v := ?v118) ?hi118 (by kernel_rfl) (by kernel_rfl) (by kernel_rfl) (by kernel_rfl) (by kernel_rfl) ?hQ118 (Or.inl ⟨?hg118, ?hy118⟩) ⟨f0, f1, f2, f3, f4, f5, f6, f7, f8, f9, f10, f11, f12, f13, f14, f15⟩ ?rest118
  case hi118 => (simp only [List.getElem?_toArray, List.getElem?_cons_zero, List.getElem?_cons_succ]; (first | done | with_reducible rfl))
  case hQ118 => exact fun _ _ _ h => h
  case hg118 => rfl
  case hy118 => (intro w hSw; (try dsimp only at hSw); go_simp; (first | done | (with_reducible rfl)))
  (try simp only [Act.put, List.setIfInBounds_toArray, List.set_cons_zero, List.set_cons_succ])
  refine anyN_take [] (i := 34) (oi := ?o119) (v := ?v119) ?hi119 (by kernel_rfl) (by kernel_rfl) (by kernel_rfl) (by kernel_rfl) (by kernel_rfl) ?hQ119 (Or.inl ⟨?hg119, ?hy119⟩) ⟨f0, f1, f2, f3, f4, f5, f6, f7, f8, f9, f10, f11, f12, f13, f14, f15⟩ ?rest119
  case hi119 => (simp only [List.getElem?_toArray, List.getElem?_cons_zero, List.getElem?_cons_succ]; (first | done | with_reducible rfl))
  case hQ119 => exact fun _ _ _ h => h
  case hg119 => rfl
  case hy119 => (intro w hSw; (try dsimp only at hSw); go_simp; (first | done | (with_reducible rfl)))
  (try simp only [Act.put, List.setIfInBounds_toArray, List.set_cons_zero, List.set_cons_succ])
  refine anyN_take [] (i := 35) (oi := ?o120) (v := ?v120) ?hi120 (by kernel_rfl) (by kernel_rfl) (by kernel_rfl) (by kernel_rfl) (by kernel_rfl) ?hQ120 (Or.inl ⟨?hg120, ?hy120⟩) ⟨f0, f1, f2, f3, f4, f5, f6, f7, f8, f9, f10, f11, f12, f13, f14, f15⟩ ?rest120
  case hi120 => (simp only [List.getElem?_toArray, List.getElem?_cons_zero, List.getElem?_cons_succ]; (first | done | with_reducible rfl))
  case hQ120 => exact fun _ _ _ h => h
  case hg120 => rfl
  case hy120 => (intro w hSw; (try dsimp only at hSw); go_simp; (first | done | (with_reducible rfl)))
  (try simp only [Act.put, List.setIfInBounds_toArray, List.set_cons_zero, List.set_cons_succ])
  refine anyN_done (by kernel_rfl) ?_ _
  go_wp2
  go_ret
  exact ⟨rfl, B⟩
set_option maxHeartbeats 4000000 in
theorem way_2 (a0 : Bool) (a1x a1y a1z a1t a2x a2y a2z a2t a3x a3y a3z a3t : Int) (r0 r1 r2 r3 s0 s1 s2 s3 t0 t1 t2 t3 : Int) (u0 u1 u2 u3 : Int) (er0 : cutZ a0 a1x = r0) (kr0 : cutZ a0 r0 = r0) (er1 : cutZ a0 a1y = r1) (kr1 : cutZ a0 r1 = r1) (er2 : cutZ a0 a1z = r2) (kr2 : cutZ a0 r2 = r2) (er3 : cutZ a0 a1t = r3) (kr3 : cutZ a0 r3 = r3) (es0 : cutZ a0 a2x = s0) (ks0 : cutZ a0 s0 = s0) (es1 : cutZ a0 a2y = s1) (ks1 : cutZ a0 s1 = s1) (es2 : cutZ a0 a2z = s2) (ks2 : cutZ a0 s2 = s2) (es3 : cutZ a0 a2t = s3) (ks3 : cutZ a0 s3 = s3) (et0 : cutZ a0 a3x = t0) (kt0 : cutZ a0 t0 = t0) (et1 : cutZ a0 a3y = t1) (kt1 : cutZ a0 t1 = t1) (et2 : cutZ a0 a3z = t2) (kt2 : cutZ a0 t2 = t2) (et3 : cutZ a0 a3t = t3) (kt3 : cutZ a0 t3 = t3) (qu0 : uX0 r0 r1 r2 r3 s0 s1 s2 s3 = u0) (qu1 : uY0 r0 r1 r2 r3 s0 s1 s2 s3 = u1) (qu2 : uX1 r0 r1 r2 r3 s0 s1 s2 s3 = u2) (qu3 : uY1 r0 r1 r2 r3 s0 s1 s2 s3 = u3) (he : emptyB r0 r1 r2 r3 = false) (hf : emptyB s0 s1 s2 s3 = false) (hru : inB r0 r1 r2 r3 u0 u1 u2 u3 = true) (hsu : inB s0 s1 s2 s3 u0 u1 u2 u3 = true) (hrt : inB r0 r1 r2 r3 t0 t1 t2 t3 = true) (hst : inB s0 s1 s2 s3 t0 t1 t2 t3 = true) (hut : inB u0 u1 u2 u3 t0 t1 t2 t3 = true) (w : World) :
    Calls Try.prog 13 #[.bool a0, .agg #[.int .i64 a1x, .int .i64 a1y, .int .i64 a1z, .int .i64 a1t], .agg #[.int .i64 a2x, .int .i64 a2y, .int .i64 a2z, .int .i64 a2t], .agg #[.int .i64 a3x, .int .i64 a3y, .int .i64 a3z, .int .i64 a3t]] w fun e w' => e = .returned (.bool true) ∧ Below w.heap.size w w' := by
  go_enter Try.func13, Try.ntmps13
  go_wp2
  refine region_R (S := (fun W' => W'.cell? ⟨w.heap.size, 0, none⟩ = some (.int .i64 a1x) ∧ W'.cell? ⟨w.heap.size, 1, none⟩ = some (.int .i64 a1y) ∧ W'.cell? ⟨w.heap.size, 2, none⟩ = some (.int .i64 a1z) ∧ W'.cell? ⟨w.heap.size, 3, none⟩ = some (.int .i64 a1t) ∧ W'.cell? ⟨w.heap.size + 1, 0, none⟩ = some (.int .i64 a2x) ∧ W'.cell? ⟨w.heap.size + 1, 1, none⟩ = some (.int .i64 a2y) ∧ W'.cell? ⟨w.heap.size + 1, 2, none⟩ = some (.int .i64 a2z) ∧ W'.cell? ⟨w.heap.size + 1, 3, none⟩ = some (.int .i64 a2t) ∧ W'.cell? ⟨w.heap.size + 1 + 1, 0, none⟩ = some (.int .i64 a3x) ∧ W'.cell? ⟨w.heap.size + 1 + 1, 1, none⟩ = some (.int .i64 a3y) ∧ W'.cell? ⟨w.heap.size + 1 + 1, 2, none⟩ = some (.int .i64 a3z) ∧ W'.cell? ⟨w.heap.size + 1 + 1, 3, none⟩ = some (.int .i64 a3t))) (N := [9, 10, 11]) (fun W' => Below w.heap.size w W' ∧ W'.cell? ⟨w.heap.size, 0, none⟩ = some (.int .i64 a1x) ∧ W'.cell? ⟨w.heap.size, 1, none⟩ = some (.int .i64 a1y) ∧ W'.cell? ⟨w.heap.size, 2, none⟩ = some (.int .i64 a1z) ∧ W'.cell? ⟨w.heap.size, 3, none⟩ = some (.int .i64 a1t) ∧ W'.cell? ⟨w.heap.size + 1, 0, none⟩ = some (.int .i64 a2x) ∧ W'.cell? ⟨w.heap.size + 1, 1, none⟩ = some (.int .i64 a2y) ∧ W'.cell? ⟨w.heap.size + 1, 2, none⟩ = some (.int .i64 a2z) ∧ W'.cell? ⟨w.heap.size + 1, 3, none⟩ = some (.int .i64 a2t) ∧ W'.cell? ⟨w.heap.size + 1 + 1, 0, none⟩ = some (.int .i64 a3x) ∧ W'.cell? ⟨w.heap.size + 1 + 1, 1, none⟩ = some (.int .i64 a3y) ∧ W'.cell? ⟨w.heap.size + 1 + 1, 2, none⟩ = some (.int .i64 a3z) ∧ W'.cell? ⟨w.heap.size + 1 + 1, 3, none⟩ = some (.int .i64 a3t) ∧ W'.frozen? ⟨w.heap.size, 0, none⟩ = false ∧ W'.frozen? ⟨w.heap.size, 1, none⟩ = false ∧ W'.frozen? ⟨w.heap.size, 2, none⟩ = false ∧ W'.frozen? ⟨w.heap.size, 3, none⟩ = false ∧ W'.frozen? ⟨w.heap.size + 1, 0, none⟩ = false ∧ W'.frozen? ⟨w.heap.size + 1, 1, none⟩ = false ∧ W'.frozen? ⟨w.heap.size + 1, 2, none⟩ = false ∧ W'.frozen? ⟨w.heap.size + 1, 3, none⟩ = false ∧ W'.frozen? ⟨w.heap.size + 1 + 1, 0, none⟩ = false ∧ W'.frozen? ⟨w.heap.size + 1 + 1, 1, none⟩ = false ∧ W'.frozen? ⟨w.heap.size + 1 + 1, 2, none⟩ = false ∧ W'.frozen? ⟨w.heap.size + 1 + 1, 3, none⟩ = false) (by kernel_rfl) ?_ ?_
  · (try dsimp only)
    refine ⟨?_, ?_, ?_, ?_, ?_, ?_, ?_, ?_, ?_, ?_, ?_, ?_, ?_, ?_, ?_, ?_, ?_, ?_, ?_, ?_, ?_, ?_, ?_, ?_, ?_⟩
    · repeat (first | (with_reducible exact Below.refl _ _) | (with_reducible apply Below.drew) | (with_reducible refine Below.alloc ?_ (by first | exact Nat.le_refl _ | (simp; done) | (simp; omega)) _))
    all_goals (simp [go_sem]; done)
  rintro W ⟨B, f0, f1, f2, f3, f4, f5, f6, f7, f8, f9, f10, f11, g0, g1, g2, g3, g4, g5, g6, g7, g8, g9, g10, g11⟩
  refine anyN_take [2, 5, 8, 9, 10, 11] (i := 0) (oi := ?o121) (v := ?v121) ?hi121 (by kernel_rfl) (by kernel_rfl) (by kernel_rfl) (by kernel_rfl) (by kernel_rfl) ?hQ121 (Or.inl ⟨?hg121, ?hy121⟩) ⟨f0, f1, f2, f3, f4, f5, f6, f7, f8, f9, f10, f11⟩ ?rest121
  case hi121 => (simp only [List.getElem?_toArray, List.getElem?_cons_zero, List.getElem?_cons_succ]; (first | done | with_reducible rfl))
  case hQ121 => exact fun _ _ _ h => h
  case hg121 => rfl
  case hy121 => (intro w hSw; (try dsimp only at hSw); go_simp; (first | done | (with_reducible rfl)))
  (try simp only [Act.put, List.setIfInBounds_toArray, List.set_cons_zero, List.set_cons_succ])
  refine anyN_take [2, 5, 8, 9, 10, 11] (i := 1) (oi := ?o122) (v := ?v122) ?hi122 (by kernel_rfl) (by kernel_rfl) (by kernel_rfl) (by kernel_rfl) (by kernel_rfl) ?hQ122 (Or.inl ⟨?hg122, ?hy122⟩) ⟨f0, f1, f2, f3, f4, f5, f6, f7, f8, f9, f10, f11⟩ ?rest122
  case hi122 => (simp only [List.getElem?_toArray, List.getElem?_cons_zero, List.getElem?_cons_succ]; (first | done | with_reducible rfl))
  case hQ122 => exact fun _ _ _ h => h
  case hg122 => rfl
  case hy122 => (intro w hSw; (try dsimp only at hSw); go_simp; (first | done | (with_reducible rfl)))
  (try simp only [Act.put, List.setIfInBounds_toArray, List.set_cons_zero, List.set_cons_succ])
  refine anyN_take [5, 8, 9, 10, 11] (i := 3) (oi := ?o123) (v := ?v123) ?hi123 (by kernel_rfl) (by kernel_rfl) (by kernel_rfl) (by kernel_rfl) (by kernel_rfl) ?hQ123 (Or.inl ⟨?hg123, ?hy123⟩) ⟨f0, f1, f2, f3, f4, f5, f6, f7, f8, f9, f10, f11⟩ ?rest123
  case hi123 => (simp only [List.getElem?_toArray, List.getElem?_cons_zero, List.getElem?_cons_succ]; (first | done | with_reducible rfl))
  case hQ123 => exact fun _ _ _ h => h
  case hg123 => rfl
  case hy123 => (intro w hSw; (try dsimp only at hSw); go_simp; (first | done | (with_reducible rfl)))
  (try simp only [Act.put, List.setIfInBounds_toArray, List.set_cons_zero, List.set_cons_succ])
  refine anyN_take [5, 8, 9, 10, 11] (i := 4) (oi := ?o124) (v := ?v124) ?hi124 (by kernel_rfl) (by kernel_rfl) (by kernel_rfl) (by kernel_rfl) (by kernel_rfl) ?hQ124 (Or.inl ⟨?hg124, ?hy124⟩) ⟨f0, f1, f2, f3, f4, f5, f6, f7, f8, f9, f10, f11⟩ ?rest124
  case hi124 => (simp only [List.getElem?_toArray, List.getElem?_cons_zero, List.getElem?_cons_succ]; (first | done | with_reducible rfl))
  case hQ124 => exact fun _ _ _ h => h
  case hg124 => rfl
  case hy124 => (intro w hSw; (try dsimp only at hSw); go_simp; (first | done | (with_reducible rfl)))
  (try simp only [Act.put, List.setIfInBounds_toArray, List.set_cons_zero, List.set_cons_succ])
  refine anyN_take [8, 9, 10, 11] (i := 6) (oi := ?o125) (v := ?v125) ?hi125 (by kernel_rfl) (by kernel_rfl) (by kernel_rfl) (by kernel_rfl) (by kernel_rfl) ?hQ125 (Or.inl ⟨?hg125, ?hy125⟩) ⟨f0, f1, f2, f3, f4, f5, f6, f7, f8, f9, f10, f11⟩ ?rest125
  case hi125 => (simp only [List.getElem?_toArray, List.getElem?_cons_zero, List.getElem?_cons_succ]; (first | done | with_reducible rfl))
  case hQ125 => exact fun _ _ _ h => h
  case hg125 => rfl
  case hy125 => (intro w hSw; (try dsimp only at hSw); go_simp; (first | done | (with_reducible rfl)))
  (try simp only [Act.put, List.setIfInBounds_toArray, List.set_cons_zero, List.set_cons_succ])
  refine anyN_take [8, 9, 10, 11] (i := 7) (oi := ?o126) (v := ?v126) ?hi126 (by kernel_rfl) (by kernel_rfl) (by kernel_rfl) (by kernel_rfl) (by kernel_rfl) ?hQ126 (Or.inl ⟨?hg126, ?hy126⟩) ⟨f0, f1, f2, f3, f4, f5, f6, f7, f8, f9, f10, f11⟩ ?rest126
  case hi126 => (simp only [List.getElem?_toArray, List.getElem?_cons_zero, List.getElem?_cons_succ]; (first | done | with_reducible rfl))
  case hQ126 => exact fun _ _ _ h => h
  case hg126 => rfl
  case hy126 => (intro w hSw; (try dsimp only at hSw); go_simp; (first | done | (with_reducible rfl)))
  (try simp only [Act.put, List.setIfInBounds_toArray, List.set_cons_zero, List.set_cons_succ])
  refine anyN_ready (rs := [2]) (by kernel_rfl) (by simp) ?_
  refine AllN.cons (o := ?o127) ?hi127 (fun K hK => ?step127) AllN.nil
  case hi127 => (simp only [List.getElem?_toArray, List.getElem?_cons_zero, List.getElem?_cons_succ]; (first | done | with_reducible rfl))
  go_simp
  (go_at_call 20; (with_reducible refine (cutR_any _ _ _ _ _ _).mono ?_); rintro e w1 ⟨rfl, hb⟩; replace g0 := keepf hb f0 g0; replace g1 := keepf hb f1 g1; replace g2 := keepf hb f2 g2; replace g3 := keepf hb f3 g3; replace g4 := keepf hb f4 g4; replace g5 := keepf hb f5 g5; replace g6 := keepf hb f6 g6; replace g7 := keepf hb f7 g7; replace g8 := keepf hb f8 g8; replace g9 := keepf hb f9 g9; replace g10 := keepf hb f10 g10; replace g11 := keepf hb f11 g11; replace f0 := keepc hb f0; replace f1 := keepc hb f1; replace f2 := keepc hb f2; replace f3 := keepc hb f3; replace f4 := keepc hb f4; replace f5 := keepc hb f5; replace f6 := keepc hb f6; replace f7 := keepc hb f7; replace f8 := keepc hb f8; replace f9 := keepc hb f9; replace f10 := keepc hb f10; replace f11 := keepc hb f11; replace B := keepb B hb; clear hb)
  refine hK.out _ _ ⟨f0, f1, f2, f3, f4, f5, f6, f7, f8, f9, f10, f11⟩ (fun _ => ?_)
  clear hK K
  (try simp only [Act.put, List.setIfInBounds_toArray, List.set_cons_zero, List.set_cons_succ])
  simp only [er0, er1, er2, er3]
  refine anyN_ready (rs := [5]) (by kernel_rfl) (by simp) ?_
  refine AllN.cons (o := ?o128) ?hi128 (fun K hK => ?step128) AllN.nil
  case hi128 => (simp only [List.getElem?_toArray, List.getElem?_cons_zero, List.getElem?_cons_succ]; (first | done | with_reducible rfl))
  go_simp
  (go_at_call 20; (with_reducible refine (cutR_any _ _ _ _ _ _).mono ?_); rintro e w1 ⟨rfl, hb⟩; replace g0 := keepf hb f0 g0; replace g1 := keepf hb f1 g1; replace g2 := keepf hb f2 g2; replace g3 := keepf hb f3 g3; replace g4 := keepf hb f4 g4; replace g5 := keepf hb f5 g5; replace g6 := keepf hb f6 g6; replace g7 := keepf hb f7 g7; replace g8 := keepf hb f8 g8; replace g9 := keepf hb f9 g9; replace g10 := keepf hb f10 g10; replace g11 := keepf hb f11 g11; replace f0 := keepc hb f0; replace f1 := keepc hb f1; replace f2 := keepc hb f2; replace f3 := keepc hb f3; replace f4 := keepc hb f4; replace f5 := keepc hb f5; replace f6 := keepc hb f6; replace f7 := keepc hb f7; replace f8 := keepc hb f8; replace f9 := keepc hb f9; replace f10 := keepc hb f10; replace f11 := keepc hb f11; replace B := keepb B hb; clear hb)
  refine hK.out _ _ ⟨f0, f1, f2, f3, f4, f5, f6, f7, f8, f9, f10, f11⟩ (fun _ => ?_)
  clear hK K
  (try simp only [Act.put, List.setIfInBounds_toArray, List.set_cons_zero, List.set_cons_succ])
  simp only [es0, es1, es2, es3]
  refine anyN_ready (rs := [8]) (by kernel_rfl) (by simp) ?_
  refine AllN.cons (o := ?o129) ?hi129 (fun K hK => ?step129) AllN.nil
  case hi129 => (simp only [List.getElem?_toArray, List.getElem?_cons_zero, List.getElem?_cons_succ]; (first | done | with_reducible rfl))
  go_simp
  (go_at_call 20; (with_reducible refine (cutR_any _ _ _ _ _ _).mono ?_); rintro e w1 ⟨rfl, hb⟩; replace g0 := keepf hb f0 g0; replace g1 := keepf hb f1 g1; replace g2 := keepf hb f2 g2; replace g3 := keepf hb f3 g3; replace g4 := keepf hb f4 g4; replace g5 := keepf hb f5 g5; replace g6 := keepf hb f6 g6; replace g7 := keepf hb f7 g7; replace g8 := keepf hb f8 g8; replace g9 := keepf hb f9 g9; replace g10 := keepf hb f10 g10; replace g11 := keepf hb f11 g11; replace f0 := keepc hb f0; replace f1 := keepc hb f1; replace f2 := keepc hb f2; replace f3 := keepc hb f3; replace f4 := keepc hb f4; replace f5 := keepc hb f5; replace f6 := keepc hb f6; replace f7 := keepc hb f7; replace f8 := keepc hb f8; replace f9 := keepc hb f9; replace f10 := keepc hb f10; replace f11 := keepc hb f11; replace B := keepb B hb; clear hb)
  refine hK.out _ _ ⟨f0, f1, f2, f3, f4, f5, f6, f7, f8, f9, f10, f11⟩ (fun _ => ?_)
  clear hK K
  (try simp only [Act.put, List.setIfInBounds_toArray, List.set_cons_zero, List.set_cons_succ])
  simp only [et0, et1, et2, et3]
  refine anyN_ready (rs := [9]) (by kernel_rfl) (by simp) ?_
  refine AllN.last (o := ?o130) ?hi130 (by simp) (fun K hK => ?step130) AllN.nil
  case hi130 => (simp only [List.getElem?_toArray, List.getElem?_cons_zero, List.getElem?_cons_succ]; (first | done | with_reducible rfl))
  go_simp
  refine named (K := K) (fun W' => Below w.heap.size w W' ∧ W'.cell? ⟨w.heap.size, 0, none⟩ = some (.int .i64 r0) ∧ W'.cell? ⟨w.heap.size, 1, none⟩ = some (.int .i64 r1) ∧ W'.cell? ⟨w.heap.size, 2, none⟩ = some (.int .i64 r2) ∧ W'.cell? ⟨w.heap.size, 3, none⟩ = some (.int .i64 r3) ∧ W'.cell? ⟨w.heap.size + 1, 0, none⟩ = some (.int .i64 a2x) ∧ W'.cell? ⟨w.heap.size + 1, 1, none⟩ = some (.int .i64 a2y) ∧ W'.cell? ⟨w.heap.size + 1, 2, none⟩ = some (.int .i64 a2z) ∧ W'.cell? ⟨w.heap.size + 1, 3, none⟩ = some (.int .i64 a2t) ∧ W'.cell? ⟨w.heap.size + 1 + 1, 0, none⟩ = some (.int .i64 a3x) ∧ W'.cell? ⟨w.heap.size + 1 + 1, 1, none⟩ = some (.int .i64 a3y) ∧ W'.cell? ⟨w.heap.size + 1 + 1, 2, none⟩ = some (.int .i64 a3z) ∧ W'.cell? ⟨w.heap.size + 1 + 1, 3, none⟩ = some (.int .i64 a3t) ∧ W'.frozen? ⟨w.heap.size + 1, 0, none⟩ = false ∧ W'.frozen? ⟨w.heap.size + 1, 1, none⟩ = false ∧ W'.frozen? ⟨w.heap.size + 1, 2, none⟩ = false ∧ W'.frozen? ⟨w.heap.size + 1, 3, none⟩ = false ∧ W'.frozen? ⟨w.heap.size + 1 + 1, 0, none⟩ = false ∧ W'.frozen? ⟨w.heap.size + 1 + 1, 1, none⟩ = false ∧ W'.frozen? ⟨w.heap.size + 1 + 1, 2, none⟩ = false ∧ W'.frozen? ⟨w.heap.size + 1 + 1, 3, none⟩ = false) ?_ ?_
  · (try dsimp only)
    refine ⟨?_, ?_, ?_, ?_, ?_, ?_, ?_, ?_, ?_, ?_, ?_, ?_, ?_, ?_, ?_, ?_, ?_, ?_, ?_, ?_, ?_⟩
    · repeat (first | (with_reducible exact B) | (with_reducible exact Below.refl _ _) | (with_reducible apply Below.drew) | (with_reducible refine Below.setCell ?_ (by first | (simp; done) | (simp; omega)) _) | (with_reducible refine Below.alloc ?_ (by first | exact Nat.le_refl _ | (simp; done) | (simp; omega)) _))
    all_goals (first | (simp [go_sem]; done) | (simp [go_sem, f0, f1, f2, f3, f4, f5, f6, f7, f8, f9, f10, f11, g0, g1, g2, g3, g4, g5, g6, g7, g8, g9, g10, g11]; done))
  rintro W ⟨B, f0, f1, f2, f3, f4, f5, f6, f7, f8, f9, f10, f11, g4, g5, g6, g7, g8, g9, g10, g11⟩
  refine hK.out _ _ ?_
  clear hK K
  (try simp only [Act.put, List.setIfInBounds_toArray, List.set_cons_zero, List.set_cons_succ])
  refine anyN_ready (rs := [10]) (by kernel_rfl) (by simp) ?_
  refine AllN.last (o := ?o131) ?hi131 (by simp) (fun K hK => ?step131) AllN.nil
  case hi131 => (simp only [List.getElem?_toArray, List.getElem?_cons_zero, List.getElem?_cons_succ]; (first | done | with_reducible rfl))
  go_simp
  refine named (K := K) (fun W' => Below w.heap.size w W' ∧ W'.cell? ⟨w.heap.size, 0, none⟩ = some (.int .i64 r0) ∧ W'.cell? ⟨w.heap.size, 1, none⟩ = some (.int .i64 r1) ∧ W'.cell? ⟨w.heap.size, 2, none⟩ = some (.int .i64 r2) ∧ W'.cell? ⟨w.heap.size, 3, none⟩ = some (.int .i64 r3) ∧ W'.cell? ⟨w.heap.size + 1, 0, none⟩ = some (.int .i64 s0) ∧ W'.cell? ⟨w.heap.size + 1, 1, none⟩ = some (.int .i64 s1) ∧ W'.cell? ⟨w.heap.size + 1, 2, none⟩ = some (.int .i64 s2) ∧ W'.cell? ⟨w.heap.size + 1, 3, none⟩ = some (.int .i64 s3) ∧ W'.cell? ⟨w.heap.size + 1 + 1, 0, none⟩ = some (.int .i64 a3x) ∧ W'.cell? ⟨w.heap.size + 1 + 1, 1, none⟩ = some (.int .i64 a3y) ∧ W'.cell? ⟨w.heap.size + 1 + 1, 2, none⟩ = some (.int .i64 a3z) ∧ W'.cell? ⟨w.heap.size + 1 + 1, 3, none⟩ = some (.int .i64 a3t) ∧ W'.frozen? ⟨w.heap.size + 1 + 1, 0, none⟩ = false ∧ W'.frozen? ⟨w.heap.size + 1 + 1, 1, none⟩ = false ∧ W'.frozen? ⟨w.heap.size + 1 + 1, 2, none⟩ = false ∧ W'.frozen? ⟨w.heap.size + 1 + 1, 3, none⟩ = false) ?_ ?_
  · (try dsimp only)
    refine ⟨?_, ?_, ?_, ?_, ?_, ?_, ?_, ?_, ?_, ?_, ?_, ?_, ?_, ?_, ?_, ?_, ?_⟩
    · repeat (first | (with_reducible exact B) | (with_reducible exact Below.refl _ _) | (with_reducible apply Below.drew) | (with_reducible refine Below.setCell ?_ (by first | (simp; done) | (simp; omega)) _) | (with_reducible refine Below.alloc ?_ (by first | exact Nat.le_refl _ | (simp; done) | (simp; omega)) _))
    all_goals (first | (simp [go_sem]; done) | (simp [go_sem, f0, f1, f2, f3, f4, f5, f6, f7, f8, f9, f10, f11, g4, g5, g6, g7, g8, g9, g10, g11]; done))
  rintro W ⟨B, f0, f1, f2, f3, f4, f5, f6, f7, f8, f9, f10, f11, g8, g9, g10, g11⟩
  refine hK.out _ _ ?_
  clear hK K
  (try simp only [Act.put, List.setIfInBounds_toArray, List.set_cons_zero, List.set_cons_succ])
  refine anyN_ready (rs := [11]) (by kernel_rfl) (by simp) ?_
  refine AllN.last (o := ?o132) ?hi132 (by simp) (fun K hK => ?step132) AllN.nil
  case hi132 => (simp only [List.getElem?_toArray, List.getElem?_cons_zero, List.getElem?_cons_succ]; (first | done | with_reducible rfl))
  go_simp
  refine named (K := K) (fun W' => Below w.heap.size w W' ∧ W'.cell? ⟨w.heap.size, 0, none⟩ = some (.int .i64 r0) ∧ W'.cell? ⟨w.heap.size, 1, none⟩ = some (.int .i64 r1) ∧ W'.cell? ⟨w.heap.size, 2, none⟩ = some (.int .i64 r2) ∧ W'.cell? ⟨w.heap.size, 3, none⟩ = some (.int .i64 r3) ∧ W'.cell? ⟨w.heap.size + 1, 0, none⟩ = some (.int .i64 s0) ∧ W'.cell? ⟨w.heap.size + 1, 1, none⟩ = some (.int .i64 s1) ∧ W'.cell? ⟨w.heap.size + 1, 2, none⟩ = some (.int .i64 s2) ∧ W'.cell? ⟨w.heap.size + 1, 3, none⟩ = some (.int .i64 s3) ∧ W'.cell? ⟨w.heap.size + 1 + 1, 0, none⟩ = some (.int .i64 t0) ∧ W'.cell? ⟨w.heap.size + 1 + 1, 1, none⟩ = some (.int .i64 t1) ∧ W'.cell? ⟨w.heap.size + 1 + 1, 2, none⟩ = some (.int .i64 t2) ∧ W'.cell? ⟨w.heap.size + 1 + 1, 3, none⟩ = some (.int .i64 t3)) ?_ ?_
  · (try dsimp only)
    refine ⟨?_, ?_, ?_, ?_, ?_, ?_, ?_, ?_, ?_, ?_, ?_, ?_, ?_⟩
    · repeat (first | (with_reducible exact B) | (with_reducible exact Below.refl _ _) | (with_reducible apply Below.drew) | (with_reducible refine Below.setCell ?_ (by first | (simp; done) | (simp; omega)) _) | (with_reducible refine Below.alloc ?_ (by first | exact Nat.le_refl _ | (simp; done) | (simp; omega)) _))
    all_goals (first | (simp [go_sem]; done) | (simp [go_sem, f0, f1, f2, f3, f4, f5, f6, f7, f8, f9, f10, f11, g8, g9, g10, g11]; done))
  rintro W ⟨B, f0, f1, f2, f3, f4, f5, f6, f7, f8, f9, f10, f11⟩
  refine hK.out _ _ ?_
  clear hK K
  (try simp only [Act.put, List.setIfInBounds_toArray, List.set_cons_zero, List.set_cons_succ])
  refine anyN_done (by kernel_rfl) ?_ _
  go_upto_region 3 with (go_at_call 17; (with_reducible refine (iUnio_any _ _ _ _ _ _ _ _ _ _).mono ?_); rintro e w5 ⟨rfl, hb⟩; replace f0 := keepc hb f0; replace f1 := keepc hb f1; replace f2 := keepc hb f2; replace f3 := keepc hb f3; replace f4 := keepc hb f4; replace f5 := keepc hb f5; replace f6 := keepc hb f6; replace f7 := keepc hb f7; replace f8 := keepc hb f8; replace f9 := keepc hb f9; replace f10 := keepc hb f10; replace f11 := keepc hb f11; replace B := keepb B hb; clear hb)
  refine wp_named (fun W' => Below w.heap.size w W' ∧ W'.cell? ⟨w.heap.size, 0, none⟩ = some (.int .i64 r0) ∧ W'.cell? ⟨w.heap.size, 1, none⟩ = some (.int .i64 r1) ∧ W'.cell? ⟨w.heap.size, 2, none⟩ = some (.int .i64 r2) ∧ W'.cell? ⟨w.heap.size, 3, none⟩ = some (.int .i64 r3) ∧ W'.cell? ⟨w.heap.size + 1, 0, none⟩ = some (.int .i64 s0) ∧ W'.cell? ⟨w.heap.size + 1, 1, none⟩ = some (.int .i64 s1) ∧ W'.cell? ⟨w.heap.size + 1, 2, none⟩ = some (.int .i64 s2) ∧ W'.cell? ⟨w.heap.size + 1, 3, none⟩ = some (.int .i64 s3) ∧ W'.cell? ⟨w.heap.size + 1 + 1, 0, none⟩ = some (.int .i64 t0) ∧ W'.cell? ⟨w.heap.size + 1 + 1, 1, none⟩ = some (.int .i64 t1) ∧ W'.cell? ⟨w.heap.size + 1 + 1, 2, none⟩ = some (.int .i64 t2) ∧ W'.cell? ⟨w.heap.size + 1 + 1, 3, none⟩ = some (.int .i64 t3) ∧ W'.cell? ⟨w5.heap.size, 0, none⟩ = some (.int .i64 u0) ∧ W'.cell? ⟨w5.heap.size, 1, none⟩ = some (.int .i64 u1) ∧ W'.cell? ⟨w5.heap.size, 2, none⟩ = some (.int .i64 u2) ∧ W'.cell? ⟨w5.heap.size, 3, none⟩ = some (.int .i64 u3)) ?_ ?_
  · (try dsimp only)
    refine ⟨?_, ?_, ?_, ?_, ?_, ?_, ?_, ?_, ?_, ?_, ?_, ?_, ?_, ?_, ?_, ?_, ?_⟩
    · exact B.alloc B.size _
    all_goals (first | (with_reducible refine keepA _ ?_; with_reducible assumption) | (simp [go_sem]; done))
  rintro W ⟨B, f0, f1, f2, f3, f4, f5, f6, f7, f8, f9, f10, f11, f12, f13, f14, f15⟩
  go_wp2_with (first | (go_at_call 22; (with_reducible refine (rect_any _ _ _ _ _).mono ?_); rintro e w6 ⟨rfl, hb⟩; replace f0 := keepc hb f0; replace f1 := keepc hb f1; replace f2 := keepc hb f2; replace f3 := keepc hb f3; replace f4 := keepc hb f4; replace f5 := keepc hb f5; replace f6 := keepc hb f6; replace f7 := keepc hb f7; replace f8 := keepc hb f8; replace f9 := keepc hb f9; replace f10 := keepc hb f10; replace f11 := keepc hb f11; replace f12 := keepc hb f12; replace f13 := keepc hb f13; replace f14 := keepc hb f14; replace f15 := keepc hb f15; replace B := keepb B hb; clear hb) | (go_at_call 21; (with_reducible refine (emptySpec_any _ _ _ _ _).mono ?_); rintro e w6 ⟨rfl, hb⟩; replace f0 := keepc hb f0; replace f1 := keepc hb f1; replace f2 := keepc hb f2; replace f3 := keepc hb f3; replace f4 := keepc hb f4; replace f5 := keepc hb f5; replace f6 := keepc hb f6; replace f7 := keepc hb f7; replace f8 := keepc hb f8; replace f9 := keepc hb f9; replace f10 := keepc hb f10; replace f11 := keepc hb f11; replace f12 := keepc hb f12; replace f13 := keepc hb f13; replace f14 := keepc hb f14; replace f15 := keepc hb f15; replace B := keepb B hb; clear hb))
  refine region_R (S := (fun W' => W'.cell? ⟨w.heap.size, 0, none⟩ = some (.int .i64 r0) ∧ W'.cell? ⟨w.heap.size, 1, none⟩ = some (.int .i64 r1) ∧ W'.cell? ⟨w.heap.size, 2, none⟩ = some (.int .i64 r2) ∧ W'.cell? ⟨w.heap.size, 3, none⟩ = some (.int .i64 r3) ∧ W'.cell? ⟨w.heap.size + 1, 0, none⟩ = some (.int .i64 s0) ∧ W'.cell? ⟨w.heap.size + 1, 1, none⟩ = some (.int .i64 s1) ∧ W'.cell? ⟨w.heap.size + 1, 2, none⟩ = some (.int .i64 s2) ∧ W'.cell? ⟨w.heap.size + 1, 3, none⟩ = some (.int .i64 s3) ∧ W'.cell? ⟨w.heap.size + 1 + 1, 0, none⟩ = some (.int .i64 t0) ∧ W'.cell? ⟨w.heap.size + 1 + 1, 1, none⟩ = some (.int .i64 t1) ∧ W'.cell? ⟨w.heap.size + 1 + 1, 2, none⟩ = some (.int .i64 t2) ∧ W'.cell? ⟨w.heap.size + 1 + 1, 3, none⟩ = some (.int .i64 t3) ∧ W'.cell? ⟨w5.heap.size, 0, none⟩ = some (.int .i64 u0) ∧ W'.cell? ⟨w5.heap.size, 1, none⟩ = some (.int .i64 u1) ∧ W'.cell? ⟨w5.heap.size, 2, none⟩ = some (.int .i64 u2) ∧ W'.cell? ⟨w5.heap.size, 3, none⟩ = some (.int .i64 u3))) (N := []) (fun W' => Below w.heap.size w W' ∧ W'.cell? ⟨w.heap.size, 0, none⟩ = some (.int .i64 r0) ∧ W'.cell? ⟨w.heap.size, 1, none⟩ = some (.int .i64 r1) ∧ W'.cell? ⟨w.heap.size, 2, none⟩ = some (.int .i64 r2) ∧ W'.cell? ⟨w.heap.size, 3, none⟩ = some (.int .i64 r3) ∧ W'.cell? ⟨w.heap.size + 1, 0, none⟩ = some (.int .i64 s0) ∧ W'.cell? ⟨w.heap.size + 1, 1, none⟩ = some (.int .i64 s1) ∧ W'.cell? ⟨w.heap.size + 1, 2, none⟩ = some (.int .i64 s2) ∧ W'.cell? ⟨w.heap.size + 1, 3, none⟩ = some (.int .i64 s3) ∧ W'.cell? ⟨w.heap.size + 1 + 1, 0, none⟩ = some (.int .i64 t0) ∧ W'.cell? ⟨w.heap.size + 1 + 1, 1, none⟩ = some (.int .i64 t1) ∧ W'.cell? ⟨w.heap.size + 1 + 1, 2, none⟩ = some (.int .i64 t2) ∧ W'.cell? ⟨w.heap.size + 1 + 1, 3, none⟩ = some (.int .i64 t3) ∧ W'.cell? ⟨w5.heap.size, 0, none⟩ = some (.int .i64 u0) ∧ W'.cell? ⟨w5.heap.size, 1, none⟩ = some (.int .i64 u1) ∧ W'.cell? ⟨w5.heap.size, 2, none⟩ = some (.int .i64 u2) ∧ W'.cell? ⟨w5.heap.size, 3, none⟩ = some (.int .i64 u3)) (by kernel_rfl) ?_ ?_
  · (try dsimp only)
    refine ⟨?_, ?_, ?_, ?_, ?_, ?_, ?_, ?_, ?_, ?_, ?_, ?_, ?_, ?_, ?_, ?_, ?_⟩
    · exact B.drew
    all_goals (simp [go_sem, f0, f1, f2, f3, f4, f5, f6, f7, f8, f9, f10, f11, f12, f13, f14, f15]; done)
  rintro W ⟨B, f0, f1, f2, f3, f4, f5, f6, f7, f8, f9, f10, f11, f12, f13, f14, f15⟩
  refine anyN_take [] (i := 0) (oi := ?o133) (v := ?v133) ?hi133 (by kernel_rfl) (by kernel_rfl) (by kernel_rfl) (by kernel_rfl) (by kernel_rfl) ?hQ133 (Or.inl ⟨?hg133, ?hy133⟩) ⟨f0, f1, f2, f3, f4, f5, f6, f7, f8, f9, f10, f11, f12, f13, f14, f15⟩ ?rest133
  case hi133 => (simp only [List.getElem?_toArray, List.getElem?_cons_zero, List.getElem?_cons_succ]; (first | done | with_reducible rfl))
  case hQ133 => exact fun _ _ _ h => h
  case hg133 => rfl
  case hy133 => (intro w hSw; (try dsimp only at hSw); go_simp; (first | done | (with_reducible rfl)))
  (try simp only [Act.put, List.setIfInBounds_toArray, List.set_cons_zero, List.set_cons_succ])
  refine anyN_take [] (i := 2) (oi := ?o134) (v := ?v134) ?hi134 (by kernel_rfl) (by kernel_rfl) (by kernel_rfl) (by kernel_rfl) (by kernel_rfl) ?hQ134 (Or.inl ⟨?hg134, ?hy134⟩) ⟨f0, f1, f2, f3, f4, f5, f6, f7, f8, f9, f10, f11, f12, f13, f14, f15⟩ ?rest134
  case hi134 => (simp only [List.getElem?_toArray, List.getElem?_cons_zero, List.getElem?_cons_succ]; (first | done | with_reducible rfl))
  case hQ134 => exact fun _ _ _ h => h
  case hg134 => rfl
  case hy134 => (intro w hSw; (try dsimp only at hSw); go_simp; (first | done | (with_reducible rfl)))
  (try simp only [Act.put, List.setIfInBounds_toArray, List.set_cons_zero, List.set_cons_succ])
  refine anyN_ready (rs := [1]) (by kernel_rfl) (by simp) ?_
  refine AllN.cons (o := ?o135) ?hi135 (fun K hK => ?step135) AllN.nil
  case hi135 => (simp only [List.getElem?_toArray, List.getElem?_cons_zero, List.getElem?_cons_succ]; (first | done | with_reducible rfl))
  go_simp
  (go_at_call 22; (with_reducible refine (rect_any _ _ _ _ _).mono ?_); rintro e w1 ⟨rfl, hb⟩; replace f0 := keepc hb f0; replace f1 := keepc hb f1; replace f2 := keepc hb f2; replace f3 := keepc hb f3; replace f4 := keepc hb f4; replace f5 := keepc hb f5; replace f6 := keepc hb f6; replace f7 := keepc hb f7; replace f8 := keepc hb f8; replace f9 := keepc hb f9; replace f10 := keepc hb f10; replace f11 := keepc hb f11; replace f12 := keepc hb f12; replace f13 := keepc hb f13; replace f14 := keepc hb f14; replace f15 := keepc hb f15; replace B := keepb B hb; clear hb)
  refine hK.out _ _ ⟨f0, f1, f2, f3, f4, f5, f6, f7, f8, f9, f10, f11, f12, f13, f14, f15⟩ (fun _ => ?_)
  clear hK K
  (try simp only [Act.put, List.setIfInBounds_toArray, List.set_cons_zero, List.set_cons_succ])
  refine anyN_ready (rs := [3]) (by kernel_rfl) (by simp) ?_
  refine AllN.cons (o := ?o136) ?hi136 (fun K hK => ?step136) AllN.nil
  case hi136 => (simp only [List.getElem?_toArray, List.getElem?_cons_zero, List.getElem?_cons_succ]; (first | done | with_reducible rfl))
  go_simp
  (go_at_call 22; (with_reducible refine (rect_any _ _ _ _ _).mono ?_); rintro e w1 ⟨rfl, hb⟩; replace f0 := keepc hb f0; replace f1 := keepc hb f1; replace f2 := keepc hb f2; replace f3 := keepc hb f3; replace f4 := keepc hb f4; replace f5 := keepc hb f5; replace f6 := keepc hb f6; replace f7 := keepc hb f7; replace f8 := keepc hb f8; replace f9 := keepc hb f9; replace f10 := keepc hb f10; replace f11 := keepc hb f11; replace f12 := keepc hb f12; replace f13 := keepc hb f13; replace f14 := keepc hb f14; replace f15 := keepc hb f15; replace B := keepb B hb; clear hb)
  refine hK.out _ _ ⟨f0, f1, f2, f3, f4, f5, f6, f7, f8, f9, f10, f11, f12, f13, f14, f15⟩ (fun _ => ?_)
  clear hK K
  (try simp only [Act.put, List.setIfInBounds_toArray, List.set_cons_zero, List.set_cons_succ])
  refine anyN_ready (rs := [4]) (by kernel_rfl) (by simp) ?_
  refine AllN.cons (o := ?o137) ?hi137 (fun K hK => ?step137) AllN.nil
  case hi137 => (simp only [List.getElem?_toArray, List.getElem?_cons_zero, List.getElem?_cons_succ]; (first | done | with_reducible rfl))
  go_simp
  (go_at_call 32; (with_reducible refine (inSpec_any _ _ _ _ _ _ _ _ _).mono ?_); rintro e w1 ⟨rfl, hb⟩; replace f0 := keepc hb f0; replace f1 := keepc hb f1; replace f2 := keepc hb f2; replace f3 := keepc hb f3; replace f4 := keepc hb f4; replace f5 := keepc hb f5; replace f6 := keepc hb f6; replace f7 := keepc hb f7; replace f8 := keepc hb f8; replace f9 := keepc hb f9; replace f10 := keepc hb f10; replace f11 := keepc hb f11; replace f12 := keepc hb f12; replace f13 := keepc hb f13; replace f14 := keepc hb f14; replace f15 := keepc hb f15; replace B := keepb B hb; clear hb)
  refine hK.out _ _ ⟨f0, f1, f2, f3, f4, f5, f6, f7, f8, f9, f10, f11, f12, f13, f14, f15⟩ (fun _ => ?_)
  clear hK K
  (try simp only [Act.put, List.setIfInBounds_toArray, List.set_cons_zero, List.set_cons_succ])
  simp only [hru, hsu, hrt, hst, hut]
  refine anyN_take [] (i := 5) (oi := ?o138) (v := ?v138) ?hi138 (by kernel_rfl) (by kernel_rfl) (by kernel_rfl) (by kernel_rfl) (by kernel_rfl) ?hQ138 (Or.inl ⟨?hg138, ?hy138⟩) ⟨f0, f1, f2, f3, f4, f5, f6, f7, f8, f9, f10, f11, f12, f13, f14, f15⟩ ?rest138
  case hi138 => (simp only [List.getElem?_toArray, List.getElem?_cons_zero, List.getElem?_cons_succ]; (first | done | with_reducible rfl))
  case hQ138 => exact fun _ _ _ h => h
  case hg138 => rfl
  case hy138 => (intro w hSw; (try dsimp only at hSw); go_simp; (first | done | (with_reducible rfl)))
  (try simp only [Act.put, List.setIfInBounds_toArray, List.set_cons_zero, List.set_cons_succ])
  refine anyN_take [] (i := 6) (oi := ?o139) (v := ?v139) ?hi139 (by kernel_rfl) (by kernel_rfl) (by kernel_rfl) (by kernel_rfl) (by kernel_rfl) ?hQ139 (Or.inl ⟨?hg139, ?hy139⟩) ⟨f0, f1, f2, f3, f4, f5, f6, f7, f8, f9, f10, f11, f12, f13, f14, f15⟩ ?rest139
  case hi139 => (simp only [List.getElem?_toArray, List.getElem?_cons_zero, List.getElem?_cons_succ]; (first | done | with_reducible rfl))
  case hQ139 => exact fun _ _ _ h => h
  case hg139 => rfl
  case hy139 => (intro w hSw; (try dsimp only at hSw); go_simp; (first | done | (with_reducible rfl)))
  (try simp only [Act.put, List.setIfInBounds_toArray, List.set_cons_zero, List.set_cons_succ])
  refine anyN_take [] (i := 8) (oi := ?o140) (v := ?v140) ?hi140 (by kernel_rfl) (by kernel_rfl) (by kernel_rfl) (by kernel_rfl) (by kernel_rfl) ?hQ140 (Or.inl ⟨?hg140, ?hy140⟩) ⟨f0, f1, f2, f3, f4, f5, f6, f7, f8, f9, f10, f11, f12, f13, f14, f15⟩ ?rest140
  case hi140 => (simp only [List.getElem?_toArray, List.getElem?_cons_zero, List.getElem?_cons_succ]; (first | done | with_reducible rfl))
  case hQ140 => exact fun _ _ _ h => h
  case hg140 => rfl
  case hy140 => (intro w hSw; (try dsimp only at hSw); go_simp; (first | done | (with_reducible rfl)))
  (try simp only [Act.put, List.setIfInBounds_toArray, List.set_cons_zero, List.set_cons_succ])
  refine anyN_ready (rs := [7]) (by kernel_rfl) (by simp) ?_
  refine AllN.cons (o := ?o141) ?hi141 (fun K hK => ?step141) AllN.nil
  case hi141 => (simp only [List.getElem?_toArray, List.getElem?_cons_zero, List.getElem?_cons_succ]; (first | done | with_reducible rfl))
  go_simp
  (go_at_call 22; (with_reducible refine (rect_any _ _ _ _ _).mono ?_); rintro e w1 ⟨rfl, hb⟩; replace f0 := keepc hb f0; replace f1 := keepc hb f1; replace f2 := keepc hb f2; replace f3 := keepc hb f3; replace f4 := keepc hb f4; replace f5 := keepc hb f5; replace f6 := keepc hb f6; replace f7 := keepc hb f7; replace f8 := keepc hb f8; replace f9 := keepc hb f9; replace f10 := keepc hb f10; replace f11 := keepc hb f11; replace f12 := keepc hb f12; replace f13 := keepc hb f13; replace f14 := keepc hb f14; replace f15 := keepc hb f15; replace B := keepb B hb; clear hb)
  refine hK.out _ _ ⟨f0, f1, f2, f3, f4, f5, f6, f7, f8, f9, f10, f11, f12, f13, f14, f15⟩ (fun _ => ?_)
  clear hK K
  (try simp only [Act.put, List.setIfInBounds_toArray, List.set_cons_zero, List.set_cons_succ])
  refine anyN_ready (rs := [9]) (by kernel_rfl) (by simp) ?_
  refine AllN.cons (o := ?o142) ?hi142 (fun K hK => ?step142) AllN.nil
  case hi142 => (simp only [List.getElem?_toArray, List.getElem?_cons_zero, List.getElem?_cons_succ]; (first | done | with_reducible rfl))
  go_simp
  (go_at_call 22; (with_reducible refine (rect_any _ _ _ _ _).mono ?_); rintro e w1 ⟨rfl, hb⟩; replace f0 := keepc hb f0; replace f1 := keepc hb f1; replace f2 := keepc hb f2; replace f3 := keepc hb f3; replace f4 := keepc hb f4; replace f5 := keepc hb f5; replace f6 := keepc hb f6; replace f7 := keepc hb f7; replace f8 := keepc hb f8; replace f9 := keepc hb f9; replace f10 := keepc hb f10; replace f11 := keepc hb f11; replace f12 := keepc hb f12; replace f13 := keepc hb f13; replace f14 := keepc hb f14; replace f15 := keepc hb f15; replace B := keepb B hb; clear hb)
  refine hK.out _ _ ⟨f0, f1, f2, f3, f4, f5, f6, f7, f8, f9, f10, f11, f12, f13, f14, f15⟩ (fun _ => ?_)
  clear hK K
  (try simp only [Act.put, List.setIfInBounds_toArray, List.set_cons_zero, List.set_cons_succ])
  refine anyN_ready (rs := [10]) (by kernel_rfl) (by simp) ?_
  refine AllN.cons (o := ?o143) ?hi143 (fun K hK => ?step143) AllN.nil
  case hi143 => (simp only [List.getElem?_toArray, List.getElem?_cons_zero, List.getElem?_cons_succ]; (first | done | with_reducible rfl))
  go_simp
  (go_at_call 32; (with_reducible refine (inSpec_any _ _ _ _ _ _ _ _ _).mono ?_); rintro e w1 ⟨rfl, hb⟩; replace f0 := keepc hb f0; replace f1 := keepc hb f1; replace f2 := keepc hb f2; replace f3 := keepc hb f3; replace f4 := keepc hb f4; replace f5 := keepc hb f5; replace f6 := keepc hb f6; replace f7 := keepc hb f7; replace f8 := keepc hb f8; replace f9 := keepc hb f9; replace f10 := keepc hb f10; replace f11 := keepc hb f11; replace f12 := keepc hb f12; replace f13 := keepc hb f13; replace f14 := keepc hb f14; replace f15 := keepc hb f15; replace B := keepb B hb; clear hb)
  refine hK.out _ _ ⟨f0, f1, f2, f3, f4, f5, f6, f7, f8, f9, f10, f11, f12, f13, f14, f15⟩ (fun _ => ?_)
  clear hK K
  (try simp only [Act.put, List.setIfInBounds_toArray, List.set_cons_zero, List.set_cons_succ])
  simp only [hru, hsu, hrt, hst, hut]
  refine anyN_take [] (i := 11) (oi := ?o144) (v := ?v144) ?hi144 (by kernel_rfl) (by kernel_rfl) (by kernel_rfl) (by kernel_rfl) (by kernel_rfl) ?hQ144 (Or.inl ⟨?hg144, ?hy144⟩) ⟨f0, f1, f2, f3, f4, f5, f6, f7, f8, f9, f10, f11, f12, f13, f14, f15⟩ ?rest144
  case hi144 => (simp only [List.getElem?_toArray, List.getElem?_cons_zero, List.getElem?_cons_succ]; (first | done | with_reducible rfl))
  case hQ144 => exact fun _ _ _ h => h
  case hg144 => rfl
  case hy144 => (intro w hSw; (try dsimp only at hSw); go_simp; (first | done | (with_reducible rfl)))
  (try simp only [Act.put, List.setIfInBounds_toArray, List.set_cons_zero, List.set_cons_succ])
  refine anyN_take [] (i := 12) (oi := ?o145) (v := ?v145) ?hi145 (by kernel_rfl) (by kernel_rfl) (by kernel_rfl) (by kernel_rfl) (by kernel_rfl) ?hQ145 (Or.inl ⟨?hg145, ?hy145⟩) ⟨f0, f1, f2, f3, f4, f5, f6, f7, f8, f9, f10, f11, f12, f13, f14, f15⟩ ?rest145
  case hi145 => (simp only [List.getElem?_toArray, List.getElem?_cons_zero, List.getElem?_cons_succ]; (first | done | with_reducible rfl))
  case hQ145 => exact fun _ _ _ h => h
  case hg145 => rfl
  case hy145 => (intro w hSw; (try dsimp only at hSw); go_simp; (first | done | (with_reducible rfl)))
  (try simp only [Act.put, List.setIfInBounds_toArray, List.set_cons_zero, List.set_cons_succ])
  refine anyN_take [] (i := 13) (oi := ?o146) (v := ?v146) ?hi146 (by kernel_rfl) (by kernel_rfl) (by kernel_rfl) (by kernel_rfl) (by kernel_rfl) ?hQ146 (Or.inl ⟨?hg146, ?hy146⟩) ⟨f0, f1, f2, f3, f4, f5, f6, f7, f8, f9, f10, f11, f12, f13, f14, f15⟩ ?rest146
  case hi146 => (simp only [List.getElem?_toArray, List.getElem?_cons_zero, List.getElem?_cons_succ]; (first | done | with_reducible rfl))
  case hQ146 => exact fun _ _ _ h => h
  case hg146 => rfl
  case hy146 => (intro w hSw; (try dsimp only at hSw); go_simp; (first | done | (with_reducible rfl)))
  (try simp only [Act.put, List.setIfInBounds_toArray, List.set_cons_zero, List.set_cons_succ])
  refine anyN_take [] (i := 15) (oi := ?o147) (v := ?v147) ?hi147 (by kernel_rfl) (by kernel_rfl) (by kernel_rfl) (by kernel_rfl) (by kernel_rfl) ?hQ147 (Or.inl ⟨?hg147, ?hy147⟩) ⟨f0, f1, f2, f3, f4, f5, f6, f7, f8, f9, f10, f11, f12, f13, f14, f15⟩ ?rest147
  case hi147 => (simp only [List.getElem?_toArray, List.getElem?_cons_zero, List.getElem?_cons_succ]; (first | done | with_reducible rfl))
  case hQ147 => exact fun _ _ _ h => h
  case hg147 => rfl
  case hy147 => (intro w hSw; (try dsimp only at hSw); go_simp; (first | done | (with_reducible rfl)))
  (try simp only [Act.put, List.setIfInBounds_toArray, List.set_cons_zero, List.set_cons_succ])
  refine anyN_ready (rs := [14]) (by kernel_rfl) (by simp) ?_
  refine AllN.cons (o := ?o148) ?hi148 (fun K hK => ?step148) AllN.nil
  case hi148 => (simp only [List.getElem?_toArray, List.getElem?_cons_zero, List.getElem?_cons_succ]; (first | done | with_reducible rfl))
  go_simp
  (go_at_call 22; (with_reducible refine (rect_any _ _ _ _ _).mono ?_); rintro e w1 ⟨rfl, hb⟩; replace f0 := keepc hb f0; replace f1 := keepc hb f1; replace f2 := keepc hb f2; replace f3 := keepc hb f3; replace f4 := keepc hb f4; replace f5 := keepc hb f5; replace f6 := keepc hb f6; replace f7 := keepc hb f7; replace f8 := keepc hb f8; replace f9 := keepc hb f9; replace f10 := keepc hb f10; replace f11 := keepc hb f11; replace f12 := keepc hb f12; replace f13 := keepc hb f13; replace f14 := keepc hb f14; replace f15 := keepc hb f15; replace B := keepb B hb; clear hb)
  refine hK.out _ _ ⟨f0, f1, f2, f3, f4, f5, f6, f7, f8, f9, f10, f11, f12, f13, f14, f15⟩ (fun _ => ?_)
  clear hK K
  (try simp only [Act.put, List.setIfInBounds_toArray, List.set_cons_zero, List.set_cons_succ])
  refine anyN_ready (rs := [16]) (by kernel_rfl) (by simp) ?_
  refine AllN.cons (o := ?o149) ?hi149 (fun K hK => ?step149) AllN.nil
  case hi149 => (simp only [List.getElem?_toArray, List.getElem?_cons_zero, List.getElem?_cons_succ]; (first | done | with_reducible rfl))
  go_simp
  (go_at_call 22; (with_reducible refine (rect_any _ _ _ _ _).mono ?_); rintro e w1 ⟨rfl, hb⟩; replace f0 := keepc hb f0; replace f1 := keepc hb f1; replace f2 := keepc hb f2; replace f3 := keepc hb f3; replace f4 := keepc hb f4; replace f5 := keepc hb f5; replace f6 := keepc hb f6; replace f7 := keepc hb f7; replace f8 := keepc hb f8; replace f9 := keepc hb f9; replace f10 := keepc hb f10; replace f11 := keepc hb f11; replace f12 := keepc hb f12; replace f13 := keepc hb f13; replace f14 := keepc hb f14; replace f15 := keepc hb f15; replace B := keepb B hb; clear hb)
  refine hK.out _ _ ⟨f0, f1, f2, f3, f4, f5, f6, f7, f8, f9, f10, f11, f12, f13, f14, f15⟩ (fun _ => ?_)
  clear hK K
  (try simp only [Act.put, List.setIfInBounds_toArray, List.set_cons_zero, List.set_cons_succ])
  refine anyN_ready (rs := [17]) (by kernel_rfl) (by simp) ?_
  refine AllN.cons (o := ?o150) ?hi150 (fun K hK => ?step150) AllN.nil
  case hi150 => (simp only [List.getElem?_toArray, List.getElem?_cons_zero, List.getElem?_cons_succ]; (first | done | with_reducible rfl))
  go_simp
  (go_at_call 32; (with_reducible refine (inSpec_any _ _ _ _ _ _ _ _ _).mono ?_); rintro e w1 ⟨rfl, hb⟩; replace f0 := keepc hb f0; replace f1 := keepc hb f1; replace f2 := keepc hb f2; replace f3 := keepc hb f3; replace f4 := keepc hb f4; replace f5 := keepc hb f5; replace f6 := keepc hb f6; replace f7 := keepc hb f7; replace f8 := keepc hb f8; replace f9 := keepc hb f9; replace f10 := keepc hb f10; replace f11 := keepc hb f11; replace f12 := keepc hb f12; replace f13 := keepc hb f13; replace f14 := keepc hb f14; replace f15 := keepc hb f15; replace B := keepb B hb; clear hb)
  refine hK.out _ _ ⟨f0, f1, f2, f3, f4, f5, f6, f7, f8, f9, f10, f11, f12, f13, f14, f15⟩ (fun _ => ?_)
  clear hK K
  (try simp only [Act.put, List.setIfInBounds_toArray, List.set_cons_zero, List.set_cons_succ])
  simp only [hru, hsu, hrt, hst, hut]
  refine anyN_take [] (i := 18) (oi := ?o151) (v := ?v151) ?hi151 (by kernel_rfl) (by kernel_rfl) (by kernel_rfl) (by kernel_rfl) (by kernel_rfl) ?hQ151 (Or.inl ⟨?hg151, ?hy151⟩) ⟨f0, f1, f2, f3, f4, f5, f6, f7, f8, f9, f10, f11, f12, f13, f14, f15⟩ ?rest151
  case hi151 => (simp only [List.getElem?_toArray, List.getElem?_cons_zero, List.getElem?_cons_succ]; (first | done | with_reducible rfl))
  case hQ151 => exact fun _ _ _ h => h
  case hg151 => rfl
  case hy151 => (intro w hSw; (try dsimp only at hSw); go_simp; (first | done | (with_reducible rfl)))
  (try simp only [Act.put, List.setIfInBounds_toArray, List.set_cons_zero, List.set_cons_succ])
  refine anyN_take [] (i := 19) (oi := ?o152) (v := ?v152) ?hi152 (by kernel_rfl) (by kernel_rfl) (by kernel_rfl) (by kernel_rfl) (by kernel_rfl) ?hQ152 (Or.inl ⟨?hg152, ?hy152⟩) ⟨f0, f1, f2, f3, f4, f5, f6, f7, f8, f9, f10, f11, f12, f13, f14, f15⟩ ?rest152
  case hi152 => (simp only [List.getElem?_toArray, List.getElem?_cons_zero, List.getElem?_cons_succ]; (first | done | with_reducible rfl))
  case hQ152 => exact fun _ _ _ h => h
  case hg152 => rfl
  case hy152 => (intro w hSw; (try dsimp only at hSw); go_simp; (first | done | (with_reducible rfl)))
  (try simp only [Act.put, List.setIfInBounds_toArray, List.set_cons_zero, List.set_cons_succ])
  refine anyN_take [] (i := 20) (oi := ?o153) (v := ?v153) ?hi153 (by kernel_rfl) (by kernel_rfl) (by kernel_rfl) (by kernel_rfl) (by kernel_rfl) ?hQ153 (Or.inl ⟨?hg153, ?hy153⟩) ⟨f0, f1, f2, f3, f4, f5, f6, f7, f8, f9, f10, f11, f12, f13, f14, f15⟩ ?rest153
  case hi153 => (simp only [List.getElem?_toArray, List.getElem?_cons_zero, List.getElem?_cons_succ]; (first | done | with_reducible rfl))
  case hQ153 => exact fun _ _ _ h => h
  case hg153 => rfl
  case hy153 => (intro w hSw; (try dsimp only at hSw); go_simp; (first | done | (with_reducible rfl)))
  (try simp only [Act.put, List.setIfInBounds_toArray, List.set_cons_zero, List.set_cons_succ])
  refine anyN_take [] (i := 22) (oi := ?o154) (v := ?v154) ?hi154 (by kernel_rfl) (by kernel_rfl) (by kernel_rfl) (by kernel_rfl) (by kernel_rfl) ?hQ154 (Or.inl ⟨?hg154, ?hy154⟩) ⟨f0, f1, f2, f3, f4, f5, f6, f7, f8, f9, f10, f11, f12, f13, f14, f15⟩ ?rest154
  case hi154 => (simp only [List.getElem?_toArray, List.getElem?_cons_zero, List.getElem?_cons_succ]; (first | done | with_reducible rfl))
  case hQ154 => exact fun _ _ _ h => h
  case hg154 => rfl
  case hy154 => (intro w hSw; (try dsimp only at hSw); go_simp; (first | done | (with_reducible rfl)))
  (try simp only [Act.put, List.setIfInBounds_toArray, List.set_cons_zero, List.set_cons_succ])
  refine anyN_ready (rs := [21]) (by kernel_rfl) (by simp) ?_
  refine AllN.cons (o := ?o155) ?hi155 (fun K hK => ?step155) AllN.nil
  case hi155 => (simp only [List.getElem?_toArray, List.getElem?_cons_zero, List.getElem?_cons_succ]; (first | done | with_reducible rfl))
  go_simp
  (go_at_call 22; (with_reducible refine (rect_any _ _ _ _ _).mono ?_); rintro e w1 ⟨rfl, hb⟩; replace f0 := keepc hb f0; replace f1 := keepc hb f1; replace f2 := keepc hb f2; replace f3 := keepc hb f3; replace f4 := keepc hb f4; replace f5 := keepc hb f5; replace f6 := keepc hb f6; replace f7 := keepc hb f7; replace f8 := keepc hb f8; replace f9 := keepc hb f9; replace f10 := keepc hb f10; replace f11 := keepc hb f11; replace f12 := keepc hb f12; replace f13 := keepc hb f13; replace f14 := keepc hb f14; replace f15 := keepc hb f15; replace B := keepb B hb; clear hb)
  refine hK.out _ _ ⟨f0, f1, f2, f3, f4, f5, f6, f7, f8, f9, f10, f11, f12, f13, f14, f15⟩ (fun _ => ?_)
  clear hK K
  (try simp only [Act.put, List.setIfInBounds_toArray, List.set_cons_zero, List.set_cons_succ])
  refine anyN_ready (rs := [23]) (by kernel_rfl) (by simp) ?_
  refine AllN.cons (o := ?o156) ?hi156 (fun K hK => ?step156) AllN.nil
  case hi156 => (simp only [List.getElem?_toArray, List.getElem?_cons_zero, List.getElem?_cons_succ]; (first | done | with_reducible rfl))
  go_simp
  (go_at_call 22; (with_reducible refine (rect_any _ _ _ _ _).mono ?_); rintro e w1 ⟨rfl, hb⟩; replace f0 := keepc hb f0; replace f1 := keepc hb f1; replace f2 := keepc hb f2; replace f3 := keepc hb f3; replace f4 := keepc hb f4; replace f5 := keepc hb f5; replace f6 := keepc hb f6; replace f7 := keepc hb f7; replace f8 := keepc hb f8; replace f9 := keepc hb f9; replace f10 := keepc hb f10; replace f11 := keepc hb f11; replace f12 := keepc hb f12; replace f13 := keepc hb f13; replace f14 := keepc hb f14; replace f15 := keepc hb f15; replace B := keepb B hb; clear hb)
  refine hK.out _ _ ⟨f0, f1, f2, f3, f4, f5, f6, f7, f8, f9, f10, f11, f12, f13, f14, f15⟩ (fun _ => ?_)
  clear hK K
  (try simp only [Act.put, List.setIfInBounds_toArray, List.set_cons_zero, List.set_cons_succ])
  refine anyN_ready (rs := [24]) (by kernel_rfl) (by simp) ?_
  refine AllN.cons (o := ?o157) ?hi157 (fun K hK => ?step157) AllN.nil
  case hi157 => (simp only [List.getElem?_toArray, List.getElem?_cons_zero, List.getElem?_cons_succ]; (first | done | with_reducible rfl))
  go_simp
  (go_at_call 32; (with_reducible refine (inSpec_any _ _ _ _ _ _ _ _ _).mono ?_); rintro e w1 ⟨rfl, hb⟩; replace f0 := keepc hb f0; replace f1 := keepc hb f1; replace f2 := keepc hb f2; replace f3 := keepc hb f3; replace f4 := keepc hb f4; replace f5 := keepc hb f5; replace f6 := keepc hb f6; replace f7 := keepc hb f7; replace f8 := keepc hb f8; replace f9 := keepc hb f9; replace f10 := keepc hb f10; replace f11 := keepc hb f11; replace f12 := keepc hb f12; replace f13 := keepc hb f13; replace f14 := keepc hb f14; replace f15 := keepc hb f15; replace B := keepb B hb; clear hb)
  refine hK.out _ _ ⟨f0, f1, f2, f3, f4, f5, f6, f7, f8, f9, f10, f11, f12, f13, f14, f15⟩ (fun _ => ?_)
  clear hK K
  (try simp only [Act.put, List.setIfInBounds_toArray, List.set_cons_zero, List.set_cons_succ])
  simp only [hru, hsu, hrt, hst, hut]
  refine anyN_take [] (i := 25) (oi := ?o158) (v := ?v158) ?hi158 (by kernel_rfl) (by kernel_rfl) (by kernel_rfl) (by kernel_rfl) (by kernel_rfl) ?hQ158 (Or.inl ⟨?hg158, ?hy158⟩) ⟨f0, f1, f2, f3, f4, f5, f6, f7, f8, f9, f10, f11, f12, f13, f14, f15⟩ ?rest158
  case hi158 => (simp only [List.getElem?_toArray, List.getElem?_cons_zero, List.getElem?_cons_succ]; (first | done | with_reducible rfl))
  case hQ158 => exact fun _ _ _ h => h
  case hg158 => rfl
  case hy158 => (intro w hSw; (try dsimp only at hSw); go_simp; (first | done | (with_reducible rfl)))
  (try simp only [Act.put, List.setIfInBounds_toArray, List.set_cons_zero, List.set_cons_succ])
  refine anyN_take [] (i := 26) (oi := ?o159) (v := ?v159) ?hi159 (by kernel_rfl) (by kernel_rfl) (by kernel_rfl) (by kernel_rfl) (by kernel_rfl) ?hQ159 (Or.inl ⟨?hg159, ?hy159⟩) ⟨f0, f1, f2, f3, f4, f5, f6, f7, f8, f9, f10, f11, f12, f13, f14, f15⟩ ?rest159
  case hi159 => (simp only [List.getElem?_toArray, List.getElem?_cons_zero, List.getElem?_cons_succ]; (first | done | with_reducible rfl))
  case hQ159 => exact fun _ _ _ h => h
  case hg159 => rfl
  case hy159 => (intro w hSw; (try dsimp only at hSw); go_simp; (first | done | (with_reducible rfl)))
  (try simp only [Act.put, List.setIfInBounds_toArray, List.set_cons_zero, List.set_cons_succ])
  refine anyN_take [] (i := 27) (oi := ?o160) (v := ?v160) ?hi160 (by kernel_rfl) (by kernel_rfl) (by kernel_rfl) (by kernel_rfl) (by kernel_rfl) ?hQ160 (Or.inl ⟨?hg160, ?hy160⟩) ⟨f0, f1, f2, f3, f4, f5, f6, f7, f8, f9, f10, f11, f12, f13, f14, f15⟩ ?rest160
  case hi160 => (simp only [List.getElem?_toArray, List.getElem?_cons_zero, List.getElem?_cons_succ]; (first | done | with_reducible rfl))
  case hQ160 => exact fun _ _ _ h => h
  case hg160 => rfl
  case hy160 => (intro w hSw; (try dsimp only at hSw); go_simp; (first | done | (with_reducible rfl)))
  (try simp only [Act.put, List.setIfInBounds_toArray, List.set_cons_zero, List.set_cons_succ])
  refine anyN_take [] (i := 28) (oi := ?o161) (v := ?v161) ?hi161 (by kernel_rfl) (by kernel_rfl) (by kernel_rfl) (by kernel_rfl) (by kernel_rfl) ?hQ161 (Or.inl ⟨?hg161, ?hy161⟩) ⟨f0, f1, f2, f3, f4, f5, f6, f7, f8, f9, f10, f11, f12, f13, f14, f15⟩ ?rest161
  case hi161 => (simp only [List.getElem?_toArray, List.getElem?_cons_zero, List.getElem?_cons_succ]; (first | done | with_reducible rfl))
  case hQ161 => exact fun _ _ _ h => h
  case hg161 => rfl
  case hy161 => (intro w hSw; (try dsimp only at hSw); go_simp; (first | done | (with_reducible rfl)))
  (try simp only [Act.put, List.setIfInBounds_toArray, List.set_cons_zero, List.set_cons_succ])
  refine anyN_take [] (i := 30) (oi := ?o162) (v := ?v162) ?hi162 (by kernel_rfl) (by kernel_rfl) (by kernel_rfl) (by kernel_rfl) (by kernel_rfl) ?hQ162 (Or.inl ⟨?hg162, ?hy162⟩) ⟨f0, f1, f2, f3, f4, f5, f6, f7, f8, f9, f10, f11, f12, f13, f14, f15⟩ ?rest162
  case hi162 => (simp only [List.getElem?_toArray, List.getElem?_cons_zero, List.getElem?_cons_succ]; (first | done | with_reducible rfl))
  case hQ162 => exact fun _ _ _ h => h
  case hg162 => rfl
  case hy162 => (intro w hSw; (try dsimp only at hSw); go_simp; (first | done | (with_reducible rfl)))
  (try simp only [Act.put, List.setIfInBounds_toArray, List.set_cons_zero, List.set_cons_succ])
  refine anyN_ready (rs := [29]) (by kernel_rfl) (by simp) ?_
  refine AllN.cons (o := ?o163) ?hi163 (fun K hK => ?step163) AllN.nil
  case hi163 => (simp only [List.getElem?_toArray, List.getElem?_cons_zero, List.getElem?_cons_succ]; (first | done | with_reducible rfl))
  go_simp
  (go_at_call 22; (with_reducible refine (rect_any _ _ _ _ _).mono ?_); rintro e w1 ⟨rfl, hb⟩; replace f0 := keepc hb f0; replace f1 := keepc hb f1; replace f2 := keepc hb f2; replace f3 := keepc hb f3; replace f4 := keepc hb f4; replace f5 := keepc hb f5; replace f6 := keepc hb f6; replace f7 := keepc hb f7; replace f8 := keepc hb f8; replace f9 := keepc hb f9; replace f10 := keepc hb f10; replace f11 := keepc hb f11; replace f12 := keepc hb f12; replace f13 := keepc hb f13; replace f14 := keepc hb f14; replace f15 := keepc hb f15; replace B := keepb B hb; clear hb)
  refine hK.out _ _ ⟨f0, f1, f2, f3, f4, f5, f6, f7, f8, f9, f10, f11, f12, f13, f14, f15⟩ (fun _ => ?_)
  clear hK K
  (try simp only [Act.put, List.setIfInBounds_toArray, List.set_cons_zero, List.set_cons_succ])
  refine anyN_ready (rs := [31]) (by kernel_rfl) (by simp) ?_
  refine AllN.cons (o := ?o164) ?hi164 (fun K hK => ?step164) AllN.nil
  case hi164 => (simp only [List.getElem?_toArray, List.getElem?_cons_zero, List.getElem?_cons_succ]; (first | done | with_reducible rfl))
  go_simp
  (go_at_call 22; (with_reducible refine (rect_any _ _ _ _ _).mono ?_); rintro e w1 ⟨rfl, hb⟩; replace f0 := keepc hb f0; replace f1 := keepc hb f1; replace f2 := keepc hb f2; replace f3 := keepc hb f3; replace f4 := keepc hb f4; replace f5 := keepc hb f5; replace f6 := keepc hb f6; replace f7 := keepc hb f7; replace f8 := keepc hb f8; replace f9 := keepc hb f9; replace f10 := keepc hb f10; replace f11 := keepc hb f11; replace f12 := keepc hb f12; replace f13 := keepc hb f13; replace f14 := keepc hb f14; replace f15 := keepc hb f15; replace B := keepb B hb; clear hb)
  refine hK.out _ _ ⟨f0, f1, f2, f3, f4, f5, f6, f7, f8, f9, f10, f11, f12, f13, f14, f15⟩ (fun _ => ?_)
  clear hK K
  (try simp only [Act.put, List.setIfInBounds_toArray, List.set_cons_zero, List.set_cons_succ])
  refine anyN_ready (rs := [32]) (by kernel_rfl) (by simp) ?_
  refine AllN.cons (o := ?o165) ?hi165 (fun K hK => ?step165) AllN.nil
  case hi165 => (simp only [List.getElem?_toArray, List.getElem?_cons_zero, List.getElem?_cons_succ]; (first | done | with_reducible rfl))
  go_simp
  (go_at_call 32; (with_reducible refine (inSpec_any _ _ _ _ _ _ _ _ _).mono ?_); rintro e w1 ⟨rfl, hb⟩; replace f0 := keepc hb f0; replace f1 := keepc hb f1; replace f2 := keepc hb f2; replace f3 := keepc hb f3; replace f4 := keepc hb f4; replace f5 := keepc hb f5; replace f6 := keepc hb f6; replace f7 := keepc hb f7; replace f8 := keepc hb f8; replace f9 := keepc hb f9; replace f10 := keepc hb f10; replace f11 := keepc hb f11; replace f12 := keepc hb f12; replace f13 := keepc hb f13; replace f14 := keepc hb f14; replace f15 := keepc hb f15; replace B := keepb B hb; clear hb)
  refine hK.out _ _ ⟨f0, f1, f2, f3, f4, f5, f6, f7, f8, f9, f10, f11, f12, f13, f14, f15⟩ (fun _ => ?_)
  clear hK K
  (try simp only [Act.put, List.setIfInBounds_toArray, List.set_cons_zero, List.set_cons_succ])
  simp only [hru, hsu, hrt, hst, hut]
  refine anyN_take [] (i := 33) (oi := ?o166) (v := ?v166) ?hi166 (by kernel_rfl) (by kernel_rfl) (by kernel_rfl) (by kernel_rfl) (by kernel_rfl) ?hQ166 (Or.inl ⟨?hg166, ?hy166⟩) ⟨f0, f1, f2, f3, f4, f5, f6, f7, f8, f9, f10, f11, f12, f13, f14, f15⟩ ?rest166
  case hi166 => (simp only [List.getElem?_toArray, List.getElem?_cons_zero, List.getElem?_cons_succ]; (first | done | with_reducible rfl))
  case hQ166 => exact fun _ _ _ h => h
  case hg166 => rfl
  case hy166 => (intro w hSw; (try dsimp only at hSw); go_simp; (first | done | (with_reducible rfl)))
  (try simp only [Act.put, List.setIfInBounds_toArray, List.set_cons_zero, List.set_cons_succ])
  refine anyN_take [] (i := 34) (oi := ?o167) (v := ?v167) ?hi167 (by kernel_rfl) (by kernel_rfl) (by kernel_rfl) (by kernel_rfl) (by kernel_rfl) ?hQ167 (Or.inl ⟨?hg167, ?hy167⟩) ⟨f0, f1, f2, f3, f4, f5, f6, f7, f8, f9, f10, f11, f12, f13, f14, f15⟩ ?rest167
  case hi167 => (simp only [List.getElem?_toArray, List.getElem?_cons_zero, List.getElem?_cons_succ]; (first | done | with_reducible rfl))
  case hQ167 => exact fun _ _ _ h => h
  case hg167 => rfl
  case hy167 => (intro w hSw; (try dsimp only at hSw); go_simp; (first | done | (with_reducible rfl)))
  (try simp only [Act.put, List.setIfInBounds_toArray, List.set_cons_zero, List.set_cons_succ])
  refine anyN_take [] (i := 35) (oi := ?o168) (v := ?v168) ?hi168 (by kernel_rfl) (by kernel_rfl) (by kernel_rfl) (by kernel_rfl) (by kernel_rfl) ?hQ168 (Or.inl ⟨?hg168, ?hy168⟩) ⟨f0, f1, f2, f3, f4, f5, f6, f7, f8, f9, f10, f11, f12, f13, f14, f15⟩ ?rest168
  case hi168 => (simp only [List.getElem?_toArray, List.getElem?_cons_zero, List.getElem?_cons_succ]; (first | done | with_reducible rfl))
  case hQ168 => exact fun _ _ _ h => h
  case hg168 => rfl
  case hy168 => (intro w hSw; (try dsimp only at hSw); go_simp; (first | done | (with_reducible rfl)))
  (try simp only [Act.put, List.setIfInBounds_toArray, List.set_cons_zero, List.set_cons_succ])
  refine anyN_done (by kernel_rfl) ?_ _
  go_wp2
  go_ret
  exact ⟨rfl, B⟩
theorem u_left (x0 y0 x1 y1 u0 v0 u1 v1 : Int) (h : emptyB x0 y0 x1 y1 = true) : uX0 x0 y0 x1 y1 u0 v0 u1 v1 = u0 ∧ uY0 x0 y0 x1 y1 u0 v0 u1 v1 = v0 ∧ uX1 x0 y0 x1 y1 u0 v0 u1 v1 = u1 ∧ uY1 x0 y0 x1 y1 u0 v0 u1 v1 = v1 := by
  unfold uX0 uY0 uX1 uY1 uZ
  simp [h]
theorem u_right (x0 y0 x1 y1 u0 v0 u1 v1 : Int) (h : emptyB x0 y0 x1 y1 = false) (k : emptyB u0 v0 u1 v1 = true) : uX0 x0 y0 x1 y1 u0 v0 u1 v1 = x0 ∧ uY0 x0 y0 x1 y1 u0 v0 u1 v1 = y0 ∧ uX1 x0 y0 x1 y1 u0 v0 u1 v1 = x1 ∧ uY1 x0 y0 x1 y1 u0 v0 u1 v1 = y1 := by
  unfold uX0 uY0 uX1 uY1 uZ
  simp [h, k]
theorem u_both (x0 y0 x1 y1 u0 v0 u1 v1 : Int) (h : emptyB x0 y0 x1 y1 = false) (k : emptyB u0 v0 u1 v1 = false) : uX0 x0 y0 x1 y1 u0 v0 u1 v1 = min x0 u0 ∧ uY0 x0 y0 x1 y1 u0 v0 u1 v1 = min y0 v0 ∧ uX1 x0 y0 x1 y1 u0 v0 u1 v1 = max x1 u1 ∧ uY1 x0 y0 x1 y1 u0 v0 u1 v1 = max y1 v1 := by
  unfold uX0 uY0 uX1 uY1 uZ
  simp [h, k]
theorem in_left (x0 y0 x1 y1 u0 v0 u1 v1 : Int) (h : emptyB x0 y0 x1 y1 = false) (k : emptyB u0 v0 u1 v1 = false) : inB x0 y0 x1 y1 (uX0 x0 y0 x1 y1 u0 v0 u1 v1) (uY0 x0 y0 x1 y1 u0 v0 u1 v1) (uX1 x0 y0 x1 y1 u0 v0 u1 v1) (uY1 x0 y0 x1 y1 u0 v0 u1 v1) = true := by
  obtain ⟨p0, p1, p2, p3⟩ := u_both _ _ _ _ _ _ _ _ h k
  rw [p0, p1, p2, p3]
  simp [inB, h]; omega
theorem in_right (x0 y0 x1 y1 u0 v0 u1 v1 : Int) (h : emptyB x0 y0 x1 y1 = false) (k : emptyB u0 v0 u1 v1 = false) : inB u0 v0 u1 v1 (uX0 x0 y0 x1 y1 u0 v0 u1 v1) (uY0 x0 y0 x1 y1 u0 v0 u1 v1) (uX1 x0 y0 x1 y1 u0 v0 u1 v1) (uY1 x0 y0 x1 y1 u0 v0 u1 v1) = true := by
  obtain ⟨p0, p1, p2, p3⟩ := u_both _ _ _ _ _ _ _ _ h k
  rw [p0, p1, p2, p3]
  simp [inB, k]; omega
theorem in_all (x0 y0 x1 y1 u0 v0 u1 v1 t0 t1 t2 t3 : Int) (h : emptyB x0 y0 x1 y1 = false) (k : emptyB u0 v0 u1 v1 = false) (l : inB x0 y0 x1 y1 t0 t1 t2 t3 = true) (m : inB u0 v0 u1 v1 t0 t1 t2 t3 = true) : inB (uX0 x0 y0 x1 y1 u0 v0 u1 v1) (uY0 x0 y0 x1 y1 u0 v0 u1 v1) (uX1 x0 y0 x1 y1 u0 v0 u1 v1) (uY1 x0 y0 x1 y1 u0 v0 u1 v1) t0 t1 t2 t3 = true := by
  obtain ⟨p0, p1, p2, p3⟩ := u_both _ _ _ _ _ _ _ _ h k
  rw [p0, p1, p2, p3]
  simp [inB, h, k] at l m ⊢
  omega
theorem walk (a0 : Bool) (a1x a1y a1z a1t a2x a2y a2z a2t a3x a3y a3z a3t : Int) (w1x : (Lit.int .i64 a1x).wf = true) (w1y : (Lit.int .i64 a1y).wf = true) (w1z : (Lit.int .i64 a1z).wf = true) (w1t : (Lit.int .i64 a1t).wf = true) (w2x : (Lit.int .i64 a2x).wf = true) (w2y : (Lit.int .i64 a2y).wf = true) (w2z : (Lit.int .i64 a2z).wf = true) (w2t : (Lit.int .i64 a2t).wf = true) (w3x : (Lit.int .i64 a3x).wf = true) (w3y : (Lit.int .i64 a3y).wf = true) (w3z : (Lit.int .i64 a3z).wf = true) (w3t : (Lit.int .i64 a3t).wf = true) (w : World) :
    Calls Try.prog 13 #[.bool a0, .agg #[.int .i64 a1x, .int .i64 a1y, .int .i64 a1z, .int .i64 a1t], .agg #[.int .i64 a2x, .int .i64 a2y, .int .i64 a2z, .int .i64 a2t], .agg #[.int .i64 a3x, .int .i64 a3y, .int .i64 a3z, .int .i64 a3t]] w fun e w' => e = .returned (.bool true) ∧ Below w.heap.size w w' := by
  cases he : emptyB (cutZ a0 a1x) (cutZ a0 a1y) (cutZ a0 a1z) (cutZ a0 a1t)
  · cases hf : emptyB (cutZ a0 a2x) (cutZ a0 a2y) (cutZ a0 a2z) (cutZ a0 a2t)
    · have hru := in_left _ _ _ _ _ _ _ _ he hf
      have hsu := in_right _ _ _ _ _ _ _ _ he hf
      cases hrt : inB (cutZ a0 a1x) (cutZ a0 a1y) (cutZ a0 a1z) (cutZ a0 a1t) (cutZ a0 a3x) (cutZ a0 a3y) (cutZ a0 a3z) (cutZ a0 a3t)
      · exact way_0 a0 a1x a1y a1z a1t a2x a2y a2z a2t a3x a3y a3z a3t (cutZ a0 a1x) (cutZ a0 a1y) (cutZ a0 a1z) (cutZ a0 a1t) (cutZ a0 a2x) (cutZ a0 a2y) (cutZ a0 a2z) (cutZ a0 a2t) (cutZ a0 a3x) (cutZ a0 a3y) (cutZ a0 a3z) (cutZ a0 a3t) (uX0 (cutZ a0 a1x) (cutZ a0 a1y) (cutZ a0 a1z) (cutZ a0 a1t) (cutZ a0 a2x) (cutZ a0 a2y) (cutZ a0 a2z) (cutZ a0 a2t)) (uY0 (cutZ a0 a1x) (cutZ a0 a1y) (cutZ a0 a1z) (cutZ a0 a1t) (cutZ a0 a2x) (cutZ a0 a2y) (cutZ a0 a2z) (cutZ a0 a2t)) (uX1 (cutZ a0 a1x) (cutZ a0 a1y) (cutZ a0 a1z) (cutZ a0 a1t) (cutZ a0 a2x) (cutZ a0 a2y) (cutZ a0 a2z) (cutZ a0 a2t)) (uY1 (cutZ a0 a1x) (cutZ a0 a1y) (cutZ a0 a1z) (cutZ a0 a1t) (cutZ a0 a2x) (cutZ a0 a2y) (cutZ a0 a2z) (cutZ a0 a2t)) rfl (cutZ_cut _ _) rfl (cutZ_cut _ _) rfl (cutZ_cut _ _) rfl (cutZ_cut _ _) rfl (cutZ_cut _ _) rfl (cutZ_cut _ _) rfl (cutZ_cut _ _) rfl (cutZ_cut _ _) rfl (cutZ_cut _ _) rfl (cutZ_cut _ _) rfl (cutZ_cut _ _) rfl (cutZ_cut _ _) rfl rfl rfl rfl he hf hru hsu hrt w
      · cases hst : inB (cutZ a0 a2x) (cutZ a0 a2y) (cutZ a0 a2z) (cutZ a0 a2t) (cutZ a0 a3x) (cutZ a0 a3y) (cutZ a0 a3z) (cutZ a0 a3t)
        · exact way_1 a0 a1x a1y a1z a1t a2x a2y a2z a2t a3x a3y a3z a3t (cutZ a0 a1x) (cutZ a0 a1y) (cutZ a0 a1z) (cutZ a0 a1t) (cutZ a0 a2x) (cutZ a0 a2y) (cutZ a0 a2z) (cutZ a0 a2t) (cutZ a0 a3x) (cutZ a0 a3y) (cutZ a0 a3z) (cutZ a0 a3t) (uX0 (cutZ a0 a1x) (cutZ a0 a1y) (cutZ a0 a1z) (cutZ a0 a1t) (cutZ a0 a2x) (cutZ a0 a2y) (cutZ a0 a2z) (cutZ a0 a2t)) (uY0 (cutZ a0 a1x) (cutZ a0 a1y) (cutZ a0 a1z) (cutZ a0 a1t) (cutZ a0 a2x) (cutZ a0 a2y) (cutZ a0 a2z) (cutZ a0 a2t)) (uX1 (cutZ a0 a1x) (cutZ a0 a1y) (cutZ a0 a1z) (cutZ a0 a1t) (cutZ a0 a2x) (cutZ a0 a2y) (cutZ a0 a2z) (cutZ a0 a2t)) (uY1 (cutZ a0 a1x) (cutZ a0 a1y) (cutZ a0 a1z) (cutZ a0 a1t) (cutZ a0 a2x) (cutZ a0 a2y) (cutZ a0 a2z) (cutZ a0 a2t)) rfl (cutZ_cut _ _) rfl (cutZ_cut _ _) rfl (cutZ_cut _ _) rfl (cutZ_cut _ _) rfl (cutZ_cut _ _) rfl (cutZ_cut _ _) rfl (cutZ_cut _ _) rfl (cutZ_cut _ _) rfl (cutZ_cut _ _) rfl (cutZ_cut _ _) rfl (cutZ_cut _ _) rfl (cutZ_cut _ _) rfl rfl rfl rfl he hf hru hsu hrt hst w
        · exact way_2 a0 a1x a1y a1z a1t a2x a2y a2z a2t a3x a3y a3z a3t (cutZ a0 a1x) (cutZ a0 a1y) (cutZ a0 a1z) (cutZ a0 a1t) (cutZ a0 a2x) (cutZ a0 a2y) (cutZ a0 a2z) (cutZ a0 a2t) (cutZ a0 a3x) (cutZ a0 a3y) (cutZ a0 a3z) (cutZ a0 a3t) (uX0 (cutZ a0 a1x) (cutZ a0 a1y) (cutZ a0 a1z) (cutZ a0 a1t) (cutZ a0 a2x) (cutZ a0 a2y) (cutZ a0 a2z) (cutZ a0 a2t)) (uY0 (cutZ a0 a1x) (cutZ a0 a1y) (cutZ a0 a1z) (cutZ a0 a1t) (cutZ a0 a2x) (cutZ a0 a2y) (cutZ a0 a2z) (cutZ a0 a2t)) (uX1 (cutZ a0 a1x) (cutZ a0 a1y) (cutZ a0 a1z) (cutZ a0 a1t) (cutZ a0 a2x) (cutZ a0 a2y) (cutZ a0 a2z) (cutZ a0 a2t)) (uY1 (cutZ a0 a1x) (cutZ a0 a1y) (cutZ a0 a1z) (cutZ a0 a1t) (cutZ a0 a2x) (cutZ a0 a2y) (cutZ a0 a2z) (cutZ a0 a2t)) rfl (cutZ_cut _ _) rfl (cutZ_cut _ _) rfl (cutZ_cut _ _) rfl (cutZ_cut _ _) rfl (cutZ_cut _ _) rfl (cutZ_cut _ _) rfl (cutZ_cut _ _) rfl (cutZ_cut _ _) rfl (cutZ_cut _ _) rfl (cutZ_cut _ _) rfl (cutZ_cut _ _) rfl (cutZ_cut _ _) rfl rfl rfl rfl he hf hru hsu hrt hst (in_all _ _ _ _ _ _ _ _ _ _ _ _ he hf hrt hst) w
    · obtain ⟨p0, p1, p2, p3⟩ := u_right _ _ _ _ _ _ _ _ he hf
      exact way_s a0 a1x a1y a1z a1t a2x a2y a2z a2t a3x a3y a3z a3t (cutZ a0 a1x) (cutZ a0 a1y) (cutZ a0 a1z) (cutZ a0 a1t) (cutZ a0 a2x) (cutZ a0 a2y) (cutZ a0 a2z) (cutZ a0 a2t) (cutZ a0 a3x) (cutZ a0 a3y) (cutZ a0 a3z) (cutZ a0 a3t) rfl (cutZ_cut _ _) rfl (cutZ_cut _ _) rfl (cutZ_cut _ _) rfl (cutZ_cut _ _) rfl (cutZ_cut _ _) rfl (cutZ_cut _ _) rfl (cutZ_cut _ _) rfl (cutZ_cut _ _) rfl (cutZ_cut _ _) rfl (cutZ_cut _ _) rfl (cutZ_cut _ _) rfl (cutZ_cut _ _) p0 p1 p2 p3 he hf w
  · obtain ⟨p0, p1, p2, p3⟩ := u_left _ _ _ _ (cutZ a0 a2x) (cutZ a0 a2y) (cutZ a0 a2z) (cutZ a0 a2t) he
    exact way_r a0 a1x a1y a1z a1t a2x a2y a2z a2t a3x a3y a3z a3t (cutZ a0 a1x) (cutZ a0 a1y) (cutZ a0 a1z) (cutZ a0 a1t) (cutZ a0 a2x) (cutZ a0 a2y) (cutZ a0 a2z) (cutZ a0 a2t) (cutZ a0 a3x) (cutZ a0 a3y) (cutZ a0 a3z) (cutZ a0 a3t) rfl (cutZ_cut _ _) rfl (cutZ_cut _ _) rfl (cutZ_cut _ _) rfl (cutZ_cut _ _) rfl (cutZ_cut _ _) rfl (cutZ_cut _ _) rfl (cutZ_cut _ _) rfl (cutZ_cut _ _) rfl (cutZ_cut _ _) rfl (cutZ_cut _ _) rfl (cutZ_cut _ _) rfl (cutZ_cut _ _) p0 p1 p2 p3 he w

set_option maxRecDepth 100000 in
theorem lifted (os : Os) (started : os.Started) (H : Type) (enc : TypeId × Value → H) :
    ReturnsInHanded {} Try.checked os 13 .any (Rows.fnUnionSpec.pre6 enc Try.prog Try.f13 Rows.fnUnionRow.domain false) (Rows.fnUnionSpec.post enc Try.prog Try.f13 false true false false) := by
  refine returnsInHanded_of_change (C := Try.checked) own started (by kernel_rfl) Try.func13
    (ChangeSpec.witness6 (enc := enc) (C := Try.checked) false ⟨#[], #[.bool false, .agg #[.int .i64 0, .int .i64 0, .int .i64 0, .int .i64 0], .agg #[.int .i64 0, .int .i64 0, .int .i64 0, .int .i64 0], .agg #[.int .i64 0, .int .i64 0, .int .i64 0, .int .i64 0]], []⟩ 8 (by kernel_rfl) (by kernel_rfl) (by kernel_rfl) (by kernel_rfl)) ?_
  intro W base args ds gs before hval0 hW hcnd _
  have hval : ∀ (j : Nat) t v, Try.f13.params[j]? = some t → args[j]? = some v → Value.okWide Try.prog W .any base t v := hval0
  have hW' := hW
  obtain ⟨p, q, hA0, hV, rfl, hfz, hnd⟩ := hW
  have hA : DataW.TrodAll enc Try.prog W 0 (fun _ => true) true Try.f13.params.toList args.toList ds p := hA0
  rw [Try.params13] at hA hval
  obtain ⟨v0, vs0, d0, ds0, p0, q0, hargs, rfl, rfl, h0, r0⟩ := trodAll_cons hA
  obtain ⟨v1, vs1, d1, ds1, p1, q1, rfl, rfl, rfl, h1, r1⟩ := trodAll_cons r0
  obtain ⟨v2, vs2, d2, ds2, p2, q2, rfl, rfl, rfl, h2, r2⟩ := trodAll_cons r1
  obtain ⟨v3, vs3, d3, ds3, p3, q3, rfl, rfl, rfl, h3, r3⟩ := trodAll_cons r2
  obtain ⟨rfl, rfl, rfl⟩ := trodAll_nil r3
  obtain rfl : args = #[v0, v1, v2, v3] := by cases args; simp_all
  obtain ⟨rfl, rfl⟩ := trodVars_none hV
  obtain ⟨a0, rfl, rfl, rfl⟩ := open_bool Try.underlying4 (hval 0 4 v0 rfl rfl) h0
  obtain ⟨a1x, a1y, a1z, a1t, rfl, rfl, rfl, w1x, w1y, w1z, w1t⟩ := open_rect (hval 1 25 v1 rfl rfl) h1
  obtain ⟨a2x, a2y, a2z, a2t, rfl, rfl, rfl, w2x, w2y, w2z, w2t⟩ := open_rect (hval 2 25 v2 rfl rfl) h2
  obtain ⟨a3x, a3y, a3z, a3t, rfl, rfl, rfl, w3x, w3y, w3z, w3t⟩ := open_rect (hval 3 25 v3 rfl rfl) h3
  clear hA0 hval0
  refine (walk a0 a1x a1y a1z a1t a2x a2y a2z a2t a3x a3y a3z a3t w1x w1y w1z w1t w2x w2y w2z w2t w3x w3y w3z w3t W).mono fun e W' ⟨he, bel⟩ => ?_
  subst he
  exact ⟨_, rfl, _, _, _, [], _, [], hW', trodAll_mk1 (shut_bool Try.underlying4 _), (trodAll_cons_mk (shut_bool Try.underlying4 _) (trodAll_cons_mk (shut_rect w1x w1y w1z w1t) (trodAll_cons_mk (shut_rect w2x w2y w2z w2t) (trodAll_cons_mk (shut_rect w3x w3y w3z w3t) trodAll_mk0)))), rfl, bel.frame _, fun h => by cases h⟩

theorem over : Rows.fnUnionRow.holds Try.pinned (OpenSpec.ofChange Rows.fnUnionSpec) :=
  OpenClaim.holds_of_wide 13 Try.f13 rfl rfl rfl rfl rfl rfl rfl ⟨rfl, rfl, rfl, rfl, rfl⟩ rfl rfl rfl rfl rfl (by kernel_rfl) Try.func13 (by kernel_rfl)
    (of_decide_eq_true (by kernel_rfl)) (by unfold Func.isWrapper; first | (rw [if_pos (by decide +kernel)]; kernel_rfl) | (rw [if_neg (by decide +kernel)]; exact ⟨rfl, rfl⟩))
    (fun os started H enc _ => lifted os started H enc)

/-- The statement. -/
theorem proved : Rows.FnUnionSaid :=
  over
#print axioms proved
end Go.Proofs.Ytcgbkggbffafmaa.fnUnion
