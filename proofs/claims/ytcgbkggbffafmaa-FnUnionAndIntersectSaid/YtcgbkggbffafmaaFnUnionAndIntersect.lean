/- FnUnionAndIntersect: what both have is in each, each is in what both together have, and a rectangle is in another one if what they have in common is itself (or it is empty).
   The law returns true for every input, and nothing that was in memory turns. No condition. -/
import Derived.Test.YtcgbkggbffafmaaImplD
import Derived.Test.YtcgbkggbffafmaaJoin
import Derived.Test.YtcgbkggbffafmaaKeep
import Derived.WalkKit
import Derived.ProofKit
import Derived.OpenShut
namespace Go.Proofs.Ytcgbkggbffafmaa.fnUnionAndIntersect
open Go.ChangeShapes Go.WideShapes Go.ChangeAt Go.RowKit
set_option linter.unusedVariables false

theorem own : ownKnob Try.prog.godebug = none := by kernel_rfl

set_option linter.unusedSimpArgs false
set_option maxHeartbeats 4000000 in
theorem way (a0 : Bool) (a1x a1y a1z a1t a2x a2y a2z a2t : Int) (r0 r1 r2 r3 s0 s1 s2 s3 i0 i1 i2 i3 u0 u1 u2 u3 : Int) (er0 : cutZ a0 a1x = r0) (er1 : cutZ a0 a1y = r1) (er2 : cutZ a0 a1z = r2) (er3 : cutZ a0 a1t = r3) (es0 : cutZ a0 a2x = s0) (es1 : cutZ a0 a2y = s1) (es2 : cutZ a0 a2z = s2) (es3 : cutZ a0 a2t = s3) (qi0 : iX0 r0 r1 r2 r3 s0 s1 s2 s3 = i0) (ki0 : cutZ a0 i0 = i0) (qi1 : iY0 r0 r1 r2 r3 s0 s1 s2 s3 = i1) (ki1 : cutZ a0 i1 = i1) (qi2 : iX1 r0 r1 r2 r3 s0 s1 s2 s3 = i2) (ki2 : cutZ a0 i2 = i2) (qi3 : iY1 r0 r1 r2 r3 s0 s1 s2 s3 = i3) (ki3 : cutZ a0 i3 = i3) (qu0 : uX0 r0 r1 r2 r3 s0 s1 s2 s3 = u0) (ku0 : cutZ a0 u0 = u0) (qu1 : uY0 r0 r1 r2 r3 s0 s1 s2 s3 = u1) (ku1 : cutZ a0 u1 = u1) (qu2 : uX1 r0 r1 r2 r3 s0 s1 s2 s3 = u2) (ku2 : cutZ a0 u2 = u2) (qu3 : uY1 r0 r1 r2 r3 s0 s1 s2 s3 = u3) (ku3 : cutZ a0 u3 = u3) (h1 : inB i0 i1 i2 i3 r0 r1 r2 r3 = true) (h2 : inB i0 i1 i2 i3 s0 s1 s2 s3 = true) (h3 : inB r0 r1 r2 r3 u0 u1 u2 u3 = true) (h4 : inB s0 s1 s2 s3 u0 u1 u2 u3 = true) (hc : Shut ((emptyB r0 r1 r2 r3 = true ∧ inB r0 r1 r2 r3 s0 s1 s2 s3 = true) ∨ (emptyB r0 r1 r2 r3 = false ∧ inB r0 r1 r2 r3 s0 s1 s2 s3 = true ∧ i0 = r0 ∧ i1 = r1 ∧ i2 = r2 ∧ i3 = r3) ∨ (emptyB r0 r1 r2 r3 = false ∧ inB r0 r1 r2 r3 s0 s1 s2 s3 = false ∧ ¬ (i0 = r0 ∧ i1 = r1 ∧ i2 = r2 ∧ i3 = r3)))) (w : World) :
    Calls Try.prog 3 #[.bool a0, .agg #[.int .i64 a1x, .int .i64 a1y, .int .i64 a1z, .int .i64 a1t], .agg #[.int .i64 a2x, .int .i64 a2y, .int .i64 a2z, .int .i64 a2t]] w fun e w' => e = .returned (.bool true) ∧ Below w.heap.size w w' := by
  go_enter Try.func3, Try.ntmps3
  go_wp2
  refine wp_join (fun a' W' => ∃ n7 n8, a' = ⟨#[.bool a0, .agg #[.int .i64 a1x, .int .i64 a1y, .int .i64 a1z, .int .i64 a1t], .agg #[.int .i64 a2x, .int .i64 a2y, .int .i64 a2z, .int .i64 a2t], undef, .pointer (some ⟨w.heap.size, 0, none⟩), .pointer (some ⟨w.heap.size + 1, 0, none⟩), .bool false, .pointer (some ⟨n7, 0, none⟩), .pointer (some ⟨n8, 0, none⟩), .bool a0, .agg #[.int .i64 a1x, .int .i64 a1y, .int .i64 a1z, .int .i64 a1t], .agg #[.int .i64 a2x, .int .i64 a2y, .int .i64 a2z, .int .i64 a2t], .agg #[.int .i64 i0, .int .i64 i1, .int .i64 i2, .int .i64 i3], .bool a0, .agg #[.int .i64 a1x, .int .i64 a1y, .int .i64 a1z, .int .i64 a1t], .agg #[.int .i64 a2x, .int .i64 a2y, .int .i64 a2z, .int .i64 a2t], .agg #[.int .i64 u0, .int .i64 u1, .int .i64 u2, .int .i64 u3], undef, undef, undef, undef, undef, undef, undef, undef, undef, undef, undef, undef, undef, undef, undef, undef, undef, undef, undef, undef, undef, undef, undef, undef, undef, undef, undef, undef, undef, undef, undef, undef, undef, undef, undef, undef, undef, undef, undef, undef, undef], []⟩ ∧ Below w.heap.size w W' ∧ W'.cell? ⟨w.heap.size, 0, none⟩ = some (.int .i64 a1x) ∧ W'.cell? ⟨w.heap.size, 1, none⟩ = some (.int .i64 a1y) ∧ W'.cell? ⟨w.heap.size, 2, none⟩ = some (.int .i64 a1z) ∧ W'.cell? ⟨w.heap.size, 3, none⟩ = some (.int .i64 a1t) ∧ W'.cell? ⟨w.heap.size + 1, 0, none⟩ = some (.int .i64 a2x) ∧ W'.cell? ⟨w.heap.size + 1, 1, none⟩ = some (.int .i64 a2y) ∧ W'.cell? ⟨w.heap.size + 1, 2, none⟩ = some (.int .i64 a2z) ∧ W'.cell? ⟨w.heap.size + 1, 3, none⟩ = some (.int .i64 a2t) ∧ W'.cell? ⟨n7, 0, none⟩ = some (.int .i64 i0) ∧ W'.cell? ⟨n7, 1, none⟩ = some (.int .i64 i1) ∧ W'.cell? ⟨n7, 2, none⟩ = some (.int .i64 i2) ∧ W'.cell? ⟨n7, 3, none⟩ = some (.int .i64 i3) ∧ W'.cell? ⟨n8, 0, none⟩ = some (.int .i64 u0) ∧ W'.cell? ⟨n8, 1, none⟩ = some (.int .i64 u1) ∧ W'.cell? ⟨n8, 2, none⟩ = some (.int .i64 u2) ∧ W'.cell? ⟨n8, 3, none⟩ = some (.int .i64 u3)) ?_ ?_
  case refine_2 =>
    refine region_R (S := (fun W' => W'.cell? ⟨w.heap.size, 0, none⟩ = some (.int .i64 a1x) ∧ W'.cell? ⟨w.heap.size, 1, none⟩ = some (.int .i64 a1y) ∧ W'.cell? ⟨w.heap.size, 2, none⟩ = some (.int .i64 a1z) ∧ W'.cell? ⟨w.heap.size, 3, none⟩ = some (.int .i64 a1t) ∧ W'.cell? ⟨w.heap.size + 1, 0, none⟩ = some (.int .i64 a2x) ∧ W'.cell? ⟨w.heap.size + 1, 1, none⟩ = some (.int .i64 a2y) ∧ W'.cell? ⟨w.heap.size + 1, 2, none⟩ = some (.int .i64 a2z) ∧ W'.cell? ⟨w.heap.size + 1, 3, none⟩ = some (.int .i64 a2t))) (N := [10, 11]) (fun W' => Below w.heap.size w W' ∧ W'.cell? ⟨w.heap.size, 0, none⟩ = some (.int .i64 a1x) ∧ W'.cell? ⟨w.heap.size, 1, none⟩ = some (.int .i64 a1y) ∧ W'.cell? ⟨w.heap.size, 2, none⟩ = some (.int .i64 a1z) ∧ W'.cell? ⟨w.heap.size, 3, none⟩ = some (.int .i64 a1t) ∧ W'.cell? ⟨w.heap.size + 1, 0, none⟩ = some (.int .i64 a2x) ∧ W'.cell? ⟨w.heap.size + 1, 1, none⟩ = some (.int .i64 a2y) ∧ W'.cell? ⟨w.heap.size + 1, 2, none⟩ = some (.int .i64 a2z) ∧ W'.cell? ⟨w.heap.size + 1, 3, none⟩ = some (.int .i64 a2t)) (by kernel_rfl) ?_ ?_
    · (try dsimp only)
      refine ⟨?_, ?_, ?_, ?_, ?_, ?_, ?_, ?_, ?_⟩
      · repeat (first | (with_reducible exact Below.refl _ _) | (with_reducible apply Below.drew) | (with_reducible refine Below.alloc ?_ (by first | exact Nat.le_refl _ | (simp; done) | (simp; omega)) _))
      all_goals (simp [go_sem]; done)
    rintro W ⟨B, f0, f1, f2, f3, f4, f5, f6, f7⟩
    refine anyN_take [3, 7, 10, 11] (i := 0) (oi := ?o1) (v := ?v1) ?hi1 (by kernel_rfl) (by kernel_rfl) (by kernel_rfl) (by kernel_rfl) (by kernel_rfl) ?hQ1 (Or.inl ⟨?hg1, ?hy1⟩) ⟨f0, f1, f2, f3, f4, f5, f6, f7⟩ ?rest1
    case hi1 => (simp only [List.getElem?_toArray, List.getElem?_cons_zero, List.getElem?_cons_succ]; (first | done | with_reducible rfl))
    case hQ1 => exact fun _ _ _ h => h
    case hg1 => rfl
    case hy1 => (intro w hSw; (try dsimp only at hSw); go_simp; (first | done | (with_reducible rfl)))
    (try simp only [Act.put, List.setIfInBounds_toArray, List.set_cons_zero, List.set_cons_succ])
    refine anyN_take [3, 7, 10, 11] (i := 1) (oi := ?o2) (v := ?v2) ?hi2 (by kernel_rfl) (by kernel_rfl) (by kernel_rfl) (by kernel_rfl) (by kernel_rfl) ?hQ2 (Or.inl ⟨?hg2, ?hy2⟩) ⟨f0, f1, f2, f3, f4, f5, f6, f7⟩ ?rest2
    case hi2 => (simp only [List.getElem?_toArray, List.getElem?_cons_zero, List.getElem?_cons_succ]; (first | done | with_reducible rfl))
    case hQ2 => exact fun _ _ _ h => h
    case hg2 => rfl
    case hy2 => (intro w hSw; (try dsimp only at hSw); go_simp; (first | done | (with_reducible rfl)))
    (try simp only [Act.put, List.setIfInBounds_toArray, List.set_cons_zero, List.set_cons_succ])
    refine anyN_take [3, 7, 10, 11] (i := 2) (oi := ?o3) (v := ?v3) ?hi3 (by kernel_rfl) (by kernel_rfl) (by kernel_rfl) (by kernel_rfl) (by kernel_rfl) ?hQ3 (Or.inl ⟨?hg3, ?hy3⟩) ⟨f0, f1, f2, f3, f4, f5, f6, f7⟩ ?rest3
    case hi3 => (simp only [List.getElem?_toArray, List.getElem?_cons_zero, List.getElem?_cons_succ]; (first | done | with_reducible rfl))
    case hQ3 => exact fun _ _ _ h => h
    case hg3 => rfl
    case hy3 => (intro w hSw; (try dsimp only at hSw); go_simp; (first | done | (with_reducible rfl)))
    (try simp only [Act.put, List.setIfInBounds_toArray, List.set_cons_zero, List.set_cons_succ])
    refine anyN_take [7, 10, 11] (i := 4) (oi := ?o4) (v := ?v4) ?hi4 (by kernel_rfl) (by kernel_rfl) (by kernel_rfl) (by kernel_rfl) (by kernel_rfl) ?hQ4 (Or.inl ⟨?hg4, ?hy4⟩) ⟨f0, f1, f2, f3, f4, f5, f6, f7⟩ ?rest4
    case hi4 => (simp only [List.getElem?_toArray, List.getElem?_cons_zero, List.getElem?_cons_succ]; (first | done | with_reducible rfl))
    case hQ4 => exact fun _ _ _ h => h
    case hg4 => rfl
    case hy4 => (intro w hSw; (try dsimp only at hSw); go_simp; (first | done | (with_reducible rfl)))
    (try simp only [Act.put, List.setIfInBounds_toArray, List.set_cons_zero, List.set_cons_succ])
    refine anyN_take [7, 10, 11] (i := 5) (oi := ?o5) (v := ?v5) ?hi5 (by kernel_rfl) (by kernel_rfl) (by kernel_rfl) (by kernel_rfl) (by kernel_rfl) ?hQ5 (Or.inl ⟨?hg5, ?hy5⟩) ⟨f0, f1, f2, f3, f4, f5, f6, f7⟩ ?rest5
    case hi5 => (simp only [List.getElem?_toArray, List.getElem?_cons_zero, List.getElem?_cons_succ]; (first | done | with_reducible rfl))
    case hQ5 => exact fun _ _ _ h => h
    case hg5 => rfl
    case hy5 => (intro w hSw; (try dsimp only at hSw); go_simp; (first | done | (with_reducible rfl)))
    (try simp only [Act.put, List.setIfInBounds_toArray, List.set_cons_zero, List.set_cons_succ])
    refine anyN_take [7, 10, 11] (i := 6) (oi := ?o6) (v := ?v6) ?hi6 (by kernel_rfl) (by kernel_rfl) (by kernel_rfl) (by kernel_rfl) (by kernel_rfl) ?hQ6 (Or.inl ⟨?hg6, ?hy6⟩) ⟨f0, f1, f2, f3, f4, f5, f6, f7⟩ ?rest6
    case hi6 => (simp only [List.getElem?_toArray, List.getElem?_cons_zero, List.getElem?_cons_succ]; (first | done | with_reducible rfl))
    case hQ6 => exact fun _ _ _ h => h
    case hg6 => rfl
    case hy6 => (intro w hSw; (try dsimp only at hSw); go_simp; (first | done | (with_reducible rfl)))
    (try simp only [Act.put, List.setIfInBounds_toArray, List.set_cons_zero, List.set_cons_succ])
    refine anyN_ready (rs := [3, 8, 9]) (by kernel_rfl) (by simp) (AllN.cons (o := ?o7) ?hi7 (fun K hK => ?step7) (AllN.cons (o := ?o8) ?hi8 (fun K hK => ?step8) (AllN.cons (o := ?o9) ?hi9 (fun K hK => ?step9) AllN.nil)))
    case hi7 => (simp only [List.getElem?_toArray, List.getElem?_cons_zero, List.getElem?_cons_succ]; (first | done | with_reducible rfl))
    case hi8 => (simp only [List.getElem?_toArray, List.getElem?_cons_zero, List.getElem?_cons_succ]; (first | done | with_reducible rfl))
    case hi9 => (simp only [List.getElem?_toArray, List.getElem?_cons_zero, List.getElem?_cons_succ]; (first | done | with_reducible rfl))
    case step7 =>
      go_simp
      (go_at_call 16; (with_reducible refine (iInter_any _ _ _ _ _ _ _ _ _ _).mono ?_); rintro e w7 ⟨rfl, hb⟩; replace f0 := keepc hb f0; replace f1 := keepc hb f1; replace f2 := keepc hb f2; replace f3 := keepc hb f3; replace f4 := keepc hb f4; replace f5 := keepc hb f5; replace f6 := keepc hb f6; replace f7 := keepc hb f7; replace B := keepb B hb; clear hb)
      refine hK.out _ _ ⟨f0, f1, f2, f3, f4, f5, f6, f7⟩ (fun _ => ?_)
      clear hK K
      (try simp only [Act.put, List.setIfInBounds_toArray, List.set_cons_zero, List.set_cons_succ])
      simp only [er0, er1, er2, er3, es0, es1, es2, es3, qi0, qi1, qi2, qi3]
      refine anyN_ready (rs := [7, 8, 9]) (by kernel_rfl) (by simp) (AllN.cons (o := ?o10) ?hi10 (fun K hK => ?step10) (AllN.cons (o := ?o11) ?hi11 (fun K hK => ?step11) (AllN.cons (o := ?o12) ?hi12 (fun K hK => ?step12) AllN.nil)))
      case hi10 => (simp only [List.getElem?_toArray, List.getElem?_cons_zero, List.getElem?_cons_succ]; (first | done | with_reducible rfl))
      case hi11 => (simp only [List.getElem?_toArray, List.getElem?_cons_zero, List.getElem?_cons_succ]; (first | done | with_reducible rfl))
      case hi12 => (simp only [List.getElem?_toArray, List.getElem?_cons_zero, List.getElem?_cons_succ]; (first | done | with_reducible rfl))
      case step10 =>
        go_simp
        (go_at_call 17; (with_reducible refine (iUnio_any _ _ _ _ _ _ _ _ _ _).mono ?_); rintro e w10 ⟨rfl, hb⟩; replace f0 := keepc hb f0; replace f1 := keepc hb f1; replace f2 := keepc hb f2; replace f3 := keepc hb f3; replace f4 := keepc hb f4; replace f5 := keepc hb f5; replace f6 := keepc hb f6; replace f7 := keepc hb f7; replace B := keepb B hb; clear hb)
        refine hK.out _ _ ⟨f0, f1, f2, f3, f4, f5, f6, f7⟩ (fun _ => ?_)
        clear hK K
        (try simp only [Act.put, List.setIfInBounds_toArray, List.set_cons_zero, List.set_cons_succ])
        simp only [er0, er1, er2, er3, es0, es1, es2, es3, qu0, qu1, qu2, qu3]
        refine anyN_ready (rs := [8, 9]) (by kernel_rfl) (by simp) (AllN.cons (o := ?o13) ?hi13 (fun K hK => ?step13) (AllN.cons (o := ?o14) ?hi14 (fun K hK => ?step14) AllN.nil))
        case hi13 => (simp only [List.getElem?_toArray, List.getElem?_cons_zero, List.getElem?_cons_succ]; (first | done | with_reducible rfl))
        case hi14 => (simp only [List.getElem?_toArray, List.getElem?_cons_zero, List.getElem?_cons_succ]; (first | done | with_reducible rfl))
        case step13 =>
          go_simp
          have m13 : w.heap.size + 1 < w10.heap.size := World.block_lt_of_cell? w10 _ f7
          refine named (K := K) (fun W' => Below w.heap.size w W' ∧ W'.cell? ⟨w.heap.size, 0, none⟩ = some (.int .i64 a1x) ∧ W'.cell? ⟨w.heap.size, 1, none⟩ = some (.int .i64 a1y) ∧ W'.cell? ⟨w.heap.size, 2, none⟩ = some (.int .i64 a1z) ∧ W'.cell? ⟨w.heap.size, 3, none⟩ = some (.int .i64 a1t) ∧ W'.cell? ⟨w.heap.size + 1, 0, none⟩ = some (.int .i64 a2x) ∧ W'.cell? ⟨w.heap.size + 1, 1, none⟩ = some (.int .i64 a2y) ∧ W'.cell? ⟨w.heap.size + 1, 2, none⟩ = some (.int .i64 a2z) ∧ W'.cell? ⟨w.heap.size + 1, 3, none⟩ = some (.int .i64 a2t) ∧ W'.cell? ⟨w10.heap.size, 0, none⟩ = some (.int .i64 0) ∧ W'.cell? ⟨w10.heap.size, 1, none⟩ = some (.int .i64 0) ∧ W'.cell? ⟨w10.heap.size, 2, none⟩ = some (.int .i64 0) ∧ W'.cell? ⟨w10.heap.size, 3, none⟩ = some (.int .i64 0) ∧ W'.frozen? ⟨w10.heap.size, 0, none⟩ = false ∧ W'.frozen? ⟨w10.heap.size, 1, none⟩ = false ∧ W'.frozen? ⟨w10.heap.size, 2, none⟩ = false ∧ W'.frozen? ⟨w10.heap.size, 3, none⟩ = false) ?_ ?_
          · (try dsimp only)
            exact ⟨B.alloc B.size _, keepA _ f0, keepA _ f1, keepA _ f2, keepA _ f3, keepA _ f4, keepA _ f5, keepA _ f6, keepA _ f7, (by simp [go_sem]), (by simp [go_sem]), (by simp [go_sem]), (by simp [go_sem]), (by simp [go_sem]), (by simp [go_sem]), (by simp [go_sem]), (by simp [go_sem])⟩
          rintro w13 ⟨B, f0, f1, f2, f3, f4, f5, f6, f7, f8, f9, f10, f11, g8, g9, g10, g11⟩
          refine hK.out _ _ ⟨f0, f1, f2, f3, f4, f5, f6, f7⟩ (fun _ => ?_)
          clear hK K
          (try simp only [Act.put, List.setIfInBounds_toArray, List.set_cons_zero, List.set_cons_succ])
          refine anyN_ready (rs := [9]) (by kernel_rfl) (by simp) (AllN.cons (o := ?o15) ?hi15 (fun K hK => ?step15) AllN.nil)
          case hi15 => (simp only [List.getElem?_toArray, List.getElem?_cons_zero, List.getElem?_cons_succ]; (first | done | with_reducible rfl))
          case step15 =>
            go_simp
            have m15 : w.heap.size + 1 < w13.heap.size := World.block_lt_of_cell? w13 _ f7
            have p15 : w10.heap.size < w13.heap.size := World.block_lt_of_cell? w13 _ f8
            refine named (K := K) (fun W' => Below w.heap.size w W' ∧ W'.cell? ⟨w.heap.size, 0, none⟩ = some (.int .i64 a1x) ∧ W'.cell? ⟨w.heap.size, 1, none⟩ = some (.int .i64 a1y) ∧ W'.cell? ⟨w.heap.size, 2, none⟩ = some (.int .i64 a1z) ∧ W'.cell? ⟨w.heap.size, 3, none⟩ = some (.int .i64 a1t) ∧ W'.cell? ⟨w.heap.size + 1, 0, none⟩ = some (.int .i64 a2x) ∧ W'.cell? ⟨w.heap.size + 1, 1, none⟩ = some (.int .i64 a2y) ∧ W'.cell? ⟨w.heap.size + 1, 2, none⟩ = some (.int .i64 a2z) ∧ W'.cell? ⟨w.heap.size + 1, 3, none⟩ = some (.int .i64 a2t) ∧ W'.cell? ⟨w10.heap.size, 0, none⟩ = some (.int .i64 0) ∧ W'.cell? ⟨w10.heap.size, 1, none⟩ = some (.int .i64 0) ∧ W'.cell? ⟨w10.heap.size, 2, none⟩ = some (.int .i64 0) ∧ W'.cell? ⟨w10.heap.size, 3, none⟩ = some (.int .i64 0) ∧ W'.cell? ⟨w13.heap.size, 0, none⟩ = some (.int .i64 0) ∧ W'.cell? ⟨w13.heap.size, 1, none⟩ = some (.int .i64 0) ∧ W'.cell? ⟨w13.heap.size, 2, none⟩ = some (.int .i64 0) ∧ W'.cell? ⟨w13.heap.size, 3, none⟩ = some (.int .i64 0) ∧ W'.frozen? ⟨w10.heap.size, 0, none⟩ = false ∧ W'.frozen? ⟨w10.heap.size, 1, none⟩ = false ∧ W'.frozen? ⟨w10.heap.size, 2, none⟩ = false ∧ W'.frozen? ⟨w10.heap.size, 3, none⟩ = false ∧ W'.frozen? ⟨w13.heap.size, 0, none⟩ = false ∧ W'.frozen? ⟨w13.heap.size, 1, none⟩ = false ∧ W'.frozen? ⟨w13.heap.size, 2, none⟩ = false ∧ W'.frozen? ⟨w13.heap.size, 3, none⟩ = false) ?_ ?_
            · (try dsimp only)
              exact ⟨B.alloc B.size _, keepA _ f0, keepA _ f1, keepA _ f2, keepA _ f3, keepA _ f4, keepA _ f5, keepA _ f6, keepA _ f7, keepA _ f8, keepA _ f9, keepA _ f10, keepA _ f11, (by simp [go_sem]), (by simp [go_sem]), (by simp [go_sem]), (by simp [go_sem]), keepAf _ f8 g8, keepAf _ f9 g9, keepAf _ f10 g10, keepAf _ f11 g11, (by simp [go_sem]), (by simp [go_sem]), (by simp [go_sem]), (by simp [go_sem])⟩
            rintro w15 ⟨B, f0, f1, f2, f3, f4, f5, f6, f7, f8, f9, f10, f11, f12, f13, f14, f15, g8, g9, g10, g11, g12, g13, g14, g15⟩
            refine hK.out _ _ ⟨f0, f1, f2, f3, f4, f5, f6, f7⟩ (fun _ => ?_)
            clear hK K
            (try simp only [Act.put, List.setIfInBounds_toArray, List.set_cons_zero, List.set_cons_succ])
            refine anyN_ready (rs := [10]) (by kernel_rfl) (by simp) ?_
            refine AllN.last (o := ?o16) ?hi16 (by simp) (fun K hK => ?step16) AllN.nil
            case hi16 => (simp only [List.getElem?_toArray, List.getElem?_cons_zero, List.getElem?_cons_succ]; (first | done | with_reducible rfl))
            go_simp
            refine named (K := K) (fun W' => Below w.heap.size w W' ∧ W'.cell? ⟨w.heap.size, 0, none⟩ = some (.int .i64 a1x) ∧ W'.cell? ⟨w.heap.size, 1, none⟩ = some (.int .i64 a1y) ∧ W'.cell? ⟨w.heap.size, 2, none⟩ = some (.int .i64 a1z) ∧ W'.cell? ⟨w.heap.size, 3, none⟩ = some (.int .i64 a1t) ∧ W'.cell? ⟨w.heap.size + 1, 0, none⟩ = some (.int .i64 a2x) ∧ W'.cell? ⟨w.heap.size + 1, 1, none⟩ = some (.int .i64 a2y) ∧ W'.cell? ⟨w.heap.size + 1, 2, none⟩ = some (.int .i64 a2z) ∧ W'.cell? ⟨w.heap.size + 1, 3, none⟩ = some (.int .i64 a2t) ∧ W'.cell? ⟨w10.heap.size, 0, none⟩ = some (.int .i64 i0) ∧ W'.cell? ⟨w10.heap.size, 1, none⟩ = some (.int .i64 i1) ∧ W'.cell? ⟨w10.heap.size, 2, none⟩ = some (.int .i64 i2) ∧ W'.cell? ⟨w10.heap.size, 3, none⟩ = some (.int .i64 i3) ∧ W'.cell? ⟨w13.heap.size, 0, none⟩ = some (.int .i64 0) ∧ W'.cell? ⟨w13.heap.size, 1, none⟩ = some (.int .i64 0) ∧ W'.cell? ⟨w13.heap.size, 2, none⟩ = some (.int .i64 0) ∧ W'.cell? ⟨w13.heap.size, 3, none⟩ = some (.int .i64 0) ∧ W'.frozen? ⟨w13.heap.size, 0, none⟩ = false ∧ W'.frozen? ⟨w13.heap.size, 1, none⟩ = false ∧ W'.frozen? ⟨w13.heap.size, 2, none⟩ = false ∧ W'.frozen? ⟨w13.heap.size, 3, none⟩ = false) ?_ ?_
            · (try dsimp only)
              have n0 : w10.heap.size ≠ w.heap.size := by clear B; omega
              have n1 : w10.heap.size ≠ w.heap.size + 1 := by clear B; omega
              have n2 : w10.heap.size ≠ w13.heap.size := by clear B; omega
              have nb : w.heap.size ≤ w10.heap.size := by clear B; omega
              obtain ⟨z0, z1, z2, z3⟩ := own4 (x0 := .int .i64 i0) (x1 := .int .i64 i1) (x2 := .int .i64 i2) (x3 := .int .i64 i3) f8 f9 f10 f11
              exact ⟨below4 B nb, far4 f0 n0, far4 f1 n0, far4 f2 n0, far4 f3 n0, far4 f4 n1, far4 f5 n1, far4 f6 n1, far4 f7 n1, z0, z1, z2, z3, far4 f12 n2, far4 f13 n2, far4 f14 n2, far4 f15 n2, froz4 g12, froz4 g13, froz4 g14, froz4 g15⟩
            rintro y16 ⟨B, f0, f1, f2, f3, f4, f5, f6, f7, f8, f9, f10, f11, f12, f13, f14, f15, g12, g13, g14, g15⟩
            refine hK.out _ _ ?_
            clear hK K
            (try simp only [Act.put, List.setIfInBounds_toArray, List.set_cons_zero, List.set_cons_succ])
            refine anyN_ready (rs := [11]) (by kernel_rfl) (by simp) ?_
            refine AllN.last (o := ?o17) ?hi17 (by simp) (fun K hK => ?step17) AllN.nil
            case hi17 => (simp only [List.getElem?_toArray, List.getElem?_cons_zero, List.getElem?_cons_succ]; (first | done | with_reducible rfl))
            go_simp
            refine named (K := K) (fun W' => Below w.heap.size w W' ∧ W'.cell? ⟨w.heap.size, 0, none⟩ = some (.int .i64 a1x) ∧ W'.cell? ⟨w.heap.size, 1, none⟩ = some (.int .i64 a1y) ∧ W'.cell? ⟨w.heap.size, 2, none⟩ = some (.int .i64 a1z) ∧ W'.cell? ⟨w.heap.size, 3, none⟩ = some (.int .i64 a1t) ∧ W'.cell? ⟨w.heap.size + 1, 0, none⟩ = some (.int .i64 a2x) ∧ W'.cell? ⟨w.heap.size + 1, 1, none⟩ = some (.int .i64 a2y) ∧ W'.cell? ⟨w.heap.size + 1, 2, none⟩ = some (.int .i64 a2z) ∧ W'.cell? ⟨w.heap.size + 1, 3, none⟩ = some (.int .i64 a2t) ∧ W'.cell? ⟨w10.heap.size, 0, none⟩ = some (.int .i64 i0) ∧ W'.cell? ⟨w10.heap.size, 1, none⟩ = some (.int .i64 i1) ∧ W'.cell? ⟨w10.heap.size, 2, none⟩ = some (.int .i64 i2) ∧ W'.cell? ⟨w10.heap.size, 3, none⟩ = some (.int .i64 i3) ∧ W'.cell? ⟨w13.heap.size, 0, none⟩ = some (.int .i64 u0) ∧ W'.cell? ⟨w13.heap.size, 1, none⟩ = some (.int .i64 u1) ∧ W'.cell? ⟨w13.heap.size, 2, none⟩ = some (.int .i64 u2) ∧ W'.cell? ⟨w13.heap.size, 3, none⟩ = some (.int .i64 u3)) ?_ ?_
            · (try dsimp only)
              have n0 : w13.heap.size ≠ w.heap.size := by clear B; omega
              have n1 : w13.heap.size ≠ w.heap.size + 1 := by clear B; omega
              have n2 : w13.heap.size ≠ w10.heap.size := by clear B; omega
              have nb : w.heap.size ≤ w13.heap.size := by clear B; omega
              obtain ⟨z0, z1, z2, z3⟩ := own4 (x0 := .int .i64 u0) (x1 := .int .i64 u1) (x2 := .int .i64 u2) (x3 := .int .i64 u3) f12 f13 f14 f15
              exact ⟨below4 B nb, far4 f0 n0, far4 f1 n0, far4 f2 n0, far4 f3 n0, far4 f4 n1, far4 f5 n1, far4 f6 n1, far4 f7 n1, far4 f8 n2, far4 f9 n2, far4 f10 n2, far4 f11 n2, z0, z1, z2, z3⟩
            rintro y17 ⟨B, f0, f1, f2, f3, f4, f5, f6, f7, f8, f9, f10, f11, f12, f13, f14, f15⟩
            refine hK.out _ _ ?_
            clear hK K
            (try simp only [Act.put, List.setIfInBounds_toArray, List.set_cons_zero, List.set_cons_succ])
            refine anyN_done (by kernel_rfl) ?_ _
            exact then_normal ⟨w10.heap.size, w13.heap.size, rfl, B, f0, f1, f2, f3, f4, f5, f6, f7, f8, f9, f10, f11, f12, f13, f14, f15⟩
        case step14 =>
          go_simp
          have m14 : w.heap.size + 1 < w10.heap.size := World.block_lt_of_cell? w10 _ f7
          refine named (K := K) (fun W' => Below w.heap.size w W' ∧ W'.cell? ⟨w.heap.size, 0, none⟩ = some (.int .i64 a1x) ∧ W'.cell? ⟨w.heap.size, 1, none⟩ = some (.int .i64 a1y) ∧ W'.cell? ⟨w.heap.size, 2, none⟩ = some (.int .i64 a1z) ∧ W'.cell? ⟨w.heap.size, 3, none⟩ = some (.int .i64 a1t) ∧ W'.cell? ⟨w.heap.size + 1, 0, none⟩ = some (.int .i64 a2x) ∧ W'.cell? ⟨w.heap.size + 1, 1, none⟩ = some (.int .i64 a2y) ∧ W'.cell? ⟨w.heap.size + 1, 2, none⟩ = some (.int .i64 a2z) ∧ W'.cell? ⟨w.heap.size + 1, 3, none⟩ = some (.int .i64 a2t) ∧ W'.cell? ⟨w10.heap.size, 0, none⟩ = some (.int .i64 0) ∧ W'.cell? ⟨w10.heap.size, 1, none⟩ = some (.int .i64 0) ∧ W'.cell? ⟨w10.heap.size, 2, none⟩ = some (.int .i64 0) ∧ W'.cell? ⟨w10.heap.size, 3, none⟩ = some (.int .i64 0) ∧ W'.frozen? ⟨w10.heap.size, 0, none⟩ = false ∧ W'.frozen? ⟨w10.heap.size, 1, none⟩ = false ∧ W'.frozen? ⟨w10.heap.size, 2, none⟩ = false ∧ W'.frozen? ⟨w10.heap.size, 3, none⟩ = false) ?_ ?_
          · (try dsimp only)
            exact ⟨B.alloc B.size _, keepA _ f0, keepA _ f1, keepA _ f2, keepA _ f3, keepA _ f4, keepA _ f5, keepA _ f6, keepA _ f7, (by simp [go_sem]), (by simp [go_sem]), (by simp [go_sem]), (by simp [go_sem]), (by simp [go_sem]), (by simp [go_sem]), (by simp [go_sem]), (by simp [go_sem])⟩
          rintro w14 ⟨B, f0, f1, f2, f3, f4, f5, f6, f7, f8, f9, f10, f11, g8, g9, g10, g11⟩
          refine hK.out _ _ ⟨f0, f1, f2, f3, f4, f5, f6, f7⟩ (fun _ => ?_)
          clear hK K
          (try simp only [Act.put, List.setIfInBounds_toArray, List.set_cons_zero, List.set_cons_succ])
          refine anyN_ready (rs := [8]) (by kernel_rfl) (by simp) (AllN.cons (o := ?o18) ?hi18 (fun K hK => ?step18) AllN.nil)
          case hi18 => (simp only [List.getElem?_toArray, List.getElem?_cons_zero, List.getElem?_cons_succ]; (first | done | with_reducible rfl))
          case step18 =>
            go_simp
            have m18 : w.heap.size + 1 < w14.heap.size := World.block_lt_of_cell? w14 _ f7
            have p18 : w10.heap.size < w14.heap.size := World.block_lt_of_cell? w14 _ f8
            refine named (K := K) (fun W' => Below w.heap.size w W' ∧ W'.cell? ⟨w.heap.size, 0, none⟩ = some (.int .i64 a1x) ∧ W'.cell? ⟨w.heap.size, 1, none⟩ = some (.int .i64 a1y) ∧ W'.cell? ⟨w.heap.size, 2, none⟩ = some (.int .i64 a1z) ∧ W'.cell? ⟨w.heap.size, 3, none⟩ = some (.int .i64 a1t) ∧ W'.cell? ⟨w.heap.size + 1, 0, none⟩ = some (.int .i64 a2x) ∧ W'.cell? ⟨w.heap.size + 1, 1, none⟩ = some (.int .i64 a2y) ∧ W'.cell? ⟨w.heap.size + 1, 2, none⟩ = some (.int .i64 a2z) ∧ W'.cell? ⟨w.heap.size + 1, 3, none⟩ = some (.int .i64 a2t) ∧ W'.cell? ⟨w10.heap.size, 0, none⟩ = some (.int .i64 0) ∧ W'.cell? ⟨w10.heap.size, 1, none⟩ = some (.int .i64 0) ∧ W'.cell? ⟨w10.heap.size, 2, none⟩ = some (.int .i64 0) ∧ W'.cell? ⟨w10.heap.size, 3, none⟩ = some (.int .i64 0) ∧ W'.cell? ⟨w14.heap.size, 0, none⟩ = some (.int .i64 0) ∧ W'.cell? ⟨w14.heap.size, 1, none⟩ = some (.int .i64 0) ∧ W'.cell? ⟨w14.heap.size, 2, none⟩ = some (.int .i64 0) ∧ W'.cell? ⟨w14.heap.size, 3, none⟩ = some (.int .i64 0) ∧ W'.frozen? ⟨w10.heap.size, 0, none⟩ = false ∧ W'.frozen? ⟨w10.heap.size, 1, none⟩ = false ∧ W'.frozen? ⟨w10.heap.size, 2, none⟩ = false ∧ W'.frozen? ⟨w10.heap.size, 3, none⟩ = false ∧ W'.frozen? ⟨w14.heap.size, 0, none⟩ = false ∧ W'.frozen? ⟨w14.heap.size, 1, none⟩ = false ∧ W'.frozen? ⟨w14.heap.size, 2, none⟩ = false ∧ W'.frozen? ⟨w14.heap.size, 3, none⟩ = false) ?_ ?_
            · (try dsimp only)
              exact ⟨B.alloc B.size _, keepA _ f0, keepA _ f1, keepA _ f2, keepA _ f3, keepA _ f4, keepA _ f5, keepA _ f6, keepA _ f7, keepA _ f8, keepA _ f9, keepA _ f10, keepA _ f11, (by simp [go_sem]), (by simp [go_sem]), (by simp [go_sem]), (by simp [go_sem]), keepAf _ f8 g8, keepAf _ f9 g9, keepAf _ f10 g10, keepAf _ f11 g11, (by simp [go_sem]), (by simp [go_sem]), (by simp [go_sem]), (by simp [go_sem])⟩
            rintro w18 ⟨B, f0, f1, f2, f3, f4, f5, f6, f7, f8, f9, f10, f11, f12, f13, f14, f15, g8, g9, g10, g11, g12, g13, g14, g15⟩
            refine hK.out _ _ ⟨f0, f1, f2, f3, f4, f5, f6, f7⟩ (fun _ => ?_)
            clear hK K
            (try simp only [Act.put, List.setIfInBounds_toArray, List.set_cons_zero, List.set_cons_succ])
            refine anyN_ready (rs := [10]) (by kernel_rfl) (by simp) ?_
            refine AllN.last (o := ?o19) ?hi19 (by simp) (fun K hK => ?step19) AllN.nil
            case hi19 => (simp only [List.getElem?_toArray, List.getElem?_cons_zero, List.getElem?_cons_succ]; (first | done | with_reducible rfl))
            go_simp
            refine named (K := K) (fun W' => Below w.heap.size w W' ∧ W'.cell? ⟨w.heap.size, 0, none⟩ = some (.int .i64 a1x) ∧ W'.cell? ⟨w.heap.size, 1, none⟩ = some (.int .i64 a1y) ∧ W'.cell? ⟨w.heap.size, 2, none⟩ = some (.int .i64 a1z) ∧ W'.cell? ⟨w.heap.size, 3, none⟩ = some (.int .i64 a1t) ∧ W'.cell? ⟨w.heap.size + 1, 0, none⟩ = some (.int .i64 a2x) ∧ W'.cell? ⟨w.heap.size + 1, 1, none⟩ = some (.int .i64 a2y) ∧ W'.cell? ⟨w.heap.size + 1, 2, none⟩ = some (.int .i64 a2z) ∧ W'.cell? ⟨w.heap.size + 1, 3, none⟩ = some (.int .i64 a2t) ∧ W'.cell? ⟨w10.heap.size, 0, none⟩ = some (.int .i64 0) ∧ W'.cell? ⟨w10.heap.size, 1, none⟩ = some (.int .i64 0) ∧ W'.cell? ⟨w10.heap.size, 2, none⟩ = some (.int .i64 0) ∧ W'.cell? ⟨w10.heap.size, 3, none⟩ = some (.int .i64 0) ∧ W'.cell? ⟨w14.heap.size, 0, none⟩ = some (.int .i64 i0) ∧ W'.cell? ⟨w14.heap.size, 1, none⟩ = some (.int .i64 i1) ∧ W'.cell? ⟨w14.heap.size, 2, none⟩ = some (.int .i64 i2) ∧ W'.cell? ⟨w14.heap.size, 3, none⟩ = some (.int .i64 i3) ∧ W'.frozen? ⟨w10.heap.size, 0, none⟩ = false ∧ W'.frozen? ⟨w10.heap.size, 1, none⟩ = false ∧ W'.frozen? ⟨w10.heap.size, 2, none⟩ = false ∧ W'.frozen? ⟨w10.heap.size, 3, none⟩ = false) ?_ ?_
            · (try dsimp only)
              have n0 : w14.heap.size ≠ w.heap.size := by clear B; omega
              have n1 : w14.heap.size ≠ w.heap.size + 1 := by clear B; omega
              have n2 : w14.heap.size ≠ w10.heap.size := by clear B; omega
              have nb : w.heap.size ≤ w14.heap.size := by clear B; omega
              obtain ⟨z0, z1, z2, z3⟩ := own4 (x0 := .int .i64 i0) (x1 := .int .i64 i1) (x2 := .int .i64 i2) (x3 := .int .i64 i3) f12 f13 f14 f15
              exact ⟨below4 B nb, far4 f0 n0, far4 f1 n0, far4 f2 n0, far4 f3 n0, far4 f4 n1, far4 f5 n1, far4 f6 n1, far4 f7 n1, far4 f8 n2, far4 f9 n2, far4 f10 n2, far4 f11 n2, z0, z1, z2, z3, froz4 g8, froz4 g9, froz4 g10, froz4 g11⟩
            rintro y19 ⟨B, f0, f1, f2, f3, f4, f5, f6, f7, f8, f9, f10, f11, f12, f13, f14, f15, g8, g9, g10, g11⟩
            refine hK.out _ _ ?_
            clear hK K
            (try simp only [Act.put, List.setIfInBounds_toArray, List.set_cons_zero, List.set_cons_succ])
            refine anyN_ready (rs := [11]) (by kernel_rfl) (by simp) ?_
            refine AllN.last (o := ?o20) ?hi20 (by simp) (fun K hK => ?step20) AllN.nil
            case hi20 => (simp only [List.getElem?_toArray, List.getElem?_cons_zero, List.getElem?_cons_succ]; (first | done | with_reducible rfl))
            go_simp
            refine named (K := K) (fun W' => Below w.heap.size w W' ∧ W'.cell? ⟨w.heap.size, 0, none⟩ = some (.int .i64 a1x) ∧ W'.cell? ⟨w.heap.size, 1, none⟩ = some (.int .i64 a1y) ∧ W'.cell? ⟨w.heap.size, 2, none⟩ = some (.int .i64 a1z) ∧ W'.cell? ⟨w.heap.size, 3, none⟩ = some (.int .i64 a1t) ∧ W'.cell? ⟨w.heap.size + 1, 0, none⟩ = some (.int .i64 a2x) ∧ W'.cell? ⟨w.heap.size + 1, 1, none⟩ = some (.int .i64 a2y) ∧ W'.cell? ⟨w.heap.size + 1, 2, none⟩ = some (.int .i64 a2z) ∧ W'.cell? ⟨w.heap.size + 1, 3, none⟩ = some (.int .i64 a2t) ∧ W'.cell? ⟨w10.heap.size, 0, none⟩ = some (.int .i64 u0) ∧ W'.cell? ⟨w10.heap.size, 1, none⟩ = some (.int .i64 u1) ∧ W'.cell? ⟨w10.heap.size, 2, none⟩ = some (.int .i64 u2) ∧ W'.cell? ⟨w10.heap.size, 3, none⟩ = some (.int .i64 u3) ∧ W'.cell? ⟨w14.heap.size, 0, none⟩ = some (.int .i64 i0) ∧ W'.cell? ⟨w14.heap.size, 1, none⟩ = some (.int .i64 i1) ∧ W'.cell? ⟨w14.heap.size, 2, none⟩ = some (.int .i64 i2) ∧ W'.cell? ⟨w14.heap.size, 3, none⟩ = some (.int .i64 i3)) ?_ ?_
            · (try dsimp only)
              have n0 : w10.heap.size ≠ w.heap.size := by clear B; omega
              have n1 : w10.heap.size ≠ w.heap.size + 1 := by clear B; omega
              have n2 : w10.heap.size ≠ w14.heap.size := by clear B; omega
              have nb : w.heap.size ≤ w10.heap.size := by clear B; omega
              obtain ⟨z0, z1, z2, z3⟩ := own4 (x0 := .int .i64 u0) (x1 := .int .i64 u1) (x2 := .int .i64 u2) (x3 := .int .i64 u3) f8 f9 f10 f11
              exact ⟨below4 B nb, far4 f0 n0, far4 f1 n0, far4 f2 n0, far4 f3 n0, far4 f4 n1, far4 f5 n1, far4 f6 n1, far4 f7 n1, z0, z1, z2, z3, far4 f12 n2, far4 f13 n2, far4 f14 n2, far4 f15 n2⟩
            rintro y20 ⟨B, f0, f1, f2, f3, f4, f5, f6, f7, f8, f9, f10, f11, f12, f13, f14, f15⟩
            refine hK.out _ _ ?_
            clear hK K
            (try simp only [Act.put, List.setIfInBounds_toArray, List.set_cons_zero, List.set_cons_succ])
            refine anyN_done (by kernel_rfl) ?_ _
            exact then_normal ⟨w14.heap.size, w10.heap.size, rfl, B, f0, f1, f2, f3, f4, f5, f6, f7, f12, f13, f14, f15, f8, f9, f10, f11⟩
      case step11 =>
        go_simp
        have m11 : w.heap.size + 1 < w7.heap.size := World.block_lt_of_cell? w7 _ f7
        refine named (K := K) (fun W' => Below w.heap.size w W' ∧ W'.cell? ⟨w.heap.size, 0, none⟩ = some (.int .i64 a1x) ∧ W'.cell? ⟨w.heap.size, 1, none⟩ = some (.int .i64 a1y) ∧ W'.cell? ⟨w.heap.size, 2, none⟩ = some (.int .i64 a1z) ∧ W'.cell? ⟨w.heap.size, 3, none⟩ = some (.int .i64 a1t) ∧ W'.cell? ⟨w.heap.size + 1, 0, none⟩ = some (.int .i64 a2x) ∧ W'.cell? ⟨w.heap.size + 1, 1, none⟩ = some (.int .i64 a2y) ∧ W'.cell? ⟨w.heap.size + 1, 2, none⟩ = some (.int .i64 a2z) ∧ W'.cell? ⟨w.heap.size + 1, 3, none⟩ = some (.int .i64 a2t) ∧ W'.cell? ⟨w7.heap.size, 0, none⟩ = some (.int .i64 0) ∧ W'.cell? ⟨w7.heap.size, 1, none⟩ = some (.int .i64 0) ∧ W'.cell? ⟨w7.heap.size, 2, none⟩ = some (.int .i64 0) ∧ W'.cell? ⟨w7.heap.size, 3, none⟩ = some (.int .i64 0) ∧ W'.frozen? ⟨w7.heap.size, 0, none⟩ = false ∧ W'.frozen? ⟨w7.heap.size, 1, none⟩ = false ∧ W'.frozen? ⟨w7.heap.size, 2, none⟩ = false ∧ W'.frozen? ⟨w7.heap.size, 3, none⟩ = false) ?_ ?_
        · (try dsimp only)
          exact ⟨B.alloc B.size _, keepA _ f0, keepA _ f1, keepA _ f2, keepA _ f3, keepA _ f4, keepA _ f5, keepA _ f6, keepA _ f7, (by simp [go_sem]), (by simp [go_sem]), (by simp [go_sem]), (by simp [go_sem]), (by simp [go_sem]), (by simp [go_sem]), (by simp [go_sem]), (by simp [go_sem])⟩
        rintro w11 ⟨B, f0, f1, f2, f3, f4, f5, f6, f7, f8, f9, f10, f11, g8, g9, g10, g11⟩
        refine hK.out _ _ ⟨f0, f1, f2, f3, f4, f5, f6, f7⟩ (fun _ => ?_)
        clear hK K
        (try simp only [Act.put, List.setIfInBounds_toArray, List.set_cons_zero, List.set_cons_succ])
        refine anyN_ready (rs := [7, 9]) (by kernel_rfl) (by simp) (AllN.cons (o := ?o21) ?hi21 (fun K hK => ?step21) (AllN.cons (o := ?o22) ?hi22 (fun K hK => ?step22) AllN.nil))
        case hi21 => (simp only [List.getElem?_toArray, List.getElem?_cons_zero, List.getElem?_cons_succ]; (first | done | with_reducible rfl))
        case hi22 => (simp only [List.getElem?_toArray, List.getElem?_cons_zero, List.getElem?_cons_succ]; (first | done | with_reducible rfl))
        case step21 =>
          go_simp
          (go_at_call 17; (with_reducible refine (iUnio_any _ _ _ _ _ _ _ _ _ _).mono ?_); rintro e w21 ⟨rfl, hb⟩; replace g8 := keepf hb f8 g8; replace g9 := keepf hb f9 g9; replace g10 := keepf hb f10 g10; replace g11 := keepf hb f11 g11; replace f0 := keepc hb f0; replace f1 := keepc hb f1; replace f2 := keepc hb f2; replace f3 := keepc hb f3; replace f4 := keepc hb f4; replace f5 := keepc hb f5; replace f6 := keepc hb f6; replace f7 := keepc hb f7; replace f8 := keepc hb f8; replace f9 := keepc hb f9; replace f10 := keepc hb f10; replace f11 := keepc hb f11; replace B := keepb B hb; clear hb)
          refine hK.out _ _ ⟨f0, f1, f2, f3, f4, f5, f6, f7⟩ (fun _ => ?_)
          clear hK K
          (try simp only [Act.put, List.setIfInBounds_toArray, List.set_cons_zero, List.set_cons_succ])
          simp only [er0, er1, er2, er3, es0, es1, es2, es3, qu0, qu1, qu2, qu3]
          refine anyN_ready (rs := [9]) (by kernel_rfl) (by simp) (AllN.cons (o := ?o23) ?hi23 (fun K hK => ?step23) AllN.nil)
          case hi23 => (simp only [List.getElem?_toArray, List.getElem?_cons_zero, List.getElem?_cons_succ]; (first | done | with_reducible rfl))
          case step23 =>
            go_simp
            have m23 : w.heap.size + 1 < w21.heap.size := World.block_lt_of_cell? w21 _ f7
            have p23 : w7.heap.size < w21.heap.size := World.block_lt_of_cell? w21 _ f8
            refine named (K := K) (fun W' => Below w.heap.size w W' ∧ W'.cell? ⟨w.heap.size, 0, none⟩ = some (.int .i64 a1x) ∧ W'.cell? ⟨w.heap.size, 1, none⟩ = some (.int .i64 a1y) ∧ W'.cell? ⟨w.heap.size, 2, none⟩ = some (.int .i64 a1z) ∧ W'.cell? ⟨w.heap.size, 3, none⟩ = some (.int .i64 a1t) ∧ W'.cell? ⟨w.heap.size + 1, 0, none⟩ = some (.int .i64 a2x) ∧ W'.cell? ⟨w.heap.size + 1, 1, none⟩ = some (.int .i64 a2y) ∧ W'.cell? ⟨w.heap.size + 1, 2, none⟩ = some (.int .i64 a2z) ∧ W'.cell? ⟨w.heap.size + 1, 3, none⟩ = some (.int .i64 a2t) ∧ W'.cell? ⟨w7.heap.size, 0, none⟩ = some (.int .i64 0) ∧ W'.cell? ⟨w7.heap.size, 1, none⟩ = some (.int .i64 0) ∧ W'.cell? ⟨w7.heap.size, 2, none⟩ = some (.int .i64 0) ∧ W'.cell? ⟨w7.heap.size, 3, none⟩ = some (.int .i64 0) ∧ W'.cell? ⟨w21.heap.size, 0, none⟩ = some (.int .i64 0) ∧ W'.cell? ⟨w21.heap.size, 1, none⟩ = some (.int .i64 0) ∧ W'.cell? ⟨w21.heap.size, 2, none⟩ = some (.int .i64 0) ∧ W'.cell? ⟨w21.heap.size, 3, none⟩ = some (.int .i64 0) ∧ W'.frozen? ⟨w7.heap.size, 0, none⟩ = false ∧ W'.frozen? ⟨w7.heap.size, 1, none⟩ = false ∧ W'.frozen? ⟨w7.heap.size, 2, none⟩ = false ∧ W'.frozen? ⟨w7.heap.size, 3, none⟩ = false ∧ W'.frozen? ⟨w21.heap.size, 0, none⟩ = false ∧ W'.frozen? ⟨w21.heap.size, 1, none⟩ = false ∧ W'.frozen? ⟨w21.heap.size, 2, none⟩ = false ∧ W'.frozen? ⟨w21.heap.size, 3, none⟩ = false) ?_ ?_
            · (try dsimp only)
              exact ⟨B.alloc B.size _, keepA _ f0, keepA _ f1, keepA _ f2, keepA _ f3, keepA _ f4, keepA _ f5, keepA _ f6, keepA _ f7, keepA _ f8, keepA _ f9, keepA _ f10, keepA _ f11, (by simp [go_sem]), (by simp [go_sem]), (by simp [go_sem]), (by simp [go_sem]), keepAf _ f8 g8, keepAf _ f9 g9, keepAf _ f10 g10, keepAf _ f11 g11, (by simp [go_sem]), (by simp [go_sem]), (by simp [go_sem]), (by simp [go_sem])⟩
            rintro w23 ⟨B, f0, f1, f2, f3, f4, f5, f6, f7, f8, f9, f10, f11, f12, f13, f14, f15, g8, g9, g10, g11, g12, g13, g14, g15⟩
            refine hK.out _ _ ⟨f0, f1, f2, f3, f4, f5, f6, f7⟩ (fun _ => ?_)
            clear hK K
            (try simp only [Act.put, List.setIfInBounds_toArray, List.set_cons_zero, List.set_cons_succ])
            refine anyN_ready (rs := [10]) (by kernel_rfl) (by simp) ?_
            refine AllN.last (o := ?o24) ?hi24 (by simp) (fun K hK => ?step24) AllN.nil
            case hi24 => (simp only [List.getElem?_toArray, List.getElem?_cons_zero, List.getElem?_cons_succ]; (first | done | with_reducible rfl))
            go_simp
            refine named (K := K) (fun W' => Below w.heap.size w W' ∧ W'.cell? ⟨w.heap.size, 0, none⟩ = some (.int .i64 a1x) ∧ W'.cell? ⟨w.heap.size, 1, none⟩ = some (.int .i64 a1y) ∧ W'.cell? ⟨w.heap.size, 2, none⟩ = some (.int .i64 a1z) ∧ W'.cell? ⟨w.heap.size, 3, none⟩ = some (.int .i64 a1t) ∧ W'.cell? ⟨w.heap.size + 1, 0, none⟩ = some (.int .i64 a2x) ∧ W'.cell? ⟨w.heap.size + 1, 1, none⟩ = some (.int .i64 a2y) ∧ W'.cell? ⟨w.heap.size + 1, 2, none⟩ = some (.int .i64 a2z) ∧ W'.cell? ⟨w.heap.size + 1, 3, none⟩ = some (.int .i64 a2t) ∧ W'.cell? ⟨w7.heap.size, 0, none⟩ = some (.int .i64 i0) ∧ W'.cell? ⟨w7.heap.size, 1, none⟩ = some (.int .i64 i1) ∧ W'.cell? ⟨w7.heap.size, 2, none⟩ = some (.int .i64 i2) ∧ W'.cell? ⟨w7.heap.size, 3, none⟩ = some (.int .i64 i3) ∧ W'.cell? ⟨w21.heap.size, 0, none⟩ = some (.int .i64 0) ∧ W'.cell? ⟨w21.heap.size, 1, none⟩ = some (.int .i64 0) ∧ W'.cell? ⟨w21.heap.size, 2, none⟩ = some (.int .i64 0) ∧ W'.cell? ⟨w21.heap.size, 3, none⟩ = some (.int .i64 0) ∧ W'.frozen? ⟨w21.heap.size, 0, none⟩ = false ∧ W'.frozen? ⟨w21.heap.size, 1, none⟩ = false ∧ W'.frozen? ⟨w21.heap.size, 2, none⟩ = false ∧ W'.frozen? ⟨w21.heap.size, 3, none⟩ = false) ?_ ?_
            · (try dsimp only)
              have n0 : w7.heap.size ≠ w.heap.size := by clear B; omega
              have n1 : w7.heap.size ≠ w.heap.size + 1 := by clear B; omega
              have n2 : w7.heap.size ≠ w21.heap.size := by clear B; omega
              have nb : w.heap.size ≤ w7.heap.size := by clear B; omega
              obtain ⟨z0, z1, z2, z3⟩ := own4 (x0 := .int .i64 i0) (x1 := .int .i64 i1) (x2 := .int .i64 i2) (x3 := .int .i64 i3) f8 f9 f10 f11
              exact ⟨below4 B nb, far4 f0 n0, far4 f1 n0, far4 f2 n0, far4 f3 n0, far4 f4 n1, far4 f5 n1, far4 f6 n1, far4 f7 n1, z0, z1, z2, z3, far4 f12 n2, far4 f13 n2, far4 f14 n2, far4 f15 n2, froz4 g12, froz4 g13, froz4 g14, froz4 g15⟩
            rintro y24 ⟨B, f0, f1, f2, f3, f4, f5, f6, f7, f8, f9, f10, f11, f12, f13, f14, f15, g12, g13, g14, g15⟩
            refine hK.out _ _ ?_
            clear hK K
            (try simp only [Act.put, List.setIfInBounds_toArray, List.set_cons_zero, List.set_cons_succ])
            refine anyN_ready (rs := [11]) (by kernel_rfl) (by simp) ?_
            refine AllN.last (o := ?o25) ?hi25 (by simp) (fun K hK => ?step25) AllN.nil
            case hi25 => (simp only [List.getElem?_toArray, List.getElem?_cons_zero, List.getElem?_cons_succ]; (first | done | with_reducible rfl))
            go_simp
            refine named (K := K) (fun W' => Below w.heap.size w W' ∧ W'.cell? ⟨w.heap.size, 0, none⟩ = some (.int .i64 a1x) ∧ W'.cell? ⟨w.heap.size, 1, none⟩ = some (.int .i64 a1y) ∧ W'.cell? ⟨w.heap.size, 2, none⟩ = some (.int .i64 a1z) ∧ W'.cell? ⟨w.heap.size, 3, none⟩ = some (.int .i64 a1t) ∧ W'.cell? ⟨w.heap.size + 1, 0, none⟩ = some (.int .i64 a2x) ∧ W'.cell? ⟨w.heap.size + 1, 1, none⟩ = some (.int .i64 a2y) ∧ W'.cell? ⟨w.heap.size + 1, 2, none⟩ = some (.int .i64 a2z) ∧ W'.cell? ⟨w.heap.size + 1, 3, none⟩ = some (.int .i64 a2t) ∧ W'.cell? ⟨w7.heap.size, 0, none⟩ = some (.int .i64 i0) ∧ W'.cell? ⟨w7.heap.size, 1, none⟩ = some (.int .i64 i1) ∧ W'.cell? ⟨w7.heap.size, 2, none⟩ = some (.int .i64 i2) ∧ W'.cell? ⟨w7.heap.size, 3, none⟩ = some (.int .i64 i3) ∧ W'.cell? ⟨w21.heap.size, 0, none⟩ = some (.int .i64 u0) ∧ W'.cell? ⟨w21.heap.size, 1, none⟩ = some (.int .i64 u1) ∧ W'.cell? ⟨w21.heap.size, 2, none⟩ = some (.int .i64 u2) ∧ W'.cell? ⟨w21.heap.size, 3, none⟩ = some (.int .i64 u3)) ?_ ?_
            · (try dsimp only)
              have n0 : w21.heap.size ≠ w.heap.size := by clear B; omega
              have n1 : w21.heap.size ≠ w.heap.size + 1 := by clear B; omega
              have n2 : w21.heap.size ≠ w7.heap.size := by clear B; omega
              have nb : w.heap.size ≤ w21.heap.size := by clear B; omega
              obtain ⟨z0, z1, z2, z3⟩ := own4 (x0 := .int .i64 u0) (x1 := .int .i64 u1) (x2 := .int .i64 u2) (x3 := .int .i64 u3) f12 f13 f14 f15
              exact ⟨below4 B nb, far4 f0 n0, far4 f1 n0, far4 f2 n0, far4 f3 n0, far4 f4 n1, far4 f5 n1, far4 f6 n1, far4 f7 n1, far4 f8 n2, far4 f9 n2, far4 f10 n2, far4 f11 n2, z0, z1, z2, z3⟩
            rintro y25 ⟨B, f0, f1, f2, f3, f4, f5, f6, f7, f8, f9, f10, f11, f12, f13, f14, f15⟩
            refine hK.out _ _ ?_
            clear hK K
            (try simp only [Act.put, List.setIfInBounds_toArray, List.set_cons_zero, List.set_cons_succ])
            refine anyN_done (by kernel_rfl) ?_ _
            exact then_normal ⟨w7.heap.size, w21.heap.size, rfl, B, f0, f1, f2, f3, f4, f5, f6, f7, f8, f9, f10, f11, f12, f13, f14, f15⟩
        case step22 =>
          go_simp
          have m22 : w.heap.size + 1 < w11.heap.size := World.block_lt_of_cell? w11 _ f7
          have p22 : w7.heap.size < w11.heap.size := World.block_lt_of_cell? w11 _ f8
          refine named (K := K) (fun W' => Below w.heap.size w W' ∧ W'.cell? ⟨w.heap.size, 0, none⟩ = some (.int .i64 a1x) ∧ W'.cell? ⟨w.heap.size, 1, none⟩ = some (.int .i64 a1y) ∧ W'.cell? ⟨w.heap.size, 2, none⟩ = some (.int .i64 a1z) ∧ W'.cell? ⟨w.heap.size, 3, none⟩ = some (.int .i64 a1t) ∧ W'.cell? ⟨w.heap.size + 1, 0, none⟩ = some (.int .i64 a2x) ∧ W'.cell? ⟨w.heap.size + 1, 1, none⟩ = some (.int .i64 a2y) ∧ W'.cell? ⟨w.heap.size + 1, 2, none⟩ = some (.int .i64 a2z) ∧ W'.cell? ⟨w.heap.size + 1, 3, none⟩ = some (.int .i64 a2t) ∧ W'.cell? ⟨w7.heap.size, 0, none⟩ = some (.int .i64 0) ∧ W'.cell? ⟨w7.heap.size, 1, none⟩ = some (.int .i64 0) ∧ W'.cell? ⟨w7.heap.size, 2, none⟩ = some (.int .i64 0) ∧ W'.cell? ⟨w7.heap.size, 3, none⟩ = some (.int .i64 0) ∧ W'.cell? ⟨w11.heap.size, 0, none⟩ = some (.int .i64 0) ∧ W'.cell? ⟨w11.heap.size, 1, none⟩ = some (.int .i64 0) ∧ W'.cell? ⟨w11.heap.size, 2, none⟩ = some (.int .i64 0) ∧ W'.cell? ⟨w11.heap.size, 3, none⟩ = some (.int .i64 0) ∧ W'.frozen? ⟨w7.heap.size, 0, none⟩ = false ∧ W'.frozen? ⟨w7.heap.size, 1, none⟩ = false ∧ W'.frozen? ⟨w7.heap.size, 2, none⟩ = false ∧ W'.frozen? ⟨w7.heap.size, 3, none⟩ = false ∧ W'.frozen? ⟨w11.heap.size, 0, none⟩ = false ∧ W'.frozen? ⟨w11.heap.size, 1, none⟩ = false ∧ W'.frozen? ⟨w11.heap.size, 2, none⟩ = false ∧ W'.frozen? ⟨w11.heap.size, 3, none⟩ = false) ?_ ?_
          · (try dsimp only)
            exact ⟨B.alloc B.size _, keepA _ f0, keepA _ f1, keepA _ f2, keepA _ f3, keepA _ f4, keepA _ f5, keepA _ f6, keepA _ f7, keepA _ f8, keepA _ f9, keepA _ f10, keepA _ f11, (by simp [go_sem]), (by simp [go_sem]), (by simp [go_sem]), (by simp [go_sem]), keepAf _ f8 g8, keepAf _ f9 g9, keepAf _ f10 g10, keepAf _ f11 g11, (by simp [go_sem]), (by simp [go_sem]), (by simp [go_sem]), (by simp [go_sem])⟩
          rintro w22 ⟨B, f0, f1, f2, f3, f4, f5, f6, f7, f8, f9, f10, f11, f12, f13, f14, f15, g8, g9, g10, g11, g12, g13, g14, g15⟩
          refine hK.out _ _ ⟨f0, f1, f2, f3, f4, f5, f6, f7⟩ (fun _ => ?_)
          clear hK K
          (try simp only [Act.put, List.setIfInBounds_toArray, List.set_cons_zero, List.set_cons_succ])
          refine anyN_ready (rs := [7]) (by kernel_rfl) (by simp) (AllN.cons (o := ?o26) ?hi26 (fun K hK => ?step26) AllN.nil)
          case hi26 => (simp only [List.getElem?_toArray, List.getElem?_cons_zero, List.getElem?_cons_succ]; (first | done | with_reducible rfl))
          case step26 =>
            go_simp
            (go_at_call 17; (with_reducible refine (iUnio_any _ _ _ _ _ _ _ _ _ _).mono ?_); rintro e w26 ⟨rfl, hb⟩; replace g8 := keepf hb f8 g8; replace g9 := keepf hb f9 g9; replace g10 := keepf hb f10 g10; replace g11 := keepf hb f11 g11; replace g12 := keepf hb f12 g12; replace g13 := keepf hb f13 g13; replace g14 := keepf hb f14 g14; replace g15 := keepf hb f15 g15; replace f0 := keepc hb f0; replace f1 := keepc hb f1; replace f2 := keepc hb f2; replace f3 := keepc hb f3; replace f4 := keepc hb f4; replace f5 := keepc hb f5; replace f6 := keepc hb f6; replace f7 := keepc hb f7; replace f8 := keepc hb f8; replace f9 := keepc hb f9; replace f10 := keepc hb f10; replace f11 := keepc hb f11; replace f12 := keepc hb f12; replace f13 := keepc hb f13; replace f14 := keepc hb f14; replace f15 := keepc hb f15; replace B := keepb B hb; clear hb)
            refine hK.out _ _ ⟨f0, f1, f2, f3, f4, f5, f6, f7⟩ (fun _ => ?_)
            clear hK K
            (try simp only [Act.put, List.setIfInBounds_toArray, List.set_cons_zero, List.set_cons_succ])
            simp only [er0, er1, er2, er3, es0, es1, es2, es3, qu0, qu1, qu2, qu3]
            refine anyN_ready (rs := [10]) (by kernel_rfl) (by simp) ?_
            refine AllN.last (o := ?o27) ?hi27 (by simp) (fun K hK => ?step27) AllN.nil
            case hi27 => (simp only [List.getElem?_toArray, List.getElem?_cons_zero, List.getElem?_cons_succ]; (first | done | with_reducible rfl))
            go_simp
            refine named (K := K) (fun W' => Below w.heap.size w W' ∧ W'.cell? ⟨w.heap.size, 0, none⟩ = some (.int .i64 a1x) ∧ W'.cell? ⟨w.heap.size, 1, none⟩ = some (.int .i64 a1y) ∧ W'.cell? ⟨w.heap.size, 2, none⟩ = some (.int .i64 a1z) ∧ W'.cell? ⟨w.heap.size, 3, none⟩ = some (.int .i64 a1t) ∧ W'.cell? ⟨w.heap.size + 1, 0, none⟩ = some (.int .i64 a2x) ∧ W'.cell? ⟨w.heap.size + 1, 1, none⟩ = some (.int .i64 a2y) ∧ W'.cell? ⟨w.heap.size + 1, 2, none⟩ = some (.int .i64 a2z) ∧ W'.cell? ⟨w.heap.size + 1, 3, none⟩ = some (.int .i64 a2t) ∧ W'.cell? ⟨w7.heap.size, 0, none⟩ = some (.int .i64 i0) ∧ W'.cell? ⟨w7.heap.size, 1, none⟩ = some (.int .i64 i1) ∧ W'.cell? ⟨w7.heap.size, 2, none⟩ = some (.int .i64 i2) ∧ W'.cell? ⟨w7.heap.size, 3, none⟩ = some (.int .i64 i3) ∧ W'.cell? ⟨w11.heap.size, 0, none⟩ = some (.int .i64 0) ∧ W'.cell? ⟨w11.heap.size, 1, none⟩ = some (.int .i64 0) ∧ W'.cell? ⟨w11.heap.size, 2, none⟩ = some (.int .i64 0) ∧ W'.cell? ⟨w11.heap.size, 3, none⟩ = some (.int .i64 0) ∧ W'.frozen? ⟨w11.heap.size, 0, none⟩ = false ∧ W'.frozen? ⟨w11.heap.size, 1, none⟩ = false ∧ W'.frozen? ⟨w11.heap.size, 2, none⟩ = false ∧ W'.frozen? ⟨w11.heap.size, 3, none⟩ = false) ?_ ?_
            · (try dsimp only)
              have n0 : w7.heap.size ≠ w.heap.size := by clear B; omega
              have n1 : w7.heap.size ≠ w.heap.size + 1 := by clear B; omega
              have n2 : w7.heap.size ≠ w11.heap.size := by clear B; omega
              have nb : w.heap.size ≤ w7.heap.size := by clear B; omega
              obtain ⟨z0, z1, z2, z3⟩ := own4 (x0 := .int .i64 i0) (x1 := .int .i64 i1) (x2 := .int .i64 i2) (x3 := .int .i64 i3) f8 f9 f10 f11
              exact ⟨below4 B nb, far4 f0 n0, far4 f1 n0, far4 f2 n0, far4 f3 n0, far4 f4 n1, far4 f5 n1, far4 f6 n1, far4 f7 n1, z0, z1, z2, z3, far4 f12 n2, far4 f13 n2, far4 f14 n2, far4 f15 n2, froz4 g12, froz4 g13, froz4 g14, froz4 g15⟩
            rintro y27 ⟨B, f0, f1, f2, f3, f4, f5, f6, f7, f8, f9, f10, f11, f12, f13, f14, f15, g12, g13, g14, g15⟩
            refine hK.out _ _ ?_
            clear hK K
            (try simp only [Act.put, List.setIfInBounds_toArray, List.set_cons_zero, List.set_cons_succ])
            refine anyN_ready (rs := [11]) (by kernel_rfl) (by simp) ?_
            refine AllN.last (o := ?o28) ?hi28 (by simp) (fun K hK => ?step28) AllN.nil
            case hi28 => (simp only [List.getElem?_toArray, List.getElem?_cons_zero, List.getElem?_cons_succ]; (first | done | with_reducible rfl))
            go_simp
            refine named (K := K) (fun W' => Below w.heap.size w W' ∧ W'.cell? ⟨w.heap.size, 0, none⟩ = some (.int .i64 a1x) ∧ W'.cell? ⟨w.heap.size, 1, none⟩ = some (.int .i64 a1y) ∧ W'.cell? ⟨w.heap.size, 2, none⟩ = some (.int .i64 a1z) ∧ W'.cell? ⟨w.heap.size, 3, none⟩ = some (.int .i64 a1t) ∧ W'.cell? ⟨w.heap.size + 1, 0, none⟩ = some (.int .i64 a2x) ∧ W'.cell? ⟨w.heap.size + 1, 1, none⟩ = some (.int .i64 a2y) ∧ W'.cell? ⟨w.heap.size + 1, 2, none⟩ = some (.int .i64 a2z) ∧ W'.cell? ⟨w.heap.size + 1, 3, none⟩ = some (.int .i64 a2t) ∧ W'.cell? ⟨w7.heap.size, 0, none⟩ = some (.int .i64 i0) ∧ W'.cell? ⟨w7.heap.size, 1, none⟩ = some (.int .i64 i1) ∧ W'.cell? ⟨w7.heap.size, 2, none⟩ = some (.int .i64 i2) ∧ W'.cell? ⟨w7.heap.size, 3, none⟩ = some (.int .i64 i3) ∧ W'.cell? ⟨w11.heap.size, 0, none⟩ = some (.int .i64 u0) ∧ W'.cell? ⟨w11.heap.size, 1, none⟩ = some (.int .i64 u1) ∧ W'.cell? ⟨w11.heap.size, 2, none⟩ = some (.int .i64 u2) ∧ W'.cell? ⟨w11.heap.size, 3, none⟩ = some (.int .i64 u3)) ?_ ?_
            · (try dsimp only)
              have n0 : w11.heap.size ≠ w.heap.size := by clear B; omega
              have n1 : w11.heap.size ≠ w.heap.size + 1 := by clear B; omega
              have n2 : w11.heap.size ≠ w7.heap.size := by clear B; omega
              have nb : w.heap.size ≤ w11.heap.size := by clear B; omega
              obtain ⟨z0, z1, z2, z3⟩ := own4 (x0 := .int .i64 u0) (x1 := .int .i64 u1) (x2 := .int .i64 u2) (x3 := .int .i64 u3) f12 f13 f14 f15
              exact ⟨below4 B nb, far4 f0 n0, far4 f1 n0, far4 f2 n0, far4 f3 n0, far4 f4 n1, far4 f5 n1, far4 f6 n1, far4 f7 n1, far4 f8 n2, far4 f9 n2, far4 f10 n2, far4 f11 n2, z0, z1, z2, z3⟩
            rintro y28 ⟨B, f0, f1, f2, f3, f4, f5, f6, f7, f8, f9, f10, f11, f12, f13, f14, f15⟩
            refine hK.out _ _ ?_
            clear hK K
            (try simp only [Act.put, List.setIfInBounds_toArray, List.set_cons_zero, List.set_cons_succ])
            refine anyN_done (by kernel_rfl) ?_ _
            exact then_normal ⟨w7.heap.size, w11.heap.size, rfl, B, f0, f1, f2, f3, f4, f5, f6, f7, f8, f9, f10, f11, f12, f13, f14, f15⟩
      case step12 =>
        go_simp
        have m12 : w.heap.size + 1 < w7.heap.size := World.block_lt_of_cell? w7 _ f7
        refine named (K := K) (fun W' => Below w.heap.size w W' ∧ W'.cell? ⟨w.heap.size, 0, none⟩ = some (.int .i64 a1x) ∧ W'.cell? ⟨w.heap.size, 1, none⟩ = some (.int .i64 a1y) ∧ W'.cell? ⟨w.heap.size, 2, none⟩ = some (.int .i64 a1z) ∧ W'.cell? ⟨w.heap.size, 3, none⟩ = some (.int .i64 a1t) ∧ W'.cell? ⟨w.heap.size + 1, 0, none⟩ = some (.int .i64 a2x) ∧ W'.cell? ⟨w.heap.size + 1, 1, none⟩ = some (.int .i64 a2y) ∧ W'.cell? ⟨w.heap.size + 1, 2, none⟩ = some (.int .i64 a2z) ∧ W'.cell? ⟨w.heap.size + 1, 3, none⟩ = some (.int .i64 a2t) ∧ W'.cell? ⟨w7.heap.size, 0, none⟩ = some (.int .i64 0) ∧ W'.cell? ⟨w7.heap.size, 1, none⟩ = some (.int .i64 0) ∧ W'.cell? ⟨w7.heap.size, 2, none⟩ = some (.int .i64 0) ∧ W'.cell? ⟨w7.heap.size, 3, none⟩ = some (.int .i64 0) ∧ W'.frozen? ⟨w7.heap.size, 0, none⟩ = false ∧ W'.frozen? ⟨w7.heap.size, 1, none⟩ = false ∧ W'.frozen? ⟨w7.heap.size, 2, none⟩ = false ∧ W'.frozen? ⟨w7.heap.size, 3, none⟩ = false) ?_ ?_
        · (try dsimp only)
          exact ⟨B.alloc B.size _, keepA _ f0, keepA _ f1, keepA _ f2, keepA _ f3, keepA _ f4, keepA _ f5, keepA _ f6, keepA _ f7, (by simp [go_sem]), (by simp [go_sem]), (by simp [go_sem]), (by simp [go_sem]), (by simp [go_sem]), (by simp [go_sem]), (by simp [go_sem]), (by simp [go_sem])⟩
        rintro w12 ⟨B, f0, f1, f2, f3, f4, f5, f6, f7, f8, f9, f10, f11, g8, g9, g10, g11⟩
        refine hK.out _ _ ⟨f0, f1, f2, f3, f4, f5, f6, f7⟩ (fun _ => ?_)
        clear hK K
        (try simp only [Act.put, List.setIfInBounds_toArray, List.set_cons_zero, List.set_cons_succ])
        refine anyN_ready (rs := [7, 8]) (by kernel_rfl) (by simp) (AllN.cons (o := ?o29) ?hi29 (fun K hK => ?step29) (AllN.cons (o := ?o30) ?hi30 (fun K hK => ?step30) AllN.nil))
        case hi29 => (simp only [List.getElem?_toArray, List.getElem?_cons_zero, List.getElem?_cons_succ]; (first | done | with_reducible rfl))
        case hi30 => (simp only [List.getElem?_toArray, List.getElem?_cons_zero, List.getElem?_cons_succ]; (first | done | with_reducible rfl))
        case step29 =>
          go_simp
          (go_at_call 17; (with_reducible refine (iUnio_any _ _ _ _ _ _ _ _ _ _).mono ?_); rintro e w29 ⟨rfl, hb⟩; replace g8 := keepf hb f8 g8; replace g9 := keepf hb f9 g9; replace g10 := keepf hb f10 g10; replace g11 := keepf hb f11 g11; replace f0 := keepc hb f0; replace f1 := keepc hb f1; replace f2 := keepc hb f2; replace f3 := keepc hb f3; replace f4 := keepc hb f4; replace f5 := keepc hb f5; replace f6 := keepc hb f6; replace f7 := keepc hb f7; replace f8 := keepc hb f8; replace f9 := keepc hb f9; replace f10 := keepc hb f10; replace f11 := keepc hb f11; replace B := keepb B hb; clear hb)
          refine hK.out _ _ ⟨f0, f1, f2, f3, f4, f5, f6, f7⟩ (fun _ => ?_)
          clear hK K
          (try simp only [Act.put, List.setIfInBounds_toArray, List.set_cons_zero, List.set_cons_succ])
          simp only [er0, er1, er2, er3, es0, es1, es2, es3, qu0, qu1, qu2, qu3]
          refine anyN_ready (rs := [8]) (by kernel_rfl) (by simp) (AllN.cons (o := ?o31) ?hi31 (fun K hK => ?step31) AllN.nil)
          case hi31 => (simp only [List.getElem?_toArray, List.getElem?_cons_zero, List.getElem?_cons_succ]; (first | done | with_reducible rfl))
          case step31 =>
            go_simp
            have m31 : w.heap.size + 1 < w29.heap.size := World.block_lt_of_cell? w29 _ f7
            have p31 : w7.heap.size < w29.heap.size := World.block_lt_of_cell? w29 _ f8
            refine named (K := K) (fun W' => Below w.heap.size w W' ∧ W'.cell? ⟨w.heap.size, 0, none⟩ = some (.int .i64 a1x) ∧ W'.cell? ⟨w.heap.size, 1, none⟩ = some (.int .i64 a1y) ∧ W'.cell? ⟨w.heap.size, 2, none⟩ = some (.int .i64 a1z) ∧ W'.cell? ⟨w.heap.size, 3, none⟩ = some (.int .i64 a1t) ∧ W'.cell? ⟨w.heap.size + 1, 0, none⟩ = some (.int .i64 a2x) ∧ W'.cell? ⟨w.heap.size + 1, 1, none⟩ = some (.int .i64 a2y) ∧ W'.cell? ⟨w.heap.size + 1, 2, none⟩ = some (.int .i64 a2z) ∧ W'.cell? ⟨w.heap.size + 1, 3, none⟩ = some (.int .i64 a2t) ∧ W'.cell? ⟨w7.heap.size, 0, none⟩ = some (.int .i64 0) ∧ W'.cell? ⟨w7.heap.size, 1, none⟩ = some (.int .i64 0) ∧ W'.cell? ⟨w7.heap.size, 2, none⟩ = some (.int .i64 0) ∧ W'.cell? ⟨w7.heap.size, 3, none⟩ = some (.int .i64 0) ∧ W'.cell? ⟨w29.heap.size, 0, none⟩ = some (.int .i64 0) ∧ W'.cell? ⟨w29.heap.size, 1, none⟩ = some (.int .i64 0) ∧ W'.cell? ⟨w29.heap.size, 2, none⟩ = some (.int .i64 0) ∧ W'.cell? ⟨w29.heap.size, 3, none⟩ = some (.int .i64 0) ∧ W'.frozen? ⟨w7.heap.size, 0, none⟩ = false ∧ W'.frozen? ⟨w7.heap.size, 1, none⟩ = false ∧ W'.frozen? ⟨w7.heap.size, 2, none⟩ = false ∧ W'.frozen? ⟨w7.heap.size, 3, none⟩ = false ∧ W'.frozen? ⟨w29.heap.size, 0, none⟩ = false ∧ W'.frozen? ⟨w29.heap.size, 1, none⟩ = false ∧ W'.frozen? ⟨w29.heap.size, 2, none⟩ = false ∧ W'.frozen? ⟨w29.heap.size, 3, none⟩ = false) ?_ ?_
            · (try dsimp only)
              exact ⟨B.alloc B.size _, keepA _ f0, keepA _ f1, keepA _ f2, keepA _ f3, keepA _ f4, keepA _ f5, keepA _ f6, keepA _ f7, keepA _ f8, keepA _ f9, keepA _ f10, keepA _ f11, (by simp [go_sem]), (by simp [go_sem]), (by simp [go_sem]), (by simp [go_sem]), keepAf _ f8 g8, keepAf _ f9 g9, keepAf _ f10 g10, keepAf _ f11 g11, (by simp [go_sem]), (by simp [go_sem]), (by simp [go_sem]), (by simp [go_sem])⟩
            rintro w31 ⟨B, f0, f1, f2, f3, f4, f5, f6, f7, f8, f9, f10, f11, f12, f13, f14, f15, g8, g9, g10, g11, g12, g13, g14, g15⟩
            refine hK.out _ _ ⟨f0, f1, f2, f3, f4, f5, f6, f7⟩ (fun _ => ?_)
            clear hK K
            (try simp only [Act.put, List.setIfInBounds_toArray, List.set_cons_zero, List.set_cons_succ])
            refine anyN_ready (rs := [10]) (by kernel_rfl) (by simp) ?_
            refine AllN.last (o := ?o32) ?hi32 (by simp) (fun K hK => ?step32) AllN.nil
            case hi32 => (simp only [List.getElem?_toArray, List.getElem?_cons_zero, List.getElem?_cons_succ]; (first | done | with_reducible rfl))
            go_simp
            refine named (K := K) (fun W' => Below w.heap.size w W' ∧ W'.cell? ⟨w.heap.size, 0, none⟩ = some (.int .i64 a1x) ∧ W'.cell? ⟨w.heap.size, 1, none⟩ = some (.int .i64 a1y) ∧ W'.cell? ⟨w.heap.size, 2, none⟩ = some (.int .i64 a1z) ∧ W'.cell? ⟨w.heap.size, 3, none⟩ = some (.int .i64 a1t) ∧ W'.cell? ⟨w.heap.size + 1, 0, none⟩ = some (.int .i64 a2x) ∧ W'.cell? ⟨w.heap.size + 1, 1, none⟩ = some (.int .i64 a2y) ∧ W'.cell? ⟨w.heap.size + 1, 2, none⟩ = some (.int .i64 a2z) ∧ W'.cell? ⟨w.heap.size + 1, 3, none⟩ = some (.int .i64 a2t) ∧ W'.cell? ⟨w7.heap.size, 0, none⟩ = some (.int .i64 0) ∧ W'.cell? ⟨w7.heap.size, 1, none⟩ = some (.int .i64 0) ∧ W'.cell? ⟨w7.heap.size, 2, none⟩ = some (.int .i64 0) ∧ W'.cell? ⟨w7.heap.size, 3, none⟩ = some (.int .i64 0) ∧ W'.cell? ⟨w29.heap.size, 0, none⟩ = some (.int .i64 i0) ∧ W'.cell? ⟨w29.heap.size, 1, none⟩ = some (.int .i64 i1) ∧ W'.cell? ⟨w29.heap.size, 2, none⟩ = some (.int .i64 i2) ∧ W'.cell? ⟨w29.heap.size, 3, none⟩ = some (.int .i64 i3) ∧ W'.frozen? ⟨w7.heap.size, 0, none⟩ = false ∧ W'.frozen? ⟨w7.heap.size, 1, none⟩ = false ∧ W'.frozen? ⟨w7.heap.size, 2, none⟩ = false ∧ W'.frozen? ⟨w7.heap.size, 3, none⟩ = false) ?_ ?_
            · (try dsimp only)
              have n0 : w29.heap.size ≠ w.heap.size := by clear B; omega
              have n1 : w29.heap.size ≠ w.heap.size + 1 := by clear B; omega
              have n2 : w29.heap.size ≠ w7.heap.size := by clear B; omega
              have nb : w.heap.size ≤ w29.heap.size := by clear B; omega
              obtain ⟨z0, z1, z2, z3⟩ := own4 (x0 := .int .i64 i0) (x1 := .int .i64 i1) (x2 := .int .i64 i2) (x3 := .int .i64 i3) f12 f13 f14 f15
              exact ⟨below4 B nb, far4 f0 n0, far4 f1 n0, far4 f2 n0, far4 f3 n0, far4 f4 n1, far4 f5 n1, far4 f6 n1, far4 f7 n1, far4 f8 n2, far4 f9 n2, far4 f10 n2, far4 f11 n2, z0, z1, z2, z3, froz4 g8, froz4 g9, froz4 g10, froz4 g11⟩
            rintro y32 ⟨B, f0, f1, f2, f3, f4, f5, f6, f7, f8, f9, f10, f11, f12, f13, f14, f15, g8, g9, g10, g11⟩
            refine hK.out _ _ ?_
            clear hK K
            (try simp only [Act.put, List.setIfInBounds_toArray, List.set_cons_zero, List.set_cons_succ])
            refine anyN_ready (rs := [11]) (by kernel_rfl) (by simp) ?_
            refine AllN.last (o := ?o33) ?hi33 (by simp) (fun K hK => ?step33) AllN.nil
            case hi33 => (simp only [List.getElem?_toArray, List.getElem?_cons_zero, List.getElem?_cons_succ]; (first | done | with_reducible rfl))
            go_simp
            refine named (K := K) (fun W' => Below w.heap.size w W' ∧ W'.cell? ⟨w.heap.size, 0, none⟩ = some (.int .i64 a1x) ∧ W'.cell? ⟨w.heap.size, 1, none⟩ = some (.int .i64 a1y) ∧ W'.cell? ⟨w.heap.size, 2, none⟩ = some (.int .i64 a1z) ∧ W'.cell? ⟨w.heap.size, 3, none⟩ = some (.int .i64 a1t) ∧ W'.cell? ⟨w.heap.size + 1, 0, none⟩ = some (.int .i64 a2x) ∧ W'.cell? ⟨w.heap.size + 1, 1, none⟩ = some (.int .i64 a2y) ∧ W'.cell? ⟨w.heap.size + 1, 2, none⟩ = some (.int .i64 a2z) ∧ W'.cell? ⟨w.heap.size + 1, 3, none⟩ = some (.int .i64 a2t) ∧ W'.cell? ⟨w7.heap.size, 0, none⟩ = some (.int .i64 u0) ∧ W'.cell? ⟨w7.heap.size, 1, none⟩ = some (.int .i64 u1) ∧ W'.cell? ⟨w7.heap.size, 2, none⟩ = some (.int .i64 u2) ∧ W'.cell? ⟨w7.heap.size, 3, none⟩ = some (.int .i64 u3) ∧ W'.cell? ⟨w29.heap.size, 0, none⟩ = some (.int .i64 i0) ∧ W'.cell? ⟨w29.heap.size, 1, none⟩ = some (.int .i64 i1) ∧ W'.cell? ⟨w29.heap.size, 2, none⟩ = some (.int .i64 i2) ∧ W'.cell? ⟨w29.heap.size, 3, none⟩ = some (.int .i64 i3)) ?_ ?_
            · (try dsimp only)
              have n0 : w7.heap.size ≠ w.heap.size := by clear B; omega
              have n1 : w7.heap.size ≠ w.heap.size + 1 := by clear B; omega
              have n2 : w7.heap.size ≠ w29.heap.size := by clear B; omega
              have nb : w.heap.size ≤ w7.heap.size := by clear B; omega
              obtain ⟨z0, z1, z2, z3⟩ := own4 (x0 := .int .i64 u0) (x1 := .int .i64 u1) (x2 := .int .i64 u2) (x3 := .int .i64 u3) f8 f9 f10 f11
              exact ⟨below4 B nb, far4 f0 n0, far4 f1 n0, far4 f2 n0, far4 f3 n0, far4 f4 n1, far4 f5 n1, far4 f6 n1, far4 f7 n1, z0, z1, z2, z3, far4 f12 n2, far4 f13 n2, far4 f14 n2, far4 f15 n2⟩
            rintro y33 ⟨B, f0, f1, f2, f3, f4, f5, f6, f7, f8, f9, f10, f11, f12, f13, f14, f15⟩
            refine hK.out _ _ ?_
            clear hK K
            (try simp only [Act.put, List.setIfInBounds_toArray, List.set_cons_zero, List.set_cons_succ])
            refine anyN_done (by kernel_rfl) ?_ _
            exact then_normal ⟨w29.heap.size, w7.heap.size, rfl, B, f0, f1, f2, f3, f4, f5, f6, f7, f12, f13, f14, f15, f8, f9, f10, f11⟩
        case step30 =>
          go_simp
          have m30 : w.heap.size + 1 < w12.heap.size := World.block_lt_of_cell? w12 _ f7
          have p30 : w7.heap.size < w12.heap.size := World.block_lt_of_cell? w12 _ f8
          refine named (K := K) (fun W' => Below w.heap.size w W' ∧ W'.cell? ⟨w.heap.size, 0, none⟩ = some (.int .i64 a1x) ∧ W'.cell? ⟨w.heap.size, 1, none⟩ = some (.int .i64 a1y) ∧ W'.cell? ⟨w.heap.size, 2, none⟩ = some (.int .i64 a1z) ∧ W'.cell? ⟨w.heap.size, 3, none⟩ = some (.int .i64 a1t) ∧ W'.cell? ⟨w.heap.size + 1, 0, none⟩ = some (.int .i64 a2x) ∧ W'.cell? ⟨w.heap.size + 1, 1, none⟩ = some (.int .i64 a2y) ∧ W'.cell? ⟨w.heap.size + 1, 2, none⟩ = some (.int .i64 a2z) ∧ W'.cell? ⟨w.heap.size + 1, 3, none⟩ = some (.int .i64 a2t) ∧ W'.cell? ⟨w7.heap.size, 0, none⟩ = some (.int .i64 0) ∧ W'.cell? ⟨w7.heap.size, 1, none⟩ = some (.int .i64 0) ∧ W'.cell? ⟨w7.heap.size, 2, none⟩ = some (.int .i64 0) ∧ W'.cell? ⟨w7.heap.size, 3, none⟩ = some (.int .i64 0) ∧ W'.cell? ⟨w12.heap.size, 0, none⟩ = some (.int .i64 0) ∧ W'.cell? ⟨w12.heap.size, 1, none⟩ = some (.int .i64 0) ∧ W'.cell? ⟨w12.heap.size, 2, none⟩ = some (.int .i64 0) ∧ W'.cell? ⟨w12.heap.size, 3, none⟩ = some (.int .i64 0) ∧ W'.frozen? ⟨w7.heap.size, 0, none⟩ = false ∧ W'.frozen? ⟨w7.heap.size, 1, none⟩ = false ∧ W'.frozen? ⟨w7.heap.size, 2, none⟩ = false ∧ W'.frozen? ⟨w7.heap.size, 3, none⟩ = false ∧ W'.frozen? ⟨w12.heap.size, 0, none⟩ = false ∧ W'.frozen? ⟨w12.heap.size, 1, none⟩ = false ∧ W'.frozen? ⟨w12.heap.size, 2, none⟩ = false ∧ W'.frozen? ⟨w12.heap.size, 3, none⟩ = false) ?_ ?_
          · (try dsimp only)
            exact ⟨B.alloc B.size _, keepA _ f0, keepA _ f1, keepA _ f2, keepA _ f3, keepA _ f4, keepA _ f5, keepA _ f6, keepA _ f7, keepA _ f8, keepA _ f9, keepA _ f10, keepA _ f11, (by simp [go_sem]), (by simp [go_sem]), (by simp [go_sem]), (by simp [go_sem]), keepAf _ f8 g8, keepAf _ f9 g9, keepAf _ f10 g10, keepAf _ f11 g11, (by simp [go_sem]), (by simp [go_sem]), (by simp [go_sem]), (by simp [go_sem])⟩
          rintro w30 ⟨B, f0, f1, f2, f3, f4, f5, f6, f7, f8, f9, f10, f11, f12, f13, f14, f15, g8, g9, g10, g11, g12, g13, g14, g15⟩
          refine hK.out _ _ ⟨f0, f1, f2, f3, f4, f5, f6, f7⟩ (fun _ => ?_)
          clear hK K
          (try simp only [Act.put, List.setIfInBounds_toArray, List.set_cons_zero, List.set_cons_succ])
          refine anyN_ready (rs := [7]) (by kernel_rfl) (by simp) (AllN.cons (o := ?o34) ?hi34 (fun K hK => ?step34) AllN.nil)
          case hi34 => (simp only [List.getElem?_toArray, List.getElem?_cons_zero, List.getElem?_cons_succ]; (first | done | with_reducible rfl))
          case step34 =>
            go_simp
            (go_at_call 17; (with_reducible refine (iUnio_any _ _ _ _ _ _ _ _ _ _).mono ?_); rintro e w34 ⟨rfl, hb⟩; replace g8 := keepf hb f8 g8; replace g9 := keepf hb f9 g9; replace g10 := keepf hb f10 g10; replace g11 := keepf hb f11 g11; replace g12 := keepf hb f12 g12; replace g13 := keepf hb f13 g13; replace g14 := keepf hb f14 g14; replace g15 := keepf hb f15 g15; replace f0 := keepc hb f0; replace f1 := keepc hb f1; replace f2 := keepc hb f2; replace f3 := keepc hb f3; replace f4 := keepc hb f4; replace f5 := keepc hb f5; replace f6 := keepc hb f6; replace f7 := keepc hb f7; replace f8 := keepc hb f8; replace f9 := keepc hb f9; replace f10 := keepc hb f10; replace f11 := keepc hb f11; replace f12 := keepc hb f12; replace f13 := keepc hb f13; replace f14 := keepc hb f14; replace f15 := keepc hb f15; replace B := keepb B hb; clear hb)
            refine hK.out _ _ ⟨f0, f1, f2, f3, f4, f5, f6, f7⟩ (fun _ => ?_)
            clear hK K
            (try simp only [Act.put, List.setIfInBounds_toArray, List.set_cons_zero, List.set_cons_succ])
            simp only [er0, er1, er2, er3, es0, es1, es2, es3, qu0, qu1, qu2, qu3]
            refine anyN_ready (rs := [10]) (by kernel_rfl) (by simp) ?_
            refine AllN.last (o := ?o35) ?hi35 (by simp) (fun K hK => ?step35) AllN.nil
            case hi35 => (simp only [List.getElem?_toArray, List.getElem?_cons_zero, List.getElem?_cons_succ]; (first | done | with_reducible rfl))
            go_simp
            refine named (K := K) (fun W' => Below w.heap.size w W' ∧ W'.cell? ⟨w.heap.size, 0, none⟩ = some (.int .i64 a1x) ∧ W'.cell? ⟨w.heap.size, 1, none⟩ = some (.int .i64 a1y) ∧ W'.cell? ⟨w.heap.size, 2, none⟩ = some (.int .i64 a1z) ∧ W'.cell? ⟨w.heap.size, 3, none⟩ = some (.int .i64 a1t) ∧ W'.cell? ⟨w.heap.size + 1, 0, none⟩ = some (.int .i64 a2x) ∧ W'.cell? ⟨w.heap.size + 1, 1, none⟩ = some (.int .i64 a2y) ∧ W'.cell? ⟨w.heap.size + 1, 2, none⟩ = some (.int .i64 a2z) ∧ W'.cell? ⟨w.heap.size + 1, 3, none⟩ = some (.int .i64 a2t) ∧ W'.cell? ⟨w7.heap.size, 0, none⟩ = some (.int .i64 0) ∧ W'.cell? ⟨w7.heap.size, 1, none⟩ = some (.int .i64 0) ∧ W'.cell? ⟨w7.heap.size, 2, none⟩ = some (.int .i64 0) ∧ W'.cell? ⟨w7.heap.size, 3, none⟩ = some (.int .i64 0) ∧ W'.cell? ⟨w12.heap.size, 0, none⟩ = some (.int .i64 i0) ∧ W'.cell? ⟨w12.heap.size, 1, none⟩ = some (.int .i64 i1) ∧ W'.cell? ⟨w12.heap.size, 2, none⟩ = some (.int .i64 i2) ∧ W'.cell? ⟨w12.heap.size, 3, none⟩ = some (.int .i64 i3) ∧ W'.frozen? ⟨w7.heap.size, 0, none⟩ = false ∧ W'.frozen? ⟨w7.heap.size, 1, none⟩ = false ∧ W'.frozen? ⟨w7.heap.size, 2, none⟩ = false ∧ W'.frozen? ⟨w7.heap.size, 3, none⟩ = false) ?_ ?_
            · (try dsimp only)
              have n0 : w12.heap.size ≠ w.heap.size := by clear B; omega
              have n1 : w12.heap.size ≠ w.heap.size + 1 := by clear B; omega
              have n2 : w12.heap.size ≠ w7.heap.size := by clear B; omega
              have nb : w.heap.size ≤ w12.heap.size := by clear B; omega
              obtain ⟨z0, z1, z2, z3⟩ := own4 (x0 := .int .i64 i0) (x1 := .int .i64 i1) (x2 := .int .i64 i2) (x3 := .int .i64 i3) f12 f13 f14 f15
              exact ⟨below4 B nb, far4 f0 n0, far4 f1 n0, far4 f2 n0, far4 f3 n0, far4 f4 n1, far4 f5 n1, far4 f6 n1, far4 f7 n1, far4 f8 n2, far4 f9 n2, far4 f10 n2, far4 f11 n2, z0, z1, z2, z3, froz4 g8, froz4 g9, froz4 g10, froz4 g11⟩
            rintro y35 ⟨B, f0, f1, f2, f3, f4, f5, f6, f7, f8, f9, f10, f11, f12, f13, f14, f15, g8, g9, g10, g11⟩
            refine hK.out _ _ ?_
            clear hK K
            (try simp only [Act.put, List.setIfInBounds_toArray, List.set_cons_zero, List.set_cons_succ])
            refine anyN_ready (rs := [11]) (by kernel_rfl) (by simp) ?_
            refine AllN.last (o := ?o36) ?hi36 (by simp) (fun K hK => ?step36) AllN.nil
            case hi36 => (simp only [List.getElem?_toArray, List.getElem?_cons_zero, List.getElem?_cons_succ]; (first | done | with_reducible rfl))
            go_simp
            refine named (K := K) (fun W' => Below w.heap.size w W' ∧ W'.cell? ⟨w.heap.size, 0, none⟩ = some (.int .i64 a1x) ∧ W'.cell? ⟨w.heap.size, 1, none⟩ = some (.int .i64 a1y) ∧ W'.cell? ⟨w.heap.size, 2, none⟩ = some (.int .i64 a1z) ∧ W'.cell? ⟨w.heap.size, 3, none⟩ = some (.int .i64 a1t) ∧ W'.cell? ⟨w.heap.size + 1, 0, none⟩ = some (.int .i64 a2x) ∧ W'.cell? ⟨w.heap.size + 1, 1, none⟩ = some (.int .i64 a2y) ∧ W'.cell? ⟨w.heap.size + 1, 2, none⟩ = some (.int .i64 a2z) ∧ W'.cell? ⟨w.heap.size + 1, 3, none⟩ = some (.int .i64 a2t) ∧ W'.cell? ⟨w7.heap.size, 0, none⟩ = some (.int .i64 u0) ∧ W'.cell? ⟨w7.heap.size, 1, none⟩ = some (.int .i64 u1) ∧ W'.cell? ⟨w7.heap.size, 2, none⟩ = some (.int .i64 u2) ∧ W'.cell? ⟨w7.heap.size, 3, none⟩ = some (.int .i64 u3) ∧ W'.cell? ⟨w12.heap.size, 0, none⟩ = some (.int .i64 i0) ∧ W'.cell? ⟨w12.heap.size, 1, none⟩ = some (.int .i64 i1) ∧ W'.cell? ⟨w12.heap.size, 2, none⟩ = some (.int .i64 i2) ∧ W'.cell? ⟨w12.heap.size, 3, none⟩ = some (.int .i64 i3)) ?_ ?_
            · (try dsimp only)
              have n0 : w7.heap.size ≠ w.heap.size := by clear B; omega
              have n1 : w7.heap.size ≠ w.heap.size + 1 := by clear B; omega
              have n2 : w7.heap.size ≠ w12.heap.size := by clear B; omega
              have nb : w.heap.size ≤ w7.heap.size := by clear B; omega
              obtain ⟨z0, z1, z2, z3⟩ := own4 (x0 := .int .i64 u0) (x1 := .int .i64 u1) (x2 := .int .i64 u2) (x3 := .int .i64 u3) f8 f9 f10 f11
              exact ⟨below4 B nb, far4 f0 n0, far4 f1 n0, far4 f2 n0, far4 f3 n0, far4 f4 n1, far4 f5 n1, far4 f6 n1, far4 f7 n1, z0, z1, z2, z3, far4 f12 n2, far4 f13 n2, far4 f14 n2, far4 f15 n2⟩
            rintro y36 ⟨B, f0, f1, f2, f3, f4, f5, f6, f7, f8, f9, f10, f11, f12, f13, f14, f15⟩
            refine hK.out _ _ ?_
            clear hK K
            (try simp only [Act.put, List.setIfInBounds_toArray, List.set_cons_zero, List.set_cons_succ])
            refine anyN_done (by kernel_rfl) ?_ _
            exact then_normal ⟨w12.heap.size, w7.heap.size, rfl, B, f0, f1, f2, f3, f4, f5, f6, f7, f12, f13, f14, f15, f8, f9, f10, f11⟩
    case step8 =>
      go_simp
      have m8 : w.heap.size + 1 < W.heap.size := World.block_lt_of_cell? W _ f7
      refine named (K := K) (fun W' => Below w.heap.size w W' ∧ W'.cell? ⟨w.heap.size, 0, none⟩ = some (.int .i64 a1x) ∧ W'.cell? ⟨w.heap.size, 1, none⟩ = some (.int .i64 a1y) ∧ W'.cell? ⟨w.heap.size, 2, none⟩ = some (.int .i64 a1z) ∧ W'.cell? ⟨w.heap.size, 3, none⟩ = some (.int .i64 a1t) ∧ W'.cell? ⟨w.heap.size + 1, 0, none⟩ = some (.int .i64 a2x) ∧ W'.cell? ⟨w.heap.size + 1, 1, none⟩ = some (.int .i64 a2y) ∧ W'.cell? ⟨w.heap.size + 1, 2, none⟩ = some (.int .i64 a2z) ∧ W'.cell? ⟨w.heap.size + 1, 3, none⟩ = some (.int .i64 a2t) ∧ W'.cell? ⟨W.heap.size, 0, none⟩ = some (.int .i64 0) ∧ W'.cell? ⟨W.heap.size, 1, none⟩ = some (.int .i64 0) ∧ W'.cell? ⟨W.heap.size, 2, none⟩ = some (.int .i64 0) ∧ W'.cell? ⟨W.heap.size, 3, none⟩ = some (.int .i64 0) ∧ W'.frozen? ⟨W.heap.size, 0, none⟩ = false ∧ W'.frozen? ⟨W.heap.size, 1, none⟩ = false ∧ W'.frozen? ⟨W.heap.size, 2, none⟩ = false ∧ W'.frozen? ⟨W.heap.size, 3, none⟩ = false) ?_ ?_
      · (try dsimp only)
        exact ⟨B.alloc B.size _, keepA _ f0, keepA _ f1, keepA _ f2, keepA _ f3, keepA _ f4, keepA _ f5, keepA _ f6, keepA _ f7, (by simp [go_sem]), (by simp [go_sem]), (by simp [go_sem]), (by simp [go_sem]), (by simp [go_sem]), (by simp [go_sem]), (by simp [go_sem]), (by simp [go_sem])⟩
      rintro w8 ⟨B, f0, f1, f2, f3, f4, f5, f6, f7, f8, f9, f10, f11, g8, g9, g10, g11⟩
      refine hK.out _ _ ⟨f0, f1, f2, f3, f4, f5, f6, f7⟩ (fun _ => ?_)
      clear hK K
      (try simp only [Act.put, List.setIfInBounds_toArray, List.set_cons_zero, List.set_cons_succ])
      refine anyN_ready (rs := [3, 9]) (by kernel_rfl) (by simp) (AllN.cons (o := ?o37) ?hi37 (fun K hK => ?step37) (AllN.cons (o := ?o38) ?hi38 (fun K hK => ?step38) AllN.nil))
      case hi37 => (simp only [List.getElem?_toArray, List.getElem?_cons_zero, List.getElem?_cons_succ]; (first | done | with_reducible rfl))
      case hi38 => (simp only [List.getElem?_toArray, List.getElem?_cons_zero, List.getElem?_cons_succ]; (first | done | with_reducible rfl))
      case step37 =>
        go_simp
        (go_at_call 16; (with_reducible refine (iInter_any _ _ _ _ _ _ _ _ _ _).mono ?_); rintro e w37 ⟨rfl, hb⟩; replace g8 := keepf hb f8 g8; replace g9 := keepf hb f9 g9; replace g10 := keepf hb f10 g10; replace g11 := keepf hb f11 g11; replace f0 := keepc hb f0; replace f1 := keepc hb f1; replace f2 := keepc hb f2; replace f3 := keepc hb f3; replace f4 := keepc hb f4; replace f5 := keepc hb f5; replace f6 := keepc hb f6; replace f7 := keepc hb f7; replace f8 := keepc hb f8; replace f9 := keepc hb f9; replace f10 := keepc hb f10; replace f11 := keepc hb f11; replace B := keepb B hb; clear hb)
        refine hK.out _ _ ⟨f0, f1, f2, f3, f4, f5, f6, f7⟩ (fun _ => ?_)
        clear hK K
        (try simp only [Act.put, List.setIfInBounds_toArray, List.set_cons_zero, List.set_cons_succ])
        simp only [er0, er1, er2, er3, es0, es1, es2, es3, qi0, qi1, qi2, qi3]
        refine anyN_ready (rs := [7, 9]) (by kernel_rfl) (by simp) (AllN.cons (o := ?o39) ?hi39 (fun K hK => ?step39) (AllN.cons (o := ?o40) ?hi40 (fun K hK => ?step40) AllN.nil))
        case hi39 => (simp only [List.getElem?_toArray, List.getElem?_cons_zero, List.getElem?_cons_succ]; (first | done | with_reducible rfl))
        case hi40 => (simp only [List.getElem?_toArray, List.getElem?_cons_zero, List.getElem?_cons_succ]; (first | done | with_reducible rfl))
        case step39 =>
          go_simp
          (go_at_call 17; (with_reducible refine (iUnio_any _ _ _ _ _ _ _ _ _ _).mono ?_); rintro e w39 ⟨rfl, hb⟩; replace g8 := keepf hb f8 g8; replace g9 := keepf hb f9 g9; replace g10 := keepf hb f10 g10; replace g11 := keepf hb f11 g11; replace f0 := keepc hb f0; replace f1 := keepc hb f1; replace f2 := keepc hb f2; replace f3 := keepc hb f3; replace f4 := keepc hb f4; replace f5 := keepc hb f5; replace f6 := keepc hb f6; replace f7 := keepc hb f7; replace f8 := keepc hb f8; replace f9 := keepc hb f9; replace f10 := keepc hb f10; replace f11 := keepc hb f11; replace B := keepb B hb; clear hb)
          refine hK.out _ _ ⟨f0, f1, f2, f3, f4, f5, f6, f7⟩ (fun _ => ?_)
          clear hK K
          (try simp only [Act.put, List.setIfInBounds_toArray, List.set_cons_zero, List.set_cons_succ])
          simp only [er0, er1, er2, er3, es0, es1, es2, es3, qu0, qu1, qu2, qu3]
          refine anyN_ready (rs := [9]) (by kernel_rfl) (by simp) (AllN.cons (o := ?o41) ?hi41 (fun K hK => ?step41) AllN.nil)
          case hi41 => (simp only [List.getElem?_toArray, List.getElem?_cons_zero, List.getElem?_cons_succ]; (first | done | with_reducible rfl))
          case step41 =>
            go_simp
            have m41 : w.heap.size + 1 < w39.heap.size := World.block_lt_of_cell? w39 _ f7
            have p41 : W.heap.size < w39.heap.size := World.block_lt_of_cell? w39 _ f8
            refine named (K := K) (fun W' => Below w.heap.size w W' ∧ W'.cell? ⟨w.heap.size, 0, none⟩ = some (.int .i64 a1x) ∧ W'.cell? ⟨w.heap.size, 1, none⟩ = some (.int .i64 a1y) ∧ W'.cell? ⟨w.heap.size, 2, none⟩ = some (.int .i64 a1z) ∧ W'.cell? ⟨w.heap.size, 3, none⟩ = some (.int .i64 a1t) ∧ W'.cell? ⟨w.heap.size + 1, 0, none⟩ = some (.int .i64 a2x) ∧ W'.cell? ⟨w.heap.size + 1, 1, none⟩ = some (.int .i64 a2y) ∧ W'.cell? ⟨w.heap.size + 1, 2, none⟩ = some (.int .i64 a2z) ∧ W'.cell? ⟨w.heap.size + 1, 3, none⟩ = some (.int .i64 a2t) ∧ W'.cell? ⟨W.heap.size, 0, none⟩ = some (.int .i64 0) ∧ W'.cell? ⟨W.heap.size, 1, none⟩ = some (.int .i64 0) ∧ W'.cell? ⟨W.heap.size, 2, none⟩ = some (.int .i64 0) ∧ W'.cell? ⟨W.heap.size, 3, none⟩ = some (.int .i64 0) ∧ W'.cell? ⟨w39.heap.size, 0, none⟩ = some (.int .i64 0) ∧ W'.cell? ⟨w39.heap.size, 1, none⟩ = some (.int .i64 0) ∧ W'.cell? ⟨w39.heap.size, 2, none⟩ = some (.int .i64 0) ∧ W'.cell? ⟨w39.heap.size, 3, none⟩ = some (.int .i64 0) ∧ W'.frozen? ⟨W.heap.size, 0, none⟩ = false ∧ W'.frozen? ⟨W.heap.size, 1, none⟩ = false ∧ W'.frozen? ⟨W.heap.size, 2, none⟩ = false ∧ W'.frozen? ⟨W.heap.size, 3, none⟩ = false ∧ W'.frozen? ⟨w39.heap.size, 0, none⟩ = false ∧ W'.frozen? ⟨w39.heap.size, 1, none⟩ = false ∧ W'.frozen? ⟨w39.heap.size, 2, none⟩ = false ∧ W'.frozen? ⟨w39.heap.size, 3, none⟩ = false) ?_ ?_
            · (try dsimp only)
              exact ⟨B.alloc B.size _, keepA _ f0, keepA _ f1, keepA _ f2, keepA _ f3, keepA _ f4, keepA _ f5, keepA _ f6, keepA _ f7, keepA _ f8, keepA _ f9, keepA _ f10, keepA _ f11, (by simp [go_sem]), (by simp [go_sem]), (by simp [go_sem]), (by simp [go_sem]), keepAf _ f8 g8, keepAf _ f9 g9, keepAf _ f10 g10, keepAf _ f11 g11, (by simp [go_sem]), (by simp [go_sem]), (by simp [go_sem]), (by simp [go_sem])⟩
            rintro w41 ⟨B, f0, f1, f2, f3, f4, f5, f6, f7, f8, f9, f10, f11, f12, f13, f14, f15, g8, g9, g10, g11, g12, g13, g14, g15⟩
            refine hK.out _ _ ⟨f0, f1, f2, f3, f4, f5, f6, f7⟩ (fun _ => ?_)
            clear hK K
            (try simp only [Act.put, List.setIfInBounds_toArray, List.set_cons_zero, List.set_cons_succ])
            refine anyN_ready (rs := [10]) (by kernel_rfl) (by simp) ?_
            refine AllN.last (o := ?o42) ?hi42 (by simp) (fun K hK => ?step42) AllN.nil
            case hi42 => (simp only [List.getElem?_toArray, List.getElem?_cons_zero, List.getElem?_cons_succ]; (first | done | with_reducible rfl))
            go_simp
            refine named (K := K) (fun W' => Below w.heap.size w W' ∧ W'.cell? ⟨w.heap.size, 0, none⟩ = some (.int .i64 a1x) ∧ W'.cell? ⟨w.heap.size, 1, none⟩ = some (.int .i64 a1y) ∧ W'.cell? ⟨w.heap.size, 2, none⟩ = some (.int .i64 a1z) ∧ W'.cell? ⟨w.heap.size, 3, none⟩ = some (.int .i64 a1t) ∧ W'.cell? ⟨w.heap.size + 1, 0, none⟩ = some (.int .i64 a2x) ∧ W'.cell? ⟨w.heap.size + 1, 1, none⟩ = some (.int .i64 a2y) ∧ W'.cell? ⟨w.heap.size + 1, 2, none⟩ = some (.int .i64 a2z) ∧ W'.cell? ⟨w.heap.size + 1, 3, none⟩ = some (.int .i64 a2t) ∧ W'.cell? ⟨W.heap.size, 0, none⟩ = some (.int .i64 i0) ∧ W'.cell? ⟨W.heap.size, 1, none⟩ = some (.int .i64 i1) ∧ W'.cell? ⟨W.heap.size, 2, none⟩ = some (.int .i64 i2) ∧ W'.cell? ⟨W.heap.size, 3, none⟩ = some (.int .i64 i3) ∧ W'.cell? ⟨w39.heap.size, 0, none⟩ = some (.int .i64 0) ∧ W'.cell? ⟨w39.heap.size, 1, none⟩ = some (.int .i64 0) ∧ W'.cell? ⟨w39.heap.size, 2, none⟩ = some (.int .i64 0) ∧ W'.cell? ⟨w39.heap.size, 3, none⟩ = some (.int .i64 0) ∧ W'.frozen? ⟨w39.heap.size, 0, none⟩ = false ∧ W'.frozen? ⟨w39.heap.size, 1, none⟩ = false ∧ W'.frozen? ⟨w39.heap.size, 2, none⟩ = false ∧ W'.frozen? ⟨w39.heap.size, 3, none⟩ = false) ?_ ?_
            · (try dsimp only)
              have n0 : W.heap.size ≠ w.heap.size := by clear B; omega
              have n1 : W.heap.size ≠ w.heap.size + 1 := by clear B; omega
              have n2 : W.heap.size ≠ w39.heap.size := by clear B; omega
              have nb : w.heap.size ≤ W.heap.size := by clear B; omega
              obtain ⟨z0, z1, z2, z3⟩ := own4 (x0 := .int .i64 i0) (x1 := .int .i64 i1) (x2 := .int .i64 i2) (x3 := .int .i64 i3) f8 f9 f10 f11
              exact ⟨below4 B nb, far4 f0 n0, far4 f1 n0, far4 f2 n0, far4 f3 n0, far4 f4 n1, far4 f5 n1, far4 f6 n1, far4 f7 n1, z0, z1, z2, z3, far4 f12 n2, far4 f13 n2, far4 f14 n2, far4 f15 n2, froz4 g12, froz4 g13, froz4 g14, froz4 g15⟩
            rintro y42 ⟨B, f0, f1, f2, f3, f4, f5, f6, f7, f8, f9, f10, f11, f12, f13, f14, f15, g12, g13, g14, g15⟩
            refine hK.out _ _ ?_
            clear hK K
            (try simp only [Act.put, List.setIfInBounds_toArray, List.set_cons_zero, List.set_cons_succ])
            refine anyN_ready (rs := [11]) (by kernel_rfl) (by simp) ?_
            refine AllN.last (o := ?o43) ?hi43 (by simp) (fun K hK => ?step43) AllN.nil
            case hi43 => (simp only [List.getElem?_toArray, List.getElem?_cons_zero, List.getElem?_cons_succ]; (first | done | with_reducible rfl))
            go_simp
            refine named (K := K) (fun W' => Below w.heap.size w W' ∧ W'.cell? ⟨w.heap.size, 0, none⟩ = some (.int .i64 a1x) ∧ W'.cell? ⟨w.heap.size, 1, none⟩ = some (.int .i64 a1y) ∧ W'.cell? ⟨w.heap.size, 2, none⟩ = some (.int .i64 a1z) ∧ W'.cell? ⟨w.heap.size, 3, none⟩ = some (.int .i64 a1t) ∧ W'.cell? ⟨w.heap.size + 1, 0, none⟩ = some (.int .i64 a2x) ∧ W'.cell? ⟨w.heap.size + 1, 1, none⟩ = some (.int .i64 a2y) ∧ W'.cell? ⟨w.heap.size + 1, 2, none⟩ = some (.int .i64 a2z) ∧ W'.cell? ⟨w.heap.size + 1, 3, none⟩ = some (.int .i64 a2t) ∧ W'.cell? ⟨W.heap.size, 0, none⟩ = some (.int .i64 i0) ∧ W'.cell? ⟨W.heap.size, 1, none⟩ = some (.int .i64 i1) ∧ W'.cell? ⟨W.heap.size, 2, none⟩ = some (.int .i64 i2) ∧ W'.cell? ⟨W.heap.size, 3, none⟩ = some (.int .i64 i3) ∧ W'.cell? ⟨w39.heap.size, 0, none⟩ = some (.int .i64 u0) ∧ W'.cell? ⟨w39.heap.size, 1, none⟩ = some (.int .i64 u1) ∧ W'.cell? ⟨w39.heap.size, 2, none⟩ = some (.int .i64 u2) ∧ W'.cell? ⟨w39.heap.size, 3, none⟩ = some (.int .i64 u3)) ?_ ?_
            · (try dsimp only)
              have n0 : w39.heap.size ≠ w.heap.size := by clear B; omega
              have n1 : w39.heap.size ≠ w.heap.size + 1 := by clear B; omega
              have n2 : w39.heap.size ≠ W.heap.size := by clear B; omega
              have nb : w.heap.size ≤ w39.heap.size := by clear B; omega
              obtain ⟨z0, z1, z2, z3⟩ := own4 (x0 := .int .i64 u0) (x1 := .int .i64 u1) (x2 := .int .i64 u2) (x3 := .int .i64 u3) f12 f13 f14 f15
              exact ⟨below4 B nb, far4 f0 n0, far4 f1 n0, far4 f2 n0, far4 f3 n0, far4 f4 n1, far4 f5 n1, far4 f6 n1, far4 f7 n1, far4 f8 n2, far4 f9 n2, far4 f10 n2, far4 f11 n2, z0, z1, z2, z3⟩
            rintro y43 ⟨B, f0, f1, f2, f3, f4, f5, f6, f7, f8, f9, f10, f11, f12, f13, f14, f15⟩
            refine hK.out _ _ ?_
            clear hK K
            (try simp only [Act.put, List.setIfInBounds_toArray, List.set_cons_zero, List.set_cons_succ])
            refine anyN_done (by kernel_rfl) ?_ _
            exact then_normal ⟨W.heap.size, w39.heap.size, rfl, B, f0, f1, f2, f3, f4, f5, f6, f7, f8, f9, f10, f11, f12, f13, f14, f15⟩
        case step40 =>
          go_simp
          have m40 : w.heap.size + 1 < w37.heap.size := World.block_lt_of_cell? w37 _ f7
          have p40 : W.heap.size < w37.heap.size := World.block_lt_of_cell? w37 _ f8
          refine named (K := K) (fun W' => Below w.heap.size w W' ∧ W'.cell? ⟨w.heap.size, 0, none⟩ = some (.int .i64 a1x) ∧ W'.cell? ⟨w.heap.size, 1, none⟩ = some (.int .i64 a1y) ∧ W'.cell? ⟨w.heap.size, 2, none⟩ = some (.int .i64 a1z) ∧ W'.cell? ⟨w.heap.size, 3, none⟩ = some (.int .i64 a1t) ∧ W'.cell? ⟨w.heap.size + 1, 0, none⟩ = some (.int .i64 a2x) ∧ W'.cell? ⟨w.heap.size + 1, 1, none⟩ = some (.int .i64 a2y) ∧ W'.cell? ⟨w.heap.size + 1, 2, none⟩ = some (.int .i64 a2z) ∧ W'.cell? ⟨w.heap.size + 1, 3, none⟩ = some (.int .i64 a2t) ∧ W'.cell? ⟨W.heap.size, 0, none⟩ = some (.int .i64 0) ∧ W'.cell? ⟨W.heap.size, 1, none⟩ = some (.int .i64 0) ∧ W'.cell? ⟨W.heap.size, 2, none⟩ = some (.int .i64 0) ∧ W'.cell? ⟨W.heap.size, 3, none⟩ = some (.int .i64 0) ∧ W'.cell? ⟨w37.heap.size, 0, none⟩ = some (.int .i64 0) ∧ W'.cell? ⟨w37.heap.size, 1, none⟩ = some (.int .i64 0) ∧ W'.cell? ⟨w37.heap.size, 2, none⟩ = some (.int .i64 0) ∧ W'.cell? ⟨w37.heap.size, 3, none⟩ = some (.int .i64 0) ∧ W'.frozen? ⟨W.heap.size, 0, none⟩ = false ∧ W'.frozen? ⟨W.heap.size, 1, none⟩ = false ∧ W'.frozen? ⟨W.heap.size, 2, none⟩ = false ∧ W'.frozen? ⟨W.heap.size, 3, none⟩ = false ∧ W'.frozen? ⟨w37.heap.size, 0, none⟩ = false ∧ W'.frozen? ⟨w37.heap.size, 1, none⟩ = false ∧ W'.frozen? ⟨w37.heap.size, 2, none⟩ = false ∧ W'.frozen? ⟨w37.heap.size, 3, none⟩ = false) ?_ ?_
          · (try dsimp only)
            exact ⟨B.alloc B.size _, keepA _ f0, keepA _ f1, keepA _ f2, keepA _ f3, keepA _ f4, keepA _ f5, keepA _ f6, keepA _ f7, keepA _ f8, keepA _ f9, keepA _ f10, keepA _ f11, (by simp [go_sem]), (by simp [go_sem]), (by simp [go_sem]), (by simp [go_sem]), keepAf _ f8 g8, keepAf _ f9 g9, keepAf _ f10 g10, keepAf _ f11 g11, (by simp [go_sem]), (by simp [go_sem]), (by simp [go_sem]), (by simp [go_sem])⟩
          rintro w40 ⟨B, f0, f1, f2, f3, f4, f5, f6, f7, f8, f9, f10, f11, f12, f13, f14, f15, g8, g9, g10, g11, g12, g13, g14, g15⟩
          refine hK.out _ _ ⟨f0, f1, f2, f3, f4, f5, f6, f7⟩ (fun _ => ?_)
          clear hK K
          (try simp only [Act.put, List.setIfInBounds_toArray, List.set_cons_zero, List.set_cons_succ])
          refine anyN_ready (rs := [7]) (by kernel_rfl) (by simp) (AllN.cons (o := ?o44) ?hi44 (fun K hK => ?step44) AllN.nil)
          case hi44 => (simp only [List.getElem?_toArray, List.getElem?_cons_zero, List.getElem?_cons_succ]; (first | done | with_reducible rfl))
          case step44 =>
            go_simp
            (go_at_call 17; (with_reducible refine (iUnio_any _ _ _ _ _ _ _ _ _ _).mono ?_); rintro e w44 ⟨rfl, hb⟩; replace g8 := keepf hb f8 g8; replace g9 := keepf hb f9 g9; replace g10 := keepf hb f10 g10; replace g11 := keepf hb f11 g11; replace g12 := keepf hb f12 g12; replace g13 := keepf hb f13 g13; replace g14 := keepf hb f14 g14; replace g15 := keepf hb f15 g15; replace f0 := keepc hb f0; replace f1 := keepc hb f1; replace f2 := keepc hb f2; replace f3 := keepc hb f3; replace f4 := keepc hb f4; replace f5 := keepc hb f5; replace f6 := keepc hb f6; replace f7 := keepc hb f7; replace f8 := keepc hb f8; replace f9 := keepc hb f9; replace f10 := keepc hb f10; replace f11 := keepc hb f11; replace f12 := keepc hb f12; replace f13 := keepc hb f13; replace f14 := keepc hb f14; replace f15 := keepc hb f15; replace B := keepb B hb; clear hb)
            refine hK.out _ _ ⟨f0, f1, f2, f3, f4, f5, f6, f7⟩ (fun _ => ?_)
            clear hK K
            (try simp only [Act.put, List.setIfInBounds_toArray, List.set_cons_zero, List.set_cons_succ])
            simp only [er0, er1, er2, er3, es0, es1, es2, es3, qu0, qu1, qu2, qu3]
            refine anyN_ready (rs := [10]) (by kernel_rfl) (by simp) ?_
            refine AllN.last (o := ?o45) ?hi45 (by simp) (fun K hK => ?step45) AllN.nil
            case hi45 => (simp only [List.getElem?_toArray, List.getElem?_cons_zero, List.getElem?_cons_succ]; (first | done | with_reducible rfl))
            go_simp
            refine named (K := K) (fun W' => Below w.heap.size w W' ∧ W'.cell? ⟨w.heap.size, 0, none⟩ = some (.int .i64 a1x) ∧ W'.cell? ⟨w.heap.size, 1, none⟩ = some (.int .i64 a1y) ∧ W'.cell? ⟨w.heap.size, 2, none⟩ = some (.int .i64 a1z) ∧ W'.cell? ⟨w.heap.size, 3, none⟩ = some (.int .i64 a1t) ∧ W'.cell? ⟨w.heap.size + 1, 0, none⟩ = some (.int .i64 a2x) ∧ W'.cell? ⟨w.heap.size + 1, 1, none⟩ = some (.int .i64 a2y) ∧ W'.cell? ⟨w.heap.size + 1, 2, none⟩ = some (.int .i64 a2z) ∧ W'.cell? ⟨w.heap.size + 1, 3, none⟩ = some (.int .i64 a2t) ∧ W'.cell? ⟨W.heap.size, 0, none⟩ = some (.int .i64 i0) ∧ W'.cell? ⟨W.heap.size, 1, none⟩ = some (.int .i64 i1) ∧ W'.cell? ⟨W.heap.size, 2, none⟩ = some (.int .i64 i2) ∧ W'.cell? ⟨W.heap.size, 3, none⟩ = some (.int .i64 i3) ∧ W'.cell? ⟨w37.heap.size, 0, none⟩ = some (.int .i64 0) ∧ W'.cell? ⟨w37.heap.size, 1, none⟩ = some (.int .i64 0) ∧ W'.cell? ⟨w37.heap.size, 2, none⟩ = some (.int .i64 0) ∧ W'.cell? ⟨w37.heap.size, 3, none⟩ = some (.int .i64 0) ∧ W'.frozen? ⟨w37.heap.size, 0, none⟩ = false ∧ W'.frozen? ⟨w37.heap.size, 1, none⟩ = false ∧ W'.frozen? ⟨w37.heap.size, 2, none⟩ = false ∧ W'.frozen? ⟨w37.heap.size, 3, none⟩ = false) ?_ ?_
            · (try dsimp only)
              have n0 : W.heap.size ≠ w.heap.size := by clear B; omega
              have n1 : W.heap.size ≠ w.heap.size + 1 := by clear B; omega
              have n2 : W.heap.size ≠ w37.heap.size := by clear B; omega
              have nb : w.heap.size ≤ W.heap.size := by clear B; omega
              obtain ⟨z0, z1, z2, z3⟩ := own4 (x0 := .int .i64 i0) (x1 := .int .i64 i1) (x2 := .int .i64 i2) (x3 := .int .i64 i3) f8 f9 f10 f11
              exact ⟨below4 B nb, far4 f0 n0, far4 f1 n0, far4 f2 n0, far4 f3 n0, far4 f4 n1, far4 f5 n1, far4 f6 n1, far4 f7 n1, z0, z1, z2, z3, far4 f12 n2, far4 f13 n2, far4 f14 n2, far4 f15 n2, froz4 g12, froz4 g13, froz4 g14, froz4 g15⟩
            rintro y45 ⟨B, f0, f1, f2, f3, f4, f5, f6, f7, f8, f9, f10, f11, f12, f13, f14, f15, g12, g13, g14, g15⟩
            refine hK.out _ _ ?_
            clear hK K
            (try simp only [Act.put, List.setIfInBounds_toArray, List.set_cons_zero, List.set_cons_succ])
            refine anyN_ready (rs := [11]) (by kernel_rfl) (by simp) ?_
            refine AllN.last (o := ?o46) ?hi46 (by simp) (fun K hK => ?step46) AllN.nil
            case hi46 => (simp only [List.getElem?_toArray, List.getElem?_cons_zero, List.getElem?_cons_succ]; (first | done | with_reducible rfl))
            go_simp
            refine named (K := K) (fun W' => Below w.heap.size w W' ∧ W'.cell? ⟨w.heap.size, 0, none⟩ = some (.int .i64 a1x) ∧ W'.cell? ⟨w.heap.size, 1, none⟩ = some (.int .i64 a1y) ∧ W'.cell? ⟨w.heap.size, 2, none⟩ = some (.int .i64 a1z) ∧ W'.cell? ⟨w.heap.size, 3, none⟩ = some (.int .i64 a1t) ∧ W'.cell? ⟨w.heap.size + 1, 0, none⟩ = some (.int .i64 a2x) ∧ W'.cell? ⟨w.heap.size + 1, 1, none⟩ = some (.int .i64 a2y) ∧ W'.cell? ⟨w.heap.size + 1, 2, none⟩ = some (.int .i64 a2z) ∧ W'.cell? ⟨w.heap.size + 1, 3, none⟩ = some (.int .i64 a2t) ∧ W'.cell? ⟨W.heap.size, 0, none⟩ = some (.int .i64 i0) ∧ W'.cell? ⟨W.heap.size, 1, none⟩ = some (.int .i64 i1) ∧ W'.cell? ⟨W.heap.size, 2, none⟩ = some (.int .i64 i2) ∧ W'.cell? ⟨W.heap.size, 3, none⟩ = some (.int .i64 i3) ∧ W'.cell? ⟨w37.heap.size, 0, none⟩ = some (.int .i64 u0) ∧ W'.cell? ⟨w37.heap.size, 1, none⟩ = some (.int .i64 u1) ∧ W'.cell? ⟨w37.heap.size, 2, none⟩ = some (.int .i64 u2) ∧ W'.cell? ⟨w37.heap.size, 3, none⟩ = some (.int .i64 u3)) ?_ ?_
            · (try dsimp only)
              have n0 : w37.heap.size ≠ w.heap.size := by clear B; omega
              have n1 : w37.heap.size ≠ w.heap.size + 1 := by clear B; omega
              have n2 : w37.heap.size ≠ W.heap.size := by clear B; omega
              have nb : w.heap.size ≤ w37.heap.size := by clear B; omega
              obtain ⟨z0, z1, z2, z3⟩ := own4 (x0 := .int .i64 u0) (x1 := .int .i64 u1) (x2 := .int .i64 u2) (x3 := .int .i64 u3) f12 f13 f14 f15
              exact ⟨below4 B nb, far4 f0 n0, far4 f1 n0, far4 f2 n0, far4 f3 n0, far4 f4 n1, far4 f5 n1, far4 f6 n1, far4 f7 n1, far4 f8 n2, far4 f9 n2, far4 f10 n2, far4 f11 n2, z0, z1, z2, z3⟩
            rintro y46 ⟨B, f0, f1, f2, f3, f4, f5, f6, f7, f8, f9, f10, f11, f12, f13, f14, f15⟩
            refine hK.out _ _ ?_
            clear hK K
            (try simp only [Act.put, List.setIfInBounds_toArray, List.set_cons_zero, List.set_cons_succ])
            refine anyN_done (by kernel_rfl) ?_ _
            exact then_normal ⟨W.heap.size, w37.heap.size, rfl, B, f0, f1, f2, f3, f4, f5, f6, f7, f8, f9, f10, f11, f12, f13, f14, f15⟩
      case step38 =>
        go_simp
        have m38 : w.heap.size + 1 < w8.heap.size := World.block_lt_of_cell? w8 _ f7
        have p38 : W.heap.size < w8.heap.size := World.block_lt_of_cell? w8 _ f8
        refine named (K := K) (fun W' => Below w.heap.size w W' ∧ W'.cell? ⟨w.heap.size, 0, none⟩ = some (.int .i64 a1x) ∧ W'.cell? ⟨w.heap.size, 1, none⟩ = some (.int .i64 a1y) ∧ W'.cell? ⟨w.heap.size, 2, none⟩ = some (.int .i64 a1z) ∧ W'.cell? ⟨w.heap.size, 3, none⟩ = some (.int .i64 a1t) ∧ W'.cell? ⟨w.heap.size + 1, 0, none⟩ = some (.int .i64 a2x) ∧ W'.cell? ⟨w.heap.size + 1, 1, none⟩ = some (.int .i64 a2y) ∧ W'.cell? ⟨w.heap.size + 1, 2, none⟩ = some (.int .i64 a2z) ∧ W'.cell? ⟨w.heap.size + 1, 3, none⟩ = some (.int .i64 a2t) ∧ W'.cell? ⟨W.heap.size, 0, none⟩ = some (.int .i64 0) ∧ W'.cell? ⟨W.heap.size, 1, none⟩ = some (.int .i64 0) ∧ W'.cell? ⟨W.heap.size, 2, none⟩ = some (.int .i64 0) ∧ W'.cell? ⟨W.heap.size, 3, none⟩ = some (.int .i64 0) ∧ W'.cell? ⟨w8.heap.size, 0, none⟩ = some (.int .i64 0) ∧ W'.cell? ⟨w8.heap.size, 1, none⟩ = some (.int .i64 0) ∧ W'.cell? ⟨w8.heap.size, 2, none⟩ = some (.int .i64 0) ∧ W'.cell? ⟨w8.heap.size, 3, none⟩ = some (.int .i64 0) ∧ W'.frozen? ⟨W.heap.size, 0, none⟩ = false ∧ W'.frozen? ⟨W.heap.size, 1, none⟩ = false ∧ W'.frozen? ⟨W.heap.size, 2, none⟩ = false ∧ W'.frozen? ⟨W.heap.size, 3, none⟩ = false ∧ W'.frozen? ⟨w8.heap.size, 0, none⟩ = false ∧ W'.frozen? ⟨w8.heap.size, 1, none⟩ = false ∧ W'.frozen? ⟨w8.heap.size, 2, none⟩ = false ∧ W'.frozen? ⟨w8.heap.size, 3, none⟩ = false) ?_ ?_
        · (try dsimp only)
          exact ⟨B.alloc B.size _, keepA _ f0, keepA _ f1, keepA _ f2, keepA _ f3, keepA _ f4, keepA _ f5, keepA _ f6, keepA _ f7, keepA _ f8, keepA _ f9, keepA _ f10, keepA _ f11, (by simp [go_sem]), (by simp [go_sem]), (by simp [go_sem]), (by simp [go_sem]), keepAf _ f8 g8, keepAf _ f9 g9, keepAf _ f10 g10, keepAf _ f11 g11, (by simp [go_sem]), (by simp [go_sem]), (by simp [go_sem]), (by simp [go_sem])⟩
        rintro w38 ⟨B, f0, f1, f2, f3, f4, f5, f6, f7, f8, f9, f10, f11, f12, f13, f14, f15, g8, g9, g10, g11, g12, g13, g14, g15⟩
        refine hK.out _ _ ⟨f0, f1, f2, f3, f4, f5, f6, f7⟩ (fun _ => ?_)
        clear hK K
        (try simp only [Act.put, List.setIfInBounds_toArray, List.set_cons_zero, List.set_cons_succ])
        refine anyN_ready (rs := [3]) (by kernel_rfl) (by simp) (AllN.cons (o := ?o47) ?hi47 (fun K hK => ?step47) AllN.nil)
        case hi47 => (simp only [List.getElem?_toArray, List.getElem?_cons_zero, List.getElem?_cons_succ]; (first | done | with_reducible rfl))
        case step47 =>
          go_simp
          (go_at_call 16; (with_reducible refine (iInter_any _ _ _ _ _ _ _ _ _ _).mono ?_); rintro e w47 ⟨rfl, hb⟩; replace g8 := keepf hb f8 g8; replace g9 := keepf hb f9 g9; replace g10 := keepf hb f10 g10; replace g11 := keepf hb f11 g11; replace g12 := keepf hb f12 g12; replace g13 := keepf hb f13 g13; replace g14 := keepf hb f14 g14; replace g15 := keepf hb f15 g15; replace f0 := keepc hb f0; replace f1 := keepc hb f1; replace f2 := keepc hb f2; replace f3 := keepc hb f3; replace f4 := keepc hb f4; replace f5 := keepc hb f5; replace f6 := keepc hb f6; replace f7 := keepc hb f7; replace f8 := keepc hb f8; replace f9 := keepc hb f9; replace f10 := keepc hb f10; replace f11 := keepc hb f11; replace f12 := keepc hb f12; replace f13 := keepc hb f13; replace f14 := keepc hb f14; replace f15 := keepc hb f15; replace B := keepb B hb; clear hb)
          refine hK.out _ _ ⟨f0, f1, f2, f3, f4, f5, f6, f7⟩ (fun _ => ?_)
          clear hK K
          (try simp only [Act.put, List.setIfInBounds_toArray, List.set_cons_zero, List.set_cons_succ])
          simp only [er0, er1, er2, er3, es0, es1, es2, es3, qi0, qi1, qi2, qi3]
          refine anyN_ready (rs := [7]) (by kernel_rfl) (by simp) (AllN.cons (o := ?o48) ?hi48 (fun K hK => ?step48) AllN.nil)
          case hi48 => (simp only [List.getElem?_toArray, List.getElem?_cons_zero, List.getElem?_cons_succ]; (first | done | with_reducible rfl))
          case step48 =>
            go_simp
            (go_at_call 17; (with_reducible refine (iUnio_any _ _ _ _ _ _ _ _ _ _).mono ?_); rintro e w48 ⟨rfl, hb⟩; replace g8 := keepf hb f8 g8; replace g9 := keepf hb f9 g9; replace g10 := keepf hb f10 g10; replace g11 := keepf hb f11 g11; replace g12 := keepf hb f12 g12; replace g13 := keepf hb f13 g13; replace g14 := keepf hb f14 g14; replace g15 := keepf hb f15 g15; replace f0 := keepc hb f0; replace f1 := keepc hb f1; replace f2 := keepc hb f2; replace f3 := keepc hb f3; replace f4 := keepc hb f4; replace f5 := keepc hb f5; replace f6 := keepc hb f6; replace f7 := keepc hb f7; replace f8 := keepc hb f8; replace f9 := keepc hb f9; replace f10 := keepc hb f10; replace f11 := keepc hb f11; replace f12 := keepc hb f12; replace f13 := keepc hb f13; replace f14 := keepc hb f14; replace f15 := keepc hb f15; replace B := keepb B hb; clear hb)
            refine hK.out _ _ ⟨f0, f1, f2, f3, f4, f5, f6, f7⟩ (fun _ => ?_)
            clear hK K
            (try simp only [Act.put, List.setIfInBounds_toArray, List.set_cons_zero, List.set_cons_succ])
            simp only [er0, er1, er2, er3, es0, es1, es2, es3, qu0, qu1, qu2, qu3]
            refine anyN_ready (rs := [10]) (by kernel_rfl) (by simp) ?_
            refine AllN.last (o := ?o49) ?hi49 (by simp) (fun K hK => ?step49) AllN.nil
            case hi49 => (simp only [List.getElem?_toArray, List.getElem?_cons_zero, List.getElem?_cons_succ]; (first | done | with_reducible rfl))
            go_simp
            refine named (K := K) (fun W' => Below w.heap.size w W' ∧ W'.cell? ⟨w.heap.size, 0, none⟩ = some (.int .i64 a1x) ∧ W'.cell? ⟨w.heap.size, 1, none⟩ = some (.int .i64 a1y) ∧ W'.cell? ⟨w.heap.size, 2, none⟩ = some (.int .i64 a1z) ∧ W'.cell? ⟨w.heap.size, 3, none⟩ = some (.int .i64 a1t) ∧ W'.cell? ⟨w.heap.size + 1, 0, none⟩ = some (.int .i64 a2x) ∧ W'.cell? ⟨w.heap.size + 1, 1, none⟩ = some (.int .i64 a2y) ∧ W'.cell? ⟨w.heap.size + 1, 2, none⟩ = some (.int .i64 a2z) ∧ W'.cell? ⟨w.heap.size + 1, 3, none⟩ = some (.int .i64 a2t) ∧ W'.cell? ⟨W.heap.size, 0, none⟩ = some (.int .i64 i0) ∧ W'.cell? ⟨W.heap.size, 1, none⟩ = some (.int .i64 i1) ∧ W'.cell? ⟨W.heap.size, 2, none⟩ = some (.int .i64 i2) ∧ W'.cell? ⟨W.heap.size, 3, none⟩ = some (.int .i64 i3) ∧ W'.cell? ⟨w8.heap.size, 0, none⟩ = some (.int .i64 0) ∧ W'.cell? ⟨w8.heap.size, 1, none⟩ = some (.int .i64 0) ∧ W'.cell? ⟨w8.heap.size, 2, none⟩ = some (.int .i64 0) ∧ W'.cell? ⟨w8.heap.size, 3, none⟩ = some (.int .i64 0) ∧ W'.frozen? ⟨w8.heap.size, 0, none⟩ = false ∧ W'.frozen? ⟨w8.heap.size, 1, none⟩ = false ∧ W'.frozen? ⟨w8.heap.size, 2, none⟩ = false ∧ W'.frozen? ⟨w8.heap.size, 3, none⟩ = false) ?_ ?_
            · (try dsimp only)
              have n0 : W.heap.size ≠ w.heap.size := by clear B; omega
              have n1 : W.heap.size ≠ w.heap.size + 1 := by clear B; omega
              have n2 : W.heap.size ≠ w8.heap.size := by clear B; omega
              have nb : w.heap.size ≤ W.heap.size := by clear B; omega
              obtain ⟨z0, z1, z2, z3⟩ := own4 (x0 := .int .i64 i0) (x1 := .int .i64 i1) (x2 := .int .i64 i2) (x3 := .int .i64 i3) f8 f9 f10 f11
              exact ⟨below4 B nb, far4 f0 n0, far4 f1 n0, far4 f2 n0, far4 f3 n0, far4 f4 n1, far4 f5 n1, far4 f6 n1, far4 f7 n1, z0, z1, z2, z3, far4 f12 n2, far4 f13 n2, far4 f14 n2, far4 f15 n2, froz4 g12, froz4 g13, froz4 g14, froz4 g15⟩
            rintro y49 ⟨B, f0, f1, f2, f3, f4, f5, f6, f7, f8, f9, f10, f11, f12, f13, f14, f15, g12, g13, g14, g15⟩
            refine hK.out _ _ ?_
            clear hK K
            (try simp only [Act.put, List.setIfInBounds_toArray, List.set_cons_zero, List.set_cons_succ])
            refine anyN_ready (rs := [11]) (by kernel_rfl) (by simp) ?_
            refine AllN.last (o := ?o50) ?hi50 (by simp) (fun K hK => ?step50) AllN.nil
            case hi50 => (simp only [List.getElem?_toArray, List.getElem?_cons_zero, List.getElem?_cons_succ]; (first | done | with_reducible rfl))
            go_simp
            refine named (K := K) (fun W' => Below w.heap.size w W' ∧ W'.cell? ⟨w.heap.size, 0, none⟩ = some (.int .i64 a1x) ∧ W'.cell? ⟨w.heap.size, 1, none⟩ = some (.int .i64 a1y) ∧ W'.cell? ⟨w.heap.size, 2, none⟩ = some (.int .i64 a1z) ∧ W'.cell? ⟨w.heap.size, 3, none⟩ = some (.int .i64 a1t) ∧ W'.cell? ⟨w.heap.size + 1, 0, none⟩ = some (.int .i64 a2x) ∧ W'.cell? ⟨w.heap.size + 1, 1, none⟩ = some (.int .i64 a2y) ∧ W'.cell? ⟨w.heap.size + 1, 2, none⟩ = some (.int .i64 a2z) ∧ W'.cell? ⟨w.heap.size + 1, 3, none⟩ = some (.int .i64 a2t) ∧ W'.cell? ⟨W.heap.size, 0, none⟩ = some (.int .i64 i0) ∧ W'.cell? ⟨W.heap.size, 1, none⟩ = some (.int .i64 i1) ∧ W'.cell? ⟨W.heap.size, 2, none⟩ = some (.int .i64 i2) ∧ W'.cell? ⟨W.heap.size, 3, none⟩ = some (.int .i64 i3) ∧ W'.cell? ⟨w8.heap.size, 0, none⟩ = some (.int .i64 u0) ∧ W'.cell? ⟨w8.heap.size, 1, none⟩ = some (.int .i64 u1) ∧ W'.cell? ⟨w8.heap.size, 2, none⟩ = some (.int .i64 u2) ∧ W'.cell? ⟨w8.heap.size, 3, none⟩ = some (.int .i64 u3)) ?_ ?_
            · (try dsimp only)
              have n0 : w8.heap.size ≠ w.heap.size := by clear B; omega
              have n1 : w8.heap.size ≠ w.heap.size + 1 := by clear B; omega
              have n2 : w8.heap.size ≠ W.heap.size := by clear B; omega
              have nb : w.heap.size ≤ w8.heap.size := by clear B; omega
              obtain ⟨z0, z1, z2, z3⟩ := own4 (x0 := .int .i64 u0) (x1 := .int .i64 u1) (x2 := .int .i64 u2) (x3 := .int .i64 u3) f12 f13 f14 f15
              exact ⟨below4 B nb, far4 f0 n0, far4 f1 n0, far4 f2 n0, far4 f3 n0, far4 f4 n1, far4 f5 n1, far4 f6 n1, far4 f7 n1, far4 f8 n2, far4 f9 n2, far4 f10 n2, far4 f11 n2, z0, z1, z2, z3⟩
            rintro y50 ⟨B, f0, f1, f2, f3, f4, f5, f6, f7, f8, f9, f10, f11, f12, f13, f14, f15⟩
            refine hK.out _ _ ?_
            clear hK K
            (try simp only [Act.put, List.setIfInBounds_toArray, List.set_cons_zero, List.set_cons_succ])
            refine anyN_done (by kernel_rfl) ?_ _
            exact then_normal ⟨W.heap.size, w8.heap.size, rfl, B, f0, f1, f2, f3, f4, f5, f6, f7, f8, f9, f10, f11, f12, f13, f14, f15⟩
    case step9 =>
      go_simp
      have m9 : w.heap.size + 1 < W.heap.size := World.block_lt_of_cell? W _ f7
      refine named (K := K) (fun W' => Below w.heap.size w W' ∧ W'.cell? ⟨w.heap.size, 0, none⟩ = some (.int .i64 a1x) ∧ W'.cell? ⟨w.heap.size, 1, none⟩ = some (.int .i64 a1y) ∧ W'.cell? ⟨w.heap.size, 2, none⟩ = some (.int .i64 a1z) ∧ W'.cell? ⟨w.heap.size, 3, none⟩ = some (.int .i64 a1t) ∧ W'.cell? ⟨w.heap.size + 1, 0, none⟩ = some (.int .i64 a2x) ∧ W'.cell? ⟨w.heap.size + 1, 1, none⟩ = some (.int .i64 a2y) ∧ W'.cell? ⟨w.heap.size + 1, 2, none⟩ = some (.int .i64 a2z) ∧ W'.cell? ⟨w.heap.size + 1, 3, none⟩ = some (.int .i64 a2t) ∧ W'.cell? ⟨W.heap.size, 0, none⟩ = some (.int .i64 0) ∧ W'.cell? ⟨W.heap.size, 1, none⟩ = some (.int .i64 0) ∧ W'.cell? ⟨W.heap.size, 2, none⟩ = some (.int .i64 0) ∧ W'.cell? ⟨W.heap.size, 3, none⟩ = some (.int .i64 0) ∧ W'.frozen? ⟨W.heap.size, 0, none⟩ = false ∧ W'.frozen? ⟨W.heap.size, 1, none⟩ = false ∧ W'.frozen? ⟨W.heap.size, 2, none⟩ = false ∧ W'.frozen? ⟨W.heap.size, 3, none⟩ = false) ?_ ?_
      · (try dsimp only)
        exact ⟨B.alloc B.size _, keepA _ f0, keepA _ f1, keepA _ f2, keepA _ f3, keepA _ f4, keepA _ f5, keepA _ f6, keepA _ f7, (by simp [go_sem]), (by simp [go_sem]), (by simp [go_sem]), (by simp [go_sem]), (by simp [go_sem]), (by simp [go_sem]), (by simp [go_sem]), (by simp [go_sem])⟩
      rintro w9 ⟨B, f0, f1, f2, f3, f4, f5, f6, f7, f8, f9, f10, f11, g8, g9, g10, g11⟩
      refine hK.out _ _ ⟨f0, f1, f2, f3, f4, f5, f6, f7⟩ (fun _ => ?_)
      clear hK K
      (try simp only [Act.put, List.setIfInBounds_toArray, List.set_cons_zero, List.set_cons_succ])
      refine anyN_ready (rs := [3, 8]) (by kernel_rfl) (by simp) (AllN.cons (o := ?o51) ?hi51 (fun K hK => ?step51) (AllN.cons (o := ?o52) ?hi52 (fun K hK => ?step52) AllN.nil))
      case hi51 => (simp only [List.getElem?_toArray, List.getElem?_cons_zero, List.getElem?_cons_succ]; (first | done | with_reducible rfl))
      case hi52 => (simp only [List.getElem?_toArray, List.getElem?_cons_zero, List.getElem?_cons_succ]; (first | done | with_reducible rfl))
      case step51 =>
        go_simp
        (go_at_call 16; (with_reducible refine (iInter_any _ _ _ _ _ _ _ _ _ _).mono ?_); rintro e w51 ⟨rfl, hb⟩; replace g8 := keepf hb f8 g8; replace g9 := keepf hb f9 g9; replace g10 := keepf hb f10 g10; replace g11 := keepf hb f11 g11; replace f0 := keepc hb f0; replace f1 := keepc hb f1; replace f2 := keepc hb f2; replace f3 := keepc hb f3; replace f4 := keepc hb f4; replace f5 := keepc hb f5; replace f6 := keepc hb f6; replace f7 := keepc hb f7; replace f8 := keepc hb f8; replace f9 := keepc hb f9; replace f10 := keepc hb f10; replace f11 := keepc hb f11; replace B := keepb B hb; clear hb)
        refine hK.out _ _ ⟨f0, f1, f2, f3, f4, f5, f6, f7⟩ (fun _ => ?_)
        clear hK K
        (try simp only [Act.put, List.setIfInBounds_toArray, List.set_cons_zero, List.set_cons_succ])
        simp only [er0, er1, er2, er3, es0, es1, es2, es3, qi0, qi1, qi2, qi3]
        refine anyN_ready (rs := [7, 8]) (by kernel_rfl) (by simp) (AllN.cons (o := ?o53) ?hi53 (fun K hK => ?step53) (AllN.cons (o := ?o54) ?hi54 (fun K hK => ?step54) AllN.nil))
        case hi53 => (simp only [List.getElem?_toArray, List.getElem?_cons_zero, List.getElem?_cons_succ]; (first | done | with_reducible rfl))
        case hi54 => (simp only [List.getElem?_toArray, List.getElem?_cons_zero, List.getElem?_cons_succ]; (first | done | with_reducible rfl))
        case step53 =>
          go_simp
          (go_at_call 17; (with_reducible refine (iUnio_any _ _ _ _ _ _ _ _ _ _).mono ?_); rintro e w53 ⟨rfl, hb⟩; replace g8 := keepf hb f8 g8; replace g9 := keepf hb f9 g9; replace g10 := keepf hb f10 g10; replace g11 := keepf hb f11 g11; replace f0 := keepc hb f0; replace f1 := keepc hb f1; replace f2 := keepc hb f2; replace f3 := keepc hb f3; replace f4 := keepc hb f4; replace f5 := keepc hb f5; replace f6 := keepc hb f6; replace f7 := keepc hb f7; replace f8 := keepc hb f8; replace f9 := keepc hb f9; replace f10 := keepc hb f10; replace f11 := keepc hb f11; replace B := keepb B hb; clear hb)
          refine hK.out _ _ ⟨f0, f1, f2, f3, f4, f5, f6, f7⟩ (fun _ => ?_)
          clear hK K
          (try simp only [Act.put, List.setIfInBounds_toArray, List.set_cons_zero, List.set_cons_succ])
          simp only [er0, er1, er2, er3, es0, es1, es2, es3, qu0, qu1, qu2, qu3]
          refine anyN_ready (rs := [8]) (by kernel_rfl) (by simp) (AllN.cons (o := ?o55) ?hi55 (fun K hK => ?step55) AllN.nil)
          case hi55 => (simp only [List.getElem?_toArray, List.getElem?_cons_zero, List.getElem?_cons_succ]; (first | done | with_reducible rfl))
          case step55 =>
            go_simp
            have m55 : w.heap.size + 1 < w53.heap.size := World.block_lt_of_cell? w53 _ f7
            have p55 : W.heap.size < w53.heap.size := World.block_lt_of_cell? w53 _ f8
            refine named (K := K) (fun W' => Below w.heap.size w W' ∧ W'.cell? ⟨w.heap.size, 0, none⟩ = some (.int .i64 a1x) ∧ W'.cell? ⟨w.heap.size, 1, none⟩ = some (.int .i64 a1y) ∧ W'.cell? ⟨w.heap.size, 2, none⟩ = some (.int .i64 a1z) ∧ W'.cell? ⟨w.heap.size, 3, none⟩ = some (.int .i64 a1t) ∧ W'.cell? ⟨w.heap.size + 1, 0, none⟩ = some (.int .i64 a2x) ∧ W'.cell? ⟨w.heap.size + 1, 1, none⟩ = some (.int .i64 a2y) ∧ W'.cell? ⟨w.heap.size + 1, 2, none⟩ = some (.int .i64 a2z) ∧ W'.cell? ⟨w.heap.size + 1, 3, none⟩ = some (.int .i64 a2t) ∧ W'.cell? ⟨W.heap.size, 0, none⟩ = some (.int .i64 0) ∧ W'.cell? ⟨W.heap.size, 1, none⟩ = some (.int .i64 0) ∧ W'.cell? ⟨W.heap.size, 2, none⟩ = some (.int .i64 0) ∧ W'.cell? ⟨W.heap.size, 3, none⟩ = some (.int .i64 0) ∧ W'.cell? ⟨w53.heap.size, 0, none⟩ = some (.int .i64 0) ∧ W'.cell? ⟨w53.heap.size, 1, none⟩ = some (.int .i64 0) ∧ W'.cell? ⟨w53.heap.size, 2, none⟩ = some (.int .i64 0) ∧ W'.cell? ⟨w53.heap.size, 3, none⟩ = some (.int .i64 0) ∧ W'.frozen? ⟨W.heap.size, 0, none⟩ = false ∧ W'.frozen? ⟨W.heap.size, 1, none⟩ = false ∧ W'.frozen? ⟨W.heap.size, 2, none⟩ = false ∧ W'.frozen? ⟨W.heap.size, 3, none⟩ = false ∧ W'.frozen? ⟨w53.heap.size, 0, none⟩ = false ∧ W'.frozen? ⟨w53.heap.size, 1, none⟩ = false ∧ W'.frozen? ⟨w53.heap.size, 2, none⟩ = false ∧ W'.frozen? ⟨w53.heap.size, 3, none⟩ = false) ?_ ?_
            · (try dsimp only)
              exact ⟨B.alloc B.size _, keepA _ f0, keepA _ f1, keepA _ f2, keepA _ f3, keepA _ f4, keepA _ f5, keepA _ f6, keepA _ f7, keepA _ f8, keepA _ f9, keepA _ f10, keepA _ f11, (by simp [go_sem]), (by simp [go_sem]), (by simp [go_sem]), (by simp [go_sem]), keepAf _ f8 g8, keepAf _ f9 g9, keepAf _ f10 g10, keepAf _ f11 g11, (by simp [go_sem]), (by simp [go_sem]), (by simp [go_sem]), (by simp [go_sem])⟩
            rintro w55 ⟨B, f0, f1, f2, f3, f4, f5, f6, f7, f8, f9, f10, f11, f12, f13, f14, f15, g8, g9, g10, g11, g12, g13, g14, g15⟩
            refine hK.out _ _ ⟨f0, f1, f2, f3, f4, f5, f6, f7⟩ (fun _ => ?_)
            clear hK K
            (try simp only [Act.put, List.setIfInBounds_toArray, List.set_cons_zero, List.set_cons_succ])
            refine anyN_ready (rs := [10]) (by kernel_rfl) (by simp) ?_
            refine AllN.last (o := ?o56) ?hi56 (by simp) (fun K hK => ?step56) AllN.nil
            case hi56 => (simp only [List.getElem?_toArray, List.getElem?_cons_zero, List.getElem?_cons_succ]; (first | done | with_reducible rfl))
            go_simp
            refine named (K := K) (fun W' => Below w.heap.size w W' ∧ W'.cell? ⟨w.heap.size, 0, none⟩ = some (.int .i64 a1x) ∧ W'.cell? ⟨w.heap.size, 1, none⟩ = some (.int .i64 a1y) ∧ W'.cell? ⟨w.heap.size, 2, none⟩ = some (.int .i64 a1z) ∧ W'.cell? ⟨w.heap.size, 3, none⟩ = some (.int .i64 a1t) ∧ W'.cell? ⟨w.heap.size + 1, 0, none⟩ = some (.int .i64 a2x) ∧ W'.cell? ⟨w.heap.size + 1, 1, none⟩ = some (.int .i64 a2y) ∧ W'.cell? ⟨w.heap.size + 1, 2, none⟩ = some (.int .i64 a2z) ∧ W'.cell? ⟨w.heap.size + 1, 3, none⟩ = some (.int .i64 a2t) ∧ W'.cell? ⟨W.heap.size, 0, none⟩ = some (.int .i64 0) ∧ W'.cell? ⟨W.heap.size, 1, none⟩ = some (.int .i64 0) ∧ W'.cell? ⟨W.heap.size, 2, none⟩ = some (.int .i64 0) ∧ W'.cell? ⟨W.heap.size, 3, none⟩ = some (.int .i64 0) ∧ W'.cell? ⟨w53.heap.size, 0, none⟩ = some (.int .i64 i0) ∧ W'.cell? ⟨w53.heap.size, 1, none⟩ = some (.int .i64 i1) ∧ W'.cell? ⟨w53.heap.size, 2, none⟩ = some (.int .i64 i2) ∧ W'.cell? ⟨w53.heap.size, 3, none⟩ = some (.int .i64 i3) ∧ W'.frozen? ⟨W.heap.size, 0, none⟩ = false ∧ W'.frozen? ⟨W.heap.size, 1, none⟩ = false ∧ W'.frozen? ⟨W.heap.size, 2, none⟩ = false ∧ W'.frozen? ⟨W.heap.size, 3, none⟩ = false) ?_ ?_
            · (try dsimp only)
              have n0 : w53.heap.size ≠ w.heap.size := by clear B; omega
              have n1 : w53.heap.size ≠ w.heap.size + 1 := by clear B; omega
              have n2 : w53.heap.size ≠ W.heap.size := by clear B; omega
              have nb : w.heap.size ≤ w53.heap.size := by clear B; omega
              obtain ⟨z0, z1, z2, z3⟩ := own4 (x0 := .int .i64 i0) (x1 := .int .i64 i1) (x2 := .int .i64 i2) (x3 := .int .i64 i3) f12 f13 f14 f15
              exact ⟨below4 B nb, far4 f0 n0, far4 f1 n0, far4 f2 n0, far4 f3 n0, far4 f4 n1, far4 f5 n1, far4 f6 n1, far4 f7 n1, far4 f8 n2, far4 f9 n2, far4 f10 n2, far4 f11 n2, z0, z1, z2, z3, froz4 g8, froz4 g9, froz4 g10, froz4 g11⟩
            rintro y56 ⟨B, f0, f1, f2, f3, f4, f5, f6, f7, f8, f9, f10, f11, f12, f13, f14, f15, g8, g9, g10, g11⟩
            refine hK.out _ _ ?_
            clear hK K
            (try simp only [Act.put, List.setIfInBounds_toArray, List.set_cons_zero, List.set_cons_succ])
            refine anyN_ready (rs := [11]) (by kernel_rfl) (by simp) ?_
            refine AllN.last (o := ?o57) ?hi57 (by simp) (fun K hK => ?step57) AllN.nil
            case hi57 => (simp only [List.getElem?_toArray, List.getElem?_cons_zero, List.getElem?_cons_succ]; (first | done | with_reducible rfl))
            go_simp
            refine named (K := K) (fun W' => Below w.heap.size w W' ∧ W'.cell? ⟨w.heap.size, 0, none⟩ = some (.int .i64 a1x) ∧ W'.cell? ⟨w.heap.size, 1, none⟩ = some (.int .i64 a1y) ∧ W'.cell? ⟨w.heap.size, 2, none⟩ = some (.int .i64 a1z) ∧ W'.cell? ⟨w.heap.size, 3, none⟩ = some (.int .i64 a1t) ∧ W'.cell? ⟨w.heap.size + 1, 0, none⟩ = some (.int .i64 a2x) ∧ W'.cell? ⟨w.heap.size + 1, 1, none⟩ = some (.int .i64 a2y) ∧ W'.cell? ⟨w.heap.size + 1, 2, none⟩ = some (.int .i64 a2z) ∧ W'.cell? ⟨w.heap.size + 1, 3, none⟩ = some (.int .i64 a2t) ∧ W'.cell? ⟨W.heap.size, 0, none⟩ = some (.int .i64 u0) ∧ W'.cell? ⟨W.heap.size, 1, none⟩ = some (.int .i64 u1) ∧ W'.cell? ⟨W.heap.size, 2, none⟩ = some (.int .i64 u2) ∧ W'.cell? ⟨W.heap.size, 3, none⟩ = some (.int .i64 u3) ∧ W'.cell? ⟨w53.heap.size, 0, none⟩ = some (.int .i64 i0) ∧ W'.cell? ⟨w53.heap.size, 1, none⟩ = some (.int .i64 i1) ∧ W'.cell? ⟨w53.heap.size, 2, none⟩ = some (.int .i64 i2) ∧ W'.cell? ⟨w53.heap.size, 3, none⟩ = some (.int .i64 i3)) ?_ ?_
            · (try dsimp only)
              have n0 : W.heap.size ≠ w.heap.size := by clear B; omega
              have n1 : W.heap.size ≠ w.heap.size + 1 := by clear B; omega
              have n2 : W.heap.size ≠ w53.heap.size := by clear B; omega
              have nb : w.heap.size ≤ W.heap.size := by clear B; omega
              obtain ⟨z0, z1, z2, z3⟩ := own4 (x0 := .int .i64 u0) (x1 := .int .i64 u1) (x2 := .int .i64 u2) (x3 := .int .i64 u3) f8 f9 f10 f11
              exact ⟨below4 B nb, far4 f0 n0, far4 f1 n0, far4 f2 n0, far4 f3 n0, far4 f4 n1, far4 f5 n1, far4 f6 n1, far4 f7 n1, z0, z1, z2, z3, far4 f12 n2, far4 f13 n2, far4 f14 n2, far4 f15 n2⟩
            rintro y57 ⟨B, f0, f1, f2, f3, f4, f5, f6, f7, f8, f9, f10, f11, f12, f13, f14, f15⟩
            refine hK.out _ _ ?_
            clear hK K
            (try simp only [Act.put, List.setIfInBounds_toArray, List.set_cons_zero, List.set_cons_succ])
            refine anyN_done (by kernel_rfl) ?_ _
            exact then_normal ⟨w53.heap.size, W.heap.size, rfl, B, f0, f1, f2, f3, f4, f5, f6, f7, f12, f13, f14, f15, f8, f9, f10, f11⟩
        case step54 =>
          go_simp
          have m54 : w.heap.size + 1 < w51.heap.size := World.block_lt_of_cell? w51 _ f7
          have p54 : W.heap.size < w51.heap.size := World.block_lt_of_cell? w51 _ f8
          refine named (K := K) (fun W' => Below w.heap.size w W' ∧ W'.cell? ⟨w.heap.size, 0, none⟩ = some (.int .i64 a1x) ∧ W'.cell? ⟨w.heap.size, 1, none⟩ = some (.int .i64 a1y) ∧ W'.cell? ⟨w.heap.size, 2, none⟩ = some (.int .i64 a1z) ∧ W'.cell? ⟨w.heap.size, 3, none⟩ = some (.int .i64 a1t) ∧ W'.cell? ⟨w.heap.size + 1, 0, none⟩ = some (.int .i64 a2x) ∧ W'.cell? ⟨w.heap.size + 1, 1, none⟩ = some (.int .i64 a2y) ∧ W'.cell? ⟨w.heap.size + 1, 2, none⟩ = some (.int .i64 a2z) ∧ W'.cell? ⟨w.heap.size + 1, 3, none⟩ = some (.int .i64 a2t) ∧ W'.cell? ⟨W.heap.size, 0, none⟩ = some (.int .i64 0) ∧ W'.cell? ⟨W.heap.size, 1, none⟩ = some (.int .i64 0) ∧ W'.cell? ⟨W.heap.size, 2, none⟩ = some (.int .i64 0) ∧ W'.cell? ⟨W.heap.size, 3, none⟩ = some (.int .i64 0) ∧ W'.cell? ⟨w51.heap.size, 0, none⟩ = some (.int .i64 0) ∧ W'.cell? ⟨w51.heap.size, 1, none⟩ = some (.int .i64 0) ∧ W'.cell? ⟨w51.heap.size, 2, none⟩ = some (.int .i64 0) ∧ W'.cell? ⟨w51.heap.size, 3, none⟩ = some (.int .i64 0) ∧ W'.frozen? ⟨W.heap.size, 0, none⟩ = false ∧ W'.frozen? ⟨W.heap.size, 1, none⟩ = false ∧ W'.frozen? ⟨W.heap.size, 2, none⟩ = false ∧ W'.frozen? ⟨W.heap.size, 3, none⟩ = false ∧ W'.frozen? ⟨w51.heap.size, 0, none⟩ = false ∧ W'.frozen? ⟨w51.heap.size, 1, none⟩ = false ∧ W'.frozen? ⟨w51.heap.size, 2, none⟩ = false ∧ W'.frozen? ⟨w51.heap.size, 3, none⟩ = false) ?_ ?_
          · (try dsimp only)
            exact ⟨B.alloc B.size _, keepA _ f0, keepA _ f1, keepA _ f2, keepA _ f3, keepA _ f4, keepA _ f5, keepA _ f6, keepA _ f7, keepA _ f8, keepA _ f9, keepA _ f10, keepA _ f11, (by simp [go_sem]), (by simp [go_sem]), (by simp [go_sem]), (by simp [go_sem]), keepAf _ f8 g8, keepAf _ f9 g9, keepAf _ f10 g10, keepAf _ f11 g11, (by simp [go_sem]), (by simp [go_sem]), (by simp [go_sem]), (by simp [go_sem])⟩
          rintro w54 ⟨B, f0, f1, f2, f3, f4, f5, f6, f7, f8, f9, f10, f11, f12, f13, f14, f15, g8, g9, g10, g11, g12, g13, g14, g15⟩
          refine hK.out _ _ ⟨f0, f1, f2, f3, f4, f5, f6, f7⟩ (fun _ => ?_)
          clear hK K
          (try simp only [Act.put, List.setIfInBounds_toArray, List.set_cons_zero, List.set_cons_succ])
          refine anyN_ready (rs := [7]) (by kernel_rfl) (by simp) (AllN.cons (o := ?o58) ?hi58 (fun K hK => ?step58) AllN.nil)
          case hi58 => (simp only [List.getElem?_toArray, List.getElem?_cons_zero, List.getElem?_cons_succ]; (first | done | with_reducible rfl))
          case step58 =>
            go_simp
            (go_at_call 17; (with_reducible refine (iUnio_any _ _ _ _ _ _ _ _ _ _).mono ?_); rintro e w58 ⟨rfl, hb⟩; replace g8 := keepf hb f8 g8; replace g9 := keepf hb f9 g9; replace g10 := keepf hb f10 g10; replace g11 := keepf hb f11 g11; replace g12 := keepf hb f12 g12; replace g13 := keepf hb f13 g13; replace g14 := keepf hb f14 g14; replace g15 := keepf hb f15 g15; replace f0 := keepc hb f0; replace f1 := keepc hb f1; replace f2 := keepc hb f2; replace f3 := keepc hb f3; replace f4 := keepc hb f4; replace f5 := keepc hb f5; replace f6 := keepc hb f6; replace f7 := keepc hb f7; replace f8 := keepc hb f8; replace f9 := keepc hb f9; replace f10 := keepc hb f10; replace f11 := keepc hb f11; replace f12 := keepc hb f12; replace f13 := keepc hb f13; replace f14 := keepc hb f14; replace f15 := keepc hb f15; replace B := keepb B hb; clear hb)
            refine hK.out _ _ ⟨f0, f1, f2, f3, f4, f5, f6, f7⟩ (fun _ => ?_)
            clear hK K
            (try simp only [Act.put, List.setIfInBounds_toArray, List.set_cons_zero, List.set_cons_succ])
            simp only [er0, er1, er2, er3, es0, es1, es2, es3, qu0, qu1, qu2, qu3]
            refine anyN_ready (rs := [10]) (by kernel_rfl) (by simp) ?_
            refine AllN.last (o := ?o59) ?hi59 (by simp) (fun K hK => ?step59) AllN.nil
            case hi59 => (simp only [List.getElem?_toArray, List.getElem?_cons_zero, List.getElem?_cons_succ]; (first | done | with_reducible rfl))
            go_simp
            refine named (K := K) (fun W' => Below w.heap.size w W' ∧ W'.cell? ⟨w.heap.size, 0, none⟩ = some (.int .i64 a1x) ∧ W'.cell? ⟨w.heap.size, 1, none⟩ = some (.int .i64 a1y) ∧ W'.cell? ⟨w.heap.size, 2, none⟩ = some (.int .i64 a1z) ∧ W'.cell? ⟨w.heap.size, 3, none⟩ = some (.int .i64 a1t) ∧ W'.cell? ⟨w.heap.size + 1, 0, none⟩ = some (.int .i64 a2x) ∧ W'.cell? ⟨w.heap.size + 1, 1, none⟩ = some (.int .i64 a2y) ∧ W'.cell? ⟨w.heap.size + 1, 2, none⟩ = some (.int .i64 a2z) ∧ W'.cell? ⟨w.heap.size + 1, 3, none⟩ = some (.int .i64 a2t) ∧ W'.cell? ⟨W.heap.size, 0, none⟩ = some (.int .i64 0) ∧ W'.cell? ⟨W.heap.size, 1, none⟩ = some (.int .i64 0) ∧ W'.cell? ⟨W.heap.size, 2, none⟩ = some (.int .i64 0) ∧ W'.cell? ⟨W.heap.size, 3, none⟩ = some (.int .i64 0) ∧ W'.cell? ⟨w51.heap.size, 0, none⟩ = some (.int .i64 i0) ∧ W'.cell? ⟨w51.heap.size, 1, none⟩ = some (.int .i64 i1) ∧ W'.cell? ⟨w51.heap.size, 2, none⟩ = some (.int .i64 i2) ∧ W'.cell? ⟨w51.heap.size, 3, none⟩ = some (.int .i64 i3) ∧ W'.frozen? ⟨W.heap.size, 0, none⟩ = false ∧ W'.frozen? ⟨W.heap.size, 1, none⟩ = false ∧ W'.frozen? ⟨W.heap.size, 2, none⟩ = false ∧ W'.frozen? ⟨W.heap.size, 3, none⟩ = false) ?_ ?_
            · (try dsimp only)
              have n0 : w51.heap.size ≠ w.heap.size := by clear B; omega
              have n1 : w51.heap.size ≠ w.heap.size + 1 := by clear B; omega
              have n2 : w51.heap.size ≠ W.heap.size := by clear B; omega
              have nb : w.heap.size ≤ w51.heap.size := by clear B; omega
              obtain ⟨z0, z1, z2, z3⟩ := own4 (x0 := .int .i64 i0) (x1 := .int .i64 i1) (x2 := .int .i64 i2) (x3 := .int .i64 i3) f12 f13 f14 f15
              exact ⟨below4 B nb, far4 f0 n0, far4 f1 n0, far4 f2 n0, far4 f3 n0, far4 f4 n1, far4 f5 n1, far4 f6 n1, far4 f7 n1, far4 f8 n2, far4 f9 n2, far4 f10 n2, far4 f11 n2, z0, z1, z2, z3, froz4 g8, froz4 g9, froz4 g10, froz4 g11⟩
            rintro y59 ⟨B, f0, f1, f2, f3, f4, f5, f6, f7, f8, f9, f10, f11, f12, f13, f14, f15, g8, g9, g10, g11⟩
            refine hK.out _ _ ?_
            clear hK K
            (try simp only [Act.put, List.setIfInBounds_toArray, List.set_cons_zero, List.set_cons_succ])
            refine anyN_ready (rs := [11]) (by kernel_rfl) (by simp) ?_
            refine AllN.last (o := ?o60) ?hi60 (by simp) (fun K hK => ?step60) AllN.nil
            case hi60 => (simp only [List.getElem?_toArray, List.getElem?_cons_zero, List.getElem?_cons_succ]; (first | done | with_reducible rfl))
            go_simp
            refine named (K := K) (fun W' => Below w.heap.size w W' ∧ W'.cell? ⟨w.heap.size, 0, none⟩ = some (.int .i64 a1x) ∧ W'.cell? ⟨w.heap.size, 1, none⟩ = some (.int .i64 a1y) ∧ W'.cell? ⟨w.heap.size, 2, none⟩ = some (.int .i64 a1z) ∧ W'.cell? ⟨w.heap.size, 3, none⟩ = some (.int .i64 a1t) ∧ W'.cell? ⟨w.heap.size + 1, 0, none⟩ = some (.int .i64 a2x) ∧ W'.cell? ⟨w.heap.size + 1, 1, none⟩ = some (.int .i64 a2y) ∧ W'.cell? ⟨w.heap.size + 1, 2, none⟩ = some (.int .i64 a2z) ∧ W'.cell? ⟨w.heap.size + 1, 3, none⟩ = some (.int .i64 a2t) ∧ W'.cell? ⟨W.heap.size, 0, none⟩ = some (.int .i64 u0) ∧ W'.cell? ⟨W.heap.size, 1, none⟩ = some (.int .i64 u1) ∧ W'.cell? ⟨W.heap.size, 2, none⟩ = some (.int .i64 u2) ∧ W'.cell? ⟨W.heap.size, 3, none⟩ = some (.int .i64 u3) ∧ W'.cell? ⟨w51.heap.size, 0, none⟩ = some (.int .i64 i0) ∧ W'.cell? ⟨w51.heap.size, 1, none⟩ = some (.int .i64 i1) ∧ W'.cell? ⟨w51.heap.size, 2, none⟩ = some (.int .i64 i2) ∧ W'.cell? ⟨w51.heap.size, 3, none⟩ = some (.int .i64 i3)) ?_ ?_
            · (try dsimp only)
              have n0 : W.heap.size ≠ w.heap.size := by clear B; omega
              have n1 : W.heap.size ≠ w.heap.size + 1 := by clear B; omega
              have n2 : W.heap.size ≠ w51.heap.size := by clear B; omega
              have nb : w.heap.size ≤ W.heap.size := by clear B; omega
              obtain ⟨z0, z1, z2, z3⟩ := own4 (x0 := .int .i64 u0) (x1 := .int .i64 u1) (x2 := .int .i64 u2) (x3 := .int .i64 u3) f8 f9 f10 f11
              exact ⟨below4 B nb, far4 f0 n0, far4 f1 n0, far4 f2 n0, far4 f3 n0, far4 f4 n1, far4 f5 n1, far4 f6 n1, far4 f7 n1, z0, z1, z2, z3, far4 f12 n2, far4 f13 n2, far4 f14 n2, far4 f15 n2⟩
            rintro y60 ⟨B, f0, f1, f2, f3, f4, f5, f6, f7, f8, f9, f10, f11, f12, f13, f14, f15⟩
            refine hK.out _ _ ?_
            clear hK K
            (try simp only [Act.put, List.setIfInBounds_toArray, List.set_cons_zero, List.set_cons_succ])
            refine anyN_done (by kernel_rfl) ?_ _
            exact then_normal ⟨w51.heap.size, W.heap.size, rfl, B, f0, f1, f2, f3, f4, f5, f6, f7, f12, f13, f14, f15, f8, f9, f10, f11⟩
      case step52 =>
        go_simp
        have m52 : w.heap.size + 1 < w9.heap.size := World.block_lt_of_cell? w9 _ f7
        have p52 : W.heap.size < w9.heap.size := World.block_lt_of_cell? w9 _ f8
        refine named (K := K) (fun W' => Below w.heap.size w W' ∧ W'.cell? ⟨w.heap.size, 0, none⟩ = some (.int .i64 a1x) ∧ W'.cell? ⟨w.heap.size, 1, none⟩ = some (.int .i64 a1y) ∧ W'.cell? ⟨w.heap.size, 2, none⟩ = some (.int .i64 a1z) ∧ W'.cell? ⟨w.heap.size, 3, none⟩ = some (.int .i64 a1t) ∧ W'.cell? ⟨w.heap.size + 1, 0, none⟩ = some (.int .i64 a2x) ∧ W'.cell? ⟨w.heap.size + 1, 1, none⟩ = some (.int .i64 a2y) ∧ W'.cell? ⟨w.heap.size + 1, 2, none⟩ = some (.int .i64 a2z) ∧ W'.cell? ⟨w.heap.size + 1, 3, none⟩ = some (.int .i64 a2t) ∧ W'.cell? ⟨W.heap.size, 0, none⟩ = some (.int .i64 0) ∧ W'.cell? ⟨W.heap.size, 1, none⟩ = some (.int .i64 0) ∧ W'.cell? ⟨W.heap.size, 2, none⟩ = some (.int .i64 0) ∧ W'.cell? ⟨W.heap.size, 3, none⟩ = some (.int .i64 0) ∧ W'.cell? ⟨w9.heap.size, 0, none⟩ = some (.int .i64 0) ∧ W'.cell? ⟨w9.heap.size, 1, none⟩ = some (.int .i64 0) ∧ W'.cell? ⟨w9.heap.size, 2, none⟩ = some (.int .i64 0) ∧ W'.cell? ⟨w9.heap.size, 3, none⟩ = some (.int .i64 0) ∧ W'.frozen? ⟨W.heap.size, 0, none⟩ = false ∧ W'.frozen? ⟨W.heap.size, 1, none⟩ = false ∧ W'.frozen? ⟨W.heap.size, 2, none⟩ = false ∧ W'.frozen? ⟨W.heap.size, 3, none⟩ = false ∧ W'.frozen? ⟨w9.heap.size, 0, none⟩ = false ∧ W'.frozen? ⟨w9.heap.size, 1, none⟩ = false ∧ W'.frozen? ⟨w9.heap.size, 2, none⟩ = false ∧ W'.frozen? ⟨w9.heap.size, 3, none⟩ = false) ?_ ?_
        · (try dsimp only)
          exact ⟨B.alloc B.size _, keepA _ f0, keepA _ f1, keepA _ f2, keepA _ f3, keepA _ f4, keepA _ f5, keepA _ f6, keepA _ f7, keepA _ f8, keepA _ f9, keepA _ f10, keepA _ f11, (by simp [go_sem]), (by simp [go_sem]), (by simp [go_sem]), (by simp [go_sem]), keepAf _ f8 g8, keepAf _ f9 g9, keepAf _ f10 g10, keepAf _ f11 g11, (by simp [go_sem]), (by simp [go_sem]), (by simp [go_sem]), (by simp [go_sem])⟩
        rintro w52 ⟨B, f0, f1, f2, f3, f4, f5, f6, f7, f8, f9, f10, f11, f12, f13, f14, f15, g8, g9, g10, g11, g12, g13, g14, g15⟩
        refine hK.out _ _ ⟨f0, f1, f2, f3, f4, f5, f6, f7⟩ (fun _ => ?_)
        clear hK K
        (try simp only [Act.put, List.setIfInBounds_toArray, List.set_cons_zero, List.set_cons_succ])
        refine anyN_ready (rs := [3]) (by kernel_rfl) (by simp) (AllN.cons (o := ?o61) ?hi61 (fun K hK => ?step61) AllN.nil)
        case hi61 => (simp only [List.getElem?_toArray, List.getElem?_cons_zero, List.getElem?_cons_succ]; (first | done | with_reducible rfl))
        case step61 =>
          go_simp
          (go_at_call 16; (with_reducible refine (iInter_any _ _ _ _ _ _ _ _ _ _).mono ?_); rintro e w61 ⟨rfl, hb⟩; replace g8 := keepf hb f8 g8; replace g9 := keepf hb f9 g9; replace g10 := keepf hb f10 g10; replace g11 := keepf hb f11 g11; replace g12 := keepf hb f12 g12; replace g13 := keepf hb f13 g13; replace g14 := keepf hb f14 g14; replace g15 := keepf hb f15 g15; replace f0 := keepc hb f0; replace f1 := keepc hb f1; replace f2 := keepc hb f2; replace f3 := keepc hb f3; replace f4 := keepc hb f4; replace f5 := keepc hb f5; replace f6 := keepc hb f6; replace f7 := keepc hb f7; replace f8 := keepc hb f8; replace f9 := keepc hb f9; replace f10 := keepc hb f10; replace f11 := keepc hb f11; replace f12 := keepc hb f12; replace f13 := keepc hb f13; replace f14 := keepc hb f14; replace f15 := keepc hb f15; replace B := keepb B hb; clear hb)
          refine hK.out _ _ ⟨f0, f1, f2, f3, f4, f5, f6, f7⟩ (fun _ => ?_)
          clear hK K
          (try simp only [Act.put, List.setIfInBounds_toArray, List.set_cons_zero, List.set_cons_succ])
          simp only [er0, er1, er2, er3, es0, es1, es2, es3, qi0, qi1, qi2, qi3]
          refine anyN_ready (rs := [7]) (by kernel_rfl) (by simp) (AllN.cons (o := ?o62) ?hi62 (fun K hK => ?step62) AllN.nil)
          case hi62 => (simp only [List.getElem?_toArray, List.getElem?_cons_zero, List.getElem?_cons_succ]; (first | done | with_reducible rfl))
          case step62 =>
            go_simp
            (go_at_call 17; (with_reducible refine (iUnio_any _ _ _ _ _ _ _ _ _ _).mono ?_); rintro e w62 ⟨rfl, hb⟩; replace g8 := keepf hb f8 g8; replace g9 := keepf hb f9 g9; replace g10 := keepf hb f10 g10; replace g11 := keepf hb f11 g11; replace g12 := keepf hb f12 g12; replace g13 := keepf hb f13 g13; replace g14 := keepf hb f14 g14; replace g15 := keepf hb f15 g15; replace f0 := keepc hb f0; replace f1 := keepc hb f1; replace f2 := keepc hb f2; replace f3 := keepc hb f3; replace f4 := keepc hb f4; replace f5 := keepc hb f5; replace f6 := keepc hb f6; replace f7 := keepc hb f7; replace f8 := keepc hb f8; replace f9 := keepc hb f9; replace f10 := keepc hb f10; replace f11 := keepc hb f11; replace f12 := keepc hb f12; replace f13 := keepc hb f13; replace f14 := keepc hb f14; replace f15 := keepc hb f15; replace B := keepb B hb; clear hb)
            refine hK.out _ _ ⟨f0, f1, f2, f3, f4, f5, f6, f7⟩ (fun _ => ?_)
            clear hK K
            (try simp only [Act.put, List.setIfInBounds_toArray, List.set_cons_zero, List.set_cons_succ])
            simp only [er0, er1, er2, er3, es0, es1, es2, es3, qu0, qu1, qu2, qu3]
            refine anyN_ready (rs := [10]) (by kernel_rfl) (by simp) ?_
            refine AllN.last (o := ?o63) ?hi63 (by simp) (fun K hK => ?step63) AllN.nil
            case hi63 => (simp only [List.getElem?_toArray, List.getElem?_cons_zero, List.getElem?_cons_succ]; (first | done | with_reducible rfl))
            go_simp
            refine named (K := K) (fun W' => Below w.heap.size w W' ∧ W'.cell? ⟨w.heap.size, 0, none⟩ = some (.int .i64 a1x) ∧ W'.cell? ⟨w.heap.size, 1, none⟩ = some (.int .i64 a1y) ∧ W'.cell? ⟨w.heap.size, 2, none⟩ = some (.int .i64 a1z) ∧ W'.cell? ⟨w.heap.size, 3, none⟩ = some (.int .i64 a1t) ∧ W'.cell? ⟨w.heap.size + 1, 0, none⟩ = some (.int .i64 a2x) ∧ W'.cell? ⟨w.heap.size + 1, 1, none⟩ = some (.int .i64 a2y) ∧ W'.cell? ⟨w.heap.size + 1, 2, none⟩ = some (.int .i64 a2z) ∧ W'.cell? ⟨w.heap.size + 1, 3, none⟩ = some (.int .i64 a2t) ∧ W'.cell? ⟨W.heap.size, 0, none⟩ = some (.int .i64 0) ∧ W'.cell? ⟨W.heap.size, 1, none⟩ = some (.int .i64 0) ∧ W'.cell? ⟨W.heap.size, 2, none⟩ = some (.int .i64 0) ∧ W'.cell? ⟨W.heap.size, 3, none⟩ = some (.int .i64 0) ∧ W'.cell? ⟨w9.heap.size, 0, none⟩ = some (.int .i64 i0) ∧ W'.cell? ⟨w9.heap.size, 1, none⟩ = some (.int .i64 i1) ∧ W'.cell? ⟨w9.heap.size, 2, none⟩ = some (.int .i64 i2) ∧ W'.cell? ⟨w9.heap.size, 3, none⟩ = some (.int .i64 i3) ∧ W'.frozen? ⟨W.heap.size, 0, none⟩ = false ∧ W'.frozen? ⟨W.heap.size, 1, none⟩ = false ∧ W'.frozen? ⟨W.heap.size, 2, none⟩ = false ∧ W'.frozen? ⟨W.heap.size, 3, none⟩ = false) ?_ ?_
            · (try dsimp only)
              have n0 : w9.heap.size ≠ w.heap.size := by clear B; omega
              have n1 : w9.heap.size ≠ w.heap.size + 1 := by clear B; omega
              have n2 : w9.heap.size ≠ W.heap.size := by clear B; omega
              have nb : w.heap.size ≤ w9.heap.size := by clear B; omega
              obtain ⟨z0, z1, z2, z3⟩ := own4 (x0 := .int .i64 i0) (x1 := .int .i64 i1) (x2 := .int .i64 i2) (x3 := .int .i64 i3) f12 f13 f14 f15
              exact ⟨below4 B nb, far4 f0 n0, far4 f1 n0, far4 f2 n0, far4 f3 n0, far4 f4 n1, far4 f5 n1, far4 f6 n1, far4 f7 n1, far4 f8 n2, far4 f9 n2, far4 f10 n2, far4 f11 n2, z0, z1, z2, z3, froz4 g8, froz4 g9, froz4 g10, froz4 g11⟩
            rintro y63 ⟨B, f0, f1, f2, f3, f4, f5, f6, f7, f8, f9, f10, f11, f12, f13, f14, f15, g8, g9, g10, g11⟩
            refine hK.out _ _ ?_
            clear hK K
            (try simp only [Act.put, List.setIfInBounds_toArray, List.set_cons_zero, List.set_cons_succ])
            refine anyN_ready (rs := [11]) (by kernel_rfl) (by simp) ?_
            refine AllN.last (o := ?o64) ?hi64 (by simp) (fun K hK => ?step64) AllN.nil
            case hi64 => (simp only [List.getElem?_toArray, List.getElem?_cons_zero, List.getElem?_cons_succ]; (first | done | with_reducible rfl))
            go_simp
            refine named (K := K) (fun W' => Below w.heap.size w W' ∧ W'.cell? ⟨w.heap.size, 0, none⟩ = some (.int .i64 a1x) ∧ W'.cell? ⟨w.heap.size, 1, none⟩ = some (.int .i64 a1y) ∧ W'.cell? ⟨w.heap.size, 2, none⟩ = some (.int .i64 a1z) ∧ W'.cell? ⟨w.heap.size, 3, none⟩ = some (.int .i64 a1t) ∧ W'.cell? ⟨w.heap.size + 1, 0, none⟩ = some (.int .i64 a2x) ∧ W'.cell? ⟨w.heap.size + 1, 1, none⟩ = some (.int .i64 a2y) ∧ W'.cell? ⟨w.heap.size + 1, 2, none⟩ = some (.int .i64 a2z) ∧ W'.cell? ⟨w.heap.size + 1, 3, none⟩ = some (.int .i64 a2t) ∧ W'.cell? ⟨W.heap.size, 0, none⟩ = some (.int .i64 u0) ∧ W'.cell? ⟨W.heap.size, 1, none⟩ = some (.int .i64 u1) ∧ W'.cell? ⟨W.heap.size, 2, none⟩ = some (.int .i64 u2) ∧ W'.cell? ⟨W.heap.size, 3, none⟩ = some (.int .i64 u3) ∧ W'.cell? ⟨w9.heap.size, 0, none⟩ = some (.int .i64 i0) ∧ W'.cell? ⟨w9.heap.size, 1, none⟩ = some (.int .i64 i1) ∧ W'.cell? ⟨w9.heap.size, 2, none⟩ = some (.int .i64 i2) ∧ W'.cell? ⟨w9.heap.size, 3, none⟩ = some (.int .i64 i3)) ?_ ?_
            · (try dsimp only)
              have n0 : W.heap.size ≠ w.heap.size := by clear B; omega
              have n1 : W.heap.size ≠ w.heap.size + 1 := by clear B; omega
              have n2 : W.heap.size ≠ w9.heap.size := by clear B; omega
              have nb : w.heap.size ≤ W.heap.size := by clear B; omega
              obtain ⟨z0, z1, z2, z3⟩ := own4 (x0 := .int .i64 u0) (x1 := .int .i64 u1) (x2 := .int .i64 u2) (x3 := .int .i64 u3) f8 f9 f10 f11
              exact ⟨below4 B nb, far4 f0 n0, far4 f1 n0, far4 f2 n0, far4 f3 n0, far4 f4 n1, far4 f5 n1, far4 f6 n1, far4 f7 n1, z0, z1, z2, z3, far4 f12 n2, far4 f13 n2, far4 f14 n2, far4 f15 n2⟩
            rintro y64 ⟨B, f0, f1, f2, f3, f4, f5, f6, f7, f8, f9, f10, f11, f12, f13, f14, f15⟩
            refine hK.out _ _ ?_
            clear hK K
            (try simp only [Act.put, List.setIfInBounds_toArray, List.set_cons_zero, List.set_cons_succ])
            refine anyN_done (by kernel_rfl) ?_ _
            exact then_normal ⟨w9.heap.size, W.heap.size, rfl, B, f0, f1, f2, f3, f4, f5, f6, f7, f12, f13, f14, f15, f8, f9, f10, f11⟩
  rintro a W ⟨n7, n8, rfl, B, f0, f1, f2, f3, f4, f5, f6, f7, f8, f9, f10, f11, f12, f13, f14, f15⟩
  go_upto_region 4 with (go_at_call 18; (with_reducible refine (iRectIn_any _ _ _ _ _ _ _ _ _ _).mono ?_); rintro e w6 ⟨rfl, hb⟩; replace f0 := keepc hb f0; replace f1 := keepc hb f1; replace f2 := keepc hb f2; replace f3 := keepc hb f3; replace f4 := keepc hb f4; replace f5 := keepc hb f5; replace f6 := keepc hb f6; replace f7 := keepc hb f7; replace f8 := keepc hb f8; replace f9 := keepc hb f9; replace f10 := keepc hb f10; replace f11 := keepc hb f11; replace f12 := keepc hb f12; replace f13 := keepc hb f13; replace f14 := keepc hb f14; replace f15 := keepc hb f15; replace B := keepb B hb; clear hb)
  rcases hc.out with ⟨he, hr⟩ | ⟨he, hr, rfl, rfl, rfl, rfl⟩ | ⟨he, hr, hne⟩
  · clear hc
    refine region_R (S := (fun W' => W'.cell? ⟨w.heap.size, 0, none⟩ = some (.int .i64 a1x) ∧ W'.cell? ⟨w.heap.size, 1, none⟩ = some (.int .i64 a1y) ∧ W'.cell? ⟨w.heap.size, 2, none⟩ = some (.int .i64 a1z) ∧ W'.cell? ⟨w.heap.size, 3, none⟩ = some (.int .i64 a1t) ∧ W'.cell? ⟨w.heap.size + 1, 0, none⟩ = some (.int .i64 a2x) ∧ W'.cell? ⟨w.heap.size + 1, 1, none⟩ = some (.int .i64 a2y) ∧ W'.cell? ⟨w.heap.size + 1, 2, none⟩ = some (.int .i64 a2z) ∧ W'.cell? ⟨w.heap.size + 1, 3, none⟩ = some (.int .i64 a2t) ∧ W'.cell? ⟨n7, 0, none⟩ = some (.int .i64 i0) ∧ W'.cell? ⟨n7, 1, none⟩ = some (.int .i64 i1) ∧ W'.cell? ⟨n7, 2, none⟩ = some (.int .i64 i2) ∧ W'.cell? ⟨n7, 3, none⟩ = some (.int .i64 i3) ∧ W'.cell? ⟨n8, 0, none⟩ = some (.int .i64 u0) ∧ W'.cell? ⟨n8, 1, none⟩ = some (.int .i64 u1) ∧ W'.cell? ⟨n8, 2, none⟩ = some (.int .i64 u2) ∧ W'.cell? ⟨n8, 3, none⟩ = some (.int .i64 u3))) (N := []) (fun W' => Below w.heap.size w W' ∧ W'.cell? ⟨w.heap.size, 0, none⟩ = some (.int .i64 a1x) ∧ W'.cell? ⟨w.heap.size, 1, none⟩ = some (.int .i64 a1y) ∧ W'.cell? ⟨w.heap.size, 2, none⟩ = some (.int .i64 a1z) ∧ W'.cell? ⟨w.heap.size, 3, none⟩ = some (.int .i64 a1t) ∧ W'.cell? ⟨w.heap.size + 1, 0, none⟩ = some (.int .i64 a2x) ∧ W'.cell? ⟨w.heap.size + 1, 1, none⟩ = some (.int .i64 a2y) ∧ W'.cell? ⟨w.heap.size + 1, 2, none⟩ = some (.int .i64 a2z) ∧ W'.cell? ⟨w.heap.size + 1, 3, none⟩ = some (.int .i64 a2t) ∧ W'.cell? ⟨n7, 0, none⟩ = some (.int .i64 i0) ∧ W'.cell? ⟨n7, 1, none⟩ = some (.int .i64 i1) ∧ W'.cell? ⟨n7, 2, none⟩ = some (.int .i64 i2) ∧ W'.cell? ⟨n7, 3, none⟩ = some (.int .i64 i3) ∧ W'.cell? ⟨n8, 0, none⟩ = some (.int .i64 u0) ∧ W'.cell? ⟨n8, 1, none⟩ = some (.int .i64 u1) ∧ W'.cell? ⟨n8, 2, none⟩ = some (.int .i64 u2) ∧ W'.cell? ⟨n8, 3, none⟩ = some (.int .i64 u3)) (by kernel_rfl) ?_ ?_
    · (try dsimp only)
      exact ⟨B.drew, (by simp [go_sem, f0]), (by simp [go_sem, f1]), (by simp [go_sem, f2]), (by simp [go_sem, f3]), (by simp [go_sem, f4]), (by simp [go_sem, f5]), (by simp [go_sem, f6]), (by simp [go_sem, f7]), (by simp [go_sem, f8]), (by simp [go_sem, f9]), (by simp [go_sem, f10]), (by simp [go_sem, f11]), (by simp [go_sem, f12]), (by simp [go_sem, f13]), (by simp [go_sem, f14]), (by simp [go_sem, f15])⟩
    rintro W ⟨B, f0, f1, f2, f3, f4, f5, f6, f7, f8, f9, f10, f11, f12, f13, f14, f15⟩
    refine anyN_take [] (i := 0) (oi := ?o65) (v := ?v65) ?hi65 (by kernel_rfl) (by kernel_rfl) (by kernel_rfl) (by kernel_rfl) (by kernel_rfl) ?hQ65 (Or.inl ⟨?hg65, ?hy65⟩) ⟨f0, f1, f2, f3, f4, f5, f6, f7, f8, f9, f10, f11, f12, f13, f14, f15⟩ ?rest65
    case hi65 => (simp only [List.getElem?_toArray, List.getElem?_cons_zero, List.getElem?_cons_succ]; (first | done | with_reducible rfl))
    case hQ65 => exact fun _ _ _ h => h
    case hg65 => rfl
    case hy65 => (intro w hSw; (try dsimp only at hSw); go_simp; (first | done | (with_reducible rfl)))
    (try simp only [Act.put, List.setIfInBounds_toArray, List.set_cons_zero, List.set_cons_succ])
    refine anyN_take [] (i := 1) (oi := ?o66) (v := ?v66) ?hi66 (by kernel_rfl) (by kernel_rfl) (by kernel_rfl) (by kernel_rfl) (by kernel_rfl) ?hQ66 (Or.inl ⟨?hg66, ?hy66⟩) ⟨f0, f1, f2, f3, f4, f5, f6, f7, f8, f9, f10, f11, f12, f13, f14, f15⟩ ?rest66
    case hi66 => (simp only [List.getElem?_toArray, List.getElem?_cons_zero, List.getElem?_cons_succ]; (first | done | with_reducible rfl))
    case hQ66 => exact fun _ _ _ h => h
    case hg66 => rfl
    case hy66 => (intro w hSw; (try dsimp only at hSw); go_simp; (first | done | (with_reducible rfl)))
    (try simp only [Act.put, List.setIfInBounds_toArray, List.set_cons_zero, List.set_cons_succ])
    refine anyN_take [] (i := 2) (oi := ?o67) (v := ?v67) ?hi67 (by kernel_rfl) (by kernel_rfl) (by kernel_rfl) (by kernel_rfl) (by kernel_rfl) ?hQ67 (Or.inl ⟨?hg67, ?hy67⟩) ⟨f0, f1, f2, f3, f4, f5, f6, f7, f8, f9, f10, f11, f12, f13, f14, f15⟩ ?rest67
    case hi67 => (simp only [List.getElem?_toArray, List.getElem?_cons_zero, List.getElem?_cons_succ]; (first | done | with_reducible rfl))
    case hQ67 => exact fun _ _ _ h => h
    case hg67 => rfl
    case hy67 => (intro w hSw; (try dsimp only at hSw); go_simp; (first | done | (with_reducible rfl)))
    (try simp only [Act.put, List.setIfInBounds_toArray, List.set_cons_zero, List.set_cons_succ])
    refine anyN_take [] (i := 4) (oi := ?o68) (v := ?v68) ?hi68 (by kernel_rfl) (by kernel_rfl) (by kernel_rfl) (by kernel_rfl) (by kernel_rfl) ?hQ68 (Or.inl ⟨?hg68, ?hy68⟩) ⟨f0, f1, f2, f3, f4, f5, f6, f7, f8, f9, f10, f11, f12, f13, f14, f15⟩ ?rest68
    case hi68 => (simp only [List.getElem?_toArray, List.getElem?_cons_zero, List.getElem?_cons_succ]; (first | done | with_reducible rfl))
    case hQ68 => exact fun _ _ _ h => h
    case hg68 => rfl
    case hy68 => (intro w hSw; (try dsimp only at hSw); go_simp; (first | done | (with_reducible rfl)))
    (try simp only [Act.put, List.setIfInBounds_toArray, List.set_cons_zero, List.set_cons_succ])
    refine anyN_take [] (i := 5) (oi := ?o69) (v := ?v69) ?hi69 (by kernel_rfl) (by kernel_rfl) (by kernel_rfl) (by kernel_rfl) (by kernel_rfl) ?hQ69 (Or.inl ⟨?hg69, ?hy69⟩) ⟨f0, f1, f2, f3, f4, f5, f6, f7, f8, f9, f10, f11, f12, f13, f14, f15⟩ ?rest69
    case hi69 => (simp only [List.getElem?_toArray, List.getElem?_cons_zero, List.getElem?_cons_succ]; (first | done | with_reducible rfl))
    case hQ69 => exact fun _ _ _ h => h
    case hg69 => rfl
    case hy69 => (intro w hSw; (try dsimp only at hSw); go_simp; (first | done | (with_reducible rfl)))
    (try simp only [Act.put, List.setIfInBounds_toArray, List.set_cons_zero, List.set_cons_succ])
    refine anyN_ready (rs := [3]) (by kernel_rfl) (by simp) ?_
    refine AllN.cons (o := ?o70) ?hi70 (fun K hK => ?step70) AllN.nil
    case hi70 => (simp only [List.getElem?_toArray, List.getElem?_cons_zero, List.getElem?_cons_succ]; (first | done | with_reducible rfl))
    go_simp
    (go_at_call 18; (with_reducible refine (iRectIn_any _ _ _ _ _ _ _ _ _ _).mono ?_); rintro e w1 ⟨rfl, hb⟩; replace f0 := keepc hb f0; replace f1 := keepc hb f1; replace f2 := keepc hb f2; replace f3 := keepc hb f3; replace f4 := keepc hb f4; replace f5 := keepc hb f5; replace f6 := keepc hb f6; replace f7 := keepc hb f7; replace f8 := keepc hb f8; replace f9 := keepc hb f9; replace f10 := keepc hb f10; replace f11 := keepc hb f11; replace f12 := keepc hb f12; replace f13 := keepc hb f13; replace f14 := keepc hb f14; replace f15 := keepc hb f15; replace B := keepb B hb; clear hb)
    refine hK.out _ _ ⟨f0, f1, f2, f3, f4, f5, f6, f7, f8, f9, f10, f11, f12, f13, f14, f15⟩ (fun _ => ?_)
    clear hK K
    (try simp only [Act.put, List.setIfInBounds_toArray, List.set_cons_zero, List.set_cons_succ])
    simp only [er0, er1, er2, er3, es0, es1, es2, es3, hr]
    refine anyN_ready (rs := [6]) (by kernel_rfl) (by simp) ?_
    refine AllN.cons (o := ?o71) ?hi71 (fun K hK => ?step71) AllN.nil
    case hi71 => (simp only [List.getElem?_toArray, List.getElem?_cons_zero, List.getElem?_cons_succ]; (first | done | with_reducible rfl))
    go_simp
    (go_at_call 19; (with_reducible refine (iEmpty_any _ _ _ _ _ _).mono ?_); rintro e w1 ⟨rfl, hb⟩; replace f0 := keepc hb f0; replace f1 := keepc hb f1; replace f2 := keepc hb f2; replace f3 := keepc hb f3; replace f4 := keepc hb f4; replace f5 := keepc hb f5; replace f6 := keepc hb f6; replace f7 := keepc hb f7; replace f8 := keepc hb f8; replace f9 := keepc hb f9; replace f10 := keepc hb f10; replace f11 := keepc hb f11; replace f12 := keepc hb f12; replace f13 := keepc hb f13; replace f14 := keepc hb f14; replace f15 := keepc hb f15; replace B := keepb B hb; clear hb)
    refine hK.out _ _ ⟨f0, f1, f2, f3, f4, f5, f6, f7, f8, f9, f10, f11, f12, f13, f14, f15⟩ (fun _ => ?_)
    clear hK K
    (try simp only [Act.put, List.setIfInBounds_toArray, List.set_cons_zero, List.set_cons_succ])
    simp only [er0, er1, er2, er3, es0, es1, es2, es3, he]
    refine anyN_take [] (i := 7) (oi := ?o72) (v := ?v72) ?hi72 (by kernel_rfl) (by kernel_rfl) (by kernel_rfl) (by kernel_rfl) (by kernel_rfl) ?hQ72 (Or.inl ⟨?hg72, ?hy72⟩) ⟨f0, f1, f2, f3, f4, f5, f6, f7, f8, f9, f10, f11, f12, f13, f14, f15⟩ ?rest72
    case hi72 => (simp only [List.getElem?_toArray, List.getElem?_cons_zero, List.getElem?_cons_succ]; (first | done | with_reducible rfl))
    case hQ72 => exact fun _ _ _ h => h
    case hg72 => rfl
    case hy72 => (intro w hSw; (try dsimp only at hSw); go_simp; (first | done | (with_reducible rfl)))
    (try simp only [Act.put, List.setIfInBounds_toArray, List.set_cons_zero, List.set_cons_succ])
    refine anyN_take [] (i := 8) (oi := ?o73) (v := undef) ?hi73 (by kernel_rfl) (by kernel_rfl) (by kernel_rfl) (by kernel_rfl) (by kernel_rfl) ?hQ73 (Or.inr ⟨?hg73, rfl⟩) ⟨f0, f1, f2, f3, f4, f5, f6, f7, f8, f9, f10, f11, f12, f13, f14, f15⟩ ?rest73
    case hi73 => (simp only [List.getElem?_toArray, List.getElem?_cons_zero, List.getElem?_cons_succ]; (first | done | with_reducible rfl))
    case hQ73 => exact fun _ _ _ h => h
    case hg73 => rfl
    (try simp only [Act.put, List.setIfInBounds_toArray, List.set_cons_zero, List.set_cons_succ])
    refine anyN_take [] (i := 9) (oi := ?o74) (v := undef) ?hi74 (by kernel_rfl) (by kernel_rfl) (by kernel_rfl) (by kernel_rfl) (by kernel_rfl) ?hQ74 (Or.inr ⟨?hg74, rfl⟩) ⟨f0, f1, f2, f3, f4, f5, f6, f7, f8, f9, f10, f11, f12, f13, f14, f15⟩ ?rest74
    case hi74 => (simp only [List.getElem?_toArray, List.getElem?_cons_zero, List.getElem?_cons_succ]; (first | done | with_reducible rfl))
    case hQ74 => exact fun _ _ _ h => h
    case hg74 => rfl
    (try simp only [Act.put, List.setIfInBounds_toArray, List.set_cons_zero, List.set_cons_succ])
    refine anyN_take [] (i := 10) (oi := ?o75) (v := undef) ?hi75 (by kernel_rfl) (by kernel_rfl) (by kernel_rfl) (by kernel_rfl) (by kernel_rfl) ?hQ75 (Or.inr ⟨?hg75, rfl⟩) ⟨f0, f1, f2, f3, f4, f5, f6, f7, f8, f9, f10, f11, f12, f13, f14, f15⟩ ?rest75
    case hi75 => (simp only [List.getElem?_toArray, List.getElem?_cons_zero, List.getElem?_cons_succ]; (first | done | with_reducible rfl))
    case hQ75 => exact fun _ _ _ h => h
    case hg75 => rfl
    (try simp only [Act.put, List.setIfInBounds_toArray, List.set_cons_zero, List.set_cons_succ])
    refine anyN_take [] (i := 11) (oi := ?o76) (v := undef) ?hi76 (by kernel_rfl) (by kernel_rfl) (by kernel_rfl) (by kernel_rfl) (by kernel_rfl) ?hQ76 (Or.inr ⟨?hg76, rfl⟩) ⟨f0, f1, f2, f3, f4, f5, f6, f7, f8, f9, f10, f11, f12, f13, f14, f15⟩ ?rest76
    case hi76 => (simp only [List.getElem?_toArray, List.getElem?_cons_zero, List.getElem?_cons_succ]; (first | done | with_reducible rfl))
    case hQ76 => exact fun _ _ _ h => h
    case hg76 => rfl
    (try simp only [Act.put, List.setIfInBounds_toArray, List.set_cons_zero, List.set_cons_succ])
    refine anyN_take [] (i := 12) (oi := ?o77) (v := undef) ?hi77 (by kernel_rfl) (by kernel_rfl) (by kernel_rfl) (by kernel_rfl) (by kernel_rfl) ?hQ77 (Or.inr ⟨?hg77, rfl⟩) ⟨f0, f1, f2, f3, f4, f5, f6, f7, f8, f9, f10, f11, f12, f13, f14, f15⟩ ?rest77
    case hi77 => (simp only [List.getElem?_toArray, List.getElem?_cons_zero, List.getElem?_cons_succ]; (first | done | with_reducible rfl))
    case hQ77 => exact fun _ _ _ h => h
    case hg77 => rfl
    (try simp only [Act.put, List.setIfInBounds_toArray, List.set_cons_zero, List.set_cons_succ])
    refine anyN_take [] (i := 13) (oi := ?o78) (v := ?v78) ?hi78 (by kernel_rfl) (by kernel_rfl) (by kernel_rfl) (by kernel_rfl) (by kernel_rfl) ?hQ78 (Or.inl ⟨?hg78, ?hy78⟩) ⟨f0, f1, f2, f3, f4, f5, f6, f7, f8, f9, f10, f11, f12, f13, f14, f15⟩ ?rest78
    case hi78 => (simp only [List.getElem?_toArray, List.getElem?_cons_zero, List.getElem?_cons_succ]; (first | done | with_reducible rfl))
    case hQ78 => exact fun _ _ _ h => h
    case hg78 => rfl
    case hy78 => (intro w hSw; (try dsimp only at hSw); go_simp; (first | done | (with_reducible rfl)))
    (try simp only [Act.put, List.setIfInBounds_toArray, List.set_cons_zero, List.set_cons_succ])
    refine anyN_take [] (i := 14) (oi := ?o79) (v := ?v79) ?hi79 (by kernel_rfl) (by kernel_rfl) (by kernel_rfl) (by kernel_rfl) (by kernel_rfl) ?hQ79 (Or.inl ⟨?hg79, ?hy79⟩) ⟨f0, f1, f2, f3, f4, f5, f6, f7, f8, f9, f10, f11, f12, f13, f14, f15⟩ ?rest79
    case hi79 => (simp only [List.getElem?_toArray, List.getElem?_cons_zero, List.getElem?_cons_succ]; (first | done | with_reducible rfl))
    case hQ79 => exact fun _ _ _ h => h
    case hg79 => rfl
    case hy79 => (intro w hSw; (try dsimp only at hSw); go_simp; (first | done | (with_reducible rfl)))
    (try simp only [Act.put, List.setIfInBounds_toArray, List.set_cons_zero, List.set_cons_succ])
    refine anyN_take [] (i := 15) (oi := ?o80) (v := ?v80) ?hi80 (by kernel_rfl) (by kernel_rfl) (by kernel_rfl) (by kernel_rfl) (by kernel_rfl) ?hQ80 (Or.inl ⟨?hg80, ?hy80⟩) ⟨f0, f1, f2, f3, f4, f5, f6, f7, f8, f9, f10, f11, f12, f13, f14, f15⟩ ?rest80
    case hi80 => (simp only [List.getElem?_toArray, List.getElem?_cons_zero, List.getElem?_cons_succ]; (first | done | with_reducible rfl))
    case hQ80 => exact fun _ _ _ h => h
    case hg80 => rfl
    case hy80 => (intro w hSw; (try dsimp only at hSw); go_simp; (first | done | (with_reducible rfl)))
    (try simp only [Act.put, List.setIfInBounds_toArray, List.set_cons_zero, List.set_cons_succ])
    refine anyN_done (by kernel_rfl) ?_ _
    go_wp2
    go_ret
    exact ⟨rfl, B⟩
  · clear hc
    refine region_R (S := (fun W' => W'.cell? ⟨w.heap.size, 0, none⟩ = some (.int .i64 a1x) ∧ W'.cell? ⟨w.heap.size, 1, none⟩ = some (.int .i64 a1y) ∧ W'.cell? ⟨w.heap.size, 2, none⟩ = some (.int .i64 a1z) ∧ W'.cell? ⟨w.heap.size, 3, none⟩ = some (.int .i64 a1t) ∧ W'.cell? ⟨w.heap.size + 1, 0, none⟩ = some (.int .i64 a2x) ∧ W'.cell? ⟨w.heap.size + 1, 1, none⟩ = some (.int .i64 a2y) ∧ W'.cell? ⟨w.heap.size + 1, 2, none⟩ = some (.int .i64 a2z) ∧ W'.cell? ⟨w.heap.size + 1, 3, none⟩ = some (.int .i64 a2t) ∧ W'.cell? ⟨n7, 0, none⟩ = some (.int .i64 i0) ∧ W'.cell? ⟨n7, 1, none⟩ = some (.int .i64 i1) ∧ W'.cell? ⟨n7, 2, none⟩ = some (.int .i64 i2) ∧ W'.cell? ⟨n7, 3, none⟩ = some (.int .i64 i3) ∧ W'.cell? ⟨n8, 0, none⟩ = some (.int .i64 u0) ∧ W'.cell? ⟨n8, 1, none⟩ = some (.int .i64 u1) ∧ W'.cell? ⟨n8, 2, none⟩ = some (.int .i64 u2) ∧ W'.cell? ⟨n8, 3, none⟩ = some (.int .i64 u3))) (N := []) (fun W' => Below w.heap.size w W' ∧ W'.cell? ⟨w.heap.size, 0, none⟩ = some (.int .i64 a1x) ∧ W'.cell? ⟨w.heap.size, 1, none⟩ = some (.int .i64 a1y) ∧ W'.cell? ⟨w.heap.size, 2, none⟩ = some (.int .i64 a1z) ∧ W'.cell? ⟨w.heap.size, 3, none⟩ = some (.int .i64 a1t) ∧ W'.cell? ⟨w.heap.size + 1, 0, none⟩ = some (.int .i64 a2x) ∧ W'.cell? ⟨w.heap.size + 1, 1, none⟩ = some (.int .i64 a2y) ∧ W'.cell? ⟨w.heap.size + 1, 2, none⟩ = some (.int .i64 a2z) ∧ W'.cell? ⟨w.heap.size + 1, 3, none⟩ = some (.int .i64 a2t) ∧ W'.cell? ⟨n7, 0, none⟩ = some (.int .i64 i0) ∧ W'.cell? ⟨n7, 1, none⟩ = some (.int .i64 i1) ∧ W'.cell? ⟨n7, 2, none⟩ = some (.int .i64 i2) ∧ W'.cell? ⟨n7, 3, none⟩ = some (.int .i64 i3) ∧ W'.cell? ⟨n8, 0, none⟩ = some (.int .i64 u0) ∧ W'.cell? ⟨n8, 1, none⟩ = some (.int .i64 u1) ∧ W'.cell? ⟨n8, 2, none⟩ = some (.int .i64 u2) ∧ W'.cell? ⟨n8, 3, none⟩ = some (.int .i64 u3)) (by kernel_rfl) ?_ ?_
    · (try dsimp only)
      exact ⟨B.drew, (by simp [go_sem, f0]), (by simp [go_sem, f1]), (by simp [go_sem, f2]), (by simp [go_sem, f3]), (by simp [go_sem, f4]), (by simp [go_sem, f5]), (by simp [go_sem, f6]), (by simp [go_sem, f7]), (by simp [go_sem, f8]), (by simp [go_sem, f9]), (by simp [go_sem, f10]), (by simp [go_sem, f11]), (by simp [go_sem, f12]), (by simp [go_sem, f13]), (by simp [go_sem, f14]), (by simp [go_sem, f15])⟩
    rintro W ⟨B, f0, f1, f2, f3, f4, f5, f6, f7, f8, f9, f10, f11, f12, f13, f14, f15⟩
    refine anyN_take [] (i := 0) (oi := ?o81) (v := ?v81) ?hi81 (by kernel_rfl) (by kernel_rfl) (by kernel_rfl) (by kernel_rfl) (by kernel_rfl) ?hQ81 (Or.inl ⟨?hg81, ?hy81⟩) ⟨f0, f1, f2, f3, f4, f5, f6, f7, f8, f9, f10, f11, f12, f13, f14, f15⟩ ?rest81
    case hi81 => (simp only [List.getElem?_toArray, List.getElem?_cons_zero, List.getElem?_cons_succ]; (first | done | with_reducible rfl))
    case hQ81 => exact fun _ _ _ h => h
    case hg81 => rfl
    case hy81 => (intro w hSw; (try dsimp only at hSw); go_simp; (first | done | (with_reducible rfl)))
    (try simp only [Act.put, List.setIfInBounds_toArray, List.set_cons_zero, List.set_cons_succ])
    refine anyN_take [] (i := 1) (oi := ?o82) (v := ?v82) ?hi82 (by kernel_rfl) (by kernel_rfl) (by kernel_rfl) (by kernel_rfl) (by kernel_rfl) ?hQ82 (Or.inl ⟨?hg82, ?hy82⟩) ⟨f0, f1, f2, f3, f4, f5, f6, f7, f8, f9, f10, f11, f12, f13, f14, f15⟩ ?rest82
    case hi82 => (simp only [List.getElem?_toArray, List.getElem?_cons_zero, List.getElem?_cons_succ]; (first | done | with_reducible rfl))
    case hQ82 => exact fun _ _ _ h => h
    case hg82 => rfl
    case hy82 => (intro w hSw; (try dsimp only at hSw); go_simp; (first | done | (with_reducible rfl)))
    (try simp only [Act.put, List.setIfInBounds_toArray, List.set_cons_zero, List.set_cons_succ])
    refine anyN_take [] (i := 2) (oi := ?o83) (v := ?v83) ?hi83 (by kernel_rfl) (by kernel_rfl) (by kernel_rfl) (by kernel_rfl) (by kernel_rfl) ?hQ83 (Or.inl ⟨?hg83, ?hy83⟩) ⟨f0, f1, f2, f3, f4, f5, f6, f7, f8, f9, f10, f11, f12, f13, f14, f15⟩ ?rest83
    case hi83 => (simp only [List.getElem?_toArray, List.getElem?_cons_zero, List.getElem?_cons_succ]; (first | done | with_reducible rfl))
    case hQ83 => exact fun _ _ _ h => h
    case hg83 => rfl
    case hy83 => (intro w hSw; (try dsimp only at hSw); go_simp; (first | done | (with_reducible rfl)))
    (try simp only [Act.put, List.setIfInBounds_toArray, List.set_cons_zero, List.set_cons_succ])
    refine anyN_take [] (i := 4) (oi := ?o84) (v := ?v84) ?hi84 (by kernel_rfl) (by kernel_rfl) (by kernel_rfl) (by kernel_rfl) (by kernel_rfl) ?hQ84 (Or.inl ⟨?hg84, ?hy84⟩) ⟨f0, f1, f2, f3, f4, f5, f6, f7, f8, f9, f10, f11, f12, f13, f14, f15⟩ ?rest84
    case hi84 => (simp only [List.getElem?_toArray, List.getElem?_cons_zero, List.getElem?_cons_succ]; (first | done | with_reducible rfl))
    case hQ84 => exact fun _ _ _ h => h
    case hg84 => rfl
    case hy84 => (intro w hSw; (try dsimp only at hSw); go_simp; (first | done | (with_reducible rfl)))
    (try simp only [Act.put, List.setIfInBounds_toArray, List.set_cons_zero, List.set_cons_succ])
    refine anyN_take [] (i := 5) (oi := ?o85) (v := ?v85) ?hi85 (by kernel_rfl) (by kernel_rfl) (by kernel_rfl) (by kernel_rfl) (by kernel_rfl) ?hQ85 (Or.inl ⟨?hg85, ?hy85⟩) ⟨f0, f1, f2, f3, f4, f5, f6, f7, f8, f9, f10, f11, f12, f13, f14, f15⟩ ?rest85
    case hi85 => (simp only [List.getElem?_toArray, List.getElem?_cons_zero, List.getElem?_cons_succ]; (first | done | with_reducible rfl))
    case hQ85 => exact fun _ _ _ h => h
    case hg85 => rfl
    case hy85 => (intro w hSw; (try dsimp only at hSw); go_simp; (first | done | (with_reducible rfl)))
    (try simp only [Act.put, List.setIfInBounds_toArray, List.set_cons_zero, List.set_cons_succ])
    refine anyN_ready (rs := [3]) (by kernel_rfl) (by simp) ?_
    refine AllN.cons (o := ?o86) ?hi86 (fun K hK => ?step86) AllN.nil
    case hi86 => (simp only [List.getElem?_toArray, List.getElem?_cons_zero, List.getElem?_cons_succ]; (first | done | with_reducible rfl))
    go_simp
    (go_at_call 18; (with_reducible refine (iRectIn_any _ _ _ _ _ _ _ _ _ _).mono ?_); rintro e w1 ⟨rfl, hb⟩; replace f0 := keepc hb f0; replace f1 := keepc hb f1; replace f2 := keepc hb f2; replace f3 := keepc hb f3; replace f4 := keepc hb f4; replace f5 := keepc hb f5; replace f6 := keepc hb f6; replace f7 := keepc hb f7; replace f8 := keepc hb f8; replace f9 := keepc hb f9; replace f10 := keepc hb f10; replace f11 := keepc hb f11; replace f12 := keepc hb f12; replace f13 := keepc hb f13; replace f14 := keepc hb f14; replace f15 := keepc hb f15; replace B := keepb B hb; clear hb)
    refine hK.out _ _ ⟨f0, f1, f2, f3, f4, f5, f6, f7, f8, f9, f10, f11, f12, f13, f14, f15⟩ (fun _ => ?_)
    clear hK K
    (try simp only [Act.put, List.setIfInBounds_toArray, List.set_cons_zero, List.set_cons_succ])
    simp only [er0, er1, er2, er3, es0, es1, es2, es3, hr]
    refine anyN_ready (rs := [6]) (by kernel_rfl) (by simp) ?_
    refine AllN.cons (o := ?o87) ?hi87 (fun K hK => ?step87) AllN.nil
    case hi87 => (simp only [List.getElem?_toArray, List.getElem?_cons_zero, List.getElem?_cons_succ]; (first | done | with_reducible rfl))
    go_simp
    (go_at_call 19; (with_reducible refine (iEmpty_any _ _ _ _ _ _).mono ?_); rintro e w1 ⟨rfl, hb⟩; replace f0 := keepc hb f0; replace f1 := keepc hb f1; replace f2 := keepc hb f2; replace f3 := keepc hb f3; replace f4 := keepc hb f4; replace f5 := keepc hb f5; replace f6 := keepc hb f6; replace f7 := keepc hb f7; replace f8 := keepc hb f8; replace f9 := keepc hb f9; replace f10 := keepc hb f10; replace f11 := keepc hb f11; replace f12 := keepc hb f12; replace f13 := keepc hb f13; replace f14 := keepc hb f14; replace f15 := keepc hb f15; replace B := keepb B hb; clear hb)
    refine hK.out _ _ ⟨f0, f1, f2, f3, f4, f5, f6, f7, f8, f9, f10, f11, f12, f13, f14, f15⟩ (fun _ => ?_)
    clear hK K
    (try simp only [Act.put, List.setIfInBounds_toArray, List.set_cons_zero, List.set_cons_succ])
    simp only [er0, er1, er2, er3, es0, es1, es2, es3, he]
    refine anyN_take [] (i := 7) (oi := ?o88) (v := ?v88) ?hi88 (by kernel_rfl) (by kernel_rfl) (by kernel_rfl) (by kernel_rfl) (by kernel_rfl) ?hQ88 (Or.inl ⟨?hg88, ?hy88⟩) ⟨f0, f1, f2, f3, f4, f5, f6, f7, f8, f9, f10, f11, f12, f13, f14, f15⟩ ?rest88
    case hi88 => (simp only [List.getElem?_toArray, List.getElem?_cons_zero, List.getElem?_cons_succ]; (first | done | with_reducible rfl))
    case hQ88 => exact fun _ _ _ h => h
    case hg88 => rfl
    case hy88 => (intro w hSw; (try dsimp only at hSw); go_simp; (first | done | (with_reducible rfl)))
    (try simp only [Act.put, List.setIfInBounds_toArray, List.set_cons_zero, List.set_cons_succ])
    refine anyN_take [] (i := 8) (oi := ?o89) (v := ?v89) ?hi89 (by kernel_rfl) (by kernel_rfl) (by kernel_rfl) (by kernel_rfl) (by kernel_rfl) ?hQ89 (Or.inl ⟨?hg89, ?hy89⟩) ⟨f0, f1, f2, f3, f4, f5, f6, f7, f8, f9, f10, f11, f12, f13, f14, f15⟩ ?rest89
    case hi89 => (simp only [List.getElem?_toArray, List.getElem?_cons_zero, List.getElem?_cons_succ]; (first | done | with_reducible rfl))
    case hQ89 => exact fun _ _ _ h => h
    case hg89 => rfl
    case hy89 => (intro w hSw; (try dsimp only at hSw); go_simp; (first | done | (with_reducible rfl)))
    (try simp only [Act.put, List.setIfInBounds_toArray, List.set_cons_zero, List.set_cons_succ])
    refine anyN_take [] (i := 9) (oi := ?o90) (v := ?v90) ?hi90 (by kernel_rfl) (by kernel_rfl) (by kernel_rfl) (by kernel_rfl) (by kernel_rfl) ?hQ90 (Or.inl ⟨?hg90, ?hy90⟩) ⟨f0, f1, f2, f3, f4, f5, f6, f7, f8, f9, f10, f11, f12, f13, f14, f15⟩ ?rest90
    case hi90 => (simp only [List.getElem?_toArray, List.getElem?_cons_zero, List.getElem?_cons_succ]; (first | done | with_reducible rfl))
    case hQ90 => exact fun _ _ _ h => h
    case hg90 => rfl
    case hy90 => (intro w hSw; (try dsimp only at hSw); go_simp; (first | done | (with_reducible rfl)))
    (try simp only [Act.put, List.setIfInBounds_toArray, List.set_cons_zero, List.set_cons_succ])
    refine anyN_take [] (i := 10) (oi := ?o91) (v := ?v91) ?hi91 (by kernel_rfl) (by kernel_rfl) (by kernel_rfl) (by kernel_rfl) (by kernel_rfl) ?hQ91 (Or.inl ⟨?hg91, ?hy91⟩) ⟨f0, f1, f2, f3, f4, f5, f6, f7, f8, f9, f10, f11, f12, f13, f14, f15⟩ ?rest91
    case hi91 => (simp only [List.getElem?_toArray, List.getElem?_cons_zero, List.getElem?_cons_succ]; (first | done | with_reducible rfl))
    case hQ91 => exact fun _ _ _ h => h
    case hg91 => rfl
    case hy91 => (intro w hSw; (try dsimp only at hSw); go_simp; (first | done | (with_reducible rfl)))
    (try simp only [Act.put, List.setIfInBounds_toArray, List.set_cons_zero, List.set_cons_succ])
    refine anyN_ready (rs := [11]) (by kernel_rfl) (by simp) ?_
    refine AllN.cons (o := ?o92) ?hi92 (fun K hK => ?step92) AllN.nil
    case hi92 => (simp only [List.getElem?_toArray, List.getElem?_cons_zero, List.getElem?_cons_succ]; (first | done | with_reducible rfl))
    go_simp
    (go_at_call 20; (with_reducible refine (cutR_any _ _ _ _ _ _).mono ?_); rintro e w1 ⟨rfl, hb⟩; replace f0 := keepc hb f0; replace f1 := keepc hb f1; replace f2 := keepc hb f2; replace f3 := keepc hb f3; replace f4 := keepc hb f4; replace f5 := keepc hb f5; replace f6 := keepc hb f6; replace f7 := keepc hb f7; replace f8 := keepc hb f8; replace f9 := keepc hb f9; replace f10 := keepc hb f10; replace f11 := keepc hb f11; replace f12 := keepc hb f12; replace f13 := keepc hb f13; replace f14 := keepc hb f14; replace f15 := keepc hb f15; replace B := keepb B hb; clear hb)
    refine hK.out _ _ ⟨f0, f1, f2, f3, f4, f5, f6, f7, f8, f9, f10, f11, f12, f13, f14, f15⟩ (fun _ => ?_)
    clear hK K
    (try simp only [Act.put, List.setIfInBounds_toArray, List.set_cons_zero, List.set_cons_succ])
    simp only [er0, er1, er2, er3, es0, es1, es2, es3]
    refine anyN_take [] (i := 12) (oi := ?o93) (v := ?v93) ?hi93 (by kernel_rfl) (by kernel_rfl) (by kernel_rfl) (by kernel_rfl) (by kernel_rfl) ?hQ93 (Or.inl ⟨?hg93, ?hy93⟩) ⟨f0, f1, f2, f3, f4, f5, f6, f7, f8, f9, f10, f11, f12, f13, f14, f15⟩ ?rest93
    case hi93 => (simp only [List.getElem?_toArray, List.getElem?_cons_zero, List.getElem?_cons_succ]; (first | done | with_reducible rfl))
    case hQ93 => exact fun _ _ _ h => h
    case hg93 => rfl
    case hy93 => (intro w hSw; (try dsimp only at hSw); go_simp; (first | done | (with_reducible rfl)))
    (try simp only [Act.put, List.setIfInBounds_toArray, List.set_cons_zero, List.set_cons_succ])
    refine anyN_take [] (i := 13) (oi := ?o94) (v := ?v94) ?hi94 (by kernel_rfl) (by kernel_rfl) (by kernel_rfl) (by kernel_rfl) (by kernel_rfl) ?hQ94 (Or.inl ⟨?hg94, ?hy94⟩) ⟨f0, f1, f2, f3, f4, f5, f6, f7, f8, f9, f10, f11, f12, f13, f14, f15⟩ ?rest94
    case hi94 => (simp only [List.getElem?_toArray, List.getElem?_cons_zero, List.getElem?_cons_succ]; (first | done | with_reducible rfl))
    case hQ94 => exact fun _ _ _ h => h
    case hg94 => rfl
    case hy94 => (intro w hSw; (try dsimp only at hSw); go_simp; (first | done | (with_reducible rfl)))
    (try simp only [Act.put, List.setIfInBounds_toArray, List.set_cons_zero, List.set_cons_succ])
    refine anyN_take [] (i := 14) (oi := ?o95) (v := ?v95) ?hi95 (by kernel_rfl) (by kernel_rfl) (by kernel_rfl) (by kernel_rfl) (by kernel_rfl) ?hQ95 (Or.inl ⟨?hg95, ?hy95⟩) ⟨f0, f1, f2, f3, f4, f5, f6, f7, f8, f9, f10, f11, f12, f13, f14, f15⟩ ?rest95
    case hi95 => (simp only [List.getElem?_toArray, List.getElem?_cons_zero, List.getElem?_cons_succ]; (first | done | with_reducible rfl))
    case hQ95 => exact fun _ _ _ h => h
    case hg95 => rfl
    case hy95 => (intro w hSw; (try dsimp only at hSw); go_simp; (first | done | (with_reducible rfl)))
    (try simp only [Act.put, List.setIfInBounds_toArray, List.set_cons_zero, List.set_cons_succ])
    refine anyN_take [] (i := 15) (oi := ?o96) (v := ?v96) ?hi96 (by kernel_rfl) (by kernel_rfl) (by kernel_rfl) (by kernel_rfl) (by kernel_rfl) ?hQ96 (Or.inl ⟨?hg96, ?hy96⟩) ⟨f0, f1, f2, f3, f4, f5, f6, f7, f8, f9, f10, f11, f12, f13, f14, f15⟩ ?rest96
    case hi96 => (simp only [List.getElem?_toArray, List.getElem?_cons_zero, List.getElem?_cons_succ]; (first | done | with_reducible rfl))
    case hQ96 => exact fun _ _ _ h => h
    case hg96 => rfl
    case hy96 => (intro w hSw; (try dsimp only at hSw); go_simp; (first | done | (with_reducible rfl)))
    (try simp only [Act.put, List.setIfInBounds_toArray, List.set_cons_zero, List.set_cons_succ])
    refine anyN_done (by kernel_rfl) ?_ _
    go_wp2
    go_ret
    exact ⟨rfl, B⟩
  · clear hc
    refine region_R (S := (fun W' => W'.cell? ⟨w.heap.size, 0, none⟩ = some (.int .i64 a1x) ∧ W'.cell? ⟨w.heap.size, 1, none⟩ = some (.int .i64 a1y) ∧ W'.cell? ⟨w.heap.size, 2, none⟩ = some (.int .i64 a1z) ∧ W'.cell? ⟨w.heap.size, 3, none⟩ = some (.int .i64 a1t) ∧ W'.cell? ⟨w.heap.size + 1, 0, none⟩ = some (.int .i64 a2x) ∧ W'.cell? ⟨w.heap.size + 1, 1, none⟩ = some (.int .i64 a2y) ∧ W'.cell? ⟨w.heap.size + 1, 2, none⟩ = some (.int .i64 a2z) ∧ W'.cell? ⟨w.heap.size + 1, 3, none⟩ = some (.int .i64 a2t) ∧ W'.cell? ⟨n7, 0, none⟩ = some (.int .i64 i0) ∧ W'.cell? ⟨n7, 1, none⟩ = some (.int .i64 i1) ∧ W'.cell? ⟨n7, 2, none⟩ = some (.int .i64 i2) ∧ W'.cell? ⟨n7, 3, none⟩ = some (.int .i64 i3) ∧ W'.cell? ⟨n8, 0, none⟩ = some (.int .i64 u0) ∧ W'.cell? ⟨n8, 1, none⟩ = some (.int .i64 u1) ∧ W'.cell? ⟨n8, 2, none⟩ = some (.int .i64 u2) ∧ W'.cell? ⟨n8, 3, none⟩ = some (.int .i64 u3))) (N := []) (fun W' => Below w.heap.size w W' ∧ W'.cell? ⟨w.heap.size, 0, none⟩ = some (.int .i64 a1x) ∧ W'.cell? ⟨w.heap.size, 1, none⟩ = some (.int .i64 a1y) ∧ W'.cell? ⟨w.heap.size, 2, none⟩ = some (.int .i64 a1z) ∧ W'.cell? ⟨w.heap.size, 3, none⟩ = some (.int .i64 a1t) ∧ W'.cell? ⟨w.heap.size + 1, 0, none⟩ = some (.int .i64 a2x) ∧ W'.cell? ⟨w.heap.size + 1, 1, none⟩ = some (.int .i64 a2y) ∧ W'.cell? ⟨w.heap.size + 1, 2, none⟩ = some (.int .i64 a2z) ∧ W'.cell? ⟨w.heap.size + 1, 3, none⟩ = some (.int .i64 a2t) ∧ W'.cell? ⟨n7, 0, none⟩ = some (.int .i64 i0) ∧ W'.cell? ⟨n7, 1, none⟩ = some (.int .i64 i1) ∧ W'.cell? ⟨n7, 2, none⟩ = some (.int .i64 i2) ∧ W'.cell? ⟨n7, 3, none⟩ = some (.int .i64 i3) ∧ W'.cell? ⟨n8, 0, none⟩ = some (.int .i64 u0) ∧ W'.cell? ⟨n8, 1, none⟩ = some (.int .i64 u1) ∧ W'.cell? ⟨n8, 2, none⟩ = some (.int .i64 u2) ∧ W'.cell? ⟨n8, 3, none⟩ = some (.int .i64 u3)) (by kernel_rfl) ?_ ?_
    · (try dsimp only)
      exact ⟨B.drew, (by simp [go_sem, f0]), (by simp [go_sem, f1]), (by simp [go_sem, f2]), (by simp [go_sem, f3]), (by simp [go_sem, f4]), (by simp [go_sem, f5]), (by simp [go_sem, f6]), (by simp [go_sem, f7]), (by simp [go_sem, f8]), (by simp [go_sem, f9]), (by simp [go_sem, f10]), (by simp [go_sem, f11]), (by simp [go_sem, f12]), (by simp [go_sem, f13]), (by simp [go_sem, f14]), (by simp [go_sem, f15])⟩
    rintro W ⟨B, f0, f1, f2, f3, f4, f5, f6, f7, f8, f9, f10, f11, f12, f13, f14, f15⟩
    refine anyN_take [] (i := 0) (oi := ?o97) (v := ?v97) ?hi97 (by kernel_rfl) (by kernel_rfl) (by kernel_rfl) (by kernel_rfl) (by kernel_rfl) ?hQ97 (Or.inl ⟨?hg97, ?hy97⟩) ⟨f0, f1, f2, f3, f4, f5, f6, f7, f8, f9, f10, f11, f12, f13, f14, f15⟩ ?rest97
    case hi97 => (simp only [List.getElem?_toArray, List.getElem?_cons_zero, List.getElem?_cons_succ]; (first | done | with_reducible rfl))
    case hQ97 => exact fun _ _ _ h => h
    case hg97 => rfl
    case hy97 => (intro w hSw; (try dsimp only at hSw); go_simp; (first | done | (with_reducible rfl)))
    (try simp only [Act.put, List.setIfInBounds_toArray, List.set_cons_zero, List.set_cons_succ])
    refine anyN_take [] (i := 1) (oi := ?o98) (v := ?v98) ?hi98 (by kernel_rfl) (by kernel_rfl) (by kernel_rfl) (by kernel_rfl) (by kernel_rfl) ?hQ98 (Or.inl ⟨?hg98, ?hy98⟩) ⟨f0, f1, f2, f3, f4, f5, f6, f7, f8, f9, f10, f11, f12, f13, f14, f15⟩ ?rest98
    case hi98 => (simp only [List.getElem?_toArray, List.getElem?_cons_zero, List.getElem?_cons_succ]; (first | done | with_reducible rfl))
    case hQ98 => exact fun _ _ _ h => h
    case hg98 => rfl
    case hy98 => (intro w hSw; (try dsimp only at hSw); go_simp; (first | done | (with_reducible rfl)))
    (try simp only [Act.put, List.setIfInBounds_toArray, List.set_cons_zero, List.set_cons_succ])
    refine anyN_take [] (i := 2) (oi := ?o99) (v := ?v99) ?hi99 (by kernel_rfl) (by kernel_rfl) (by kernel_rfl) (by kernel_rfl) (by kernel_rfl) ?hQ99 (Or.inl ⟨?hg99, ?hy99⟩) ⟨f0, f1, f2, f3, f4, f5, f6, f7, f8, f9, f10, f11, f12, f13, f14, f15⟩ ?rest99
    case hi99 => (simp only [List.getElem?_toArray, List.getElem?_cons_zero, List.getElem?_cons_succ]; (first | done | with_reducible rfl))
    case hQ99 => exact fun _ _ _ h => h
    case hg99 => rfl
    case hy99 => (intro w hSw; (try dsimp only at hSw); go_simp; (first | done | (with_reducible rfl)))
    (try simp only [Act.put, List.setIfInBounds_toArray, List.set_cons_zero, List.set_cons_succ])
    refine anyN_take [] (i := 4) (oi := ?o100) (v := ?v100) ?hi100 (by kernel_rfl) (by kernel_rfl) (by kernel_rfl) (by kernel_rfl) (by kernel_rfl) ?hQ100 (Or.inl ⟨?hg100, ?hy100⟩) ⟨f0, f1, f2, f3, f4, f5, f6, f7, f8, f9, f10, f11, f12, f13, f14, f15⟩ ?rest100
    case hi100 => (simp only [List.getElem?_toArray, List.getElem?_cons_zero, List.getElem?_cons_succ]; (first | done | with_reducible rfl))
    case hQ100 => exact fun _ _ _ h => h
    case hg100 => rfl
    case hy100 => (intro w hSw; (try dsimp only at hSw); go_simp; (first | done | (with_reducible rfl)))
    (try simp only [Act.put, List.setIfInBounds_toArray, List.set_cons_zero, List.set_cons_succ])
    refine anyN_take [] (i := 5) (oi := ?o101) (v := ?v101) ?hi101 (by kernel_rfl) (by kernel_rfl) (by kernel_rfl) (by kernel_rfl) (by kernel_rfl) ?hQ101 (Or.inl ⟨?hg101, ?hy101⟩) ⟨f0, f1, f2, f3, f4, f5, f6, f7, f8, f9, f10, f11, f12, f13, f14, f15⟩ ?rest101
    case hi101 => (simp only [List.getElem?_toArray, List.getElem?_cons_zero, List.getElem?_cons_succ]; (first | done | with_reducible rfl))
    case hQ101 => exact fun _ _ _ h => h
    case hg101 => rfl
    case hy101 => (intro w hSw; (try dsimp only at hSw); go_simp; (first | done | (with_reducible rfl)))
    (try simp only [Act.put, List.setIfInBounds_toArray, List.set_cons_zero, List.set_cons_succ])
    refine anyN_ready (rs := [3]) (by kernel_rfl) (by simp) ?_
    refine AllN.cons (o := ?o102) ?hi102 (fun K hK => ?step102) AllN.nil
    case hi102 => (simp only [List.getElem?_toArray, List.getElem?_cons_zero, List.getElem?_cons_succ]; (first | done | with_reducible rfl))
    go_simp
    (go_at_call 18; (with_reducible refine (iRectIn_any _ _ _ _ _ _ _ _ _ _).mono ?_); rintro e w1 ⟨rfl, hb⟩; replace f0 := keepc hb f0; replace f1 := keepc hb f1; replace f2 := keepc hb f2; replace f3 := keepc hb f3; replace f4 := keepc hb f4; replace f5 := keepc hb f5; replace f6 := keepc hb f6; replace f7 := keepc hb f7; replace f8 := keepc hb f8; replace f9 := keepc hb f9; replace f10 := keepc hb f10; replace f11 := keepc hb f11; replace f12 := keepc hb f12; replace f13 := keepc hb f13; replace f14 := keepc hb f14; replace f15 := keepc hb f15; replace B := keepb B hb; clear hb)
    refine hK.out _ _ ⟨f0, f1, f2, f3, f4, f5, f6, f7, f8, f9, f10, f11, f12, f13, f14, f15⟩ (fun _ => ?_)
    clear hK K
    (try simp only [Act.put, List.setIfInBounds_toArray, List.set_cons_zero, List.set_cons_succ])
    simp only [er0, er1, er2, er3, es0, es1, es2, es3, hr]
    refine anyN_ready (rs := [6]) (by kernel_rfl) (by simp) ?_
    refine AllN.cons (o := ?o103) ?hi103 (fun K hK => ?step103) AllN.nil
    case hi103 => (simp only [List.getElem?_toArray, List.getElem?_cons_zero, List.getElem?_cons_succ]; (first | done | with_reducible rfl))
    go_simp
    (go_at_call 19; (with_reducible refine (iEmpty_any _ _ _ _ _ _).mono ?_); rintro e w1 ⟨rfl, hb⟩; replace f0 := keepc hb f0; replace f1 := keepc hb f1; replace f2 := keepc hb f2; replace f3 := keepc hb f3; replace f4 := keepc hb f4; replace f5 := keepc hb f5; replace f6 := keepc hb f6; replace f7 := keepc hb f7; replace f8 := keepc hb f8; replace f9 := keepc hb f9; replace f10 := keepc hb f10; replace f11 := keepc hb f11; replace f12 := keepc hb f12; replace f13 := keepc hb f13; replace f14 := keepc hb f14; replace f15 := keepc hb f15; replace B := keepb B hb; clear hb)
    refine hK.out _ _ ⟨f0, f1, f2, f3, f4, f5, f6, f7, f8, f9, f10, f11, f12, f13, f14, f15⟩ (fun _ => ?_)
    clear hK K
    (try simp only [Act.put, List.setIfInBounds_toArray, List.set_cons_zero, List.set_cons_succ])
    simp only [er0, er1, er2, er3, es0, es1, es2, es3, he]
    refine anyN_take [] (i := 7) (oi := ?o104) (v := ?v104) ?hi104 (by kernel_rfl) (by kernel_rfl) (by kernel_rfl) (by kernel_rfl) (by kernel_rfl) ?hQ104 (Or.inl ⟨?hg104, ?hy104⟩) ⟨f0, f1, f2, f3, f4, f5, f6, f7, f8, f9, f10, f11, f12, f13, f14, f15⟩ ?rest104
    case hi104 => (simp only [List.getElem?_toArray, List.getElem?_cons_zero, List.getElem?_cons_succ]; (first | done | with_reducible rfl))
    case hQ104 => exact fun _ _ _ h => h
    case hg104 => rfl
    case hy104 => (intro w hSw; (try dsimp only at hSw); go_simp; (first | done | (with_reducible rfl)))
    (try simp only [Act.put, List.setIfInBounds_toArray, List.set_cons_zero, List.set_cons_succ])
    refine anyN_take [] (i := 8) (oi := ?o105) (v := ?v105) ?hi105 (by kernel_rfl) (by kernel_rfl) (by kernel_rfl) (by kernel_rfl) (by kernel_rfl) ?hQ105 (Or.inl ⟨?hg105, ?hy105⟩) ⟨f0, f1, f2, f3, f4, f5, f6, f7, f8, f9, f10, f11, f12, f13, f14, f15⟩ ?rest105
    case hi105 => (simp only [List.getElem?_toArray, List.getElem?_cons_zero, List.getElem?_cons_succ]; (first | done | with_reducible rfl))
    case hQ105 => exact fun _ _ _ h => h
    case hg105 => rfl
    case hy105 => (intro w hSw; (try dsimp only at hSw); go_simp; (first | done | (with_reducible rfl)))
    (try simp only [Act.put, List.setIfInBounds_toArray, List.set_cons_zero, List.set_cons_succ])
    refine anyN_take [] (i := 9) (oi := ?o106) (v := ?v106) ?hi106 (by kernel_rfl) (by kernel_rfl) (by kernel_rfl) (by kernel_rfl) (by kernel_rfl) ?hQ106 (Or.inl ⟨?hg106, ?hy106⟩) ⟨f0, f1, f2, f3, f4, f5, f6, f7, f8, f9, f10, f11, f12, f13, f14, f15⟩ ?rest106
    case hi106 => (simp only [List.getElem?_toArray, List.getElem?_cons_zero, List.getElem?_cons_succ]; (first | done | with_reducible rfl))
    case hQ106 => exact fun _ _ _ h => h
    case hg106 => rfl
    case hy106 => (intro w hSw; (try dsimp only at hSw); go_simp; (first | done | (with_reducible rfl)))
    (try simp only [Act.put, List.setIfInBounds_toArray, List.set_cons_zero, List.set_cons_succ])
    refine anyN_take [] (i := 10) (oi := ?o107) (v := ?v107) ?hi107 (by kernel_rfl) (by kernel_rfl) (by kernel_rfl) (by kernel_rfl) (by kernel_rfl) ?hQ107 (Or.inl ⟨?hg107, ?hy107⟩) ⟨f0, f1, f2, f3, f4, f5, f6, f7, f8, f9, f10, f11, f12, f13, f14, f15⟩ ?rest107
    case hi107 => (simp only [List.getElem?_toArray, List.getElem?_cons_zero, List.getElem?_cons_succ]; (first | done | with_reducible rfl))
    case hQ107 => exact fun _ _ _ h => h
    case hg107 => rfl
    case hy107 => (intro w hSw; (try dsimp only at hSw); go_simp; (first | done | (with_reducible rfl)))
    (try simp only [Act.put, List.setIfInBounds_toArray, List.set_cons_zero, List.set_cons_succ])
    refine anyN_ready (rs := [11]) (by kernel_rfl) (by simp) ?_
    refine AllN.cons (o := ?o108) ?hi108 (fun K hK => ?step108) AllN.nil
    case hi108 => (simp only [List.getElem?_toArray, List.getElem?_cons_zero, List.getElem?_cons_succ]; (first | done | with_reducible rfl))
    go_simp
    (go_at_call 20; (with_reducible refine (cutR_any _ _ _ _ _ _).mono ?_); rintro e w1 ⟨rfl, hb⟩; replace f0 := keepc hb f0; replace f1 := keepc hb f1; replace f2 := keepc hb f2; replace f3 := keepc hb f3; replace f4 := keepc hb f4; replace f5 := keepc hb f5; replace f6 := keepc hb f6; replace f7 := keepc hb f7; replace f8 := keepc hb f8; replace f9 := keepc hb f9; replace f10 := keepc hb f10; replace f11 := keepc hb f11; replace f12 := keepc hb f12; replace f13 := keepc hb f13; replace f14 := keepc hb f14; replace f15 := keepc hb f15; replace B := keepb B hb; clear hb)
    refine hK.out _ _ ⟨f0, f1, f2, f3, f4, f5, f6, f7, f8, f9, f10, f11, f12, f13, f14, f15⟩ (fun _ => ?_)
    clear hK K
    (try simp only [Act.put, List.setIfInBounds_toArray, List.set_cons_zero, List.set_cons_succ])
    simp only [er0, er1, er2, er3, es0, es1, es2, es3]
    refine anyN_take [] (i := 12) (oi := ?o109) (v := .bool false) ?hi109 (by kernel_rfl) (by kernel_rfl) (by kernel_rfl) (by kernel_rfl) (by kernel_rfl) ?hQ109 (Or.inl ⟨?hg109, ?hy109⟩) ⟨f0, f1, f2, f3, f4, f5, f6, f7, f8, f9, f10, f11, f12, f13, f14, f15⟩ ?rest109
    case hi109 => (simp only [List.getElem?_toArray, List.getElem?_cons_zero, List.getElem?_cons_succ]; (first | done | with_reducible rfl))
    case hQ109 => exact fun _ _ _ h => h
    case hg109 => rfl
    case hy109 => (intro w hSw; (try dsimp only at hSw); go_simp; (first | done | (with_reducible rfl) | (exact fun j0 j1 j2 j3 => hne ⟨j0, j1, j2, j3⟩)))
    (try simp only [Act.put, List.setIfInBounds_toArray, List.set_cons_zero, List.set_cons_succ])
    refine anyN_take [] (i := 13) (oi := ?o110) (v := ?v110) ?hi110 (by kernel_rfl) (by kernel_rfl) (by kernel_rfl) (by kernel_rfl) (by kernel_rfl) ?hQ110 (Or.inl ⟨?hg110, ?hy110⟩) ⟨f0, f1, f2, f3, f4, f5, f6, f7, f8, f9, f10, f11, f12, f13, f14, f15⟩ ?rest110
    case hi110 => (simp only [List.getElem?_toArray, List.getElem?_cons_zero, List.getElem?_cons_succ]; (first | done | with_reducible rfl))
    case hQ110 => exact fun _ _ _ h => h
    case hg110 => rfl
    case hy110 => (intro w hSw; (try dsimp only at hSw); go_simp; (first | done | (with_reducible rfl)))
    (try simp only [Act.put, List.setIfInBounds_toArray, List.set_cons_zero, List.set_cons_succ])
    refine anyN_take [] (i := 14) (oi := ?o111) (v := ?v111) ?hi111 (by kernel_rfl) (by kernel_rfl) (by kernel_rfl) (by kernel_rfl) (by kernel_rfl) ?hQ111 (Or.inl ⟨?hg111, ?hy111⟩) ⟨f0, f1, f2, f3, f4, f5, f6, f7, f8, f9, f10, f11, f12, f13, f14, f15⟩ ?rest111
    case hi111 => (simp only [List.getElem?_toArray, List.getElem?_cons_zero, List.getElem?_cons_succ]; (first | done | with_reducible rfl))
    case hQ111 => exact fun _ _ _ h => h
    case hg111 => rfl
    case hy111 => (intro w hSw; (try dsimp only at hSw); go_simp; (first | done | (with_reducible rfl)))
    (try simp only [Act.put, List.setIfInBounds_toArray, List.set_cons_zero, List.set_cons_succ])
    refine anyN_take [] (i := 15) (oi := ?o112) (v := ?v112) ?hi112 (by kernel_rfl) (by kernel_rfl) (by kernel_rfl) (by kernel_rfl) (by kernel_rfl) ?hQ112 (Or.inl ⟨?hg112, ?hy112⟩) ⟨f0, f1, f2, f3, f4, f5, f6, f7, f8, f9, f10, f11, f12, f13, f14, f15⟩ ?rest112
    case hi112 => (simp only [List.getElem?_toArray, List.getElem?_cons_zero, List.getElem?_cons_succ]; (first | done | with_reducible rfl))
    case hQ112 => exact fun _ _ _ h => h
    case hg112 => rfl
    case hy112 => (intro w hSw; (try dsimp only at hSw); go_simp; (first | done | (with_reducible rfl)))
    (try simp only [Act.put, List.setIfInBounds_toArray, List.set_cons_zero, List.set_cons_succ])
    refine anyN_done (by kernel_rfl) ?_ _
    go_wp2
    go_ret
    exact ⟨rfl, B⟩
theorem cut_pick (b c : Bool) (x : Int) (h : cutZ b x = x) : cutZ b (pickZ c 0 x) = pickZ c 0 x := by
  cases c
  · exact h
  · exact cut_0 b
theorem cut_max (b : Bool) (x y : Int) (h : cutZ b x = x) (k : cutZ b y = y) : cutZ b (max x y) = max x y := by
  by_cases c : x ≤ y
  · rw [Int.max_eq_right c]; exact k
  · rw [Int.max_eq_left (by omega)]; exact h
theorem cut_min (b : Bool) (x y : Int) (h : cutZ b x = x) (k : cutZ b y = y) : cutZ b (min x y) = min x y := by
  by_cases c : x ≤ y
  · rw [Int.min_eq_left c]; exact h
  · rw [Int.min_eq_right (by omega)]; exact k
theorem cut_uZ (b e f : Bool) (x u m : Int) (h : cutZ b x = x) (k : cutZ b u = u) (l : cutZ b m = m) : cutZ b (uZ e f x u m) = uZ e f x u m := by
  cases e <;> cases f <;> simp only [uZ] <;> assumption
theorem i_in (x0 y0 x1 y1 u0 v0 u1 v1 : Int) : inB (iX0 x0 y0 x1 y1 u0 v0 u1 v1) (iY0 x0 y0 x1 y1 u0 v0 u1 v1) (iX1 x0 y0 x1 y1 u0 v0 u1 v1) (iY1 x0 y0 x1 y1 u0 v0 u1 v1) x0 y0 x1 y1 = true ∧ inB (iX0 x0 y0 x1 y1 u0 v0 u1 v1) (iY0 x0 y0 x1 y1 u0 v0 u1 v1) (iX1 x0 y0 x1 y1 u0 v0 u1 v1) (iY1 x0 y0 x1 y1 u0 v0 u1 v1) u0 v0 u1 v1 = true := by
  unfold iX0 iY0 iX1 iY1
  cases h : iE x0 y0 x1 y1 u0 v0 u1 v1
  · simp only [pickZ_f]
    simp [inB]; omega
  · simp only [pickZ_t]
    simp [inB, emptyB]
theorem in_u (x0 y0 x1 y1 u0 v0 u1 v1 : Int) : inB x0 y0 x1 y1 (uX0 x0 y0 x1 y1 u0 v0 u1 v1) (uY0 x0 y0 x1 y1 u0 v0 u1 v1) (uX1 x0 y0 x1 y1 u0 v0 u1 v1) (uY1 x0 y0 x1 y1 u0 v0 u1 v1) = true ∧ inB u0 v0 u1 v1 (uX0 x0 y0 x1 y1 u0 v0 u1 v1) (uY0 x0 y0 x1 y1 u0 v0 u1 v1) (uX1 x0 y0 x1 y1 u0 v0 u1 v1) (uY1 x0 y0 x1 y1 u0 v0 u1 v1) = true := by
  unfold uX0 uY0 uX1 uY1 uZ
  cases h : emptyB x0 y0 x1 y1 <;> cases k : emptyB u0 v0 u1 v1 <;> simp [inB, h, k] <;> omega
theorem in_cases (x0 y0 x1 y1 u0 v0 u1 v1 i0 i1 i2 i3 : Int) (p0 : iX0 x0 y0 x1 y1 u0 v0 u1 v1 = i0) (p1 : iY0 x0 y0 x1 y1 u0 v0 u1 v1 = i1) (p2 : iX1 x0 y0 x1 y1 u0 v0 u1 v1 = i2) (p3 : iY1 x0 y0 x1 y1 u0 v0 u1 v1 = i3) :
    (emptyB x0 y0 x1 y1 = true ∧ inB x0 y0 x1 y1 u0 v0 u1 v1 = true) ∨ (emptyB x0 y0 x1 y1 = false ∧ inB x0 y0 x1 y1 u0 v0 u1 v1 = true ∧ i0 = x0 ∧ i1 = y0 ∧ i2 = x1 ∧ i3 = y1) ∨ (emptyB x0 y0 x1 y1 = false ∧ inB x0 y0 x1 y1 u0 v0 u1 v1 = false ∧ ¬ (i0 = x0 ∧ i1 = y0 ∧ i2 = x1 ∧ i3 = y1)) := by
  unfold iX0 at p0
  unfold iY0 at p1
  unfold iX1 at p2
  unfold iY1 at p3
  cases he : emptyB x0 y0 x1 y1
  · right
    have e1 := (emptyB_not x0 y0 x1 y1).1 he
    cases h : iE x0 y0 x1 y1 u0 v0 u1 v1
    · rw [h] at p0 p1 p2 p3
      simp only [pickZ_f] at p0 p1 p2 p3
      by_cases c : u0 ≤ x0 ∧ x1 ≤ u1 ∧ v0 ≤ y0 ∧ y1 ≤ v1
      · left
        refine ⟨rfl, ?_, by omega, by omega, by omega, by omega⟩
        simp [inB]; omega
      · right
        refine ⟨rfl, ?_, by omega⟩
        rw [Bool.eq_false_iff]
        intro hh
        simp [inB, he] at hh
        omega
    · rw [h] at p0 p1 p2 p3
      simp only [pickZ_t] at p0 p1 p2 p3
      unfold iE at h
      have e2 := (emptyB_iff _ _ _ _).1 h
      right
      refine ⟨rfl, ?_, by omega⟩
      rw [Bool.eq_false_iff]
      intro hh
      simp [inB, he] at hh
      omega
  · left
    refine ⟨rfl, ?_⟩
    simp [inB, he]
theorem walk (a0 : Bool) (a1x a1y a1z a1t a2x a2y a2z a2t : Int) (w1x : (Lit.int .i64 a1x).wf = true) (w1y : (Lit.int .i64 a1y).wf = true) (w1z : (Lit.int .i64 a1z).wf = true) (w1t : (Lit.int .i64 a1t).wf = true) (w2x : (Lit.int .i64 a2x).wf = true) (w2y : (Lit.int .i64 a2y).wf = true) (w2z : (Lit.int .i64 a2z).wf = true) (w2t : (Lit.int .i64 a2t).wf = true) (w : World) :
    Calls Try.prog 3 #[.bool a0, .agg #[.int .i64 a1x, .int .i64 a1y, .int .i64 a1z, .int .i64 a1t], .agg #[.int .i64 a2x, .int .i64 a2y, .int .i64 a2z, .int .i64 a2t]] w fun e w' => e = .returned (.bool true) ∧ Below w.heap.size w w' := by
  have hi := i_in (cutZ a0 a1x) (cutZ a0 a1y) (cutZ a0 a1z) (cutZ a0 a1t) (cutZ a0 a2x) (cutZ a0 a2y) (cutZ a0 a2z) (cutZ a0 a2t)
  have hu := in_u (cutZ a0 a1x) (cutZ a0 a1y) (cutZ a0 a1z) (cutZ a0 a1t) (cutZ a0 a2x) (cutZ a0 a2y) (cutZ a0 a2z) (cutZ a0 a2t)
  refine way a0 a1x a1y a1z a1t a2x a2y a2z a2t (cutZ a0 a1x) (cutZ a0 a1y) (cutZ a0 a1z) (cutZ a0 a1t) (cutZ a0 a2x) (cutZ a0 a2y) (cutZ a0 a2z) (cutZ a0 a2t) (iX0 (cutZ a0 a1x) (cutZ a0 a1y) (cutZ a0 a1z) (cutZ a0 a1t) (cutZ a0 a2x) (cutZ a0 a2y) (cutZ a0 a2z) (cutZ a0 a2t)) (iY0 (cutZ a0 a1x) (cutZ a0 a1y) (cutZ a0 a1z) (cutZ a0 a1t) (cutZ a0 a2x) (cutZ a0 a2y) (cutZ a0 a2z) (cutZ a0 a2t)) (iX1 (cutZ a0 a1x) (cutZ a0 a1y) (cutZ a0 a1z) (cutZ a0 a1t) (cutZ a0 a2x) (cutZ a0 a2y) (cutZ a0 a2z) (cutZ a0 a2t)) (iY1 (cutZ a0 a1x) (cutZ a0 a1y) (cutZ a0 a1z) (cutZ a0 a1t) (cutZ a0 a2x) (cutZ a0 a2y) (cutZ a0 a2z) (cutZ a0 a2t)) (uX0 (cutZ a0 a1x) (cutZ a0 a1y) (cutZ a0 a1z) (cutZ a0 a1t) (cutZ a0 a2x) (cutZ a0 a2y) (cutZ a0 a2z) (cutZ a0 a2t)) (uY0 (cutZ a0 a1x) (cutZ a0 a1y) (cutZ a0 a1z) (cutZ a0 a1t) (cutZ a0 a2x) (cutZ a0 a2y) (cutZ a0 a2z) (cutZ a0 a2t)) (uX1 (cutZ a0 a1x) (cutZ a0 a1y) (cutZ a0 a1z) (cutZ a0 a1t) (cutZ a0 a2x) (cutZ a0 a2y) (cutZ a0 a2z) (cutZ a0 a2t)) (uY1 (cutZ a0 a1x) (cutZ a0 a1y) (cutZ a0 a1z) (cutZ a0 a1t) (cutZ a0 a2x) (cutZ a0 a2y) (cutZ a0 a2z) (cutZ a0 a2t)) rfl rfl rfl rfl rfl rfl rfl rfl rfl (cut_pick _ _ _ (cut_max _ _ _ (cutZ_cut _ _) (cutZ_cut _ _))) rfl (cut_pick _ _ _ (cut_max _ _ _ (cutZ_cut _ _) (cutZ_cut _ _))) rfl (cut_pick _ _ _ (cut_min _ _ _ (cutZ_cut _ _) (cutZ_cut _ _))) rfl (cut_pick _ _ _ (cut_min _ _ _ (cutZ_cut _ _) (cutZ_cut _ _))) rfl (cut_uZ _ _ _ _ _ _ (cutZ_cut _ _) (cutZ_cut _ _) (cut_min _ _ _ (cutZ_cut _ _) (cutZ_cut _ _))) rfl (cut_uZ _ _ _ _ _ _ (cutZ_cut _ _) (cutZ_cut _ _) (cut_min _ _ _ (cutZ_cut _ _) (cutZ_cut _ _))) rfl (cut_uZ _ _ _ _ _ _ (cutZ_cut _ _) (cutZ_cut _ _) (cut_max _ _ _ (cutZ_cut _ _) (cutZ_cut _ _))) rfl (cut_uZ _ _ _ _ _ _ (cutZ_cut _ _) (cutZ_cut _ _) (cut_max _ _ _ (cutZ_cut _ _) (cutZ_cut _ _))) hi.1 hi.2 hu.1 hu.2 (in_cases _ _ _ _ _ _ _ _ _ _ _ _ rfl rfl rfl rfl) w

set_option maxRecDepth 100000 in
theorem lifted (os : Os) (started : os.Started) (H : Type) (enc : TypeId × Value → H) :
    ReturnsInHanded {} Try.checked os 3 .any (Rows.fnUnionAndIntersectSpec.pre6 enc Try.prog Try.f3 Rows.fnUnionAndIntersectRow.domain false) (Rows.fnUnionAndIntersectSpec.post enc Try.prog Try.f3 false true false false) := by
  refine returnsInHanded_of_change (C := Try.checked) own started (by kernel_rfl) Try.func3
    (ChangeSpec.witness6 (enc := enc) (C := Try.checked) false ⟨#[], #[.bool false, .agg #[.int .i64 0, .int .i64 0, .int .i64 0, .int .i64 0], .agg #[.int .i64 0, .int .i64 0, .int .i64 0, .int .i64 0]], []⟩ 8 (by kernel_rfl) (by kernel_rfl) (by kernel_rfl) (by kernel_rfl)) ?_
  intro W base args ds gs before hval0 hW hcnd _
  have hval : ∀ (j : Nat) t v, Try.f3.params[j]? = some t → args[j]? = some v → Value.okWide Try.prog W .any base t v := hval0
  have hW' := hW
  obtain ⟨p, q, hA0, hV, rfl, hfz, hnd⟩ := hW
  have hA : DataW.TrodAll enc Try.prog W 0 (fun _ => true) true Try.f3.params.toList args.toList ds p := hA0
  rw [Try.params3] at hA hval
  obtain ⟨v0, vs0, d0, ds0, p0, q0, hargs, rfl, rfl, h0, r0⟩ := trodAll_cons hA
  obtain ⟨v1, vs1, d1, ds1, p1, q1, rfl, rfl, rfl, h1, r1⟩ := trodAll_cons r0
  obtain ⟨v2, vs2, d2, ds2, p2, q2, rfl, rfl, rfl, h2, r2⟩ := trodAll_cons r1
  obtain ⟨rfl, rfl, rfl⟩ := trodAll_nil r2
  obtain rfl : args = #[v0, v1, v2] := by cases args; simp_all
  obtain ⟨rfl, rfl⟩ := trodVars_none hV
  obtain ⟨a0, rfl, rfl, rfl⟩ := open_bool Try.underlying4 (hval 0 4 v0 rfl rfl) h0
  obtain ⟨a1x, a1y, a1z, a1t, rfl, rfl, rfl, w1x, w1y, w1z, w1t⟩ := open_rect (hval 1 25 v1 rfl rfl) h1
  obtain ⟨a2x, a2y, a2z, a2t, rfl, rfl, rfl, w2x, w2y, w2z, w2t⟩ := open_rect (hval 2 25 v2 rfl rfl) h2
  clear hA0 hval0
  refine (walk a0 a1x a1y a1z a1t a2x a2y a2z a2t w1x w1y w1z w1t w2x w2y w2z w2t W).mono fun e W' ⟨he, bel⟩ => ?_
  subst he
  exact ⟨_, rfl, _, _, _, [], _, [], hW', trodAll_mk1 (shut_bool Try.underlying4 _), (trodAll_cons_mk (shut_bool Try.underlying4 _) (trodAll_cons_mk (shut_rect w1x w1y w1z w1t) (trodAll_cons_mk (shut_rect w2x w2y w2z w2t) trodAll_mk0))), rfl, bel.frame _, fun h => by cases h⟩

theorem over : Rows.fnUnionAndIntersectRow.holds Try.pinned (OpenSpec.ofChange Rows.fnUnionAndIntersectSpec) :=
  OpenClaim.holds_of_wide 3 Try.f3 rfl rfl rfl rfl rfl rfl rfl ⟨rfl, rfl, rfl, rfl, rfl⟩ rfl rfl rfl rfl rfl (by kernel_rfl) Try.func3 (by kernel_rfl)
    (of_decide_eq_true (by kernel_rfl)) (by unfold Func.isWrapper; first | (rw [if_pos (by decide +kernel)]; kernel_rfl) | (rw [if_neg (by decide +kernel)]; exact ⟨rfl, rfl⟩))
    (fun os started H enc _ => lifted os started H enc)

/-- The statement. -/
theorem proved : Rows.FnUnionAndIntersectSaid :=
  over
#print axioms proved
end Go.Proofs.Ytcgbkggbffafmaa.fnUnionAndIntersect
