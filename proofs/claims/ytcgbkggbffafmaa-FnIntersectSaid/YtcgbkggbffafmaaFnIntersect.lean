/- FnIntersect: Intersect is the greatest rectangle in both, the zero one if they have no point in common.
   The law returns true for every input, and nothing that was in memory turns. No condition. -/
import Derived.Test.YtcgbkggbffafmaaImplC
import Derived.Test.YtcgbkggbffafmaaName
import Derived.Test.YtcgbkggbffafmaaKeep
import Derived.WalkKit
import Derived.ProofKit
import Derived.OpenShut
namespace Go.Proofs.Ytcgbkggbffafmaa.fnIntersect
open Go.ChangeShapes Go.WideShapes Go.ChangeAt Go.RowKit
set_option linter.unusedVariables false

theorem own : ownKnob Try.prog.godebug = none := by kernel_rfl

set_option linter.unusedSimpArgs false
set_option maxHeartbeats 4000000 in
theorem way (a0 : Bool) (a1x a1y a1z a1t a2x a2y a2z a2t : Int) (r0 r1 r2 r3 s0 s1 s2 s3 : Int) (er0 : cutZ a0 a1x = r0) (er1 : cutZ a0 a1y = r1) (er2 : cutZ a0 a1z = r2) (er3 : cutZ a0 a1t = r3) (es0 : cutZ a0 a2x = s0) (es1 : cutZ a0 a2y = s1) (es2 : cutZ a0 a2z = s2) (es3 : cutZ a0 a2t = s3) (w : World) :
    Calls Try.prog 14 #[.bool a0, .agg #[.int .i64 a1x, .int .i64 a1y, .int .i64 a1z, .int .i64 a1t], .agg #[.int .i64 a2x, .int .i64 a2y, .int .i64 a2z, .int .i64 a2t]] w fun e w' => e = .returned (.bool true) ∧ Below w.heap.size w w' := by
  go_enter Try.func14, Try.ntmps14
  go_wp2
  refine wp_join (fun a' W' => ∃ n7 n8, a' = ⟨#[.bool a0, .agg #[.int .i64 a1x, .int .i64 a1y, .int .i64 a1z, .int .i64 a1t], .agg #[.int .i64 a2x, .int .i64 a2y, .int .i64 a2z, .int .i64 a2t], undef, .pointer (some ⟨w.heap.size, 0, none⟩), .pointer (some ⟨w.heap.size + 1, 0, none⟩), .bool false, .pointer (some ⟨n7, 0, none⟩), .pointer (some ⟨n8, 0, none⟩), .bool a0, .agg #[.int .i64 a1x, .int .i64 a1y, .int .i64 a1z, .int .i64 a1t], .agg #[.int .i64 r0, .int .i64 r1, .int .i64 r2, .int .i64 r3], .agg #[.int .i64 r0, .int .i64 r1, .int .i64 r2, .int .i64 r3], .bool a0, .agg #[.int .i64 a2x, .int .i64 a2y, .int .i64 a2z, .int .i64 a2t], .agg #[.int .i64 s0, .int .i64 s1, .int .i64 s2, .int .i64 s3], .agg #[.int .i64 s0, .int .i64 s1, .int .i64 s2, .int .i64 s3], undef, undef, undef, undef, undef, undef, undef, undef, undef], []⟩ ∧ Below w.heap.size w W' ∧ W'.cell? ⟨w.heap.size, 0, none⟩ = some (.int .i64 a1x) ∧ W'.cell? ⟨w.heap.size, 1, none⟩ = some (.int .i64 a1y) ∧ W'.cell? ⟨w.heap.size, 2, none⟩ = some (.int .i64 a1z) ∧ W'.cell? ⟨w.heap.size, 3, none⟩ = some (.int .i64 a1t) ∧ W'.cell? ⟨w.heap.size + 1, 0, none⟩ = some (.int .i64 a2x) ∧ W'.cell? ⟨w.heap.size + 1, 1, none⟩ = some (.int .i64 a2y) ∧ W'.cell? ⟨w.heap.size + 1, 2, none⟩ = some (.int .i64 a2z) ∧ W'.cell? ⟨w.heap.size + 1, 3, none⟩ = some (.int .i64 a2t) ∧ W'.cell? ⟨n7, 0, none⟩ = some (.int .i64 r0) ∧ W'.cell? ⟨n7, 1, none⟩ = some (.int .i64 r1) ∧ W'.cell? ⟨n7, 2, none⟩ = some (.int .i64 r2) ∧ W'.cell? ⟨n7, 3, none⟩ = some (.int .i64 r3) ∧ W'.cell? ⟨n8, 0, none⟩ = some (.int .i64 s0) ∧ W'.cell? ⟨n8, 1, none⟩ = some (.int .i64 s1) ∧ W'.cell? ⟨n8, 2, none⟩ = some (.int .i64 s2) ∧ W'.cell? ⟨n8, 3, none⟩ = some (.int .i64 s3)) ?_ ?_
  case refine_2 =>
    refine region_R (S := (fun W' => W'.cell? ⟨w.heap.size, 0, none⟩ = some (.int .i64 a1x) ∧ W'.cell? ⟨w.heap.size, 1, none⟩ = some (.int .i64 a1y) ∧ W'.cell? ⟨w.heap.size, 2, none⟩ = some (.int .i64 a1z) ∧ W'.cell? ⟨w.heap.size, 3, none⟩ = some (.int .i64 a1t) ∧ W'.cell? ⟨w.heap.size + 1, 0, none⟩ = some (.int .i64 a2x) ∧ W'.cell? ⟨w.heap.size + 1, 1, none⟩ = some (.int .i64 a2y) ∧ W'.cell? ⟨w.heap.size + 1, 2, none⟩ = some (.int .i64 a2z) ∧ W'.cell? ⟨w.heap.size + 1, 3, none⟩ = some (.int .i64 a2t))) (N := [10, 11]) (fun W' => Below w.heap.size w W' ∧ W'.cell? ⟨w.heap.size, 0, none⟩ = some (.int .i64 a1x) ∧ W'.cell? ⟨w.heap.size, 1, none⟩ = some (.int .i64 a1y) ∧ W'.cell? ⟨w.heap.size, 2, none⟩ = some (.int .i64 a1z) ∧ W'.cell? ⟨w.heap.size, 3, none⟩ = some (.int .i64 a1t) ∧ W'.cell? ⟨w.heap.size + 1, 0, none⟩ = some (.int .i64 a2x) ∧ W'.cell? ⟨w.heap.size + 1, 1, none⟩ = some (.int .i64 a2y) ∧ W'.cell? ⟨w.heap.size + 1, 2, none⟩ = some (.int .i64 a2z) ∧ W'.cell? ⟨w.heap.size + 1, 3, none⟩ = some (.int .i64 a2t)) (by kernel_rfl) ?_ ?_
    · (try dsimp only)
      refine ⟨?_, ?_, ?_, ?_, ?_, ?_, ?_, ?_, ?_⟩
      · repeat (first | (with_reducible exact Below.refl _ _) | (with_reducible apply Below.drew) | (with_reducible refine Below.alloc ?_ (by first | exact Nat.le_refl _ | (simp; done) | (simp; omega)) _))
      all_goals (simp [go_sem]; done)
    rintro W ⟨B, f0, f1, f2, f3, f4, f5, f6, f7⟩
    refine anyN_take [2, 3, 6, 7, 10, 11] (i := 0) (oi := ?o1) (v := ?v1) ?hi1 (by kernel_rfl) (by kernel_rfl) (by kernel_rfl) (by kernel_rfl) (by kernel_rfl) ?hQ1 (Or.inl ⟨?hg1, ?hy1⟩) ⟨f0, f1, f2, f3, f4, f5, f6, f7⟩ ?rest1
    case hi1 => (simp only [List.getElem?_toArray, List.getElem?_cons_zero, List.getElem?_cons_succ]; (first | done | with_reducible rfl))
    case hQ1 => exact fun _ _ _ h => h
    case hg1 => rfl
    case hy1 => (intro w hSw; (try dsimp only at hSw); go_simp; (first | done | (with_reducible rfl)))
    (try simp only [Act.put, List.setIfInBounds_toArray, List.set_cons_zero, List.set_cons_succ])
    refine anyN_take [2, 3, 6, 7, 10, 11] (i := 1) (oi := ?o2) (v := ?v2) ?hi2 (by kernel_rfl) (by kernel_rfl) (by kernel_rfl) (by kernel_rfl) (by kernel_rfl) ?hQ2 (Or.inl ⟨?hg2, ?hy2⟩) ⟨f0, f1, f2, f3, f4, f5, f6, f7⟩ ?rest2
    case hi2 => (simp only [List.getElem?_toArray, List.getElem?_cons_zero, List.getElem?_cons_succ]; (first | done | with_reducible rfl))
    case hQ2 => exact fun _ _ _ h => h
    case hg2 => rfl
    case hy2 => (intro w hSw; (try dsimp only at hSw); go_simp; (first | done | (with_reducible rfl)))
    (try simp only [Act.put, List.setIfInBounds_toArray, List.set_cons_zero, List.set_cons_succ])
    refine anyN_take [6, 7, 10, 11] (i := 4) (oi := ?o3) (v := ?v3) ?hi3 (by kernel_rfl) (by kernel_rfl) (by kernel_rfl) (by kernel_rfl) (by kernel_rfl) ?hQ3 (Or.inl ⟨?hg3, ?hy3⟩) ⟨f0, f1, f2, f3, f4, f5, f6, f7⟩ ?rest3
    case hi3 => (simp only [List.getElem?_toArray, List.getElem?_cons_zero, List.getElem?_cons_succ]; (first | done | with_reducible rfl))
    case hQ3 => exact fun _ _ _ h => h
    case hg3 => rfl
    case hy3 => (intro w hSw; (try dsimp only at hSw); go_simp; (first | done | (with_reducible rfl)))
    (try simp only [Act.put, List.setIfInBounds_toArray, List.set_cons_zero, List.set_cons_succ])
    refine anyN_take [6, 7, 10, 11] (i := 5) (oi := ?o4) (v := ?v4) ?hi4 (by kernel_rfl) (by kernel_rfl) (by kernel_rfl) (by kernel_rfl) (by kernel_rfl) ?hQ4 (Or.inl ⟨?hg4, ?hy4⟩) ⟨f0, f1, f2, f3, f4, f5, f6, f7⟩ ?rest4
    case hi4 => (simp only [List.getElem?_toArray, List.getElem?_cons_zero, List.getElem?_cons_succ]; (first | done | with_reducible rfl))
    case hQ4 => exact fun _ _ _ h => h
    case hg4 => rfl
    case hy4 => (intro w hSw; (try dsimp only at hSw); go_simp; (first | done | (with_reducible rfl)))
    (try simp only [Act.put, List.setIfInBounds_toArray, List.set_cons_zero, List.set_cons_succ])
    refine anyN_ready (rs := [2, 8, 9]) (by kernel_rfl) (by simp) (AllN.cons (o := ?o5) ?hi5 (fun K hK => ?step5) (AllN.cons (o := ?o6) ?hi6 (fun K hK => ?step6) (AllN.cons (o := ?o7) ?hi7 (fun K hK => ?step7) AllN.nil)))
    case hi5 => (simp only [List.getElem?_toArray, List.getElem?_cons_zero, List.getElem?_cons_succ]; (first | done | with_reducible rfl))
    case hi6 => (simp only [List.getElem?_toArray, List.getElem?_cons_zero, List.getElem?_cons_succ]; (first | done | with_reducible rfl))
    case hi7 => (simp only [List.getElem?_toArray, List.getElem?_cons_zero, List.getElem?_cons_succ]; (first | done | with_reducible rfl))
    case step5 =>
     go_simp
     (go_at_call 20; (with_reducible refine (cutR_any _ _ _ _ _ _).mono ?_); rintro e w5 ⟨rfl, hb⟩; replace f0 := keepc hb f0; replace f1 := keepc hb f1; replace f2 := keepc hb f2; replace f3 := keepc hb f3; replace f4 := keepc hb f4; replace f5 := keepc hb f5; replace f6 := keepc hb f6; replace f7 := keepc hb f7; replace B := keepb B hb; clear hb)
     refine hK.out _ _ ⟨f0, f1, f2, f3, f4, f5, f6, f7⟩ (fun _ => ?_)
     clear hK K
     (try simp only [Act.put, List.setIfInBounds_toArray, List.set_cons_zero, List.set_cons_succ])
     simp only [er0, er1, er2, er3]
     refine anyN_ready (rs := [3, 8, 9]) (by kernel_rfl) (by simp) (AllN.cons (o := ?o8) ?hi8 (fun K hK => ?step8) (AllN.cons (o := ?o9) ?hi9 (fun K hK => ?step9) (AllN.cons (o := ?o10) ?hi10 (fun K hK => ?step10) AllN.nil)))
     case hi8 => (simp only [List.getElem?_toArray, List.getElem?_cons_zero, List.getElem?_cons_succ]; (first | done | with_reducible rfl))
     case hi9 => (simp only [List.getElem?_toArray, List.getElem?_cons_zero, List.getElem?_cons_succ]; (first | done | with_reducible rfl))
     case hi10 => (simp only [List.getElem?_toArray, List.getElem?_cons_zero, List.getElem?_cons_succ]; (first | done | with_reducible rfl))
     case step8 =>
      go_simp
      (go_at_call 22; (with_reducible refine (rect_any _ _ _ _ _).mono ?_); rintro e w8 ⟨rfl, hb⟩; replace f0 := keepc hb f0; replace f1 := keepc hb f1; replace f2 := keepc hb f2; replace f3 := keepc hb f3; replace f4 := keepc hb f4; replace f5 := keepc hb f5; replace f6 := keepc hb f6; replace f7 := keepc hb f7; replace B := keepb B hb; clear hb)
      refine hK.out _ _ ⟨f0, f1, f2, f3, f4, f5, f6, f7⟩ (fun _ => ?_)
      clear hK K
      (try simp only [Act.put, List.setIfInBounds_toArray, List.set_cons_zero, List.set_cons_succ])
      refine anyN_ready (rs := [6, 8, 9]) (by kernel_rfl) (by simp) (AllN.cons (o := ?o11) ?hi11 (fun K hK => ?step11) (AllN.cons (o := ?o12) ?hi12 (fun K hK => ?step12) (AllN.cons (o := ?o13) ?hi13 (fun K hK => ?step13) AllN.nil)))
      case hi11 => (simp only [List.getElem?_toArray, List.getElem?_cons_zero, List.getElem?_cons_succ]; (first | done | with_reducible rfl))
      case hi12 => (simp only [List.getElem?_toArray, List.getElem?_cons_zero, List.getElem?_cons_succ]; (first | done | with_reducible rfl))
      case hi13 => (simp only [List.getElem?_toArray, List.getElem?_cons_zero, List.getElem?_cons_succ]; (first | done | with_reducible rfl))
      case step11 =>
       go_simp
       (go_at_call 20; (with_reducible refine (cutR_any _ _ _ _ _ _).mono ?_); rintro e w11 ⟨rfl, hb⟩; replace f0 := keepc hb f0; replace f1 := keepc hb f1; replace f2 := keepc hb f2; replace f3 := keepc hb f3; replace f4 := keepc hb f4; replace f5 := keepc hb f5; replace f6 := keepc hb f6; replace f7 := keepc hb f7; replace B := keepb B hb; clear hb)
       refine hK.out _ _ ⟨f0, f1, f2, f3, f4, f5, f6, f7⟩ (fun _ => ?_)
       clear hK K
       (try simp only [Act.put, List.setIfInBounds_toArray, List.set_cons_zero, List.set_cons_succ])
       simp only [es0, es1, es2, es3]
       refine anyN_ready (rs := [7, 8, 9]) (by kernel_rfl) (by simp) (AllN.cons (o := ?o14) ?hi14 (fun K hK => ?step14) (AllN.cons (o := ?o15) ?hi15 (fun K hK => ?step15) (AllN.cons (o := ?o16) ?hi16 (fun K hK => ?step16) AllN.nil)))
       case hi14 => (simp only [List.getElem?_toArray, List.getElem?_cons_zero, List.getElem?_cons_succ]; (first | done | with_reducible rfl))
       case hi15 => (simp only [List.getElem?_toArray, List.getElem?_cons_zero, List.getElem?_cons_succ]; (first | done | with_reducible rfl))
       case hi16 => (simp only [List.getElem?_toArray, List.getElem?_cons_zero, List.getElem?_cons_succ]; (first | done | with_reducible rfl))
       case step14 =>
        go_simp
        (go_at_call 22; (with_reducible refine (rect_any _ _ _ _ _).mono ?_); rintro e w14 ⟨rfl, hb⟩; replace f0 := keepc hb f0; replace f1 := keepc hb f1; replace f2 := keepc hb f2; replace f3 := keepc hb f3; replace f4 := keepc hb f4; replace f5 := keepc hb f5; replace f6 := keepc hb f6; replace f7 := keepc hb f7; replace B := keepb B hb; clear hb)
        refine hK.out _ _ ⟨f0, f1, f2, f3, f4, f5, f6, f7⟩ (fun _ => ?_)
        clear hK K
        (try simp only [Act.put, List.setIfInBounds_toArray, List.set_cons_zero, List.set_cons_succ])
        refine anyN_ready (rs := [8, 9]) (by kernel_rfl) (by simp) (AllN.cons (o := ?o17) ?hi17 (fun K hK => ?step17) (AllN.cons (o := ?o18) ?hi18 (fun K hK => ?step18) AllN.nil))
        case hi17 => (simp only [List.getElem?_toArray, List.getElem?_cons_zero, List.getElem?_cons_succ]; (first | done | with_reducible rfl))
        case hi18 => (simp only [List.getElem?_toArray, List.getElem?_cons_zero, List.getElem?_cons_succ]; (first | done | with_reducible rfl))
        case step17 =>
         go_simp
         have m17 : w.heap.size + 1 < w14.heap.size := World.block_lt_of_cell? w14 _ f7
         refine namedA (K := K) (fun w17 hb f8 f9 f10 f11 g8 g9 g10 g11 => ?_)
         replace f0 := keepc hb f0; replace f1 := keepc hb f1; replace f2 := keepc hb f2; replace f3 := keepc hb f3; replace f4 := keepc hb f4; replace f5 := keepc hb f5; replace f6 := keepc hb f6; replace f7 := keepc hb f7; replace B := keepb B hb; clear hb
         refine hK.out _ _ ⟨f0, f1, f2, f3, f4, f5, f6, f7⟩ (fun _ => ?_)
         clear hK K
         (try simp only [Act.put, List.setIfInBounds_toArray, List.set_cons_zero, List.set_cons_succ])
         refine anyN_ready (rs := [9]) (by kernel_rfl) (by simp) (AllN.cons (o := ?o19) ?hi19 (fun K hK => ?step19) AllN.nil)
         case hi19 => (simp only [List.getElem?_toArray, List.getElem?_cons_zero, List.getElem?_cons_succ]; (first | done | with_reducible rfl))
         case step19 =>
          go_simp
          have m19 : w.heap.size + 1 < w17.heap.size := World.block_lt_of_cell? w17 _ f7
          have p19 : w14.heap.size < w17.heap.size := World.block_lt_of_cell? w17 _ f8
          refine namedA (K := K) (fun w19 hb f12 f13 f14 f15 g12 g13 g14 g15 => ?_)
          replace g8 := keepf hb f8 g8; replace g9 := keepf hb f9 g9; replace g10 := keepf hb f10 g10; replace g11 := keepf hb f11 g11; replace f0 := keepc hb f0; replace f1 := keepc hb f1; replace f2 := keepc hb f2; replace f3 := keepc hb f3; replace f4 := keepc hb f4; replace f5 := keepc hb f5; replace f6 := keepc hb f6; replace f7 := keepc hb f7; replace f8 := keepc hb f8; replace f9 := keepc hb f9; replace f10 := keepc hb f10; replace f11 := keepc hb f11; replace B := keepb B hb; clear hb
          refine hK.out _ _ ⟨f0, f1, f2, f3, f4, f5, f6, f7⟩ (fun _ => ?_)
          clear hK K
          (try simp only [Act.put, List.setIfInBounds_toArray, List.set_cons_zero, List.set_cons_succ])
          refine anyN_ready (rs := [10]) (by kernel_rfl) (by simp) ?_
          refine AllN.last (o := ?o20) ?hi20 (by simp) (fun K hK => ?step20) AllN.nil
          case hi20 => (simp only [List.getElem?_toArray, List.getElem?_cons_zero, List.getElem?_cons_succ]; (first | done | with_reducible rfl))
          go_simp
          have n0 : w14.heap.size ≠ w.heap.size := by clear B; omega
          have n1 : w14.heap.size ≠ w.heap.size + 1 := by clear B; omega
          have n2 : w14.heap.size ≠ w17.heap.size := by clear B; omega
          have nb : w.heap.size ≤ w14.heap.size := by clear B; omega
          refine namedS (K := K) f8 f9 f10 f11 (fun y20 hf z0 z1 z2 z3 => ?_)
          replace f0 := hf.cell f0 n0; replace f1 := hf.cell f1 n0; replace f2 := hf.cell f2 n0; replace f3 := hf.cell f3 n0; replace f4 := hf.cell f4 n1; replace f5 := hf.cell f5 n1; replace f6 := hf.cell f6 n1; replace f7 := hf.cell f7 n1; replace f8 := z0; replace f9 := z1; replace f10 := z2; replace f11 := z3; replace f12 := hf.cell f12 n2; replace f13 := hf.cell f13 n2; replace f14 := hf.cell f14 n2; replace f15 := hf.cell f15 n2; replace g12 := hf.frozen g12; replace g13 := hf.frozen g13; replace g14 := hf.frozen g14; replace g15 := hf.frozen g15; replace B := hf.below B nb; clear hf z0 z1 z2 z3 nb n0 n1 n2
          refine hK.out _ _ ?_
          clear hK K
          (try simp only [Act.put, List.setIfInBounds_toArray, List.set_cons_zero, List.set_cons_succ])
          refine anyN_ready (rs := [11]) (by kernel_rfl) (by simp) ?_
          refine AllN.last (o := ?o21) ?hi21 (by simp) (fun K hK => ?step21) AllN.nil
          case hi21 => (simp only [List.getElem?_toArray, List.getElem?_cons_zero, List.getElem?_cons_succ]; (first | done | with_reducible rfl))
          go_simp
          have n0 : w17.heap.size ≠ w.heap.size := by clear B; omega
          have n1 : w17.heap.size ≠ w.heap.size + 1 := by clear B; omega
          have n2 : w17.heap.size ≠ w14.heap.size := by clear B; omega
          have nb : w.heap.size ≤ w17.heap.size := by clear B; omega
          refine namedS (K := K) f12 f13 f14 f15 (fun y21 hf z0 z1 z2 z3 => ?_)
          replace f0 := hf.cell f0 n0; replace f1 := hf.cell f1 n0; replace f2 := hf.cell f2 n0; replace f3 := hf.cell f3 n0; replace f4 := hf.cell f4 n1; replace f5 := hf.cell f5 n1; replace f6 := hf.cell f6 n1; replace f7 := hf.cell f7 n1; replace f8 := hf.cell f8 n2; replace f9 := hf.cell f9 n2; replace f10 := hf.cell f10 n2; replace f11 := hf.cell f11 n2; replace f12 := z0; replace f13 := z1; replace f14 := z2; replace f15 := z3; replace B := hf.below B nb; clear hf z0 z1 z2 z3 nb n0 n1 n2
          refine hK.out _ _ ?_
          clear hK K
          (try simp only [Act.put, List.setIfInBounds_toArray, List.set_cons_zero, List.set_cons_succ])
          refine anyN_done (by kernel_rfl) ?_ _
          exact then_normal ⟨w14.heap.size, w17.heap.size, rfl, B, f0, f1, f2, f3, f4, f5, f6, f7, f8, f9, f10, f11, f12, f13, f14, f15⟩
        case step18 =>
         go_simp
         have m18 : w.heap.size + 1 < w14.heap.size := World.block_lt_of_cell? w14 _ f7
         refine namedA (K := K) (fun w18 hb f8 f9 f10 f11 g8 g9 g10 g11 => ?_)
         replace f0 := keepc hb f0; replace f1 := keepc hb f1; replace f2 := keepc hb f2; replace f3 := keepc hb f3; replace f4 := keepc hb f4; replace f5 := keepc hb f5; replace f6 := keepc hb f6; replace f7 := keepc hb f7; replace B := keepb B hb; clear hb
         refine hK.out _ _ ⟨f0, f1, f2, f3, f4, f5, f6, f7⟩ (fun _ => ?_)
         clear hK K
         (try simp only [Act.put, List.setIfInBounds_toArray, List.set_cons_zero, List.set_cons_succ])
         refine anyN_ready (rs := [8]) (by kernel_rfl) (by simp) (AllN.cons (o := ?o22) ?hi22 (fun K hK => ?step22) AllN.nil)
         case hi22 => (simp only [List.getElem?_toArray, List.getElem?_cons_zero, List.getElem?_cons_succ]; (first | done | with_reducible rfl))
         case step22 =>
          go_simp
          have m22 : w.heap.size + 1 < w18.heap.size := World.block_lt_of_cell? w18 _ f7
          have p22 : w14.heap.size < w18.heap.size := World.block_lt_of_cell? w18 _ f8
          refine namedA (K := K) (fun w22 hb f12 f13 f14 f15 g12 g13 g14 g15 => ?_)
          replace g8 := keepf hb f8 g8; replace g9 := keepf hb f9 g9; replace g10 := keepf hb f10 g10; replace g11 := keepf hb f11 g11; replace f0 := keepc hb f0; replace f1 := keepc hb f1; replace f2 := keepc hb f2; replace f3 := keepc hb f3; replace f4 := keepc hb f4; replace f5 := keepc hb f5; replace f6 := keepc hb f6; replace f7 := keepc hb f7; replace f8 := keepc hb f8; replace f9 := keepc hb f9; replace f10 := keepc hb f10; replace f11 := keepc hb f11; replace B := keepb B hb; clear hb
          refine hK.out _ _ ⟨f0, f1, f2, f3, f4, f5, f6, f7⟩ (fun _ => ?_)
          clear hK K
          (try simp only [Act.put, List.setIfInBounds_toArray, List.set_cons_zero, List.set_cons_succ])
          refine anyN_ready (rs := [10]) (by kernel_rfl) (by simp) ?_
          refine AllN.last (o := ?o23) ?hi23 (by simp) (fun K hK => ?step23) AllN.nil
          case hi23 => (simp only [List.getElem?_toArray, List.getElem?_cons_zero, List.getElem?_cons_succ]; (first | done | with_reducible rfl))
          go_simp
          have n0 : w18.heap.size ≠ w.heap.size := by clear B; omega
          have n1 : w18.heap.size ≠ w.heap.size + 1 := by clear B; omega
          have n2 : w18.heap.size ≠ w14.heap.size := by clear B; omega
          have nb : w.heap.size ≤ w18.heap.size := by clear B; omega
          refine namedS (K := K) f12 f13 f14 f15 (fun y23 hf z0 z1 z2 z3 => ?_)
          replace f0 := hf.cell f0 n0; replace f1 := hf.cell f1 n0; replace f2 := hf.cell f2 n0; replace f3 := hf.cell f3 n0; replace f4 := hf.cell f4 n1; replace f5 := hf.cell f5 n1; replace f6 := hf.cell f6 n1; replace f7 := hf.cell f7 n1; replace f8 := hf.cell f8 n2; replace f9 := hf.cell f9 n2; replace f10 := hf.cell f10 n2; replace f11 := hf.cell f11 n2; replace f12 := z0; replace f13 := z1; replace f14 := z2; replace f15 := z3; replace g8 := hf.frozen g8; replace g9 := hf.frozen g9; replace g10 := hf.frozen g10; replace g11 := hf.frozen g11; replace B := hf.below B nb; clear hf z0 z1 z2 z3 nb n0 n1 n2
          refine hK.out _ _ ?_
          clear hK K
          (try simp only [Act.put, List.setIfInBounds_toArray, List.set_cons_zero, List.set_cons_succ])
          refine anyN_ready (rs := [11]) (by kernel_rfl) (by simp) ?_
          refine AllN.last (o := ?o24) ?hi24 (by simp) (fun K hK => ?step24) AllN.nil
          case hi24 => (simp only [List.getElem?_toArray, List.getElem?_cons_zero, List.getElem?_cons_succ]; (first | done | with_reducible rfl))
          go_simp
          have n0 : w14.heap.size ≠ w.heap.size := by clear B; omega
          have n1 : w14.heap.size ≠ w.heap.size + 1 := by clear B; omega
          have n2 : w14.heap.size ≠ w18.heap.size := by clear B; omega
          have nb : w.heap.size ≤ w14.heap.size := by clear B; omega
          refine namedS (K := K) f8 f9 f10 f11 (fun y24 hf z0 z1 z2 z3 => ?_)
          replace f0 := hf.cell f0 n0; replace f1 := hf.cell f1 n0; replace f2 := hf.cell f2 n0; replace f3 := hf.cell f3 n0; replace f4 := hf.cell f4 n1; replace f5 := hf.cell f5 n1; replace f6 := hf.cell f6 n1; replace f7 := hf.cell f7 n1; replace f8 := z0; replace f9 := z1; replace f10 := z2; replace f11 := z3; replace f12 := hf.cell f12 n2; replace f13 := hf.cell f13 n2; replace f14 := hf.cell f14 n2; replace f15 := hf.cell f15 n2; replace B := hf.below B nb; clear hf z0 z1 z2 z3 nb n0 n1 n2
          refine hK.out _ _ ?_
          clear hK K
          (try simp only [Act.put, List.setIfInBounds_toArray, List.set_cons_zero, List.set_cons_succ])
          refine anyN_done (by kernel_rfl) ?_ _
          exact then_normal ⟨w18.heap.size, w14.heap.size, rfl, B, f0, f1, f2, f3, f4, f5, f6, f7, f12, f13, f14, f15, f8, f9, f10, f11⟩
       case step15 =>
        go_simp
        have m15 : w.heap.size + 1 < w11.heap.size := World.block_lt_of_cell? w11 _ f7
        refine namedA (K := K) (fun w15 hb f8 f9 f10 f11 g8 g9 g10 g11 => ?_)
        replace f0 := keepc hb f0; replace f1 := keepc hb f1; replace f2 := keepc hb f2; replace f3 := keepc hb f3; replace f4 := keepc hb f4; replace f5 := keepc hb f5; replace f6 := keepc hb f6; replace f7 := keepc hb f7; replace B := keepb B hb; clear hb
        refine hK.out _ _ ⟨f0, f1, f2, f3, f4, f5, f6, f7⟩ (fun _ => ?_)
        clear hK K
        (try simp only [Act.put, List.setIfInBounds_toArray, List.set_cons_zero, List.set_cons_succ])
        refine anyN_ready (rs := [7, 9]) (by kernel_rfl) (by simp) (AllN.cons (o := ?o25) ?hi25 (fun K hK => ?step25) (AllN.cons (o := ?o26) ?hi26 (fun K hK => ?step26) AllN.nil))
        case hi25 => (simp only [List.getElem?_toArray, List.getElem?_cons_zero, List.getElem?_cons_succ]; (first | done | with_reducible rfl))
        case hi26 => (simp only [List.getElem?_toArray, List.getElem?_cons_zero, List.getElem?_cons_succ]; (first | done | with_reducible rfl))
        case step25 =>
         go_simp
         (go_at_call 22; (with_reducible refine (rect_any _ _ _ _ _).mono ?_); rintro e w25 ⟨rfl, hb⟩; replace g8 := keepf hb f8 g8; replace g9 := keepf hb f9 g9; replace g10 := keepf hb f10 g10; replace g11 := keepf hb f11 g11; replace f0 := keepc hb f0; replace f1 := keepc hb f1; replace f2 := keepc hb f2; replace f3 := keepc hb f3; replace f4 := keepc hb f4; replace f5 := keepc hb f5; replace f6 := keepc hb f6; replace f7 := keepc hb f7; replace f8 := keepc hb f8; replace f9 := keepc hb f9; replace f10 := keepc hb f10; replace f11 := keepc hb f11; replace B := keepb B hb; clear hb)
         refine hK.out _ _ ⟨f0, f1, f2, f3, f4, f5, f6, f7⟩ (fun _ => ?_)
         clear hK K
         (try simp only [Act.put, List.setIfInBounds_toArray, List.set_cons_zero, List.set_cons_succ])
         refine anyN_ready (rs := [9]) (by kernel_rfl) (by simp) (AllN.cons (o := ?o27) ?hi27 (fun K hK => ?step27) AllN.nil)
         case hi27 => (simp only [List.getElem?_toArray, List.getElem?_cons_zero, List.getElem?_cons_succ]; (first | done | with_reducible rfl))
         case step27 =>
          go_simp
          have m27 : w.heap.size + 1 < w25.heap.size := World.block_lt_of_cell? w25 _ f7
          have p27 : w11.heap.size < w25.heap.size := World.block_lt_of_cell? w25 _ f8
          refine namedA (K := K) (fun w27 hb f12 f13 f14 f15 g12 g13 g14 g15 => ?_)
          replace g8 := keepf hb f8 g8; replace g9 := keepf hb f9 g9; replace g10 := keepf hb f10 g10; replace g11 := keepf hb f11 g11; replace f0 := keepc hb f0; replace f1 := keepc hb f1; replace f2 := keepc hb f2; replace f3 := keepc hb f3; replace f4 := keepc hb f4; replace f5 := keepc hb f5; replace f6 := keepc hb f6; replace f7 := keepc hb f7; replace f8 := keepc hb f8; replace f9 := keepc hb f9; replace f10 := keepc hb f10; replace f11 := keepc hb f11; replace B := keepb B hb; clear hb
          refine hK.out _ _ ⟨f0, f1, f2, f3, f4, f5, f6, f7⟩ (fun _ => ?_)
          clear hK K
          (try simp only [Act.put, List.setIfInBounds_toArray, List.set_cons_zero, List.set_cons_succ])
          refine anyN_ready (rs := [10]) (by kernel_rfl) (by simp) ?_
          refine AllN.last (o := ?o28) ?hi28 (by simp) (fun K hK => ?step28) AllN.nil
          case hi28 => (simp only [List.getElem?_toArray, List.getElem?_cons_zero, List.getElem?_cons_succ]; (first | done | with_reducible rfl))
          go_simp
          have n0 : w11.heap.size ≠ w.heap.size := by clear B; omega
          have n1 : w11.heap.size ≠ w.heap.size + 1 := by clear B; omega
          have n2 : w11.heap.size ≠ w25.heap.size := by clear B; omega
          have nb : w.heap.size ≤ w11.heap.size := by clear B; omega
          refine namedS (K := K) f8 f9 f10 f11 (fun y28 hf z0 z1 z2 z3 => ?_)
          replace f0 := hf.cell f0 n0; replace f1 := hf.cell f1 n0; replace f2 := hf.cell f2 n0; replace f3 := hf.cell f3 n0; replace f4 := hf.cell f4 n1; replace f5 := hf.cell f5 n1; replace f6 := hf.cell f6 n1; replace f7 := hf.cell f7 n1; replace f8 := z0; replace f9 := z1; replace f10 := z2; replace f11 := z3; replace f12 := hf.cell f12 n2; replace f13 := hf.cell f13 n2; replace f14 := hf.cell f14 n2; replace f15 := hf.cell f15 n2; replace g12 := hf.frozen g12; replace g13 := hf.frozen g13; replace g14 := hf.frozen g14; replace g15 := hf.frozen g15; replace B := hf.below B nb; clear hf z0 z1 z2 z3 nb n0 n1 n2
          refine hK.out _ _ ?_
          clear hK K
          (try simp only [Act.put, List.setIfInBounds_toArray, List.set_cons_zero, List.set_cons_succ])
          refine anyN_ready (rs := [11]) (by kernel_rfl) (by simp) ?_
          refine AllN.last (o := ?o29) ?hi29 (by simp) (fun K hK => ?step29) AllN.nil
          case hi29 => (simp only [List.getElem?_toArray, List.getElem?_cons_zero, List.getElem?_cons_succ]; (first | done | with_reducible rfl))
          go_simp
          have n0 : w25.heap.size ≠ w.heap.size := by clear B; omega
          have n1 : w25.heap.size ≠ w.heap.size + 1 := by clear B; omega
          have n2 : w25.heap.size ≠ w11.heap.size := by clear B; omega
          have nb : w.heap.size ≤ w25.heap.size := by clear B; omega
          refine namedS (K := K) f12 f13 f14 f15 (fun y29 hf z0 z1 z2 z3 => ?_)
          replace f0 := hf.cell f0 n0; replace f1 := hf.cell f1 n0; replace f2 := hf.cell f2 n0; replace f3 := hf.cell f3 n0; replace f4 := hf.cell f4 n1; replace f5 := hf.cell f5 n1; replace f6 := hf.cell f6 n1; replace f7 := hf.cell f7 n1; replace f8 := hf.cell f8 n2; replace f9 := hf.cell f9 n2; replace f10 := hf.cell f10 n2; replace f11 := hf.cell f11 n2; replace f12 := z0; replace f13 := z1; replace f14 := z2; replace f15 := z3; replace B := hf.below B nb; clear hf z0 z1 z2 z3 nb n0 n1 n2
          refine hK.out _ _ ?_
          clear hK K
          (try simp only [Act.put, List.setIfInBounds_toArray, List.set_cons_zero, List.set_cons_succ])
          refine anyN_done (by kernel_rfl) ?_ _
          exact then_normal ⟨w11.heap.size, w25.heap.size, rfl, B, f0, f1, f2, f3, f4, f5, f6, f7, f8, f9, f10, f11, f12, f13, f14, f15⟩
        case step26 =>
         go_simp
         have m26 : w.heap.size + 1 < w15.heap.size := World.block_lt_of_cell? w15 _ f7
         have p26 : w11.heap.size < w15.heap.size := World.block_lt_of_cell? w15 _ f8
         refine namedA (K := K) (fun w26 hb f12 f13 f14 f15 g12 g13 g14 g15 => ?_)
         replace g8 := keepf hb f8 g8; replace g9 := keepf hb f9 g9; replace g10 := keepf hb f10 g10; replace g11 := keepf hb f11 g11; replace f0 := keepc hb f0; replace f1 := keepc hb f1; replace f2 := keepc hb f2; replace f3 := keepc hb f3; replace f4 := keepc hb f4; replace f5 := keepc hb f5; replace f6 := keepc hb f6; replace f7 := keepc hb f7; replace f8 := keepc hb f8; replace f9 := keepc hb f9; replace f10 := keepc hb f10; replace f11 := keepc hb f11; replace B := keepb B hb; clear hb
         refine hK.out _ _ ⟨f0, f1, f2, f3, f4, f5, f6, f7⟩ (fun _ => ?_)
         clear hK K
         (try simp only [Act.put, List.setIfInBounds_toArray, List.set_cons_zero, List.set_cons_succ])
         refine anyN_ready (rs := [7]) (by kernel_rfl) (by simp) (AllN.cons (o := ?o30) ?hi30 (fun K hK => ?step30) AllN.nil)
         case hi30 => (simp only [List.getElem?_toArray, List.getElem?_cons_zero, List.getElem?_cons_succ]; (first | done | with_reducible rfl))
         case step30 =>
          go_simp
          (go_at_call 22; (with_reducible refine (rect_any _ _ _ _ _).mono ?_); rintro e w30 ⟨rfl, hb⟩; replace g8 := keepf hb f8 g8; replace g9 := keepf hb f9 g9; replace g10 := keepf hb f10 g10; replace g11 := keepf hb f11 g11; replace g12 := keepf hb f12 g12; replace g13 := keepf hb f13 g13; replace g14 := keepf hb f14 g14; replace g15 := keepf hb f15 g15; replace f0 := keepc hb f0; replace f1 := keepc hb f1; replace f2 := keepc hb f2; replace f3 := keepc hb f3; replace f4 := keepc hb f4; replace f5 := keepc hb f5; replace f6 := keepc hb f6; replace f7 := keepc hb f7; replace f8 := keepc hb f8; replace f9 := keepc hb f9; replace f10 := keepc hb f10; replace f11 := keepc hb f11; replace f12 := keepc hb f12; replace f13 := keepc hb f13; replace f14 := keepc hb f14; replace f15 := keepc hb f15; replace B := keepb B hb; clear hb)
          refine hK.out _ _ ⟨f0, f1, f2, f3, f4, f5, f6, f7⟩ (fun _ => ?_)
          clear hK K
          (try simp only [Act.put, List.setIfInBounds_toArray, List.set_cons_zero, List.set_cons_succ])
          refine anyN_ready (rs := [10]) (by kernel_rfl) (by simp) ?_
          refine AllN.last (o := ?o31) ?hi31 (by simp) (fun K hK => ?step31) AllN.nil
          case hi31 => (simp only [List.getElem?_toArray, List.getElem?_cons_zero, List.getElem?_cons_succ]; (first | done | with_reducible rfl))
          go_simp
          have n0 : w11.heap.size ≠ w.heap.size := by clear B; omega
          have n1 : w11.heap.size ≠ w.heap.size + 1 := by clear B; omega
          have n2 : w11.heap.size ≠ w15.heap.size := by clear B; omega
          have nb : w.heap.size ≤ w11.heap.size := by clear B; omega
          refine namedS (K := K) f8 f9 f10 f11 (fun y31 hf z0 z1 z2 z3 => ?_)
          replace f0 := hf.cell f0 n0; replace f1 := hf.cell f1 n0; replace f2 := hf.cell f2 n0; replace f3 := hf.cell f3 n0; replace f4 := hf.cell f4 n1; replace f5 := hf.cell f5 n1; replace f6 := hf.cell f6 n1; replace f7 := hf.cell f7 n1; replace f8 := z0; replace f9 := z1; replace f10 := z2; replace f11 := z3; replace f12 := hf.cell f12 n2; replace f13 := hf.cell f13 n2; replace f14 := hf.cell f14 n2; replace f15 := hf.cell f15 n2; replace g12 := hf.frozen g12; replace g13 := hf.frozen g13; replace g14 := hf.frozen g14; replace g15 := hf.frozen g15; replace B := hf.below B nb; clear hf z0 z1 z2 z3 nb n0 n1 n2
          refine hK.out _ _ ?_
          clear hK K
          (try simp only [Act.put, List.setIfInBounds_toArray, List.set_cons_zero, List.set_cons_succ])
          refine anyN_ready (rs := [11]) (by kernel_rfl) (by simp) ?_
          refine AllN.last (o := ?o32) ?hi32 (by simp) (fun K hK => ?step32) AllN.nil
          case hi32 => (simp only [List.getElem?_toArray, List.getElem?_cons_zero, List.getElem?_cons_succ]; (first | done | with_reducible rfl))
          go_simp
          have n0 : w15.heap.size ≠ w.heap.size := by clear B; omega
          have n1 : w15.heap.size ≠ w.heap.size + 1 := by clear B; omega
          have n2 : w15.heap.size ≠ w11.heap.size := by clear B; omega
          have nb : w.heap.size ≤ w15.heap.size := by clear B; omega
          refine namedS (K := K) f12 f13 f14 f15 (fun y32 hf z0 z1 z2 z3 => ?_)
          replace f0 := hf.cell f0 n0; replace f1 := hf.cell f1 n0; replace f2 := hf.cell f2 n0; replace f3 := hf.cell f3 n0; replace f4 := hf.cell f4 n1; replace f5 := hf.cell f5 n1; replace f6 := hf.cell f6 n1; replace f7 := hf.cell f7 n1; replace f8 := hf.cell f8 n2; replace f9 := hf.cell f9 n2; replace f10 := hf.cell f10 n2; replace f11 := hf.cell f11 n2; replace f12 := z0; replace f13 := z1; replace f14 := z2; replace f15 := z3; replace B := hf.below B nb; clear hf z0 z1 z2 z3 nb n0 n1 n2
          refine hK.out _ _ ?_
          clear hK K
          (try simp only [Act.put, List.setIfInBounds_toArray, List.set_cons_zero, List.set_cons_succ])
          refine anyN_done (by kernel_rfl) ?_ _
          exact then_normal ⟨w11.heap.size, w15.heap.size, rfl, B, f0, f1, f2, f3, f4, f5, f6, f7, f8, f9, f10, f11, f12, f13, f14, f15⟩
       case step16 =>
        go_simp
        have m16 : w.heap.size + 1 < w11.heap.size := World.block_lt_of_cell? w11 _ f7
        refine namedA (K := K) (fun w16 hb f8 f9 f10 f11 g8 g9 g10 g11 => ?_)
        replace f0 := keepc hb f0; replace f1 := keepc hb f1; replace f2 := keepc hb f2; replace f3 := keepc hb f3; replace f4 := keepc hb f4; replace f5 := keepc hb f5; replace f6 := keepc hb f6; replace f7 := keepc hb f7; replace B := keepb B hb; clear hb
        refine hK.out _ _ ⟨f0, f1, f2, f3, f4, f5, f6, f7⟩ (fun _ => ?_)
        clear hK K
        (try simp only [Act.put, List.setIfInBounds_toArray, List.set_cons_zero, List.set_cons_succ])
        refine anyN_ready (rs := [7, 8]) (by kernel_rfl) (by simp) (AllN.cons (o := ?o33) ?hi33 (fun K hK => ?step33) (AllN.cons (o := ?o34) ?hi34 (fun K hK => ?step34) AllN.nil))
        case hi33 => (simp only [List.getElem?_toArray, List.getElem?_cons_zero, List.getElem?_cons_succ]; (first | done | with_reducible rfl))
        case hi34 => (simp only [List.getElem?_toArray, List.getElem?_cons_zero, List.getElem?_cons_succ]; (first | done | with_reducible rfl))
        case step33 =>
         go_simp
         (go_at_call 22; (with_reducible refine (rect_any _ _ _ _ _).mono ?_); rintro e w33 ⟨rfl, hb⟩; replace g8 := keepf hb f8 g8; replace g9 := keepf hb f9 g9; replace g10 := keepf hb f10 g10; replace g11 := keepf hb f11 g11; replace f0 := keepc hb f0; replace f1 := keepc hb f1; replace f2 := keepc hb f2; replace f3 := keepc hb f3; replace f4 := keepc hb f4; replace f5 := keepc hb f5; replace f6 := keepc hb f6; replace f7 := keepc hb f7; replace f8 := keepc hb f8; replace f9 := keepc hb f9; replace f10 := keepc hb f10; replace f11 := keepc hb f11; replace B := keepb B hb; clear hb)
         refine hK.out _ _ ⟨f0, f1, f2, f3, f4, f5, f6, f7⟩ (fun _ => ?_)
         clear hK K
         (try simp only [Act.put, List.setIfInBounds_toArray, List.set_cons_zero, List.set_cons_succ])
         refine anyN_ready (rs := [8]) (by kernel_rfl) (by simp) (AllN.cons (o := ?o35) ?hi35 (fun K hK => ?step35) AllN.nil)
         case hi35 => (simp only [List.getElem?_toArray, List.getElem?_cons_zero, List.getElem?_cons_succ]; (first | done | with_reducible rfl))
         case step35 =>
          go_simp
          have m35 : w.heap.size + 1 < w33.heap.size := World.block_lt_of_cell? w33 _ f7
          have p35 : w11.heap.size < w33.heap.size := World.block_lt_of_cell? w33 _ f8
          refine namedA (K := K) (fun w35 hb f12 f13 f14 f15 g12 g13 g14 g15 => ?_)
          replace g8 := keepf hb f8 g8; replace g9 := keepf hb f9 g9; replace g10 := keepf hb f10 g10; replace g11 := keepf hb f11 g11; replace f0 := keepc hb f0; replace f1 := keepc hb f1; replace f2 := keepc hb f2; replace f3 := keepc hb f3; replace f4 := keepc hb f4; replace f5 := keepc hb f5; replace f6 := keepc hb f6; replace f7 := keepc hb f7; replace f8 := keepc hb f8; replace f9 := keepc hb f9; replace f10 := keepc hb f10; replace f11 := keepc hb f11; replace B := keepb B hb; clear hb
          refine hK.out _ _ ⟨f0, f1, f2, f3, f4, f5, f6, f7⟩ (fun _ => ?_)
          clear hK K
          (try simp only [Act.put, List.setIfInBounds_toArray, List.set_cons_zero, List.set_cons_succ])
          refine anyN_ready (rs := [10]) (by kernel_rfl) (by simp) ?_
          refine AllN.last (o := ?o36) ?hi36 (by simp) (fun K hK => ?step36) AllN.nil
          case hi36 => (simp only [List.getElem?_toArray, List.getElem?_cons_zero, List.getElem?_cons_succ]; (first | done | with_reducible rfl))
          go_simp
          have n0 : w33.heap.size ≠ w.heap.size := by clear B; omega
          have n1 : w33.heap.size ≠ w.heap.size + 1 := by clear B; omega
          have n2 : w33.heap.size ≠ w11.heap.size := by clear B; omega
          have nb : w.heap.size ≤ w33.heap.size := by clear B; omega
          refine namedS (K := K) f12 f13 f14 f15 (fun y36 hf z0 z1 z2 z3 => ?_)
          replace f0 := hf.cell f0 n0; replace f1 := hf.cell f1 n0; replace f2 := hf.cell f2 n0; replace f3 := hf.cell f3 n0; replace f4 := hf.cell f4 n1; replace f5 := hf.cell f5 n1; replace f6 := hf.cell f6 n1; replace f7 := hf.cell f7 n1; replace f8 := hf.cell f8 n2; replace f9 := hf.cell f9 n2; replace f10 := hf.cell f10 n2; replace f11 := hf.cell f11 n2; replace f12 := z0; replace f13 := z1; replace f14 := z2; replace f15 := z3; replace g8 := hf.frozen g8; replace g9 := hf.frozen g9; replace g10 := hf.frozen g10; replace g11 := hf.frozen g11; replace B := hf.below B nb; clear hf z0 z1 z2 z3 nb n0 n1 n2
          refine hK.out _ _ ?_
          clear hK K
          (try simp only [Act.put, List.setIfInBounds_toArray, List.set_cons_zero, List.set_cons_succ])
          refine anyN_ready (rs := [11]) (by kernel_rfl) (by simp) ?_
          refine AllN.last (o := ?o37) ?hi37 (by simp) (fun K hK => ?step37) AllN.nil
          case hi37 => (simp only [List.getElem?_toArray, List.getElem?_cons_zero, List.getElem?_cons_succ]; (first | done | with_reducible rfl))
          go_simp
          have n0 : w11.heap.size ≠ w.heap.size := by clear B; omega
          have n1 : w11.heap.size ≠ w.heap.size + 1 := by clear B; omega
          have n2 : w11.heap.size ≠ w33.heap.size := by clear B; omega
          have nb : w.heap.size ≤ w11.heap.size := by clear B; omega
          refine namedS (K := K) f8 f9 f10 f11 (fun y37 hf z0 z1 z2 z3 => ?_)
          replace f0 := hf.cell f0 n0; replace f1 := hf.cell f1 n0; replace f2 := hf.cell f2 n0; replace f3 := hf.cell f3 n0; replace f4 := hf.cell f4 n1; replace f5 := hf.cell f5 n1; replace f6 := hf.cell f6 n1; replace f7 := hf.cell f7 n1; replace f8 := z0; replace f9 := z1; replace f10 := z2; replace f11 := z3; replace f12 := hf.cell f12 n2; replace f13 := hf.cell f13 n2; replace f14 := hf.cell f14 n2; replace f15 := hf.cell f15 n2; replace B := hf.below B nb; clear hf z0 z1 z2 z3 nb n0 n1 n2
          refine hK.out _ _ ?_
          clear hK K
          (try simp only [Act.put, List.setIfInBounds_toArray, List.set_cons_zero, List.set_cons_succ])
          refine anyN_done (by kernel_rfl) ?_ _
          exact then_normal ⟨w33.heap.size, w11.heap.size, rfl, B, f0, f1, f2, f3, f4, f5, f6, f7, f12, f13, f14, f15, f8, f9, f10, f11⟩
        case step34 =>
         go_simp
         have m34 : w.heap.size + 1 < w16.heap.size := World.block_lt_of_cell? w16 _ f7
         have p34 : w11.heap.size < w16.heap.size := World.block_lt_of_cell? w16 _ f8
         refine namedA (K := K) (fun w34 hb f12 f13 f14 f15 g12 g13 g14 g15 => ?_)
         replace g8 := keepf hb f8 g8; replace g9 := keepf hb f9 g9; replace g10 := keepf hb f10 g10; replace g11 := keepf hb f11 g11; replace f0 := keepc hb f0; replace f1 := keepc hb f1; replace f2 := keepc hb f2; replace f3 := keepc hb f3; replace f4 := keepc hb f4; replace f5 := keepc hb f5; replace f6 := keepc hb f6; replace f7 := keepc hb f7; replace f8 := keepc hb f8; replace f9 := keepc hb f9; replace f10 := keepc hb f10; replace f11 := keepc hb f11; replace B := keepb B hb; clear hb
         refine hK.out _ _ ⟨f0, f1, f2, f3, f4, f5, f6, f7⟩ (fun _ => ?_)
         clear hK K
         (try simp only [Act.put, List.setIfInBounds_toArray, List.set_cons_zero, List.set_cons_succ])
         refine anyN_ready (rs := [7]) (by kernel_rfl) (by simp) (AllN.cons (o := ?o38) ?hi38 (fun K hK => ?step38) AllN.nil)
         case hi38 => (simp only [List.getElem?_toArray, List.getElem?_cons_zero, List.getElem?_cons_succ]; (first | done | with_reducible rfl))
         case step38 =>
          go_simp
          (go_at_call 22; (with_reducible refine (rect_any _ _ _ _ _).mono ?_); rintro e w38 ⟨rfl, hb⟩; replace g8 := keepf hb f8 g8; replace g9 := keepf hb f9 g9; replace g10 := keepf hb f10 g10; replace g11 := keepf hb f11 g11; replace g12 := keepf hb f12 g12; replace g13 := keepf hb f13 g13; replace g14 := keepf hb f14 g14; replace g15 := keepf hb f15 g15; replace f0 := keepc hb f0; replace f1 := keepc hb f1; replace f2 := keepc hb f2; replace f3 := keepc hb f3; replace f4 := keepc hb f4; replace f5 := keepc hb f5; replace f6 := keepc hb f6; replace f7 := keepc hb f7; replace f8 := keepc hb f8; replace f9 := keepc hb f9; replace f10 := keepc hb f10; replace f11 := keepc hb f11; replace f12 := keepc hb f12; replace f13 := keepc hb f13; replace f14 := keepc hb f14; replace f15 := keepc hb f15; replace B := keepb B hb; clear hb)
          refine hK.out _ _ ⟨f0, f1, f2, f3, f4, f5, f6, f7⟩ (fun _ => ?_)
          clear hK K
          (try simp only [Act.put, List.setIfInBounds_toArray, List.set_cons_zero, List.set_cons_succ])
          refine anyN_ready (rs := [10]) (by kernel_rfl) (by simp) ?_
          refine AllN.last (o := ?o39) ?hi39 (by simp) (fun K hK => ?step39) AllN.nil
          case hi39 => (simp only [List.getElem?_toArray, List.getElem?_cons_zero, List.getElem?_cons_succ]; (first | done | with_reducible rfl))
          go_simp
          have n0 : w16.heap.size ≠ w.heap.size := by clear B; omega
          have n1 : w16.heap.size ≠ w.heap.size + 1 := by clear B; omega
          have n2 : w16.heap.size ≠ w11.heap.size := by clear B; omega
          have nb : w.heap.size ≤ w16.heap.size := by clear B; omega
          refine namedS (K := K) f12 f13 f14 f15 (fun y39 hf z0 z1 z2 z3 => ?_)
          replace f0 := hf.cell f0 n0; replace f1 := hf.cell f1 n0; replace f2 := hf.cell f2 n0; replace f3 := hf.cell f3 n0; replace f4 := hf.cell f4 n1; replace f5 := hf.cell f5 n1; replace f6 := hf.cell f6 n1; replace f7 := hf.cell f7 n1; replace f8 := hf.cell f8 n2; replace f9 := hf.cell f9 n2; replace f10 := hf.cell f10 n2; replace f11 := hf.cell f11 n2; replace f12 := z0; replace f13 := z1; replace f14 := z2; replace f15 := z3; replace g8 := hf.frozen g8; replace g9 := hf.frozen g9; replace g10 := hf.frozen g10; replace g11 := hf.frozen g11; replace B := hf.below B nb; clear hf z0 z1 z2 z3 nb n0 n1 n2
          refine hK.out _ _ ?_
          clear hK K
          (try simp only [Act.put, List.setIfInBounds_toArray, List.set_cons_zero, List.set_cons_succ])
          refine anyN_ready (rs := [11]) (by kernel_rfl) (by simp) ?_
          refine AllN.last (o := ?o40) ?hi40 (by simp) (fun K hK => ?step40) AllN.nil
          case hi40 => (simp only [List.getElem?_toArray, List.getElem?_cons_zero, List.getElem?_cons_succ]; (first | done | with_reducible rfl))
          go_simp
          have n0 : w11.heap.size ≠ w.heap.size := by clear B; omega
          have n1 : w11.heap.size ≠ w.heap.size + 1 := by clear B; omega
          have n2 : w11.heap.size ≠ w16.heap.size := by clear B; omega
          have nb : w.heap.size ≤ w11.heap.size := by clear B; omega
          refine namedS (K := K) f8 f9 f10 f11 (fun y40 hf z0 z1 z2 z3 => ?_)
          replace f0 := hf.cell f0 n0; replace f1 := hf.cell f1 n0; replace f2 := hf.cell f2 n0; replace f3 := hf.cell f3 n0; replace f4 := hf.cell f4 n1; replace f5 := hf.cell f5 n1; replace f6 := hf.cell f6 n1; replace f7 := hf.cell f7 n1; replace f8 := z0; replace f9 := z1; replace f10 := z2; replace f11 := z3; replace f12 := hf.cell f12 n2; replace f13 := hf.cell f13 n2; replace f14 := hf.cell f14 n2; replace f15 := hf.cell f15 n2; replace B := hf.below B nb; clear hf z0 z1 z2 z3 nb n0 n1 n2
          refine hK.out _ _ ?_
          clear hK K
          (try simp only [Act.put, List.setIfInBounds_toArray, List.set_cons_zero, List.set_cons_succ])
          refine anyN_done (by kernel_rfl) ?_ _
          exact then_normal ⟨w16.heap.size, w11.heap.size, rfl, B, f0, f1, f2, f3, f4, f5, f6, f7, f12, f13, f14, f15, f8, f9, f10, f11⟩
      case step12 =>
       go_simp
       have m12 : w.heap.size + 1 < w8.heap.size := World.block_lt_of_cell? w8 _ f7
       refine namedA (K := K) (fun w12 hb f8 f9 f10 f11 g8 g9 g10 g11 => ?_)
       replace f0 := keepc hb f0; replace f1 := keepc hb f1; replace f2 := keepc hb f2; replace f3 := keepc hb f3; replace f4 := keepc hb f4; replace f5 := keepc hb f5; replace f6 := keepc hb f6; replace f7 := keepc hb f7; replace B := keepb B hb; clear hb
       refine hK.out _ _ ⟨f0, f1, f2, f3, f4, f5, f6, f7⟩ (fun _ => ?_)
       clear hK K
       (try simp only [Act.put, List.setIfInBounds_toArray, List.set_cons_zero, List.set_cons_succ])
       refine anyN_ready (rs := [6, 9]) (by kernel_rfl) (by simp) (AllN.cons (o := ?o41) ?hi41 (fun K hK => ?step41) (AllN.cons (o := ?o42) ?hi42 (fun K hK => ?step42) AllN.nil))
       case hi41 => (simp only [List.getElem?_toArray, List.getElem?_cons_zero, List.getElem?_cons_succ]; (first | done | with_reducible rfl))
       case hi42 => (simp only [List.getElem?_toArray, List.getElem?_cons_zero, List.getElem?_cons_succ]; (first | done | with_reducible rfl))
       case step41 =>
        go_simp
        (go_at_call 20; (with_reducible refine (cutR_any _ _ _ _ _ _).mono ?_); rintro e w41 ⟨rfl, hb⟩; replace g8 := keepf hb f8 g8; replace g9 := keepf hb f9 g9; replace g10 := keepf hb f10 g10; replace g11 := keepf hb f11 g11; replace f0 := keepc hb f0; replace f1 := keepc hb f1; replace f2 := keepc hb f2; replace f3 := keepc hb f3; replace f4 := keepc hb f4; replace f5 := keepc hb f5; replace f6 := keepc hb f6; replace f7 := keepc hb f7; replace f8 := keepc hb f8; replace f9 := keepc hb f9; replace f10 := keepc hb f10; replace f11 := keepc hb f11; replace B := keepb B hb; clear hb)
        refine hK.out _ _ ⟨f0, f1, f2, f3, f4, f5, f6, f7⟩ (fun _ => ?_)
        clear hK K
        (try simp only [Act.put, List.setIfInBounds_toArray, List.set_cons_zero, List.set_cons_succ])
        simp only [es0, es1, es2, es3]
        refine anyN_ready (rs := [7, 9]) (by kernel_rfl) (by simp) (AllN.cons (o := ?o43) ?hi43 (fun K hK => ?step43) (AllN.cons (o := ?o44) ?hi44 (fun K hK => ?step44) AllN.nil))
        case hi43 => (simp only [List.getElem?_toArray, List.getElem?_cons_zero, List.getElem?_cons_succ]; (first | done | with_reducible rfl))
        case hi44 => (simp only [List.getElem?_toArray, List.getElem?_cons_zero, List.getElem?_cons_succ]; (first | done | with_reducible rfl))
        case step43 =>
         go_simp
         (go_at_call 22; (with_reducible refine (rect_any _ _ _ _ _).mono ?_); rintro e w43 ⟨rfl, hb⟩; replace g8 := keepf hb f8 g8; replace g9 := keepf hb f9 g9; replace g10 := keepf hb f10 g10; replace g11 := keepf hb f11 g11; replace f0 := keepc hb f0; replace f1 := keepc hb f1; replace f2 := keepc hb f2; replace f3 := keepc hb f3; replace f4 := keepc hb f4; replace f5 := keepc hb f5; replace f6 := keepc hb f6; replace f7 := keepc hb f7; replace f8 := keepc hb f8; replace f9 := keepc hb f9; replace f10 := keepc hb f10; replace f11 := keepc hb f11; replace B := keepb B hb; clear hb)
         refine hK.out _ _ ⟨f0, f1, f2, f3, f4, f5, f6, f7⟩ (fun _ => ?_)
         clear hK K
         (try simp only [Act.put, List.setIfInBounds_toArray, List.set_cons_zero, List.set_cons_succ])
         refine anyN_ready (rs := [9]) (by kernel_rfl) (by simp) (AllN.cons (o := ?o45) ?hi45 (fun K hK => ?step45) AllN.nil)
         case hi45 => (simp only [List.getElem?_toArray, List.getElem?_cons_zero, List.getElem?_cons_succ]; (first | done | with_reducible rfl))
         case step45 =>
          go_simp
          have m45 : w.heap.size + 1 < w43.heap.size := World.block_lt_of_cell? w43 _ f7
          have p45 : w8.heap.size < w43.heap.size := World.block_lt_of_cell? w43 _ f8
          refine namedA (K := K) (fun w45 hb f12 f13 f14 f15 g12 g13 g14 g15 => ?_)
          replace g8 := keepf hb f8 g8; replace g9 := keepf hb f9 g9; replace g10 := keepf hb f10 g10; replace g11 := keepf hb f11 g11; replace f0 := keepc hb f0; replace f1 := keepc hb f1; replace f2 := keepc hb f2; replace f3 := keepc hb f3; replace f4 := keepc hb f4; replace f5 := keepc hb f5; replace f6 := keepc hb f6; replace f7 := keepc hb f7; replace f8 := keepc hb f8; replace f9 := keepc hb f9; replace f10 := keepc hb f10; replace f11 := keepc hb f11; replace B := keepb B hb; clear hb
          refine hK.out _ _ ⟨f0, f1, f2, f3, f4, f5, f6, f7⟩ (fun _ => ?_)
          clear hK K
          (try simp only [Act.put, List.setIfInBounds_toArray, List.set_cons_zero, List.set_cons_succ])
          refine anyN_ready (rs := [10]) (by kernel_rfl) (by simp) ?_
          refine AllN.last (o := ?o46) ?hi46 (by simp) (fun K hK => ?step46) AllN.nil
          case hi46 => (simp only [List.getElem?_toArray, List.getElem?_cons_zero, List.getElem?_cons_succ]; (first | done | with_reducible rfl))
          go_simp
          have n0 : w8.heap.size ≠ w.heap.size := by clear B; omega
          have n1 : w8.heap.size ≠ w.heap.size + 1 := by clear B; omega
          have n2 : w8.heap.size ≠ w43.heap.size := by clear B; omega
          have nb : w.heap.size ≤ w8.heap.size := by clear B; omega
          refine namedS (K := K) f8 f9 f10 f11 (fun y46 hf z0 z1 z2 z3 => ?_)
          replace f0 := hf.cell f0 n0; replace f1 := hf.cell f1 n0; replace f2 := hf.cell f2 n0; replace f3 := hf.cell f3 n0; replace f4 := hf.cell f4 n1; replace f5 := hf.cell f5 n1; replace f6 := hf.cell f6 n1; replace f7 := hf.cell f7 n1; replace f8 := z0; replace f9 := z1; replace f10 := z2; replace f11 := z3; replace f12 := hf.cell f12 n2; replace f13 := hf.cell f13 n2; replace f14 := hf.cell f14 n2; replace f15 := hf.cell f15 n2; replace g12 := hf.frozen g12; replace g13 := hf.frozen g13; replace g14 := hf.frozen g14; replace g15 := hf.frozen g15; replace B := hf.below B nb; clear hf z0 z1 z2 z3 nb n0 n1 n2
          refine hK.out _ _ ?_
          clear hK K
          (try simp only [Act.put, List.setIfInBounds_toArray, List.set_cons_zero, List.set_cons_succ])
          refine anyN_ready (rs := [11]) (by kernel_rfl) (by simp) ?_
          refine AllN.last (o := ?o47) ?hi47 (by simp) (fun K hK => ?step47) AllN.nil
          case hi47 => (simp only [List.getElem?_toArray, List.getElem?_cons_zero, List.getElem?_cons_succ]; (first | done | with_reducible rfl))
          go_simp
          have n0 : w43.heap.size ≠ w.heap.size := by clear B; omega
          have n1 : w43.heap.size ≠ w.heap.size + 1 := by clear B; omega
          have n2 : w43.heap.size ≠ w8.heap.size := by clear B; omega
          have nb : w.heap.size ≤ w43.heap.size := by clear B; omega
          refine namedS (K := K) f12 f13 f14 f15 (fun y47 hf z0 z1 z2 z3 => ?_)
          replace f0 := hf.cell f0 n0; replace f1 := hf.cell f1 n0; replace f2 := hf.cell f2 n0; replace f3 := hf.cell f3 n0; replace f4 := hf.cell f4 n1; replace f5 := hf.cell f5 n1; replace f6 := hf.cell f6 n1; replace f7 := hf.cell f7 n1; replace f8 := hf.cell f8 n2; replace f9 := hf.cell f9 n2; replace f10 := hf.cell f10 n2; replace f11 := hf.cell f11 n2; replace f12 := z0; replace f13 := z1; replace f14 := z2; replace f15 := z3; replace B := hf.below B nb; clear hf z0 z1 z2 z3 nb n0 n1 n2
          refine hK.out _ _ ?_
          clear hK K
          (try simp only [Act.put, List.setIfInBounds_toArray, List.set_cons_zero, List.set_cons_succ])
          refine anyN_done (by kernel_rfl) ?_ _
          exact then_normal ⟨w8.heap.size, w43.heap.size, rfl, B, f0, f1, f2, f3, f4, f5, f6, f7, f8, f9, f10, f11, f12, f13, f14, f15⟩
        case step44 =>
         go_simp
         have m44 : w.heap.size + 1 < w41.heap.size := World.block_lt_of_cell? w41 _ f7
         have p44 : w8.heap.size < w41.heap.size := World.block_lt_of_cell? w41 _ f8
         refine namedA (K := K) (fun w44 hb f12 f13 f14 f15 g12 g13 g14 g15 => ?_)
         replace g8 := keepf hb f8 g8; replace g9 := keepf hb f9 g9; replace g10 := keepf hb f10 g10; replace g11 := keepf hb f11 g11; replace f0 := keepc hb f0; replace f1 := keepc hb f1; replace f2 := keepc hb f2; replace f3 := keepc hb f3; replace f4 := keepc hb f4; replace f5 := keepc hb f5; replace f6 := keepc hb f6; replace f7 := keepc hb f7; replace f8 := keepc hb f8; replace f9 := keepc hb f9; replace f10 := keepc hb f10; replace f11 := keepc hb f11; replace B := keepb B hb; clear hb
         refine hK.out _ _ ⟨f0, f1, f2, f3, f4, f5, f6, f7⟩ (fun _ => ?_)
         clear hK K
         (try simp only [Act.put, List.setIfInBounds_toArray, List.set_cons_zero, List.set_cons_succ])
         refine anyN_ready (rs := [7]) (by kernel_rfl) (by simp) (AllN.cons (o := ?o48) ?hi48 (fun K hK => ?step48) AllN.nil)
         case hi48 => (simp only [List.getElem?_toArray, List.getElem?_cons_zero, List.getElem?_cons_succ]; (first | done | with_reducible rfl))
         case step48 =>
          go_simp
          (go_at_call 22; (with_reducible refine (rect_any _ _ _ _ _).mono ?_); rintro e w48 ⟨rfl, hb⟩; replace g8 := keepf hb f8 g8; replace g9 := keepf hb f9 g9; replace g10 := keepf hb f10 g10; replace g11 := keepf hb f11 g11; replace g12 := keepf hb f12 g12; replace g13 := keepf hb f13 g13; replace g14 := keepf hb f14 g14; replace g15 := keepf hb f15 g15; replace f0 := keepc hb f0; replace f1 := keepc hb f1; replace f2 := keepc hb f2; replace f3 := keepc hb f3; replace f4 := keepc hb f4; replace f5 := keepc hb f5; replace f6 := keepc hb f6; replace f7 := keepc hb f7; replace f8 := keepc hb f8; replace f9 := keepc hb f9; replace f10 := keepc hb f10; replace f11 := keepc hb f11; replace f12 := keepc hb f12; replace f13 := keepc hb f13; replace f14 := keepc hb f14; replace f15 := keepc hb f15; replace B := keepb B hb; clear hb)
          refine hK.out _ _ ⟨f0, f1, f2, f3, f4, f5, f6, f7⟩ (fun _ => ?_)
          clear hK K
          (try simp only [Act.put, List.setIfInBounds_toArray, List.set_cons_zero, List.set_cons_succ])
          refine anyN_ready (rs := [10]) (by kernel_rfl) (by simp) ?_
          refine AllN.last (o := ?o49) ?hi49 (by simp) (fun K hK => ?step49) AllN.nil
          case hi49 => (simp only [List.getElem?_toArray, List.getElem?_cons_zero, List.getElem?_cons_succ]; (first | done | with_reducible rfl))
          go_simp
          have n0 : w8.heap.size ≠ w.heap.size := by clear B; omega
          have n1 : w8.heap.size ≠ w.heap.size + 1 := by clear B; omega
          have n2 : w8.heap.size ≠ w41.heap.size := by clear B; omega
          have nb : w.heap.size ≤ w8.heap.size := by clear B; omega
          refine namedS (K := K) f8 f9 f10 f11 (fun y49 hf z0 z1 z2 z3 => ?_)
          replace f0 := hf.cell f0 n0; replace f1 := hf.cell f1 n0; replace f2 := hf.cell f2 n0; replace f3 := hf.cell f3 n0; replace f4 := hf.cell f4 n1; replace f5 := hf.cell f5 n1; replace f6 := hf.cell f6 n1; replace f7 := hf.cell f7 n1; replace f8 := z0; replace f9 := z1; replace f10 := z2; replace f11 := z3; replace f12 := hf.cell f12 n2; replace f13 := hf.cell f13 n2; replace f14 := hf.cell f14 n2; replace f15 := hf.cell f15 n2; replace g12 := hf.frozen g12; replace g13 := hf.frozen g13; replace g14 := hf.frozen g14; replace g15 := hf.frozen g15; replace B := hf.below B nb; clear hf z0 z1 z2 z3 nb n0 n1 n2
          refine hK.out _ _ ?_
          clear hK K
          (try simp only [Act.put, List.setIfInBounds_toArray, List.set_cons_zero, List.set_cons_succ])
          refine anyN_ready (rs := [11]) (by kernel_rfl) (by simp) ?_
          refine AllN.last (o := ?o50) ?hi50 (by simp) (fun K hK => ?step50) AllN.nil
          case hi50 => (simp only [List.getElem?_toArray, List.getElem?_cons_zero, List.getElem?_cons_succ]; (first | done | with_reducible rfl))
          go_simp
          have n0 : w41.heap.size ≠ w.heap.size := by clear B; omega
          have n1 : w41.heap.size ≠ w.heap.size + 1 := by clear B; omega
          have n2 : w41.heap.size ≠ w8.heap.size := by clear B; omega
          have nb : w.heap.size ≤ w41.heap.size := by clear B; omega
          refine namedS (K := K) f12 f13 f14 f15 (fun y50 hf z0 z1 z2 z3 => ?_)
          replace f0 := hf.cell f0 n0; replace f1 := hf.cell f1 n0; replace f2 := hf.cell f2 n0; replace f3 := hf.cell f3 n0; replace f4 := hf.cell f4 n1; replace f5 := hf.cell f5 n1; replace f6 := hf.cell f6 n1; replace f7 := hf.cell f7 n1; replace f8 := hf.cell f8 n2; replace f9 := hf.cell f9 n2; replace f10 := hf.cell f10 n2; replace f11 := hf.cell f11 n2; replace f12 := z0; replace f13 := z1; replace f14 := z2; replace f15 := z3; replace B := hf.below B nb; clear hf z0 z1 z2 z3 nb n0 n1 n2
          refine hK.out _ _ ?_
          clear hK K
          (try simp only [Act.put, List.setIfInBounds_toArray, List.set_cons_zero, List.set_cons_succ])
          refine anyN_done (by kernel_rfl) ?_ _
          exact then_normal ⟨w8.heap.size, w41.heap.size, rfl, B, f0, f1, f2, f3, f4, f5, f6, f7, f8, f9, f10, f11, f12, f13, f14, f15⟩
       case step42 =>
        go_simp
        have m42 : w.heap.size + 1 < w12.heap.size := World.block_lt_of_cell? w12 _ f7
        have p42 : w8.heap.size < w12.heap.size := World.block_lt_of_cell? w12 _ f8
        refine namedA (K := K) (fun w42 hb f12 f13 f14 f15 g12 g13 g14 g15 => ?_)
        replace g8 := keepf hb f8 g8; replace g9 := keepf hb f9 g9; replace g10 := keepf hb f10 g10; replace g11 := keepf hb f11 g11; replace f0 := keepc hb f0; replace f1 := keepc hb f1; replace f2 := keepc hb f2; replace f3 := keepc hb f3; replace f4 := keepc hb f4; replace f5 := keepc hb f5; replace f6 := keepc hb f6; replace f7 := keepc hb f7; replace f8 := keepc hb f8; replace f9 := keepc hb f9; replace f10 := keepc hb f10; replace f11 := keepc hb f11; replace B := keepb B hb; clear hb
        refine hK.out _ _ ⟨f0, f1, f2, f3, f4, f5, f6, f7⟩ (fun _ => ?_)
        clear hK K
        (try simp only [Act.put, List.setIfInBounds_toArray, List.set_cons_zero, List.set_cons_succ])
        refine anyN_ready (rs := [6]) (by kernel_rfl) (by simp) (AllN.cons (o := ?o51) ?hi51 (fun K hK => ?step51) AllN.nil)
        case hi51 => (simp only [List.getElem?_toArray, List.getElem?_cons_zero, List.getElem?_cons_succ]; (first | done | with_reducible rfl))
        case step51 =>
         go_simp
         (go_at_call 20; (with_reducible refine (cutR_any _ _ _ _ _ _).mono ?_); rintro e w51 ⟨rfl, hb⟩; replace g8 := keepf hb f8 g8; replace g9 := keepf hb f9 g9; replace g10 := keepf hb f10 g10; replace g11 := keepf hb f11 g11; replace g12 := keepf hb f12 g12; replace g13 := keepf hb f13 g13; replace g14 := keepf hb f14 g14; replace g15 := keepf hb f15 g15; replace f0 := keepc hb f0; replace f1 := keepc hb f1; replace f2 := keepc hb f2; replace f3 := keepc hb f3; replace f4 := keepc hb f4; replace f5 := keepc hb f5; replace f6 := keepc hb f6; replace f7 := keepc hb f7; replace f8 := keepc hb f8; replace f9 := keepc hb f9; replace f10 := keepc hb f10; replace f11 := keepc hb f11; replace f12 := keepc hb f12; replace f13 := keepc hb f13; replace f14 := keepc hb f14; replace f15 := keepc hb f15; replace B := keepb B hb; clear hb)
         refine hK.out _ _ ⟨f0, f1, f2, f3, f4, f5, f6, f7⟩ (fun _ => ?_)
         clear hK K
         (try simp only [Act.put, List.setIfInBounds_toArray, List.set_cons_zero, List.set_cons_succ])
         simp only [es0, es1, es2, es3]
         refine anyN_ready (rs := [7]) (by kernel_rfl) (by simp) (AllN.cons (o := ?o52) ?hi52 (fun K hK => ?step52) AllN.nil)
         case hi52 => (simp only [List.getElem?_toArray, List.getElem?_cons_zero, List.getElem?_cons_succ]; (first | done | with_reducible rfl))
         case step52 =>
          go_simp
          (go_at_call 22; (with_reducible refine (rect_any _ _ _ _ _).mono ?_); rintro e w52 ⟨rfl, hb⟩; replace g8 := keepf hb f8 g8; replace g9 := keepf hb f9 g9; replace g10 := keepf hb f10 g10; replace g11 := keepf hb f11 g11; replace g12 := keepf hb f12 g12; replace g13 := keepf hb f13 g13; replace g14 := keepf hb f14 g14; replace g15 := keepf hb f15 g15; replace f0 := keepc hb f0; replace f1 := keepc hb f1; replace f2 := keepc hb f2; replace f3 := keepc hb f3; replace f4 := keepc hb f4; replace f5 := keepc hb f5; replace f6 := keepc hb f6; replace f7 := keepc hb f7; replace f8 := keepc hb f8; replace f9 := keepc hb f9; replace f10 := keepc hb f10; replace f11 := keepc hb f11; replace f12 := keepc hb f12; replace f13 := keepc hb f13; replace f14 := keepc hb f14; replace f15 := keepc hb f15; replace B := keepb B hb; clear hb)
          refine hK.out _ _ ⟨f0, f1, f2, f3, f4, f5, f6, f7⟩ (fun _ => ?_)
          clear hK K
          (try simp only [Act.put, List.setIfInBounds_toArray, List.set_cons_zero, List.set_cons_succ])
          refine anyN_ready (rs := [10]) (by kernel_rfl) (by simp) ?_
          refine AllN.last (o := ?o53) ?hi53 (by simp) (fun K hK => ?step53) AllN.nil
          case hi53 => (simp only [List.getElem?_toArray, List.getElem?_cons_zero, List.getElem?_cons_succ]; (first | done | with_reducible rfl))
          go_simp
          have n0 : w8.heap.size ≠ w.heap.size := by clear B; omega
          have n1 : w8.heap.size ≠ w.heap.size + 1 := by clear B; omega
          have n2 : w8.heap.size ≠ w12.heap.size := by clear B; omega
          have nb : w.heap.size ≤ w8.heap.size := by clear B; omega
          refine namedS (K := K) f8 f9 f10 f11 (fun y53 hf z0 z1 z2 z3 => ?_)
          replace f0 := hf.cell f0 n0; replace f1 := hf.cell f1 n0; replace f2 := hf.cell f2 n0; replace f3 := hf.cell f3 n0; replace f4 := hf.cell f4 n1; replace f5 := hf.cell f5 n1; replace f6 := hf.cell f6 n1; replace f7 := hf.cell f7 n1; replace f8 := z0; replace f9 := z1; replace f10 := z2; replace f11 := z3; replace f12 := hf.cell f12 n2; replace f13 := hf.cell f13 n2; replace f14 := hf.cell f14 n2; replace f15 := hf.cell f15 n2; replace g12 := hf.frozen g12; replace g13 := hf.frozen g13; replace g14 := hf.frozen g14; replace g15 := hf.frozen g15; replace B := hf.below B nb; clear hf z0 z1 z2 z3 nb n0 n1 n2
          refine hK.out _ _ ?_
          clear hK K
          (try simp only [Act.put, List.setIfInBounds_toArray, List.set_cons_zero, List.set_cons_succ])
          refine anyN_ready (rs := [11]) (by kernel_rfl) (by simp) ?_
          refine AllN.last (o := ?o54) ?hi54 (by simp) (fun K hK => ?step54) AllN.nil
          case hi54 => (simp only [List.getElem?_toArray, List.getElem?_cons_zero, List.getElem?_cons_succ]; (first | done | with_reducible rfl))
          go_simp
          have n0 : w12.heap.size ≠ w.heap.size := by clear B; omega
          have n1 : w12.heap.size ≠ w.heap.size + 1 := by clear B; omega
          have n2 : w12.heap.size ≠ w8.heap.size := by clear B; omega
          have nb : w.heap.size ≤ w12.heap.size := by clear B; omega
          refine namedS (K := K) f12 f13 f14 f15 (fun y54 hf z0 z1 z2 z3 => ?_)
          replace f0 := hf.cell f0 n0; replace f1 := hf.cell f1 n0; replace f2 := hf.cell f2 n0; replace f3 := hf.cell f3 n0; replace f4 := hf.cell f4 n1; replace f5 := hf.cell f5 n1; replace f6 := hf.cell f6 n1; replace f7 := hf.cell f7 n1; replace f8 := hf.cell f8 n2; replace f9 := hf.cell f9 n2; replace f10 := hf.cell f10 n2; replace f11 := hf.cell f11 n2; replace f12 := z0; replace f13 := z1; replace f14 := z2; replace f15 := z3; replace B := hf.below B nb; clear hf z0 z1 z2 z3 nb n0 n1 n2
          refine hK.out _ _ ?_
          clear hK K
          (try simp only [Act.put, List.setIfInBounds_toArray, List.set_cons_zero, List.set_cons_succ])
          refine anyN_done (by kernel_rfl) ?_ _
          exact then_normal ⟨w8.heap.size, w12.heap.size, rfl, B, f0, f1, f2, f3, f4, f5, f6, f7, f8, f9, f10, f11, f12, f13, f14, f15⟩
      case step13 =>
       go_simp
       have m13 : w.heap.size + 1 < w8.heap.size := World.block_lt_of_cell? w8 _ f7
       refine namedA (K := K) (fun w13 hb f8 f9 f10 f11 g8 g9 g10 g11 => ?_)
       replace f0 := keepc hb f0; replace f1 := keepc hb f1; replace f2 := keepc hb f2; replace f3 := keepc hb f3; replace f4 := keepc hb f4; replace f5 := keepc hb f5; replace f6 := keepc hb f6; replace f7 := keepc hb f7; replace B := keepb B hb; clear hb
       refine hK.out _ _ ⟨f0, f1, f2, f3, f4, f5, f6, f7⟩ (fun _ => ?_)
       clear hK K
       (try simp only [Act.put, List.setIfInBounds_toArray, List.set_cons_zero, List.set_cons_succ])
       refine anyN_ready (rs := [6, 8]) (by kernel_rfl) (by simp) (AllN.cons (o := ?o55) ?hi55 (fun K hK => ?step55) (AllN.cons (o := ?o56) ?hi56 (fun K hK => ?step56) AllN.nil))
       case hi55 => (simp only [List.getElem?_toArray, List.getElem?_cons_zero, List.getElem?_cons_succ]; (first | done | with_reducible rfl))
       case hi56 => (simp only [List.getElem?_toArray, List.getElem?_cons_zero, List.getElem?_cons_succ]; (first | done | with_reducible rfl))
       case step55 =>
        go_simp
        (go_at_call 20; (with_reducible refine (cutR_any _ _ _ _ _ _).mono ?_); rintro e w55 ⟨rfl, hb⟩; replace g8 := keepf hb f8 g8; replace g9 := keepf hb f9 g9; replace g10 := keepf hb f10 g10; replace g11 := keepf hb f11 g11; replace f0 := keepc hb f0; replace f1 := keepc hb f1; replace f2 := keepc hb f2; replace f3 := keepc hb f3; replace f4 := keepc hb f4; replace f5 := keepc hb f5; replace f6 := keepc hb f6; replace f7 := keepc hb f7; replace f8 := keepc hb f8; replace f9 := keepc hb f9; replace f10 := keepc hb f10; replace f11 := keepc hb f11; replace B := keepb B hb; clear hb)
        refine hK.out _ _ ⟨f0, f1, f2, f3, f4, f5, f6, f7⟩ (fun _ => ?_)
        clear hK K
        (try simp only [Act.put, List.setIfInBounds_toArray, List.set_cons_zero, List.set_cons_succ])
        simp only [es0, es1, es2, es3]
        refine anyN_ready (rs := [7, 8]) (by kernel_rfl) (by simp) (AllN.cons (o := ?o57) ?hi57 (fun K hK => ?step57) (AllN.cons (o := ?o58) ?hi58 (fun K hK => ?step58) AllN.nil))
        case hi57 => (simp only [List.getElem?_toArray, List.getElem?_cons_zero, List.getElem?_cons_succ]; (first | done | with_reducible rfl))
        case hi58 => (simp only [List.getElem?_toArray, List.getElem?_cons_zero, List.getElem?_cons_succ]; (first | done | with_reducible rfl))
        case step57 =>
         go_simp
         (go_at_call 22; (with_reducible refine (rect_any _ _ _ _ _).mono ?_); rintro e w57 ⟨rfl, hb⟩; replace g8 := keepf hb f8 g8; replace g9 := keepf hb f9 g9; replace g10 := keepf hb f10 g10; replace g11 := keepf hb f11 g11; replace f0 := keepc hb f0; replace f1 := keepc hb f1; replace f2 := keepc hb f2; replace f3 := keepc hb f3; replace f4 := keepc hb f4; replace f5 := keepc hb f5; replace f6 := keepc hb f6; replace f7 := keepc hb f7; replace f8 := keepc hb f8; replace f9 := keepc hb f9; replace f10 := keepc hb f10; replace f11 := keepc hb f11; replace B := keepb B hb; clear hb)
         refine hK.out _ _ ⟨f0, f1, f2, f3, f4, f5, f6, f7⟩ (fun _ => ?_)
         clear hK K
         (try simp only [Act.put, List.setIfInBounds_toArray, List.set_cons_zero, List.set_cons_succ])
         refine anyN_ready (rs := [8]) (by kernel_rfl) (by simp) (AllN.cons (o := ?o59) ?hi59 (fun K hK => ?step59) AllN.nil)
         case hi59 => (simp only [List.getElem?_toArray, List.getElem?_cons_zero, List.getElem?_cons_succ]; (first | done | with_reducible rfl))
         case step59 =>
          go_simp
          have m59 : w.heap.size + 1 < w57.heap.size := World.block_lt_of_cell? w57 _ f7
          have p59 : w8.heap.size < w57.heap.size := World.block_lt_of_cell? w57 _ f8
          refine namedA (K := K) (fun w59 hb f12 f13 f14 f15 g12 g13 g14 g15 => ?_)
          replace g8 := keepf hb f8 g8; replace g9 := keepf hb f9 g9; replace g10 := keepf hb f10 g10; replace g11 := keepf hb f11 g11; replace f0 := keepc hb f0; replace f1 := keepc hb f1; replace f2 := keepc hb f2; replace f3 := keepc hb f3; replace f4 := keepc hb f4; replace f5 := keepc hb f5; replace f6 := keepc hb f6; replace f7 := keepc hb f7; replace f8 := keepc hb f8; replace f9 := keepc hb f9; replace f10 := keepc hb f10; replace f11 := keepc hb f11; replace B := keepb B hb; clear hb
          refine hK.out _ _ ⟨f0, f1, f2, f3, f4, f5, f6, f7⟩ (fun _ => ?_)
          clear hK K
          (try simp only [Act.put, List.setIfInBounds_toArray, List.set_cons_zero, List.set_cons_succ])
          refine anyN_ready (rs := [10]) (by kernel_rfl) (by simp) ?_
          refine AllN.last (o := ?o60) ?hi60 (by simp) (fun K hK => ?step60) AllN.nil
          case hi60 => (simp only [List.getElem?_toArray, List.getElem?_cons_zero, List.getElem?_cons_succ]; (first | done | with_reducible rfl))
          go_simp
          have n0 : w57.heap.size ≠ w.heap.size := by clear B; omega
          have n1 : w57.heap.size ≠ w.heap.size + 1 := by clear B; omega
          have n2 : w57.heap.size ≠ w8.heap.size := by clear B; omega
          have nb : w.heap.size ≤ w57.heap.size := by clear B; omega
          refine namedS (K := K) f12 f13 f14 f15 (fun y60 hf z0 z1 z2 z3 => ?_)
          replace f0 := hf.cell f0 n0; replace f1 := hf.cell f1 n0; replace f2 := hf.cell f2 n0; replace f3 := hf.cell f3 n0; replace f4 := hf.cell f4 n1; replace f5 := hf.cell f5 n1; replace f6 := hf.cell f6 n1; replace f7 := hf.cell f7 n1; replace f8 := hf.cell f8 n2; replace f9 := hf.cell f9 n2; replace f10 := hf.cell f10 n2; replace f11 := hf.cell f11 n2; replace f12 := z0; replace f13 := z1; replace f14 := z2; replace f15 := z3; replace g8 := hf.frozen g8; replace g9 := hf.frozen g9; replace g10 := hf.frozen g10; replace g11 := hf.frozen g11; replace B := hf.below B nb; clear hf z0 z1 z2 z3 nb n0 n1 n2
          refine hK.out _ _ ?_
          clear hK K
          (try simp only [Act.put, List.setIfInBounds_toArray, List.set_cons_zero, List.set_cons_succ])
          refine anyN_ready (rs := [11]) (by kernel_rfl) (by simp) ?_
          refine AllN.last (o := ?o61) ?hi61 (by simp) (fun K hK => ?step61) AllN.nil
          case hi61 => (simp only [List.getElem?_toArray, List.getElem?_cons_zero, List.getElem?_cons_succ]; (first | done | with_reducible rfl))
          go_simp
          have n0 : w8.heap.size ≠ w.heap.size := by clear B; omega
          have n1 : w8.heap.size ≠ w.heap.size + 1 := by clear B; omega
          have n2 : w8.heap.size ≠ w57.heap.size := by clear B; omega
          have nb : w.heap.size ≤ w8.heap.size := by clear B; omega
          refine namedS (K := K) f8 f9 f10 f11 (fun y61 hf z0 z1 z2 z3 => ?_)
          replace f0 := hf.cell f0 n0; replace f1 := hf.cell f1 n0; replace f2 := hf.cell f2 n0; replace f3 := hf.cell f3 n0; replace f4 := hf.cell f4 n1; replace f5 := hf.cell f5 n1; replace f6 := hf.cell f6 n1; replace f7 := hf.cell f7 n1; replace f8 := z0; replace f9 := z1; replace f10 := z2; replace f11 := z3; replace f12 := hf.cell f12 n2; replace f13 := hf.cell f13 n2; replace f14 := hf.cell f14 n2; replace f15 := hf.cell f15 n2; replace B := hf.below B nb; clear hf z0 z1 z2 z3 nb n0 n1 n2
          refine hK.out _ _ ?_
          clear hK K
          (try simp only [Act.put, List.setIfInBounds_toArray, List.set_cons_zero, List.set_cons_succ])
          refine anyN_done (by kernel_rfl) ?_ _
          exact then_normal ⟨w57.heap.size, w8.heap.size, rfl, B, f0, f1, f2, f3, f4, f5, f6, f7, f12, f13, f14, f15, f8, f9, f10, f11⟩
        case step58 =>
         go_simp
         have m58 : w.heap.size + 1 < w55.heap.size := World.block_lt_of_cell? w55 _ f7
         have p58 : w8.heap.size < w55.heap.size := World.block_lt_of_cell? w55 _ f8
         refine namedA (K := K) (fun w58 hb f12 f13 f14 f15 g12 g13 g14 g15 => ?_)
         replace g8 := keepf hb f8 g8; replace g9 := keepf hb f9 g9; replace g10 := keepf hb f10 g10; replace g11 := keepf hb f11 g11; replace f0 := keepc hb f0; replace f1 := keepc hb f1; replace f2 := keepc hb f2; replace f3 := keepc hb f3; replace f4 := keepc hb f4; replace f5 := keepc hb f5; replace f6 := keepc hb f6; replace f7 := keepc hb f7; replace f8 := keepc hb f8; replace f9 := keepc hb f9; replace f10 := keepc hb f10; replace f11 := keepc hb f11; replace B := keepb B hb; clear hb
         refine hK.out _ _ ⟨f0, f1, f2, f3, f4, f5, f6, f7⟩ (fun _ => ?_)
         clear hK K
         (try simp only [Act.put, List.setIfInBounds_toArray, List.set_cons_zero, List.set_cons_succ])
         refine anyN_ready (rs := [7]) (by kernel_rfl) (by simp) (AllN.cons (o := ?o62) ?hi62 (fun K hK => ?step62) AllN.nil)
         case hi62 => (simp only [List.getElem?_toArray, List.getElem?_cons_zero, List.getElem?_cons_succ]; (first | done | with_reducible rfl))
         case step62 =>
          go_simp
          (go_at_call 22; (with_reducible refine (rect_any _ _ _ _ _).mono ?_); rintro e w62 ⟨rfl, hb⟩; replace g8 := keepf hb f8 g8; replace g9 := keepf hb f9 g9; replace g10 := keepf hb f10 g10; replace g11 := keepf hb f11 g11; replace g12 := keepf hb f12 g12; replace g13 := keepf hb f13 g13; replace g14 := keepf hb f14 g14; replace g15 := keepf hb f15 g15; replace f0 := keepc hb f0; replace f1 := keepc hb f1; replace f2 := keepc hb f2; replace f3 := keepc hb f3; replace f4 := keepc hb f4; replace f5 := keepc hb f5; replace f6 := keepc hb f6; replace f7 := keepc hb f7; replace f8 := keepc hb f8; replace f9 := keepc hb f9; replace f10 := keepc hb f10; replace f11 := keepc hb f11; replace f12 := keepc hb f12; replace f13 := keepc hb f13; replace f14 := keepc hb f14; replace f15 := keepc hb f15; replace B := keepb B hb; clear hb)
          refine hK.out _ _ ⟨f0, f1, f2, f3, f4, f5, f6, f7⟩ (fun _ => ?_)
          clear hK K
          (try simp only [Act.put, List.setIfInBounds_toArray, List.set_cons_zero, List.set_cons_succ])
          refine anyN_ready (rs := [10]) (by kernel_rfl) (by simp) ?_
          refine AllN.last (o := ?o63) ?hi63 (by simp) (fun K hK => ?step63) AllN.nil
          case hi63 => (simp only [List.getElem?_toArray, List.getElem?_cons_zero, List.getElem?_cons_succ]; (first | done | with_reducible rfl))
          go_simp
          have n0 : w55.heap.size ≠ w.heap.size := by clear B; omega
          have n1 : w55.heap.size ≠ w.heap.size + 1 := by clear B; omega
          have n2 : w55.heap.size ≠ w8.heap.size := by clear B; omega
          have nb : w.heap.size ≤ w55.heap.size := by clear B; omega
          refine namedS (K := K) f12 f13 f14 f15 (fun y63 hf z0 z1 z2 z3 => ?_)
          replace f0 := hf.cell f0 n0; replace f1 := hf.cell f1 n0; replace f2 := hf.cell f2 n0; replace f3 := hf.cell f3 n0; replace f4 := hf.cell f4 n1; replace f5 := hf.cell f5 n1; replace f6 := hf.cell f6 n1; replace f7 := hf.cell f7 n1; replace f8 := hf.cell f8 n2; replace f9 := hf.cell f9 n2; replace f10 := hf.cell f10 n2; replace f11 := hf.cell f11 n2; replace f12 := z0; replace f13 := z1; replace f14 := z2; replace f15 := z3; replace g8 := hf.frozen g8; replace g9 := hf.frozen g9; replace g10 := hf.frozen g10; replace g11 := hf.frozen g11; replace B := hf.below B nb; clear hf z0 z1 z2 z3 nb n0 n1 n2
          refine hK.out _ _ ?_
          clear hK K
          (try simp only [Act.put, List.setIfInBounds_toArray, List.set_cons_zero, List.set_cons_succ])
          refine anyN_ready (rs := [11]) (by kernel_rfl) (by simp) ?_
          refine AllN.last (o := ?o64) ?hi64 (by simp) (fun K hK => ?step64) AllN.nil
          case hi64 => (simp only [List.getElem?_toArray, List.getElem?_cons_zero, List.getElem?_cons_succ]; (first | done | with_reducible rfl))
          go_simp
          have n0 : w8.heap.size ≠ w.heap.size := by clear B; omega
          have n1 : w8.heap.size ≠ w.heap.size + 1 := by clear B; omega
          have n2 : w8.heap.size ≠ w55.heap.size := by clear B; omega
          have nb : w.heap.size ≤ w8.heap.size := by clear B; omega
          refine namedS (K := K) f8 f9 f10 f11 (fun y64 hf z0 z1 z2 z3 => ?_)
          replace f0 := hf.cell f0 n0; replace f1 := hf.cell f1 n0; replace f2 := hf.cell f2 n0; replace f3 := hf.cell f3 n0; replace f4 := hf.cell f4 n1; replace f5 := hf.cell f5 n1; replace f6 := hf.cell f6 n1; replace f7 := hf.cell f7 n1; replace f8 := z0; replace f9 := z1; replace f10 := z2; replace f11 := z3; replace f12 := hf.cell f12 n2; replace f13 := hf.cell f13 n2; replace f14 := hf.cell f14 n2; replace f15 := hf.cell f15 n2; replace B := hf.below B nb; clear hf z0 z1 z2 z3 nb n0 n1 n2
          refine hK.out _ _ ?_
          clear hK K
          (try simp only [Act.put, List.setIfInBounds_toArray, List.set_cons_zero, List.set_cons_succ])
          refine anyN_done (by kernel_rfl) ?_ _
          exact then_normal ⟨w55.heap.size, w8.heap.size, rfl, B, f0, f1, f2, f3, f4, f5, f6, f7, f12, f13, f14, f15, f8, f9, f10, f11⟩
       case step56 =>
        go_simp
        have m56 : w.heap.size + 1 < w13.heap.size := World.block_lt_of_cell? w13 _ f7
        have p56 : w8.heap.size < w13.heap.size := World.block_lt_of_cell? w13 _ f8
        refine namedA (K := K) (fun w56 hb f12 f13 f14 f15 g12 g13 g14 g15 => ?_)
        replace g8 := keepf hb f8 g8; replace g9 := keepf hb f9 g9; replace g10 := keepf hb f10 g10; replace g11 := keepf hb f11 g11; replace f0 := keepc hb f0; replace f1 := keepc hb f1; replace f2 := keepc hb f2; replace f3 := keepc hb f3; replace f4 := keepc hb f4; replace f5 := keepc hb f5; replace f6 := keepc hb f6; replace f7 := keepc hb f7; replace f8 := keepc hb f8; replace f9 := keepc hb f9; replace f10 := keepc hb f10; replace f11 := keepc hb f11; replace B := keepb B hb; clear hb
        refine hK.out _ _ ⟨f0, f1, f2, f3, f4, f5, f6, f7⟩ (fun _ => ?_)
        clear hK K
        (try simp only [Act.put, List.setIfInBounds_toArray, List.set_cons_zero, List.set_cons_succ])
        refine anyN_ready (rs := [6]) (by kernel_rfl) (by simp) (AllN.cons (o := ?o65) ?hi65 (fun K hK => ?step65) AllN.nil)
        case hi65 => (simp only [List.getElem?_toArray, List.getElem?_cons_zero, List.getElem?_cons_succ]; (first | done | with_reducible rfl))
        case step65 =>
         go_simp
         (go_at_call 20; (with_reducible refine (cutR_any _ _ _ _ _ _).mono ?_); rintro e w65 ⟨rfl, hb⟩; replace g8 := keepf hb f8 g8; replace g9 := keepf hb f9 g9; replace g10 := keepf hb f10 g10; replace g11 := keepf hb f11 g11; replace g12 := keepf hb f12 g12; replace g13 := keepf hb f13 g13; replace g14 := keepf hb f14 g14; replace g15 := keepf hb f15 g15; replace f0 := keepc hb f0; replace f1 := keepc hb f1; replace f2 := keepc hb f2; replace f3 := keepc hb f3; replace f4 := keepc hb f4; replace f5 := keepc hb f5; replace f6 := keepc hb f6; replace f7 := keepc hb f7; replace f8 := keepc hb f8; replace f9 := keepc hb f9; replace f10 := keepc hb f10; replace f11 := keepc hb f11; replace f12 := keepc hb f12; replace f13 := keepc hb f13; replace f14 := keepc hb f14; replace f15 := keepc hb f15; replace B := keepb B hb; clear hb)
         refine hK.out _ _ ⟨f0, f1, f2, f3, f4, f5, f6, f7⟩ (fun _ => ?_)
         clear hK K
         (try simp only [Act.put, List.setIfInBounds_toArray, List.set_cons_zero, List.set_cons_succ])
         simp only [es0, es1, es2, es3]
         refine anyN_ready (rs := [7]) (by kernel_rfl) (by simp) (AllN.cons (o := ?o66) ?hi66 (fun K hK => ?step66) AllN.nil)
         case hi66 => (simp only [List.getElem?_toArray, List.getElem?_cons_zero, List.getElem?_cons_succ]; (first | done | with_reducible rfl))
         case step66 =>
          go_simp
          (go_at_call 22; (with_reducible refine (rect_any _ _ _ _ _).mono ?_); rintro e w66 ⟨rfl, hb⟩; replace g8 := keepf hb f8 g8; replace g9 := keepf hb f9 g9; replace g10 := keepf hb f10 g10; replace g11 := keepf hb f11 g11; replace g12 := keepf hb f12 g12; replace g13 := keepf hb f13 g13; replace g14 := keepf hb f14 g14; replace g15 := keepf hb f15 g15; replace f0 := keepc hb f0; replace f1 := keepc hb f1; replace f2 := keepc hb f2; replace f3 := keepc hb f3; replace f4 := keepc hb f4; replace f5 := keepc hb f5; replace f6 := keepc hb f6; replace f7 := keepc hb f7; replace f8 := keepc hb f8; replace f9 := keepc hb f9; replace f10 := keepc hb f10; replace f11 := keepc hb f11; replace f12 := keepc hb f12; replace f13 := keepc hb f13; replace f14 := keepc hb f14; replace f15 := keepc hb f15; replace B := keepb B hb; clear hb)
          refine hK.out _ _ ⟨f0, f1, f2, f3, f4, f5, f6, f7⟩ (fun _ => ?_)
          clear hK K
          (try simp only [Act.put, List.setIfInBounds_toArray, List.set_cons_zero, List.set_cons_succ])
          refine anyN_ready (rs := [10]) (by kernel_rfl) (by simp) ?_
          refine AllN.last (o := ?o67) ?hi67 (by simp) (fun K hK => ?step67) AllN.nil
          case hi67 => (simp only [List.getElem?_toArray, List.getElem?_cons_zero, List.getElem?_cons_succ]; (first | done | with_reducible rfl))
          go_simp
          have n0 : w13.heap.size ≠ w.heap.size := by clear B; omega
          have n1 : w13.heap.size ≠ w.heap.size + 1 := by clear B; omega
          have n2 : w13.heap.size ≠ w8.heap.size := by clear B; omega
          have nb : w.heap.size ≤ w13.heap.size := by clear B; omega
          refine namedS (K := K) f12 f13 f14 f15 (fun y67 hf z0 z1 z2 z3 => ?_)
          replace f0 := hf.cell f0 n0; replace f1 := hf.cell f1 n0; replace f2 := hf.cell f2 n0; replace f3 := hf.cell f3 n0; replace f4 := hf.cell f4 n1; replace f5 := hf.cell f5 n1; replace f6 := hf.cell f6 n1; replace f7 := hf.cell f7 n1; replace f8 := hf.cell f8 n2; replace f9 := hf.cell f9 n2; replace f10 := hf.cell f10 n2; replace f11 := hf.cell f11 n2; replace f12 := z0; replace f13 := z1; replace f14 := z2; replace f15 := z3; replace g8 := hf.frozen g8; replace g9 := hf.frozen g9; replace g10 := hf.frozen g10; replace g11 := hf.frozen g11; replace B := hf.below B nb; clear hf z0 z1 z2 z3 nb n0 n1 n2
          refine hK.out _ _ ?_
          clear hK K
          (try simp only [Act.put, List.setIfInBounds_toArray, List.set_cons_zero, List.set_cons_succ])
          refine anyN_ready (rs := [11]) (by kernel_rfl) (by simp) ?_
          refine AllN.last (o := ?o68) ?hi68 (by simp) (fun K hK => ?step68) AllN.nil
          case hi68 => (simp only [List.getElem?_toArray, List.getElem?_cons_zero, List.getElem?_cons_succ]; (first | done | with_reducible rfl))
          go_simp
          have n0 : w8.heap.size ≠ w.heap.size := by clear B; omega
          have n1 : w8.heap.size ≠ w.heap.size + 1 := by clear B; omega
          have n2 : w8.heap.size ≠ w13.heap.size := by clear B; omega
          have nb : w.heap.size ≤ w8.heap.size := by clear B; omega
          refine namedS (K := K) f8 f9 f10 f11 (fun y68 hf z0 z1 z2 z3 => ?_)
          replace f0 := hf.cell f0 n0; replace f1 := hf.cell f1 n0; replace f2 := hf.cell f2 n0; replace f3 := hf.cell f3 n0; replace f4 := hf.cell f4 n1; replace f5 := hf.cell f5 n1; replace f6 := hf.cell f6 n1; replace f7 := hf.cell f7 n1; replace f8 := z0; replace f9 := z1; replace f10 := z2; replace f11 := z3; replace f12 := hf.cell f12 n2; replace f13 := hf.cell f13 n2; replace f14 := hf.cell f14 n2; replace f15 := hf.cell f15 n2; replace B := hf.below B nb; clear hf z0 z1 z2 z3 nb n0 n1 n2
          refine hK.out _ _ ?_
          clear hK K
          (try simp only [Act.put, List.setIfInBounds_toArray, List.set_cons_zero, List.set_cons_succ])
          refine anyN_done (by kernel_rfl) ?_ _
          exact then_normal ⟨w13.heap.size, w8.heap.size, rfl, B, f0, f1, f2, f3, f4, f5, f6, f7, f12, f13, f14, f15, f8, f9, f10, f11⟩
     case step9 =>
      go_simp
      have m9 : w.heap.size + 1 < w5.heap.size := World.block_lt_of_cell? w5 _ f7
      refine namedA (K := K) (fun w9 hb f8 f9 f10 f11 g8 g9 g10 g11 => ?_)
      replace f0 := keepc hb f0; replace f1 := keepc hb f1; replace f2 := keepc hb f2; replace f3 := keepc hb f3; replace f4 := keepc hb f4; replace f5 := keepc hb f5; replace f6 := keepc hb f6; replace f7 := keepc hb f7; replace B := keepb B hb; clear hb
      refine hK.out _ _ ⟨f0, f1, f2, f3, f4, f5, f6, f7⟩ (fun _ => ?_)
      clear hK K
      (try simp only [Act.put, List.setIfInBounds_toArray, List.set_cons_zero, List.set_cons_succ])
      refine anyN_ready (rs := [3, 9]) (by kernel_rfl) (by simp) (AllN.cons (o := ?o69) ?hi69 (fun K hK => ?step69) (AllN.cons (o := ?o70) ?hi70 (fun K hK => ?step70) AllN.nil))
      case hi69 => (simp only [List.getElem?_toArray, List.getElem?_cons_zero, List.getElem?_cons_succ]; (first | done | with_reducible rfl))
      case hi70 => (simp only [List.getElem?_toArray, List.getElem?_cons_zero, List.getElem?_cons_succ]; (first | done | with_reducible rfl))
      case step69 =>
       go_simp
       (go_at_call 22; (with_reducible refine (rect_any _ _ _ _ _).mono ?_); rintro e w69 ⟨rfl, hb⟩; replace g8 := keepf hb f8 g8; replace g9 := keepf hb f9 g9; replace g10 := keepf hb f10 g10; replace g11 := keepf hb f11 g11; replace f0 := keepc hb f0; replace f1 := keepc hb f1; replace f2 := keepc hb f2; replace f3 := keepc hb f3; replace f4 := keepc hb f4; replace f5 := keepc hb f5; replace f6 := keepc hb f6; replace f7 := keepc hb f7; replace f8 := keepc hb f8; replace f9 := keepc hb f9; replace f10 := keepc hb f10; replace f11 := keepc hb f11; replace B := keepb B hb; clear hb)
       refine hK.out _ _ ⟨f0, f1, f2, f3, f4, f5, f6, f7⟩ (fun _ => ?_)
       clear hK K
       (try simp only [Act.put, List.setIfInBounds_toArray, List.set_cons_zero, List.set_cons_succ])
       refine anyN_ready (rs := [6, 9]) (by kernel_rfl) (by simp) (AllN.cons (o := ?o71) ?hi71 (fun K hK => ?step71) (AllN.cons (o := ?o72) ?hi72 (fun K hK => ?step72) AllN.nil))
       case hi71 => (simp only [List.getElem?_toArray, List.getElem?_cons_zero, List.getElem?_cons_succ]; (first | done | with_reducible rfl))
       case hi72 => (simp only [List.getElem?_toArray, List.getElem?_cons_zero, List.getElem?_cons_succ]; (first | done | with_reducible rfl))
       case step71 =>
        go_simp
        (go_at_call 20; (with_reducible refine (cutR_any _ _ _ _ _ _).mono ?_); rintro e w71 ⟨rfl, hb⟩; replace g8 := keepf hb f8 g8; replace g9 := keepf hb f9 g9; replace g10 := keepf hb f10 g10; replace g11 := keepf hb f11 g11; replace f0 := keepc hb f0; replace f1 := keepc hb f1; replace f2 := keepc hb f2; replace f3 := keepc hb f3; replace f4 := keepc hb f4; replace f5 := keepc hb f5; replace f6 := keepc hb f6; replace f7 := keepc hb f7; replace f8 := keepc hb f8; replace f9 := keepc hb f9; replace f10 := keepc hb f10; replace f11 := keepc hb f11; replace B := keepb B hb; clear hb)
        refine hK.out _ _ ⟨f0, f1, f2, f3, f4, f5, f6, f7⟩ (fun _ => ?_)
        clear hK K
        (try simp only [Act.put, List.setIfInBounds_toArray, List.set_cons_zero, List.set_cons_succ])
        simp only [es0, es1, es2, es3]
        refine anyN_ready (rs := [7, 9]) (by kernel_rfl) (by simp) (AllN.cons (o := ?o73) ?hi73 (fun K hK => ?step73) (AllN.cons (o := ?o74) ?hi74 (fun K hK => ?step74) AllN.nil))
        case hi73 => (simp only [List.getElem?_toArray, List.getElem?_cons_zero, List.getElem?_cons_succ]; (first | done | with_reducible rfl))
        case hi74 => (simp only [List.getElem?_toArray, List.getElem?_cons_zero, List.getElem?_cons_succ]; (first | done | with_reducible rfl))
        case step73 =>
         go_simp
         (go_at_call 22; (with_reducible refine (rect_any _ _ _ _ _).mono ?_); rintro e w73 ⟨rfl, hb⟩; replace g8 := keepf hb f8 g8; replace g9 := keepf hb f9 g9; replace g10 := keepf hb f10 g10; replace g11 := keepf hb f11 g11; replace f0 := keepc hb f0; replace f1 := keepc hb f1; replace f2 := keepc hb f2; replace f3 := keepc hb f3; replace f4 := keepc hb f4; replace f5 := keepc hb f5; replace f6 := keepc hb f6; replace f7 := keepc hb f7; replace f8 := keepc hb f8; replace f9 := keepc hb f9; replace f10 := keepc hb f10; replace f11 := keepc hb f11; replace B := keepb B hb; clear hb)
         refine hK.out _ _ ⟨f0, f1, f2, f3, f4, f5, f6, f7⟩ (fun _ => ?_)
         clear hK K
         (try simp only [Act.put, List.setIfInBounds_toArray, List.set_cons_zero, List.set_cons_succ])
         refine anyN_ready (rs := [9]) (by kernel_rfl) (by simp) (AllN.cons (o := ?o75) ?hi75 (fun K hK => ?step75) AllN.nil)
         case hi75 => (simp only [List.getElem?_toArray, List.getElem?_cons_zero, List.getElem?_cons_succ]; (first | done | with_reducible rfl))
         case step75 =>
          go_simp
          have m75 : w.heap.size + 1 < w73.heap.size := World.block_lt_of_cell? w73 _ f7
          have p75 : w5.heap.size < w73.heap.size := World.block_lt_of_cell? w73 _ f8
          refine namedA (K := K) (fun w75 hb f12 f13 f14 f15 g12 g13 g14 g15 => ?_)
          replace g8 := keepf hb f8 g8; replace g9 := keepf hb f9 g9; replace g10 := keepf hb f10 g10; replace g11 := keepf hb f11 g11; replace f0 := keepc hb f0; replace f1 := keepc hb f1; replace f2 := keepc hb f2; replace f3 := keepc hb f3; replace f4 := keepc hb f4; replace f5 := keepc hb f5; replace f6 := keepc hb f6; replace f7 := keepc hb f7; replace f8 := keepc hb f8; replace f9 := keepc hb f9; replace f10 := keepc hb f10; replace f11 := keepc hb f11; replace B := keepb B hb; clear hb
          refine hK.out _ _ ⟨f0, f1, f2, f3, f4, f5, f6, f7⟩ (fun _ => ?_)
          clear hK K
          (try simp only [Act.put, List.setIfInBounds_toArray, List.set_cons_zero, List.set_cons_succ])
          refine anyN_ready (rs := [10]) (by kernel_rfl) (by simp) ?_
          refine AllN.last (o := ?o76) ?hi76 (by simp) (fun K hK => ?step76) AllN.nil
          case hi76 => (simp only [List.getElem?_toArray, List.getElem?_cons_zero, List.getElem?_cons_succ]; (first | done | with_reducible rfl))
          go_simp
          have n0 : w5.heap.size ≠ w.heap.size := by clear B; omega
          have n1 : w5.heap.size ≠ w.heap.size + 1 := by clear B; omega
          have n2 : w5.heap.size ≠ w73.heap.size := by clear B; omega
          have nb : w.heap.size ≤ w5.heap.size := by clear B; omega
          refine namedS (K := K) f8 f9 f10 f11 (fun y76 hf z0 z1 z2 z3 => ?_)
          replace f0 := hf.cell f0 n0; replace f1 := hf.cell f1 n0; replace f2 := hf.cell f2 n0; replace f3 := hf.cell f3 n0; replace f4 := hf.cell f4 n1; replace f5 := hf.cell f5 n1; replace f6 := hf.cell f6 n1; replace f7 := hf.cell f7 n1; replace f8 := z0; replace f9 := z1; replace f10 := z2; replace f11 := z3; replace f12 := hf.cell f12 n2; replace f13 := hf.cell f13 n2; replace f14 := hf.cell f14 n2; replace f15 := hf.cell f15 n2; replace g12 := hf.frozen g12; replace g13 := hf.frozen g13; replace g14 := hf.frozen g14; replace g15 := hf.frozen g15; replace B := hf.below B nb; clear hf z0 z1 z2 z3 nb n0 n1 n2
          refine hK.out _ _ ?_
          clear hK K
          (try simp only [Act.put, List.setIfInBounds_toArray, List.set_cons_zero, List.set_cons_succ])
          refine anyN_ready (rs := [11]) (by kernel_rfl) (by simp) ?_
          refine AllN.last (o := ?o77) ?hi77 (by simp) (fun K hK => ?step77) AllN.nil
          case hi77 => (simp only [List.getElem?_toArray, List.getElem?_cons_zero, List.getElem?_cons_succ]; (first | done | with_reducible rfl))
          go_simp
          have n0 : w73.heap.size ≠ w.heap.size := by clear B; omega
          have n1 : w73.heap.size ≠ w.heap.size + 1 := by clear B; omega
          have n2 : w73.heap.size ≠ w5.heap.size := by clear B; omega
          have nb : w.heap.size ≤ w73.heap.size := by clear B; omega
          refine namedS (K := K) f12 f13 f14 f15 (fun y77 hf z0 z1 z2 z3 => ?_)
          replace f0 := hf.cell f0 n0; replace f1 := hf.cell f1 n0; replace f2 := hf.cell f2 n0; replace f3 := hf.cell f3 n0; replace f4 := hf.cell f4 n1; replace f5 := hf.cell f5 n1; replace f6 := hf.cell f6 n1; replace f7 := hf.cell f7 n1; replace f8 := hf.cell f8 n2; replace f9 := hf.cell f9 n2; replace f10 := hf.cell f10 n2; replace f11 := hf.cell f11 n2; replace f12 := z0; replace f13 := z1; replace f14 := z2; replace f15 := z3; replace B := hf.below B nb; clear hf z0 z1 z2 z3 nb n0 n1 n2
          refine hK.out _ _ ?_
          clear hK K
          (try simp only [Act.put, List.setIfInBounds_toArray, List.set_cons_zero, List.set_cons_succ])
          refine anyN_done (by kernel_rfl) ?_ _
          exact then_normal ⟨w5.heap.size, w73.heap.size, rfl, B, f0, f1, f2, f3, f4, f5, f6, f7, f8, f9, f10, f11, f12, f13, f14, f15⟩
        case step74 =>
         go_simp
         have m74 : w.heap.size + 1 < w71.heap.size := World.block_lt_of_cell? w71 _ f7
         have p74 : w5.heap.size < w71.heap.size := World.block_lt_of_cell? w71 _ f8
         refine namedA (K := K) (fun w74 hb f12 f13 f14 f15 g12 g13 g14 g15 => ?_)
         replace g8 := keepf hb f8 g8; replace g9 := keepf hb f9 g9; replace g10 := keepf hb f10 g10; replace g11 := keepf hb f11 g11; replace f0 := keepc hb f0; replace f1 := keepc hb f1; replace f2 := keepc hb f2; replace f3 := keepc hb f3; replace f4 := keepc hb f4; replace f5 := keepc hb f5; replace f6 := keepc hb f6; replace f7 := keepc hb f7; replace f8 := keepc hb f8; replace f9 := keepc hb f9; replace f10 := keepc hb f10; replace f11 := keepc hb f11; replace B := keepb B hb; clear hb
         refine hK.out _ _ ⟨f0, f1, f2, f3, f4, f5, f6, f7⟩ (fun _ => ?_)
         clear hK K
         (try simp only [Act.put, List.setIfInBounds_toArray, List.set_cons_zero, List.set_cons_succ])
         refine anyN_ready (rs := [7]) (by kernel_rfl) (by simp) (AllN.cons (o := ?o78) ?hi78 (fun K hK => ?step78) AllN.nil)
         case hi78 => (simp only [List.getElem?_toArray, List.getElem?_cons_zero, List.getElem?_cons_succ]; (first | done | with_reducible rfl))
         case step78 =>
          go_simp
          (go_at_call 22; (with_reducible refine (rect_any _ _ _ _ _).mono ?_); rintro e w78 ⟨rfl, hb⟩; replace g8 := keepf hb f8 g8; replace g9 := keepf hb f9 g9; replace g10 := keepf hb f10 g10; replace g11 := keepf hb f11 g11; replace g12 := keepf hb f12 g12; replace g13 := keepf hb f13 g13; replace g14 := keepf hb f14 g14; replace g15 := keepf hb f15 g15; replace f0 := keepc hb f0; replace f1 := keepc hb f1; replace f2 := keepc hb f2; replace f3 := keepc hb f3; replace f4 := keepc hb f4; replace f5 := keepc hb f5; replace f6 := keepc hb f6; replace f7 := keepc hb f7; replace f8 := keepc hb f8; replace f9 := keepc hb f9; replace f10 := keepc hb f10; replace f11 := keepc hb f11; replace f12 := keepc hb f12; replace f13 := keepc hb f13; replace f14 := keepc hb f14; replace f15 := keepc hb f15; replace B := keepb B hb; clear hb)
          refine hK.out _ _ ⟨f0, f1, f2, f3, f4, f5, f6, f7⟩ (fun _ => ?_)
          clear hK K
          (try simp only [Act.put, List.setIfInBounds_toArray, List.set_cons_zero, List.set_cons_succ])
          refine anyN_ready (rs := [10]) (by kernel_rfl) (by simp) ?_
          refine AllN.last (o := ?o79) ?hi79 (by simp) (fun K hK => ?step79) AllN.nil
          case hi79 => (simp only [List.getElem?_toArray, List.getElem?_cons_zero, List.getElem?_cons_succ]; (first | done | with_reducible rfl))
          go_simp
          have n0 : w5.heap.size ≠ w.heap.size := by clear B; omega
          have n1 : w5.heap.size ≠ w.heap.size + 1 := by clear B; omega
          have n2 : w5.heap.size ≠ w71.heap.size := by clear B; omega
          have nb : w.heap.size ≤ w5.heap.size := by clear B; omega
          refine namedS (K := K) f8 f9 f10 f11 (fun y79 hf z0 z1 z2 z3 => ?_)
          replace f0 := hf.cell f0 n0; replace f1 := hf.cell f1 n0; replace f2 := hf.cell f2 n0; replace f3 := hf.cell f3 n0; replace f4 := hf.cell f4 n1; replace f5 := hf.cell f5 n1; replace f6 := hf.cell f6 n1; replace f7 := hf.cell f7 n1; replace f8 := z0; replace f9 := z1; replace f10 := z2; replace f11 := z3; replace f12 := hf.cell f12 n2; replace f13 := hf.cell f13 n2; replace f14 := hf.cell f14 n2; replace f15 := hf.cell f15 n2; replace g12 := hf.frozen g12; replace g13 := hf.frozen g13; replace g14 := hf.frozen g14; replace g15 := hf.frozen g15; replace B := hf.below B nb; clear hf z0 z1 z2 z3 nb n0 n1 n2
          refine hK.out _ _ ?_
          clear hK K
          (try simp only [Act.put, List.setIfInBounds_toArray, List.set_cons_zero, List.set_cons_succ])
          refine anyN_ready (rs := [11]) (by kernel_rfl) (by simp) ?_
          refine AllN.last (o := ?o80) ?hi80 (by simp) (fun K hK => ?step80) AllN.nil
          case hi80 => (simp only [List.getElem?_toArray, List.getElem?_cons_zero, List.getElem?_cons_succ]; (first | done | with_reducible rfl))
          go_simp
          have n0 : w71.heap.size ≠ w.heap.size := by clear B; omega
          have n1 : w71.heap.size ≠ w.heap.size + 1 := by clear B; omega
          have n2 : w71.heap.size ≠ w5.heap.size := by clear B; omega
          have nb : w.heap.size ≤ w71.heap.size := by clear B; omega
          refine namedS (K := K) f12 f13 f14 f15 (fun y80 hf z0 z1 z2 z3 => ?_)
          replace f0 := hf.cell f0 n0; replace f1 := hf.cell f1 n0; replace f2 := hf.cell f2 n0; replace f3 := hf.cell f3 n0; replace f4 := hf.cell f4 n1; replace f5 := hf.cell f5 n1; replace f6 := hf.cell f6 n1; replace f7 := hf.cell f7 n1; replace f8 := hf.cell f8 n2; replace f9 := hf.cell f9 n2; replace f10 := hf.cell f10 n2; replace f11 := hf.cell f11 n2; replace f12 := z0; replace f13 := z1; replace f14 := z2; replace f15 := z3; replace B := hf.below B nb; clear hf z0 z1 z2 z3 nb n0 n1 n2
          refine hK.out _ _ ?_
          clear hK K
          (try simp only [Act.put, List.setIfInBounds_toArray, List.set_cons_zero, List.set_cons_succ])
          refine anyN_done (by kernel_rfl) ?_ _
          exact then_normal ⟨w5.heap.size, w71.heap.size, rfl, B, f0, f1, f2, f3, f4, f5, f6, f7, f8, f9, f10, f11, f12, f13, f14, f15⟩
       case step72 =>
        go_simp
        have m72 : w.heap.size + 1 < w69.heap.size := World.block_lt_of_cell? w69 _ f7
        have p72 : w5.heap.size < w69.heap.size := World.block_lt_of_cell? w69 _ f8
        refine namedA (K := K) (fun w72 hb f12 f13 f14 f15 g12 g13 g14 g15 => ?_)
        replace g8 := keepf hb f8 g8; replace g9 := keepf hb f9 g9; replace g10 := keepf hb f10 g10; replace g11 := keepf hb f11 g11; replace f0 := keepc hb f0; replace f1 := keepc hb f1; replace f2 := keepc hb f2; replace f3 := keepc hb f3; replace f4 := keepc hb f4; replace f5 := keepc hb f5; replace f6 := keepc hb f6; replace f7 := keepc hb f7; replace f8 := keepc hb f8; replace f9 := keepc hb f9; replace f10 := keepc hb f10; replace f11 := keepc hb f11; replace B := keepb B hb; clear hb
        refine hK.out _ _ ⟨f0, f1, f2, f3, f4, f5, f6, f7⟩ (fun _ => ?_)
        clear hK K
        (try simp only [Act.put, List.setIfInBounds_toArray, List.set_cons_zero, List.set_cons_succ])
        refine anyN_ready (rs := [6]) (by kernel_rfl) (by simp) (AllN.cons (o := ?o81) ?hi81 (fun K hK => ?step81) AllN.nil)
        case hi81 => (simp only [List.getElem?_toArray, List.getElem?_cons_zero, List.getElem?_cons_succ]; (first | done | with_reducible rfl))
        case step81 =>
         go_simp
         (go_at_call 20; (with_reducible refine (cutR_any _ _ _ _ _ _).mono ?_); rintro e w81 ⟨rfl, hb⟩; replace g8 := keepf hb f8 g8; replace g9 := keepf hb f9 g9; replace g10 := keepf hb f10 g10; replace g11 := keepf hb f11 g11; replace g12 := keepf hb f12 g12; replace g13 := keepf hb f13 g13; replace g14 := keepf hb f14 g14; replace g15 := keepf hb f15 g15; replace f0 := keepc hb f0; replace f1 := keepc hb f1; replace f2 := keepc hb f2; replace f3 := keepc hb f3; replace f4 := keepc hb f4; replace f5 := keepc hb f5; replace f6 := keepc hb f6; replace f7 := keepc hb f7; replace f8 := keepc hb f8; replace f9 := keepc hb f9; replace f10 := keepc hb f10; replace f11 := keepc hb f11; replace f12 := keepc hb f12; replace f13 := keepc hb f13; replace f14 := keepc hb f14; replace f15 := keepc hb f15; replace B := keepb B hb; clear hb)
         refine hK.out _ _ ⟨f0, f1, f2, f3, f4, f5, f6, f7⟩ (fun _ => ?_)
         clear hK K
         (try simp only [Act.put, List.setIfInBounds_toArray, List.set_cons_zero, List.set_cons_succ])
         simp only [es0, es1, es2, es3]
         refine anyN_ready (rs := [7]) (by kernel_rfl) (by simp) (AllN.cons (o := ?o82) ?hi82 (fun K hK => ?step82) AllN.nil)
         case hi82 => (simp only [List.getElem?_toArray, List.getElem?_cons_zero, List.getElem?_cons_succ]; (first | done | with_reducible rfl))
         case step82 =>
          go_simp
          (go_at_call 22; (with_reducible refine (rect_any _ _ _ _ _).mono ?_); rintro e w82 ⟨rfl, hb⟩; replace g8 := keepf hb f8 g8; replace g9 := keepf hb f9 g9; replace g10 := keepf hb f10 g10; replace g11 := keepf hb f11 g11; replace g12 := keepf hb f12 g12; replace g13 := keepf hb f13 g13; replace g14 := keepf hb f14 g14; replace g15 := keepf hb f15 g15; replace f0 := keepc hb f0; replace f1 := keepc hb f1; replace f2 := keepc hb f2; replace f3 := keepc hb f3; replace f4 := keepc hb f4; replace f5 := keepc hb f5; replace f6 := keepc hb f6; replace f7 := keepc hb f7; replace f8 := keepc hb f8; replace f9 := keepc hb f9; replace f10 := keepc hb f10; replace f11 := keepc hb f11; replace f12 := keepc hb f12; replace f13 := keepc hb f13; replace f14 := keepc hb f14; replace f15 := keepc hb f15; replace B := keepb B hb; clear hb)
          refine hK.out _ _ ⟨f0, f1, f2, f3, f4, f5, f6, f7⟩ (fun _ => ?_)
          clear hK K
          (try simp only [Act.put, List.setIfInBounds_toArray, List.set_cons_zero, List.set_cons_succ])
          refine anyN_ready (rs := [10]) (by kernel_rfl) (by simp) ?_
          refine AllN.last (o := ?o83) ?hi83 (by simp) (fun K hK => ?step83) AllN.nil
          case hi83 => (simp only [List.getElem?_toArray, List.getElem?_cons_zero, List.getElem?_cons_succ]; (first | done | with_reducible rfl))
          go_simp
          have n0 : w5.heap.size ≠ w.heap.size := by clear B; omega
          have n1 : w5.heap.size ≠ w.heap.size + 1 := by clear B; omega
          have n2 : w5.heap.size ≠ w69.heap.size := by clear B; omega
          have nb : w.heap.size ≤ w5.heap.size := by clear B; omega
          refine namedS (K := K) f8 f9 f10 f11 (fun y83 hf z0 z1 z2 z3 => ?_)
          replace f0 := hf.cell f0 n0; replace f1 := hf.cell f1 n0; replace f2 := hf.cell f2 n0; replace f3 := hf.cell f3 n0; replace f4 := hf.cell f4 n1; replace f5 := hf.cell f5 n1; replace f6 := hf.cell f6 n1; replace f7 := hf.cell f7 n1; replace f8 := z0; replace f9 := z1; replace f10 := z2; replace f11 := z3; replace f12 := hf.cell f12 n2; replace f13 := hf.cell f13 n2; replace f14 := hf.cell f14 n2; replace f15 := hf.cell f15 n2; replace g12 := hf.frozen g12; replace g13 := hf.frozen g13; replace g14 := hf.frozen g14; replace g15 := hf.frozen g15; replace B := hf.below B nb; clear hf z0 z1 z2 z3 nb n0 n1 n2
          refine hK.out _ _ ?_
          clear hK K
          (try simp only [Act.put, List.setIfInBounds_toArray, List.set_cons_zero, List.set_cons_succ])
          refine anyN_ready (rs := [11]) (by kernel_rfl) (by simp) ?_
          refine AllN.last (o := ?o84) ?hi84 (by simp) (fun K hK => ?step84) AllN.nil
          case hi84 => (simp only [List.getElem?_toArray, List.getElem?_cons_zero, List.getElem?_cons_succ]; (first | done | with_reducible rfl))
          go_simp
          have n0 : w69.heap.size ≠ w.heap.size := by clear B; omega
          have n1 : w69.heap.size ≠ w.heap.size + 1 := by clear B; omega
          have n2 : w69.heap.size ≠ w5.heap.size := by clear B; omega
          have nb : w.heap.size ≤ w69.heap.size := by clear B; omega
          refine namedS (K := K) f12 f13 f14 f15 (fun y84 hf z0 z1 z2 z3 => ?_)
          replace f0 := hf.cell f0 n0; replace f1 := hf.cell f1 n0; replace f2 := hf.cell f2 n0; replace f3 := hf.cell f3 n0; replace f4 := hf.cell f4 n1; replace f5 := hf.cell f5 n1; replace f6 := hf.cell f6 n1; replace f7 := hf.cell f7 n1; replace f8 := hf.cell f8 n2; replace f9 := hf.cell f9 n2; replace f10 := hf.cell f10 n2; replace f11 := hf.cell f11 n2; replace f12 := z0; replace f13 := z1; replace f14 := z2; replace f15 := z3; replace B := hf.below B nb; clear hf z0 z1 z2 z3 nb n0 n1 n2
          refine hK.out _ _ ?_
          clear hK K
          (try simp only [Act.put, List.setIfInBounds_toArray, List.set_cons_zero, List.set_cons_succ])
          refine anyN_done (by kernel_rfl) ?_ _
          exact then_normal ⟨w5.heap.size, w69.heap.size, rfl, B, f0, f1, f2, f3, f4, f5, f6, f7, f8, f9, f10, f11, f12, f13, f14, f15⟩
      case step70 =>
       go_simp
       have m70 : w.heap.size + 1 < w9.heap.size := World.block_lt_of_cell? w9 _ f7
       have p70 : w5.heap.size < w9.heap.size := World.block_lt_of_cell? w9 _ f8
       refine namedA (K := K) (fun w70 hb f12 f13 f14 f15 g12 g13 g14 g15 => ?_)
       replace g8 := keepf hb f8 g8; replace g9 := keepf hb f9 g9; replace g10 := keepf hb f10 g10; replace g11 := keepf hb f11 g11; replace f0 := keepc hb f0; replace f1 := keepc hb f1; replace f2 := keepc hb f2; replace f3 := keepc hb f3; replace f4 := keepc hb f4; replace f5 := keepc hb f5; replace f6 := keepc hb f6; replace f7 := keepc hb f7; replace f8 := keepc hb f8; replace f9 := keepc hb f9; replace f10 := keepc hb f10; replace f11 := keepc hb f11; replace B := keepb B hb; clear hb
       refine hK.out _ _ ⟨f0, f1, f2, f3, f4, f5, f6, f7⟩ (fun _ => ?_)
       clear hK K
       (try simp only [Act.put, List.setIfInBounds_toArray, List.set_cons_zero, List.set_cons_succ])
       refine anyN_ready (rs := [3]) (by kernel_rfl) (by simp) (AllN.cons (o := ?o85) ?hi85 (fun K hK => ?step85) AllN.nil)
       case hi85 => (simp only [List.getElem?_toArray, List.getElem?_cons_zero, List.getElem?_cons_succ]; (first | done | with_reducible rfl))
       case step85 =>
        go_simp
        (go_at_call 22; (with_reducible refine (rect_any _ _ _ _ _).mono ?_); rintro e w85 ⟨rfl, hb⟩; replace g8 := keepf hb f8 g8; replace g9 := keepf hb f9 g9; replace g10 := keepf hb f10 g10; replace g11 := keepf hb f11 g11; replace g12 := keepf hb f12 g12; replace g13 := keepf hb f13 g13; replace g14 := keepf hb f14 g14; replace g15 := keepf hb f15 g15; replace f0 := keepc hb f0; replace f1 := keepc hb f1; replace f2 := keepc hb f2; replace f3 := keepc hb f3; replace f4 := keepc hb f4; replace f5 := keepc hb f5; replace f6 := keepc hb f6; replace f7 := keepc hb f7; replace f8 := keepc hb f8; replace f9 := keepc hb f9; replace f10 := keepc hb f10; replace f11 := keepc hb f11; replace f12 := keepc hb f12; replace f13 := keepc hb f13; replace f14 := keepc hb f14; replace f15 := keepc hb f15; replace B := keepb B hb; clear hb)
        refine hK.out _ _ ⟨f0, f1, f2, f3, f4, f5, f6, f7⟩ (fun _ => ?_)
        clear hK K
        (try simp only [Act.put, List.setIfInBounds_toArray, List.set_cons_zero, List.set_cons_succ])
        refine anyN_ready (rs := [6]) (by kernel_rfl) (by simp) (AllN.cons (o := ?o86) ?hi86 (fun K hK => ?step86) AllN.nil)
        case hi86 => (simp only [List.getElem?_toArray, List.getElem?_cons_zero, List.getElem?_cons_succ]; (first | done | with_reducible rfl))
        case step86 =>
         go_simp
         (go_at_call 20; (with_reducible refine (cutR_any _ _ _ _ _ _).mono ?_); rintro e w86 ⟨rfl, hb⟩; replace g8 := keepf hb f8 g8; replace g9 := keepf hb f9 g9; replace g10 := keepf hb f10 g10; replace g11 := keepf hb f11 g11; replace g12 := keepf hb f12 g12; replace g13 := keepf hb f13 g13; replace g14 := keepf hb f14 g14; replace g15 := keepf hb f15 g15; replace f0 := keepc hb f0; replace f1 := keepc hb f1; replace f2 := keepc hb f2; replace f3 := keepc hb f3; replace f4 := keepc hb f4; replace f5 := keepc hb f5; replace f6 := keepc hb f6; replace f7 := keepc hb f7; replace f8 := keepc hb f8; replace f9 := keepc hb f9; replace f10 := keepc hb f10; replace f11 := keepc hb f11; replace f12 := keepc hb f12; replace f13 := keepc hb f13; replace f14 := keepc hb f14; replace f15 := keepc hb f15; replace B := keepb B hb; clear hb)
         refine hK.out _ _ ⟨f0, f1, f2, f3, f4, f5, f6, f7⟩ (fun _ => ?_)
         clear hK K
         (try simp only [Act.put, List.setIfInBounds_toArray, List.set_cons_zero, List.set_cons_succ])
         simp only [es0, es1, es2, es3]
         refine anyN_ready (rs := [7]) (by kernel_rfl) (by simp) (AllN.cons (o := ?o87) ?hi87 (fun K hK => ?step87) AllN.nil)
         case hi87 => (simp only [List.getElem?_toArray, List.getElem?_cons_zero, List.getElem?_cons_succ]; (first | done | with_reducible rfl))
         case step87 =>
          go_simp
          (go_at_call 22; (with_reducible refine (rect_any _ _ _ _ _).mono ?_); rintro e w87 ⟨rfl, hb⟩; replace g8 := keepf hb f8 g8; replace g9 := keepf hb f9 g9; replace g10 := keepf hb f10 g10; replace g11 := keepf hb f11 g11; replace g12 := keepf hb f12 g12; replace g13 := keepf hb f13 g13; replace g14 := keepf hb f14 g14; replace g15 := keepf hb f15 g15; replace f0 := keepc hb f0; replace f1 := keepc hb f1; replace f2 := keepc hb f2; replace f3 := keepc hb f3; replace f4 := keepc hb f4; replace f5 := keepc hb f5; replace f6 := keepc hb f6; replace f7 := keepc hb f7; replace f8 := keepc hb f8; replace f9 := keepc hb f9; replace f10 := keepc hb f10; replace f11 := keepc hb f11; replace f12 := keepc hb f12; replace f13 := keepc hb f13; replace f14 := keepc hb f14; replace f15 := keepc hb f15; replace B := keepb B hb; clear hb)
          refine hK.out _ _ ⟨f0, f1, f2, f3, f4, f5, f6, f7⟩ (fun _ => ?_)
          clear hK K
          (try simp only [Act.put, List.setIfInBounds_toArray, List.set_cons_zero, List.set_cons_succ])
          refine anyN_ready (rs := [10]) (by kernel_rfl) (by simp) ?_
          refine AllN.last (o := ?o88) ?hi88 (by simp) (fun K hK => ?step88) AllN.nil
          case hi88 => (simp only [List.getElem?_toArray, List.getElem?_cons_zero, List.getElem?_cons_succ]; (first | done | with_reducible rfl))
          go_simp
          have n0 : w5.heap.size ≠ w.heap.size := by clear B; omega
          have n1 : w5.heap.size ≠ w.heap.size + 1 := by clear B; omega
          have n2 : w5.heap.size ≠ w9.heap.size := by clear B; omega
          have nb : w.heap.size ≤ w5.heap.size := by clear B; omega
          refine namedS (K := K) f8 f9 f10 f11 (fun y88 hf z0 z1 z2 z3 => ?_)
          replace f0 := hf.cell f0 n0; replace f1 := hf.cell f1 n0; replace f2 := hf.cell f2 n0; replace f3 := hf.cell f3 n0; replace f4 := hf.cell f4 n1; replace f5 := hf.cell f5 n1; replace f6 := hf.cell f6 n1; replace f7 := hf.cell f7 n1; replace f8 := z0; replace f9 := z1; replace f10 := z2; replace f11 := z3; replace f12 := hf.cell f12 n2; replace f13 := hf.cell f13 n2; replace f14 := hf.cell f14 n2; replace f15 := hf.cell f15 n2; replace g12 := hf.frozen g12; replace g13 := hf.frozen g13; replace g14 := hf.frozen g14; replace g15 := hf.frozen g15; replace B := hf.below B nb; clear hf z0 z1 z2 z3 nb n0 n1 n2
          refine hK.out _ _ ?_
          clear hK K
          (try simp only [Act.put, List.setIfInBounds_toArray, List.set_cons_zero, List.set_cons_succ])
          refine anyN_ready (rs := [11]) (by kernel_rfl) (by simp) ?_
          refine AllN.last (o := ?o89) ?hi89 (by simp) (fun K hK => ?step89) AllN.nil
          case hi89 => (simp only [List.getElem?_toArray, List.getElem?_cons_zero, List.getElem?_cons_succ]; (first | done | with_reducible rfl))
          go_simp
          have n0 : w9.heap.size ≠ w.heap.size := by clear B; omega
          have n1 : w9.heap.size ≠ w.heap.size + 1 := by clear B; omega
          have n2 : w9.heap.size ≠ w5.heap.size := by clear B; omega
          have nb : w.heap.size ≤ w9.heap.size := by clear B; omega
          refine namedS (K := K) f12 f13 f14 f15 (fun y89 hf z0 z1 z2 z3 => ?_)
          replace f0 := hf.cell f0 n0; replace f1 := hf.cell f1 n0; replace f2 := hf.cell f2 n0; replace f3 := hf.cell f3 n0; replace f4 := hf.cell f4 n1; replace f5 := hf.cell f5 n1; replace f6 := hf.cell f6 n1; replace f7 := hf.cell f7 n1; replace f8 := hf.cell f8 n2; replace f9 := hf.cell f9 n2; replace f10 := hf.cell f10 n2; replace f11 := hf.cell f11 n2; replace f12 := z0; replace f13 := z1; replace f14 := z2; replace f15 := z3; replace B := hf.below B nb; clear hf z0 z1 z2 z3 nb n0 n1 n2
          refine hK.out _ _ ?_
          clear hK K
          (try simp only [Act.put, List.setIfInBounds_toArray, List.set_cons_zero, List.set_cons_succ])
          refine anyN_done (by kernel_rfl) ?_ _
          exact then_normal ⟨w5.heap.size, w9.heap.size, rfl, B, f0, f1, f2, f3, f4, f5, f6, f7, f8, f9, f10, f11, f12, f13, f14, f15⟩
     case step10 =>
      go_simp
      have m10 : w.heap.size + 1 < w5.heap.size := World.block_lt_of_cell? w5 _ f7
      refine namedA (K := K) (fun w10 hb f8 f9 f10 f11 g8 g9 g10 g11 => ?_)
      replace f0 := keepc hb f0; replace f1 := keepc hb f1; replace f2 := keepc hb f2; replace f3 := keepc hb f3; replace f4 := keepc hb f4; replace f5 := keepc hb f5; replace f6 := keepc hb f6; replace f7 := keepc hb f7; replace B := keepb B hb; clear hb
      refine hK.out _ _ ⟨f0, f1, f2, f3, f4, f5, f6, f7⟩ (fun _ => ?_)
      clear hK K
      (try simp only [Act.put, List.setIfInBounds_toArray, List.set_cons_zero, List.set_cons_succ])
      refine anyN_ready (rs := [3, 8]) (by kernel_rfl) (by simp) (AllN.cons (o := ?o90) ?hi90 (fun K hK => ?step90) (AllN.cons (o := ?o91) ?hi91 (fun K hK => ?step91) AllN.nil))
      case hi90 => (simp only [List.getElem?_toArray, List.getElem?_cons_zero, List.getElem?_cons_succ]; (first | done | with_reducible rfl))
      case hi91 => (simp only [List.getElem?_toArray, List.getElem?_cons_zero, List.getElem?_cons_succ]; (first | done | with_reducible rfl))
      case step90 =>
       go_simp
       (go_at_call 22; (with_reducible refine (rect_any _ _ _ _ _).mono ?_); rintro e w90 ⟨rfl, hb⟩; replace g8 := keepf hb f8 g8; replace g9 := keepf hb f9 g9; replace g10 := keepf hb f10 g10; replace g11 := keepf hb f11 g11; replace f0 := keepc hb f0; replace f1 := keepc hb f1; replace f2 := keepc hb f2; replace f3 := keepc hb f3; replace f4 := keepc hb f4; replace f5 := keepc hb f5; replace f6 := keepc hb f6; replace f7 := keepc hb f7; replace f8 := keepc hb f8; replace f9 := keepc hb f9; replace f10 := keepc hb f10; replace f11 := keepc hb f11; replace B := keepb B hb; clear hb)
       refine hK.out _ _ ⟨f0, f1, f2, f3, f4, f5, f6, f7⟩ (fun _ => ?_)
       clear hK K
       (try simp only [Act.put, List.setIfInBounds_toArray, List.set_cons_zero, List.set_cons_succ])
       refine anyN_ready (rs := [6, 8]) (by kernel_rfl) (by simp) (AllN.cons (o := ?o92) ?hi92 (fun K hK => ?step92) (AllN.cons (o := ?o93) ?hi93 (fun K hK => ?step93) AllN.nil))
       case hi92 => (simp only [List.getElem?_toArray, List.getElem?_cons_zero, List.getElem?_cons_succ]; (first | done | with_reducible rfl))
       case hi93 => (simp only [List.getElem?_toArray, List.getElem?_cons_zero, List.getElem?_cons_succ]; (first | done | with_reducible rfl))
       case step92 =>
        go_simp
        (go_at_call 20; (with_reducible refine (cutR_any _ _ _ _ _ _).mono ?_); rintro e w92 ⟨rfl, hb⟩; replace g8 := keepf hb f8 g8; replace g9 := keepf hb f9 g9; replace g10 := keepf hb f10 g10; replace g11 := keepf hb f11 g11; replace f0 := keepc hb f0; replace f1 := keepc hb f1; replace f2 := keepc hb f2; replace f3 := keepc hb f3; replace f4 := keepc hb f4; replace f5 := keepc hb f5; replace f6 := keepc hb f6; replace f7 := keepc hb f7; replace f8 := keepc hb f8; replace f9 := keepc hb f9; replace f10 := keepc hb f10; replace f11 := keepc hb f11; replace B := keepb B hb; clear hb)
        refine hK.out _ _ ⟨f0, f1, f2, f3, f4, f5, f6, f7⟩ (fun _ => ?_)
        clear hK K
        (try simp only [Act.put, List.setIfInBounds_toArray, List.set_cons_zero, List.set_cons_succ])
        simp only [es0, es1, es2, es3]
        refine anyN_ready (rs := [7, 8]) (by kernel_rfl) (by simp) (AllN.cons (o := ?o94) ?hi94 (fun K hK => ?step94) (AllN.cons (o := ?o95) ?hi95 (fun K hK => ?step95) AllN.nil))
        case hi94 => (simp only [List.getElem?_toArray, List.getElem?_cons_zero, List.getElem?_cons_succ]; (first | done | with_reducible rfl))
        case hi95 => (simp only [List.getElem?_toArray, List.getElem?_cons_zero, List.getElem?_cons_succ]; (first | done | with_reducible rfl))
        case step94 =>
         go_simp
         (go_at_call 22; (with_reducible refine (rect_any _ _ _ _ _).mono ?_); rintro e w94 ⟨rfl, hb⟩; replace g8 := keepf hb f8 g8; replace g9 := keepf hb f9 g9; replace g10 := keepf hb f10 g10; replace g11 := keepf hb f11 g11; replace f0 := keepc hb f0; replace f1 := keepc hb f1; replace f2 := keepc hb f2; replace f3 := keepc hb f3; replace f4 := keepc hb f4; replace f5 := keepc hb f5; replace f6 := keepc hb f6; replace f7 := keepc hb f7; replace f8 := keepc hb f8; replace f9 := keepc hb f9; replace f10 := keepc hb f10; replace f11 := keepc hb f11; replace B := keepb B hb; clear hb)
         refine hK.out _ _ ⟨f0, f1, f2, f3, f4, f5, f6, f7⟩ (fun _ => ?_)
         clear hK K
         (try simp only [Act.put, List.setIfInBounds_toArray, List.set_cons_zero, List.set_cons_succ])
         refine anyN_ready (rs := [8]) (by kernel_rfl) (by simp) (AllN.cons (o := ?o96) ?hi96 (fun K hK => ?step96) AllN.nil)
         case hi96 => (simp only [List.getElem?_toArray, List.getElem?_cons_zero, List.getElem?_cons_succ]; (first | done | with_reducible rfl))
         case step96 =>
          go_simp
          have m96 : w.heap.size + 1 < w94.heap.size := World.block_lt_of_cell? w94 _ f7
          have p96 : w5.heap.size < w94.heap.size := World.block_lt_of_cell? w94 _ f8
          refine namedA (K := K) (fun w96 hb f12 f13 f14 f15 g12 g13 g14 g15 => ?_)
          replace g8 := keepf hb f8 g8; replace g9 := keepf hb f9 g9; replace g10 := keepf hb f10 g10; replace g11 := keepf hb f11 g11; replace f0 := keepc hb f0; replace f1 := keepc hb f1; replace f2 := keepc hb f2; replace f3 := keepc hb f3; replace f4 := keepc hb f4; replace f5 := keepc hb f5; replace f6 := keepc hb f6; replace f7 := keepc hb f7; replace f8 := keepc hb f8; replace f9 := keepc hb f9; replace f10 := keepc hb f10; replace f11 := keepc hb f11; replace B := keepb B hb; clear hb
          refine hK.out _ _ ⟨f0, f1, f2, f3, f4, f5, f6, f7⟩ (fun _ => ?_)
          clear hK K
          (try simp only [Act.put, List.setIfInBounds_toArray, List.set_cons_zero, List.set_cons_succ])
          refine anyN_ready (rs := [10]) (by kernel_rfl) (by simp) ?_
          refine AllN.last (o := ?o97) ?hi97 (by simp) (fun K hK => ?step97) AllN.nil
          case hi97 => (simp only [List.getElem?_toArray, List.getElem?_cons_zero, List.getElem?_cons_succ]; (first | done | with_reducible rfl))
          go_simp
          have n0 : w94.heap.size ≠ w.heap.size := by clear B; omega
          have n1 : w94.heap.size ≠ w.heap.size + 1 := by clear B; omega
          have n2 : w94.heap.size ≠ w5.heap.size := by clear B; omega
          have nb : w.heap.size ≤ w94.heap.size := by clear B; omega
          refine namedS (K := K) f12 f13 f14 f15 (fun y97 hf z0 z1 z2 z3 => ?_)
          replace f0 := hf.cell f0 n0; replace f1 := hf.cell f1 n0; replace f2 := hf.cell f2 n0; replace f3 := hf.cell f3 n0; replace f4 := hf.cell f4 n1; replace f5 := hf.cell f5 n1; replace f6 := hf.cell f6 n1; replace f7 := hf.cell f7 n1; replace f8 := hf.cell f8 n2; replace f9 := hf.cell f9 n2; replace f10 := hf.cell f10 n2; replace f11 := hf.cell f11 n2; replace f12 := z0; replace f13 := z1; replace f14 := z2; replace f15 := z3; replace g8 := hf.frozen g8; replace g9 := hf.frozen g9; replace g10 := hf.frozen g10; replace g11 := hf.frozen g11; replace B := hf.below B nb; clear hf z0 z1 z2 z3 nb n0 n1 n2
          refine hK.out _ _ ?_
          clear hK K
          (try simp only [Act.put, List.setIfInBounds_toArray, List.set_cons_zero, List.set_cons_succ])
          refine anyN_ready (rs := [11]) (by kernel_rfl) (by simp) ?_
          refine AllN.last (o := ?o98) ?hi98 (by simp) (fun K hK => ?step98) AllN.nil
          case hi98 => (simp only [List.getElem?_toArray, List.getElem?_cons_zero, List.getElem?_cons_succ]; (first | done | with_reducible rfl))
          go_simp
          have n0 : w5.heap.size ≠ w.heap.size := by clear B; omega
          have n1 : w5.heap.size ≠ w.heap.size + 1 := by clear B; omega
          have n2 : w5.heap.size ≠ w94.heap.size := by clear B; omega
          have nb : w.heap.size ≤ w5.heap.size := by clear B; omega
          refine namedS (K := K) f8 f9 f10 f11 (fun y98 hf z0 z1 z2 z3 => ?_)
          replace f0 := hf.cell f0 n0; replace f1 := hf.cell f1 n0; replace f2 := hf.cell f2 n0; replace f3 := hf.cell f3 n0; replace f4 := hf.cell f4 n1; replace f5 := hf.cell f5 n1; replace f6 := hf.cell f6 n1; replace f7 := hf.cell f7 n1; replace f8 := z0; replace f9 := z1; replace f10 := z2; replace f11 := z3; replace f12 := hf.cell f12 n2; replace f13 := hf.cell f13 n2; replace f14 := hf.cell f14 n2; replace f15 := hf.cell f15 n2; replace B := hf.below B nb; clear hf z0 z1 z2 z3 nb n0 n1 n2
          refine hK.out _ _ ?_
          clear hK K
          (try simp only [Act.put, List.setIfInBounds_toArray, List.set_cons_zero, List.set_cons_succ])
          refine anyN_done (by kernel_rfl) ?_ _
          exact then_normal ⟨w94.heap.size, w5.heap.size, rfl, B, f0, f1, f2, f3, f4, f5, f6, f7, f12, f13, f14, f15, f8, f9, f10, f11⟩
        case step95 =>
         go_simp
         have m95 : w.heap.size + 1 < w92.heap.size := World.block_lt_of_cell? w92 _ f7
         have p95 : w5.heap.size < w92.heap.size := World.block_lt_of_cell? w92 _ f8
         refine namedA (K := K) (fun w95 hb f12 f13 f14 f15 g12 g13 g14 g15 => ?_)
         replace g8 := keepf hb f8 g8; replace g9 := keepf hb f9 g9; replace g10 := keepf hb f10 g10; replace g11 := keepf hb f11 g11; replace f0 := keepc hb f0; replace f1 := keepc hb f1; replace f2 := keepc hb f2; replace f3 := keepc hb f3; replace f4 := keepc hb f4; replace f5 := keepc hb f5; replace f6 := keepc hb f6; replace f7 := keepc hb f7; replace f8 := keepc hb f8; replace f9 := keepc hb f9; replace f10 := keepc hb f10; replace f11 := keepc hb f11; replace B := keepb B hb; clear hb
         refine hK.out _ _ ⟨f0, f1, f2, f3, f4, f5, f6, f7⟩ (fun _ => ?_)
         clear hK K
         (try simp only [Act.put, List.setIfInBounds_toArray, List.set_cons_zero, List.set_cons_succ])
         refine anyN_ready (rs := [7]) (by kernel_rfl) (by simp) (AllN.cons (o := ?o99) ?hi99 (fun K hK => ?step99) AllN.nil)
         case hi99 => (simp only [List.getElem?_toArray, List.getElem?_cons_zero, List.getElem?_cons_succ]; (first | done | with_reducible rfl))
         case step99 =>
          go_simp
          (go_at_call 22; (with_reducible refine (rect_any _ _ _ _ _).mono ?_); rintro e w99 ⟨rfl, hb⟩; replace g8 := keepf hb f8 g8; replace g9 := keepf hb f9 g9; replace g10 := keepf hb f10 g10; replace g11 := keepf hb f11 g11; replace g12 := keepf hb f12 g12; replace g13 := keepf hb f13 g13; replace g14 := keepf hb f14 g14; replace g15 := keepf hb f15 g15; replace f0 := keepc hb f0; replace f1 := keepc hb f1; replace f2 := keepc hb f2; replace f3 := keepc hb f3; replace f4 := keepc hb f4; replace f5 := keepc hb f5; replace f6 := keepc hb f6; replace f7 := keepc hb f7; replace f8 := keepc hb f8; replace f9 := keepc hb f9; replace f10 := keepc hb f10; replace f11 := keepc hb f11; replace f12 := keepc hb f12; replace f13 := keepc hb f13; replace f14 := keepc hb f14; replace f15 := keepc hb f15; replace B := keepb B hb; clear hb)
          refine hK.out _ _ ⟨f0, f1, f2, f3, f4, f5, f6, f7⟩ (fun _ => ?_)
          clear hK K
          (try simp only [Act.put, List.setIfInBounds_toArray, List.set_cons_zero, List.set_cons_succ])
          refine anyN_ready (rs := [10]) (by kernel_rfl) (by simp) ?_
          refine AllN.last (o := ?o100) ?hi100 (by simp) (fun K hK => ?step100) AllN.nil
          case hi100 => (simp only [List.getElem?_toArray, List.getElem?_cons_zero, List.getElem?_cons_succ]; (first | done | with_reducible rfl))
          go_simp
          have n0 : w92.heap.size ≠ w.heap.size := by clear B; omega
          have n1 : w92.heap.size ≠ w.heap.size + 1 := by clear B; omega
          have n2 : w92.heap.size ≠ w5.heap.size := by clear B; omega
          have nb : w.heap.size ≤ w92.heap.size := by clear B; omega
          refine namedS (K := K) f12 f13 f14 f15 (fun y100 hf z0 z1 z2 z3 => ?_)
          replace f0 := hf.cell f0 n0; replace f1 := hf.cell f1 n0; replace f2 := hf.cell f2 n0; replace f3 := hf.cell f3 n0; replace f4 := hf.cell f4 n1; replace f5 := hf.cell f5 n1; replace f6 := hf.cell f6 n1; replace f7 := hf.cell f7 n1; replace f8 := hf.cell f8 n2; replace f9 := hf.cell f9 n2; replace f10 := hf.cell f10 n2; replace f11 := hf.cell f11 n2; replace f12 := z0; replace f13 := z1; replace f14 := z2; replace f15 := z3; replace g8 := hf.frozen g8; replace g9 := hf.frozen g9; replace g10 := hf.frozen g10; replace g11 := hf.frozen g11; replace B := hf.below B nb; clear hf z0 z1 z2 z3 nb n0 n1 n2
          refine hK.out _ _ ?_
          clear hK K
          (try simp only [Act.put, List.setIfInBounds_toArray, List.set_cons_zero, List.set_cons_succ])
          refine anyN_ready (rs := [11]) (by kernel_rfl) (by simp) ?_
          refine AllN.last (o := ?o101) ?hi101 (by simp) (fun K hK => ?step101) AllN.nil
          case hi101 => (simp only [List.getElem?_toArray, List.getElem?_cons_zero, List.getElem?_cons_succ]; (first | done | with_reducible rfl))
          go_simp
          have n0 : w5.heap.size ≠ w.heap.size := by clear B; omega
          have n1 : w5.heap.size ≠ w.heap.size + 1 := by clear B; omega
          have n2 : w5.heap.size ≠ w92.heap.size := by clear B; omega
          have nb : w.heap.size ≤ w5.heap.size := by clear B; omega
          refine namedS (K := K) f8 f9 f10 f11 (fun y101 hf z0 z1 z2 z3 => ?_)
          replace f0 := hf.cell f0 n0; replace f1 := hf.cell f1 n0; replace f2 := hf.cell f2 n0; replace f3 := hf.cell f3 n0; replace f4 := hf.cell f4 n1; replace f5 := hf.cell f5 n1; replace f6 := hf.cell f6 n1; replace f7 := hf.cell f7 n1; replace f8 := z0; replace f9 := z1; replace f10 := z2; replace f11 := z3; replace f12 := hf.cell f12 n2; replace f13 := hf.cell f13 n2; replace f14 := hf.cell f14 n2; replace f15 := hf.cell f15 n2; replace B := hf.below B nb; clear hf z0 z1 z2 z3 nb n0 n1 n2
          refine hK.out _ _ ?_
          clear hK K
          (try simp only [Act.put, List.setIfInBounds_toArray, List.set_cons_zero, List.set_cons_succ])
          refine anyN_done (by kernel_rfl) ?_ _
          exact then_normal ⟨w92.heap.size, w5.heap.size, rfl, B, f0, f1, f2, f3, f4, f5, f6, f7, f12, f13, f14, f15, f8, f9, f10, f11⟩
       case step93 =>
        go_simp
        have m93 : w.heap.size + 1 < w90.heap.size := World.block_lt_of_cell? w90 _ f7
        have p93 : w5.heap.size < w90.heap.size := World.block_lt_of_cell? w90 _ f8
        refine namedA (K := K) (fun w93 hb f12 f13 f14 f15 g12 g13 g14 g15 => ?_)
        replace g8 := keepf hb f8 g8; replace g9 := keepf hb f9 g9; replace g10 := keepf hb f10 g10; replace g11 := keepf hb f11 g11; replace f0 := keepc hb f0; replace f1 := keepc hb f1; replace f2 := keepc hb f2; replace f3 := keepc hb f3; replace f4 := keepc hb f4; replace f5 := keepc hb f5; replace f6 := keepc hb f6; replace f7 := keepc hb f7; replace f8 := keepc hb f8; replace f9 := keepc hb f9; replace f10 := keepc hb f10; replace f11 := keepc hb f11; replace B := keepb B hb; clear hb
        refine hK.out _ _ ⟨f0, f1, f2, f3, f4, f5, f6, f7⟩ (fun _ => ?_)
        clear hK K
        (try simp only [Act.put, List.setIfInBounds_toArray, List.set_cons_zero, List.set_cons_succ])
        refine anyN_ready (rs := [6]) (by kernel_rfl) (by simp) (AllN.cons (o := ?o102) ?hi102 (fun K hK => ?step102) AllN.nil)
        case hi102 => (simp only [List.getElem?_toArray, List.getElem?_cons_zero, List.getElem?_cons_succ]; (first | done | with_reducible rfl))
        case step102 =>
         go_simp
         (go_at_call 20; (with_reducible refine (cutR_any _ _ _ _ _ _).mono ?_); rintro e w102 ⟨rfl, hb⟩; replace g8 := keepf hb f8 g8; replace g9 := keepf hb f9 g9; replace g10 := keepf hb f10 g10; replace g11 := keepf hb f11 g11; replace g12 := keepf hb f12 g12; replace g13 := keepf hb f13 g13; replace g14 := keepf hb f14 g14; replace g15 := keepf hb f15 g15; replace f0 := keepc hb f0; replace f1 := keepc hb f1; replace f2 := keepc hb f2; replace f3 := keepc hb f3; replace f4 := keepc hb f4; replace f5 := keepc hb f5; replace f6 := keepc hb f6; replace f7 := keepc hb f7; replace f8 := keepc hb f8; replace f9 := keepc hb f9; replace f10 := keepc hb f10; replace f11 := keepc hb f11; replace f12 := keepc hb f12; replace f13 := keepc hb f13; replace f14 := keepc hb f14; replace f15 := keepc hb f15; replace B := keepb B hb; clear hb)
         refine hK.out _ _ ⟨f0, f1, f2, f3, f4, f5, f6, f7⟩ (fun _ => ?_)
         clear hK K
         (try simp only [Act.put, List.setIfInBounds_toArray, List.set_cons_zero, List.set_cons_succ])
         simp only [es0, es1, es2, es3]
         refine anyN_ready (rs := [7]) (by kernel_rfl) (by simp) (AllN.cons (o := ?o103) ?hi103 (fun K hK => ?step103) AllN.nil)
         case hi103 => (simp only [List.getElem?_toArray, List.getElem?_cons_zero, List.getElem?_cons_succ]; (first | done | with_reducible rfl))
         case step103 =>
          go_simp
          (go_at_call 22; (with_reducible refine (rect_any _ _ _ _ _).mono ?_); rintro e w103 ⟨rfl, hb⟩; replace g8 := keepf hb f8 g8; replace g9 := keepf hb f9 g9; replace g10 := keepf hb f10 g10; replace g11 := keepf hb f11 g11; replace g12 := keepf hb f12 g12; replace g13 := keepf hb f13 g13; replace g14 := keepf hb f14 g14; replace g15 := keepf hb f15 g15; replace f0 := keepc hb f0; replace f1 := keepc hb f1; replace f2 := keepc hb f2; replace f3 := keepc hb f3; replace f4 := keepc hb f4; replace f5 := keepc hb f5; replace f6 := keepc hb f6; replace f7 := keepc hb f7; replace f8 := keepc hb f8; replace f9 := keepc hb f9; replace f10 := keepc hb f10; replace f11 := keepc hb f11; replace f12 := keepc hb f12; replace f13 := keepc hb f13; replace f14 := keepc hb f14; replace f15 := keepc hb f15; replace B := keepb B hb; clear hb)
          refine hK.out _ _ ⟨f0, f1, f2, f3, f4, f5, f6, f7⟩ (fun _ => ?_)
          clear hK K
          (try simp only [Act.put, List.setIfInBounds_toArray, List.set_cons_zero, List.set_cons_succ])
          refine anyN_ready (rs := [10]) (by kernel_rfl) (by simp) ?_
          refine AllN.last (o := ?o104) ?hi104 (by simp) (fun K hK => ?step104) AllN.nil
          case hi104 => (simp only [List.getElem?_toArray, List.getElem?_cons_zero, List.getElem?_cons_succ]; (first | done | with_reducible rfl))
          go_simp
          have n0 : w90.heap.size ≠ w.heap.size := by clear B; omega
          have n1 : w90.heap.size ≠ w.heap.size + 1 := by clear B; omega
          have n2 : w90.heap.size ≠ w5.heap.size := by clear B; omega
          have nb : w.heap.size ≤ w90.heap.size := by clear B; omega
          refine namedS (K := K) f12 f13 f14 f15 (fun y104 hf z0 z1 z2 z3 => ?_)
          replace f0 := hf.cell f0 n0; replace f1 := hf.cell f1 n0; replace f2 := hf.cell f2 n0; replace f3 := hf.cell f3 n0; replace f4 := hf.cell f4 n1; replace f5 := hf.cell f5 n1; replace f6 := hf.cell f6 n1; replace f7 := hf.cell f7 n1; replace f8 := hf.cell f8 n2; replace f9 := hf.cell f9 n2; replace f10 := hf.cell f10 n2; replace f11 := hf.cell f11 n2; replace f12 := z0; replace f13 := z1; replace f14 := z2; replace f15 := z3; replace g8 := hf.frozen g8; replace g9 := hf.frozen g9; replace g10 := hf.frozen g10; replace g11 := hf.frozen g11; replace B := hf.below B nb; clear hf z0 z1 z2 z3 nb n0 n1 n2
          refine hK.out _ _ ?_
          clear hK K
          (try simp only [Act.put, List.setIfInBounds_toArray, List.set_cons_zero, List.set_cons_succ])
          refine anyN_ready (rs := [11]) (by kernel_rfl) (by simp) ?_
          refine AllN.last (o := ?o105) ?hi105 (by simp) (fun K hK => ?step105) AllN.nil
          case hi105 => (simp only [List.getElem?_toArray, List.getElem?_cons_zero, List.getElem?_cons_succ]; (first | done | with_reducible rfl))
          go_simp
          have n0 : w5.heap.size ≠ w.heap.size := by clear B; omega
          have n1 : w5.heap.size ≠ w.heap.size + 1 := by clear B; omega
          have n2 : w5.heap.size ≠ w90.heap.size := by clear B; omega
          have nb : w.heap.size ≤ w5.heap.size := by clear B; omega
          refine namedS (K := K) f8 f9 f10 f11 (fun y105 hf z0 z1 z2 z3 => ?_)
          replace f0 := hf.cell f0 n0; replace f1 := hf.cell f1 n0; replace f2 := hf.cell f2 n0; replace f3 := hf.cell f3 n0; replace f4 := hf.cell f4 n1; replace f5 := hf.cell f5 n1; replace f6 := hf.cell f6 n1; replace f7 := hf.cell f7 n1; replace f8 := z0; replace f9 := z1; replace f10 := z2; replace f11 := z3; replace f12 := hf.cell f12 n2; replace f13 := hf.cell f13 n2; replace f14 := hf.cell f14 n2; replace f15 := hf.cell f15 n2; replace B := hf.below B nb; clear hf z0 z1 z2 z3 nb n0 n1 n2
          refine hK.out _ _ ?_
          clear hK K
          (try simp only [Act.put, List.setIfInBounds_toArray, List.set_cons_zero, List.set_cons_succ])
          refine anyN_done (by kernel_rfl) ?_ _
          exact then_normal ⟨w90.heap.size, w5.heap.size, rfl, B, f0, f1, f2, f3, f4, f5, f6, f7, f12, f13, f14, f15, f8, f9, f10, f11⟩
      case step91 =>
       go_simp
       have m91 : w.heap.size + 1 < w10.heap.size := World.block_lt_of_cell? w10 _ f7
       have p91 : w5.heap.size < w10.heap.size := World.block_lt_of_cell? w10 _ f8
       refine namedA (K := K) (fun w91 hb f12 f13 f14 f15 g12 g13 g14 g15 => ?_)
       replace g8 := keepf hb f8 g8; replace g9 := keepf hb f9 g9; replace g10 := keepf hb f10 g10; replace g11 := keepf hb f11 g11; replace f0 := keepc hb f0; replace f1 := keepc hb f1; replace f2 := keepc hb f2; replace f3 := keepc hb f3; replace f4 := keepc hb f4; replace f5 := keepc hb f5; replace f6 := keepc hb f6; replace f7 := keepc hb f7; replace f8 := keepc hb f8; replace f9 := keepc hb f9; replace f10 := keepc hb f10; replace f11 := keepc hb f11; replace B := keepb B hb; clear hb
       refine hK.out _ _ ⟨f0, f1, f2, f3, f4, f5, f6, f7⟩ (fun _ => ?_)
       clear hK K
       (try simp only [Act.put, List.setIfInBounds_toArray, List.set_cons_zero, List.set_cons_succ])
       refine anyN_ready (rs := [3]) (by kernel_rfl) (by simp) (AllN.cons (o := ?o106) ?hi106 (fun K hK => ?step106) AllN.nil)
       case hi106 => (simp only [List.getElem?_toArray, List.getElem?_cons_zero, List.getElem?_cons_succ]; (first | done | with_reducible rfl))
       case step106 =>
        go_simp
        (go_at_call 22; (with_reducible refine (rect_any _ _ _ _ _).mono ?_); rintro e w106 ⟨rfl, hb⟩; replace g8 := keepf hb f8 g8; replace g9 := keepf hb f9 g9; replace g10 := keepf hb f10 g10; replace g11 := keepf hb f11 g11; replace g12 := keepf hb f12 g12; replace g13 := keepf hb f13 g13; replace g14 := keepf hb f14 g14; replace g15 := keepf hb f15 g15; replace f0 := keepc hb f0; replace f1 := keepc hb f1; replace f2 := keepc hb f2; replace f3 := keepc hb f3; replace f4 := keepc hb f4; replace f5 := keepc hb f5; replace f6 := keepc hb f6; replace f7 := keepc hb f7; replace f8 := keepc hb f8; replace f9 := keepc hb f9; replace f10 := keepc hb f10; replace f11 := keepc hb f11; replace f12 := keepc hb f12; replace f13 := keepc hb f13; replace f14 := keepc hb f14; replace f15 := keepc hb f15; replace B := keepb B hb; clear hb)
        refine hK.out _ _ ⟨f0, f1, f2, f3, f4, f5, f6, f7⟩ (fun _ => ?_)
        clear hK K
        (try simp only [Act.put, List.setIfInBounds_toArray, List.set_cons_zero, List.set_cons_succ])
        refine anyN_ready (rs := [6]) (by kernel_rfl) (by simp) (AllN.cons (o := ?o107) ?hi107 (fun K hK => ?step107) AllN.nil)
        case hi107 => (simp only [List.getElem?_toArray, List.getElem?_cons_zero, List.getElem?_cons_succ]; (first | done | with_reducible rfl))
        case step107 =>
         go_simp
         (go_at_call 20; (with_reducible refine (cutR_any _ _ _ _ _ _).mono ?_); rintro e w107 ⟨rfl, hb⟩; replace g8 := keepf hb f8 g8; replace g9 := keepf hb f9 g9; replace g10 := keepf hb f10 g10; replace g11 := keepf hb f11 g11; replace g12 := keepf hb f12 g12; replace g13 := keepf hb f13 g13; replace g14 := keepf hb f14 g14; replace g15 := keepf hb f15 g15; replace f0 := keepc hb f0; replace f1 := keepc hb f1; replace f2 := keepc hb f2; replace f3 := keepc hb f3; replace f4 := keepc hb f4; replace f5 := keepc hb f5; replace f6 := keepc hb f6; replace f7 := keepc hb f7; replace f8 := keepc hb f8; replace f9 := keepc hb f9; replace f10 := keepc hb f10; replace f11 := keepc hb f11; replace f12 := keepc hb f12; replace f13 := keepc hb f13; replace f14 := keepc hb f14; replace f15 := keepc hb f15; replace B := keepb B hb; clear hb)
         refine hK.out _ _ ⟨f0, f1, f2, f3, f4, f5, f6, f7⟩ (fun _ => ?_)
         clear hK K
         (try simp only [Act.put, List.setIfInBounds_toArray, List.set_cons_zero, List.set_cons_succ])
         simp only [es0, es1, es2, es3]
         refine anyN_ready (rs := [7]) (by kernel_rfl) (by simp) (AllN.cons (o := ?o108) ?hi108 (fun K hK => ?step108) AllN.nil)
         case hi108 => (simp only [List.getElem?_toArray, List.getElem?_cons_zero, List.getElem?_cons_succ]; (first | done | with_reducible rfl))
         case step108 =>
          go_simp
          (go_at_call 22; (with_reducible refine (rect_any _ _ _ _ _).mono ?_); rintro e w108 ⟨rfl, hb⟩; replace g8 := keepf hb f8 g8; replace g9 := keepf hb f9 g9; replace g10 := keepf hb f10 g10; replace g11 := keepf hb f11 g11; replace g12 := keepf hb f12 g12; replace g13 := keepf hb f13 g13; replace g14 := keepf hb f14 g14; replace g15 := keepf hb f15 g15; replace f0 := keepc hb f0; replace f1 := keepc hb f1; replace f2 := keepc hb f2; replace f3 := keepc hb f3; replace f4 := keepc hb f4; replace f5 := keepc hb f5; replace f6 := keepc hb f6; replace f7 := keepc hb f7; replace f8 := keepc hb f8; replace f9 := keepc hb f9; replace f10 := keepc hb f10; replace f11 := keepc hb f11; replace f12 := keepc hb f12; replace f13 := keepc hb f13; replace f14 := keepc hb f14; replace f15 := keepc hb f15; replace B := keepb B hb; clear hb)
          refine hK.out _ _ ⟨f0, f1, f2, f3, f4, f5, f6, f7⟩ (fun _ => ?_)
          clear hK K
          (try simp only [Act.put, List.setIfInBounds_toArray, List.set_cons_zero, List.set_cons_succ])
          refine anyN_ready (rs := [10]) (by kernel_rfl) (by simp) ?_
          refine AllN.last (o := ?o109) ?hi109 (by simp) (fun K hK => ?step109) AllN.nil
          case hi109 => (simp only [List.getElem?_toArray, List.getElem?_cons_zero, List.getElem?_cons_succ]; (first | done | with_reducible rfl))
          go_simp
          have n0 : w10.heap.size ≠ w.heap.size := by clear B; omega
          have n1 : w10.heap.size ≠ w.heap.size + 1 := by clear B; omega
          have n2 : w10.heap.size ≠ w5.heap.size := by clear B; omega
          have nb : w.heap.size ≤ w10.heap.size := by clear B; omega
          refine namedS (K := K) f12 f13 f14 f15 (fun y109 hf z0 z1 z2 z3 => ?_)
          replace f0 := hf.cell f0 n0; replace f1 := hf.cell f1 n0; replace f2 := hf.cell f2 n0; replace f3 := hf.cell f3 n0; replace f4 := hf.cell f4 n1; replace f5 := hf.cell f5 n1; replace f6 := hf.cell f6 n1; replace f7 := hf.cell f7 n1; replace f8 := hf.cell f8 n2; replace f9 := hf.cell f9 n2; replace f10 := hf.cell f10 n2; replace f11 := hf.cell f11 n2; replace f12 := z0; replace f13 := z1; replace f14 := z2; replace f15 := z3; replace g8 := hf.frozen g8; replace g9 := hf.frozen g9; replace g10 := hf.frozen g10; replace g11 := hf.frozen g11; replace B := hf.below B nb; clear hf z0 z1 z2 z3 nb n0 n1 n2
          refine hK.out _ _ ?_
          clear hK K
          (try simp only [Act.put, List.setIfInBounds_toArray, List.set_cons_zero, List.set_cons_succ])
          refine anyN_ready (rs := [11]) (by kernel_rfl) (by simp) ?_
          refine AllN.last (o := ?o110) ?hi110 (by simp) (fun K hK => ?step110) AllN.nil
          case hi110 => (simp only [List.getElem?_toArray, List.getElem?_cons_zero, List.getElem?_cons_succ]; (first | done | with_reducible rfl))
          go_simp
          have n0 : w5.heap.size ≠ w.heap.size := by clear B; omega
          have n1 : w5.heap.size ≠ w.heap.size + 1 := by clear B; omega
          have n2 : w5.heap.size ≠ w10.heap.size := by clear B; omega
          have nb : w.heap.size ≤ w5.heap.size := by clear B; omega
          refine namedS (K := K) f8 f9 f10 f11 (fun y110 hf z0 z1 z2 z3 => ?_)
          replace f0 := hf.cell f0 n0; replace f1 := hf.cell f1 n0; replace f2 := hf.cell f2 n0; replace f3 := hf.cell f3 n0; replace f4 := hf.cell f4 n1; replace f5 := hf.cell f5 n1; replace f6 := hf.cell f6 n1; replace f7 := hf.cell f7 n1; replace f8 := z0; replace f9 := z1; replace f10 := z2; replace f11 := z3; replace f12 := hf.cell f12 n2; replace f13 := hf.cell f13 n2; replace f14 := hf.cell f14 n2; replace f15 := hf.cell f15 n2; replace B := hf.below B nb; clear hf z0 z1 z2 z3 nb n0 n1 n2
          refine hK.out _ _ ?_
          clear hK K
          (try simp only [Act.put, List.setIfInBounds_toArray, List.set_cons_zero, List.set_cons_succ])
          refine anyN_done (by kernel_rfl) ?_ _
          exact then_normal ⟨w10.heap.size, w5.heap.size, rfl, B, f0, f1, f2, f3, f4, f5, f6, f7, f12, f13, f14, f15, f8, f9, f10, f11⟩
    case step6 =>
     go_simp
     have m6 : w.heap.size + 1 < W.heap.size := World.block_lt_of_cell? W _ f7
     refine namedA (K := K) (fun w6 hb f8 f9 f10 f11 g8 g9 g10 g11 => ?_)
     replace f0 := keepc hb f0; replace f1 := keepc hb f1; replace f2 := keepc hb f2; replace f3 := keepc hb f3; replace f4 := keepc hb f4; replace f5 := keepc hb f5; replace f6 := keepc hb f6; replace f7 := keepc hb f7; replace B := keepb B hb; clear hb
     refine hK.out _ _ ⟨f0, f1, f2, f3, f4, f5, f6, f7⟩ (fun _ => ?_)
     clear hK K
     (try simp only [Act.put, List.setIfInBounds_toArray, List.set_cons_zero, List.set_cons_succ])
     refine anyN_ready (rs := [2, 9]) (by kernel_rfl) (by simp) (AllN.cons (o := ?o111) ?hi111 (fun K hK => ?step111) (AllN.cons (o := ?o112) ?hi112 (fun K hK => ?step112) AllN.nil))
     case hi111 => (simp only [List.getElem?_toArray, List.getElem?_cons_zero, List.getElem?_cons_succ]; (first | done | with_reducible rfl))
     case hi112 => (simp only [List.getElem?_toArray, List.getElem?_cons_zero, List.getElem?_cons_succ]; (first | done | with_reducible rfl))
     case step111 =>
      go_simp
      (go_at_call 20; (with_reducible refine (cutR_any _ _ _ _ _ _).mono ?_); rintro e w111 ⟨rfl, hb⟩; replace g8 := keepf hb f8 g8; replace g9 := keepf hb f9 g9; replace g10 := keepf hb f10 g10; replace g11 := keepf hb f11 g11; replace f0 := keepc hb f0; replace f1 := keepc hb f1; replace f2 := keepc hb f2; replace f3 := keepc hb f3; replace f4 := keepc hb f4; replace f5 := keepc hb f5; replace f6 := keepc hb f6; replace f7 := keepc hb f7; replace f8 := keepc hb f8; replace f9 := keepc hb f9; replace f10 := keepc hb f10; replace f11 := keepc hb f11; replace B := keepb B hb; clear hb)
      refine hK.out _ _ ⟨f0, f1, f2, f3, f4, f5, f6, f7⟩ (fun _ => ?_)
      clear hK K
      (try simp only [Act.put, List.setIfInBounds_toArray, List.set_cons_zero, List.set_cons_succ])
      simp only [er0, er1, er2, er3]
      refine anyN_ready (rs := [3, 9]) (by kernel_rfl) (by simp) (AllN.cons (o := ?o113) ?hi113 (fun K hK => ?step113) (AllN.cons (o := ?o114) ?hi114 (fun K hK => ?step114) AllN.nil))
      case hi113 => (simp only [List.getElem?_toArray, List.getElem?_cons_zero, List.getElem?_cons_succ]; (first | done | with_reducible rfl))
      case hi114 => (simp only [List.getElem?_toArray, List.getElem?_cons_zero, List.getElem?_cons_succ]; (first | done | with_reducible rfl))
      case step113 =>
       go_simp
       (go_at_call 22; (with_reducible refine (rect_any _ _ _ _ _).mono ?_); rintro e w113 ⟨rfl, hb⟩; replace g8 := keepf hb f8 g8; replace g9 := keepf hb f9 g9; replace g10 := keepf hb f10 g10; replace g11 := keepf hb f11 g11; replace f0 := keepc hb f0; replace f1 := keepc hb f1; replace f2 := keepc hb f2; replace f3 := keepc hb f3; replace f4 := keepc hb f4; replace f5 := keepc hb f5; replace f6 := keepc hb f6; replace f7 := keepc hb f7; replace f8 := keepc hb f8; replace f9 := keepc hb f9; replace f10 := keepc hb f10; replace f11 := keepc hb f11; replace B := keepb B hb; clear hb)
       refine hK.out _ _ ⟨f0, f1, f2, f3, f4, f5, f6, f7⟩ (fun _ => ?_)
       clear hK K
       (try simp only [Act.put, List.setIfInBounds_toArray, List.set_cons_zero, List.set_cons_succ])
       refine anyN_ready (rs := [6, 9]) (by kernel_rfl) (by simp) (AllN.cons (o := ?o115) ?hi115 (fun K hK => ?step115) (AllN.cons (o := ?o116) ?hi116 (fun K hK => ?step116) AllN.nil))
       case hi115 => (simp only [List.getElem?_toArray, List.getElem?_cons_zero, List.getElem?_cons_succ]; (first | done | with_reducible rfl))
       case hi116 => (simp only [List.getElem?_toArray, List.getElem?_cons_zero, List.getElem?_cons_succ]; (first | done | with_reducible rfl))
       case step115 =>
        go_simp
        (go_at_call 20; (with_reducible refine (cutR_any _ _ _ _ _ _).mono ?_); rintro e w115 ⟨rfl, hb⟩; replace g8 := keepf hb f8 g8; replace g9 := keepf hb f9 g9; replace g10 := keepf hb f10 g10; replace g11 := keepf hb f11 g11; replace f0 := keepc hb f0; replace f1 := keepc hb f1; replace f2 := keepc hb f2; replace f3 := keepc hb f3; replace f4 := keepc hb f4; replace f5 := keepc hb f5; replace f6 := keepc hb f6; replace f7 := keepc hb f7; replace f8 := keepc hb f8; replace f9 := keepc hb f9; replace f10 := keepc hb f10; replace f11 := keepc hb f11; replace B := keepb B hb; clear hb)
        refine hK.out _ _ ⟨f0, f1, f2, f3, f4, f5, f6, f7⟩ (fun _ => ?_)
        clear hK K
        (try simp only [Act.put, List.setIfInBounds_toArray, List.set_cons_zero, List.set_cons_succ])
        simp only [es0, es1, es2, es3]
        refine anyN_ready (rs := [7, 9]) (by kernel_rfl) (by simp) (AllN.cons (o := ?o117) ?hi117 (fun K hK => ?step117) (AllN.cons (o := ?o118) ?hi118 (fun K hK => ?step118) AllN.nil))
        case hi117 => (simp only [List.getElem?_toArray, List.getElem?_cons_zero, List.getElem?_cons_succ]; (first | done | with_reducible rfl))
        case hi118 => (simp only [List.getElem?_toArray, List.getElem?_cons_zero, List.getElem?_cons_succ]; (first | done | with_reducible rfl))
        case step117 =>
         go_simp
         (go_at_call 22; (with_reducible refine (rect_any _ _ _ _ _).mono ?_); rintro e w117 ⟨rfl, hb⟩; replace g8 := keepf hb f8 g8; replace g9 := keepf hb f9 g9; replace g10 := keepf hb f10 g10; replace g11 := keepf hb f11 g11; replace f0 := keepc hb f0; replace f1 := keepc hb f1; replace f2 := keepc hb f2; replace f3 := keepc hb f3; replace f4 := keepc hb f4; replace f5 := keepc hb f5; replace f6 := keepc hb f6; replace f7 := keepc hb f7; replace f8 := keepc hb f8; replace f9 := keepc hb f9; replace f10 := keepc hb f10; replace f11 := keepc hb f11; replace B := keepb B hb; clear hb)
         refine hK.out _ _ ⟨f0, f1, f2, f3, f4, f5, f6, f7⟩ (fun _ => ?_)
         clear hK K
         (try simp only [Act.put, List.setIfInBounds_toArray, List.set_cons_zero, List.set_cons_succ])
         refine anyN_ready (rs := [9]) (by kernel_rfl) (by simp) (AllN.cons (o := ?o119) ?hi119 (fun K hK => ?step119) AllN.nil)
         case hi119 => (simp only [List.getElem?_toArray, List.getElem?_cons_zero, List.getElem?_cons_succ]; (first | done | with_reducible rfl))
         case step119 =>
          go_simp
          have m119 : w.heap.size + 1 < w117.heap.size := World.block_lt_of_cell? w117 _ f7
          have p119 : W.heap.size < w117.heap.size := World.block_lt_of_cell? w117 _ f8
          refine namedA (K := K) (fun w119 hb f12 f13 f14 f15 g12 g13 g14 g15 => ?_)
          replace g8 := keepf hb f8 g8; replace g9 := keepf hb f9 g9; replace g10 := keepf hb f10 g10; replace g11 := keepf hb f11 g11; replace f0 := keepc hb f0; replace f1 := keepc hb f1; replace f2 := keepc hb f2; replace f3 := keepc hb f3; replace f4 := keepc hb f4; replace f5 := keepc hb f5; replace f6 := keepc hb f6; replace f7 := keepc hb f7; replace f8 := keepc hb f8; replace f9 := keepc hb f9; replace f10 := keepc hb f10; replace f11 := keepc hb f11; replace B := keepb B hb; clear hb
          refine hK.out _ _ ⟨f0, f1, f2, f3, f4, f5, f6, f7⟩ (fun _ => ?_)
          clear hK K
          (try simp only [Act.put, List.setIfInBounds_toArray, List.set_cons_zero, List.set_cons_succ])
          refine anyN_ready (rs := [10]) (by kernel_rfl) (by simp) ?_
          refine AllN.last (o := ?o120) ?hi120 (by simp) (fun K hK => ?step120) AllN.nil
          case hi120 => (simp only [List.getElem?_toArray, List.getElem?_cons_zero, List.getElem?_cons_succ]; (first | done | with_reducible rfl))
          go_simp
          have n0 : W.heap.size ≠ w.heap.size := by clear B; omega
          have n1 : W.heap.size ≠ w.heap.size + 1 := by clear B; omega
          have n2 : W.heap.size ≠ w117.heap.size := by clear B; omega
          have nb : w.heap.size ≤ W.heap.size := by clear B; omega
          refine namedS (K := K) f8 f9 f10 f11 (fun y120 hf z0 z1 z2 z3 => ?_)
          replace f0 := hf.cell f0 n0; replace f1 := hf.cell f1 n0; replace f2 := hf.cell f2 n0; replace f3 := hf.cell f3 n0; replace f4 := hf.cell f4 n1; replace f5 := hf.cell f5 n1; replace f6 := hf.cell f6 n1; replace f7 := hf.cell f7 n1; replace f8 := z0; replace f9 := z1; replace f10 := z2; replace f11 := z3; replace f12 := hf.cell f12 n2; replace f13 := hf.cell f13 n2; replace f14 := hf.cell f14 n2; replace f15 := hf.cell f15 n2; replace g12 := hf.frozen g12; replace g13 := hf.frozen g13; replace g14 := hf.frozen g14; replace g15 := hf.frozen g15; replace B := hf.below B nb; clear hf z0 z1 z2 z3 nb n0 n1 n2
          refine hK.out _ _ ?_
          clear hK K
          (try simp only [Act.put, List.setIfInBounds_toArray, List.set_cons_zero, List.set_cons_succ])
          refine anyN_ready (rs := [11]) (by kernel_rfl) (by simp) ?_
          refine AllN.last (o := ?o121) ?hi121 (by simp) (fun K hK => ?step121) AllN.nil
          case hi121 => (simp only [List.getElem?_toArray, List.getElem?_cons_zero, List.getElem?_cons_succ]; (first | done | with_reducible rfl))
          go_simp
          have n0 : w117.heap.size ≠ w.heap.size := by clear B; omega
          have n1 : w117.heap.size ≠ w.heap.size + 1 := by clear B; omega
          have n2 : w117.heap.size ≠ W.heap.size := by clear B; omega
          have nb : w.heap.size ≤ w117.heap.size := by clear B; omega
          refine namedS (K := K) f12 f13 f14 f15 (fun y121 hf z0 z1 z2 z3 => ?_)
          replace f0 := hf.cell f0 n0; replace f1 := hf.cell f1 n0; replace f2 := hf.cell f2 n0; replace f3 := hf.cell f3 n0; replace f4 := hf.cell f4 n1; replace f5 := hf.cell f5 n1; replace f6 := hf.cell f6 n1; replace f7 := hf.cell f7 n1; replace f8 := hf.cell f8 n2; replace f9 := hf.cell f9 n2; replace f10 := hf.cell f10 n2; replace f11 := hf.cell f11 n2; replace f12 := z0; replace f13 := z1; replace f14 := z2; replace f15 := z3; replace B := hf.below B nb; clear hf z0 z1 z2 z3 nb n0 n1 n2
          refine hK.out _ _ ?_
          clear hK K
          (try simp only [Act.put, List.setIfInBounds_toArray, List.set_cons_zero, List.set_cons_succ])
          refine anyN_done (by kernel_rfl) ?_ _
          exact then_normal ⟨W.heap.size, w117.heap.size, rfl, B, f0, f1, f2, f3, f4, f5, f6, f7, f8, f9, f10, f11, f12, f13, f14, f15⟩
        case step118 =>
         go_simp
         have m118 : w.heap.size + 1 < w115.heap.size := World.block_lt_of_cell? w115 _ f7
         have p118 : W.heap.size < w115.heap.size := World.block_lt_of_cell? w115 _ f8
         refine namedA (K := K) (fun w118 hb f12 f13 f14 f15 g12 g13 g14 g15 => ?_)
         replace g8 := keepf hb f8 g8; replace g9 := keepf hb f9 g9; replace g10 := keepf hb f10 g10; replace g11 := keepf hb f11 g11; replace f0 := keepc hb f0; replace f1 := keepc hb f1; replace f2 := keepc hb f2; replace f3 := keepc hb f3; replace f4 := keepc hb f4; replace f5 := keepc hb f5; replace f6 := keepc hb f6; replace f7 := keepc hb f7; replace f8 := keepc hb f8; replace f9 := keepc hb f9; replace f10 := keepc hb f10; replace f11 := keepc hb f11; replace B := keepb B hb; clear hb
         refine hK.out _ _ ⟨f0, f1, f2, f3, f4, f5, f6, f7⟩ (fun _ => ?_)
         clear hK K
         (try simp only [Act.put, List.setIfInBounds_toArray, List.set_cons_zero, List.set_cons_succ])
         refine anyN_ready (rs := [7]) (by kernel_rfl) (by simp) (AllN.cons (o := ?o122) ?hi122 (fun K hK => ?step122) AllN.nil)
         case hi122 => (simp only [List.getElem?_toArray, List.getElem?_cons_zero, List.getElem?_cons_succ]; (first | done | with_reducible rfl))
         case step122 =>
          go_simp
          (go_at_call 22; (with_reducible refine (rect_any _ _ _ _ _).mono ?_); rintro e w122 ⟨rfl, hb⟩; replace g8 := keepf hb f8 g8; replace g9 := keepf hb f9 g9; replace g10 := keepf hb f10 g10; replace g11 := keepf hb f11 g11; replace g12 := keepf hb f12 g12; replace g13 := keepf hb f13 g13; replace g14 := keepf hb f14 g14; replace g15 := keepf hb f15 g15; replace f0 := keepc hb f0; replace f1 := keepc hb f1; replace f2 := keepc hb f2; replace f3 := keepc hb f3; replace f4 := keepc hb f4; replace f5 := keepc hb f5; replace f6 := keepc hb f6; replace f7 := keepc hb f7; replace f8 := keepc hb f8; replace f9 := keepc hb f9; replace f10 := keepc hb f10; replace f11 := keepc hb f11; replace f12 := keepc hb f12; replace f13 := keepc hb f13; replace f14 := keepc hb f14; replace f15 := keepc hb f15; replace B := keepb B hb; clear hb)
          refine hK.out _ _ ⟨f0, f1, f2, f3, f4, f5, f6, f7⟩ (fun _ => ?_)
          clear hK K
          (try simp only [Act.put, List.setIfInBounds_toArray, List.set_cons_zero, List.set_cons_succ])
          refine anyN_ready (rs := [10]) (by kernel_rfl) (by simp) ?_
          refine AllN.last (o := ?o123) ?hi123 (by simp) (fun K hK => ?step123) AllN.nil
          case hi123 => (simp only [List.getElem?_toArray, List.getElem?_cons_zero, List.getElem?_cons_succ]; (first | done | with_reducible rfl))
          go_simp
          have n0 : W.heap.size ≠ w.heap.size := by clear B; omega
          have n1 : W.heap.size ≠ w.heap.size + 1 := by clear B; omega
          have n2 : W.heap.size ≠ w115.heap.size := by clear B; omega
          have nb : w.heap.size ≤ W.heap.size := by clear B; omega
          refine namedS (K := K) f8 f9 f10 f11 (fun y123 hf z0 z1 z2 z3 => ?_)
          replace f0 := hf.cell f0 n0; replace f1 := hf.cell f1 n0; replace f2 := hf.cell f2 n0; replace f3 := hf.cell f3 n0; replace f4 := hf.cell f4 n1; replace f5 := hf.cell f5 n1; replace f6 := hf.cell f6 n1; replace f7 := hf.cell f7 n1; replace f8 := z0; replace f9 := z1; replace f10 := z2; replace f11 := z3; replace f12 := hf.cell f12 n2; replace f13 := hf.cell f13 n2; replace f14 := hf.cell f14 n2; replace f15 := hf.cell f15 n2; replace g12 := hf.frozen g12; replace g13 := hf.frozen g13; replace g14 := hf.frozen g14; replace g15 := hf.frozen g15; replace B := hf.below B nb; clear hf z0 z1 z2 z3 nb n0 n1 n2
          refine hK.out _ _ ?_
          clear hK K
          (try simp only [Act.put, List.setIfInBounds_toArray, List.set_cons_zero, List.set_cons_succ])
          refine anyN_ready (rs := [11]) (by kernel_rfl) (by simp) ?_
          refine AllN.last (o := ?o124) ?hi124 (by simp) (fun K hK => ?step124) AllN.nil
          case hi124 => (simp only [List.getElem?_toArray, List.getElem?_cons_zero, List.getElem?_cons_succ]; (first | done | with_reducible rfl))
          go_simp
          have n0 : w115.heap.size ≠ w.heap.size := by clear B; omega
          have n1 : w115.heap.size ≠ w.heap.size + 1 := by clear B; omega
          have n2 : w115.heap.size ≠ W.heap.size := by clear B; omega
          have nb : w.heap.size ≤ w115.heap.size := by clear B; omega
          refine namedS (K := K) f12 f13 f14 f15 (fun y124 hf z0 z1 z2 z3 => ?_)
          replace f0 := hf.cell f0 n0; replace f1 := hf.cell f1 n0; replace f2 := hf.cell f2 n0; replace f3 := hf.cell f3 n0; replace f4 := hf.cell f4 n1; replace f5 := hf.cell f5 n1; replace f6 := hf.cell f6 n1; replace f7 := hf.cell f7 n1; replace f8 := hf.cell f8 n2; replace f9 := hf.cell f9 n2; replace f10 := hf.cell f10 n2; replace f11 := hf.cell f11 n2; replace f12 := z0; replace f13 := z1; replace f14 := z2; replace f15 := z3; replace B := hf.below B nb; clear hf z0 z1 z2 z3 nb n0 n1 n2
          refine hK.out _ _ ?_
          clear hK K
          (try simp only [Act.put, List.setIfInBounds_toArray, List.set_cons_zero, List.set_cons_succ])
          refine anyN_done (by kernel_rfl) ?_ _
          exact then_normal ⟨W.heap.size, w115.heap.size, rfl, B, f0, f1, f2, f3, f4, f5, f6, f7, f8, f9, f10, f11, f12, f13, f14, f15⟩
       case step116 =>
        go_simp
        have m116 : w.heap.size + 1 < w113.heap.size := World.block_lt_of_cell? w113 _ f7
        have p116 : W.heap.size < w113.heap.size := World.block_lt_of_cell? w113 _ f8
        refine namedA (K := K) (fun w116 hb f12 f13 f14 f15 g12 g13 g14 g15 => ?_)
        replace g8 := keepf hb f8 g8; replace g9 := keepf hb f9 g9; replace g10 := keepf hb f10 g10; replace g11 := keepf hb f11 g11; replace f0 := keepc hb f0; replace f1 := keepc hb f1; replace f2 := keepc hb f2; replace f3 := keepc hb f3; replace f4 := keepc hb f4; replace f5 := keepc hb f5; replace f6 := keepc hb f6; replace f7 := keepc hb f7; replace f8 := keepc hb f8; replace f9 := keepc hb f9; replace f10 := keepc hb f10; replace f11 := keepc hb f11; replace B := keepb B hb; clear hb
        refine hK.out _ _ ⟨f0, f1, f2, f3, f4, f5, f6, f7⟩ (fun _ => ?_)
        clear hK K
        (try simp only [Act.put, List.setIfInBounds_toArray, List.set_cons_zero, List.set_cons_succ])
        refine anyN_ready (rs := [6]) (by kernel_rfl) (by simp) (AllN.cons (o := ?o125) ?hi125 (fun K hK => ?step125) AllN.nil)
        case hi125 => (simp only [List.getElem?_toArray, List.getElem?_cons_zero, List.getElem?_cons_succ]; (first | done | with_reducible rfl))
        case step125 =>
         go_simp
         (go_at_call 20; (with_reducible refine (cutR_any _ _ _ _ _ _).mono ?_); rintro e w125 ⟨rfl, hb⟩; replace g8 := keepf hb f8 g8; replace g9 := keepf hb f9 g9; replace g10 := keepf hb f10 g10; replace g11 := keepf hb f11 g11; replace g12 := keepf hb f12 g12; replace g13 := keepf hb f13 g13; replace g14 := keepf hb f14 g14; replace g15 := keepf hb f15 g15; replace f0 := keepc hb f0; replace f1 := keepc hb f1; replace f2 := keepc hb f2; replace f3 := keepc hb f3; replace f4 := keepc hb f4; replace f5 := keepc hb f5; replace f6 := keepc hb f6; replace f7 := keepc hb f7; replace f8 := keepc hb f8; replace f9 := keepc hb f9; replace f10 := keepc hb f10; replace f11 := keepc hb f11; replace f12 := keepc hb f12; replace f13 := keepc hb f13; replace f14 := keepc hb f14; replace f15 := keepc hb f15; replace B := keepb B hb; clear hb)
         refine hK.out _ _ ⟨f0, f1, f2, f3, f4, f5, f6, f7⟩ (fun _ => ?_)
         clear hK K
         (try simp only [Act.put, List.setIfInBounds_toArray, List.set_cons_zero, List.set_cons_succ])
         simp only [es0, es1, es2, es3]
         refine anyN_ready (rs := [7]) (by kernel_rfl) (by simp) (AllN.cons (o := ?o126) ?hi126 (fun K hK => ?step126) AllN.nil)
         case hi126 => (simp only [List.getElem?_toArray, List.getElem?_cons_zero, List.getElem?_cons_succ]; (first | done | with_reducible rfl))
         case step126 =>
          go_simp
          (go_at_call 22; (with_reducible refine (rect_any _ _ _ _ _).mono ?_); rintro e w126 ⟨rfl, hb⟩; replace g8 := keepf hb f8 g8; replace g9 := keepf hb f9 g9; replace g10 := keepf hb f10 g10; replace g11 := keepf hb f11 g11; replace g12 := keepf hb f12 g12; replace g13 := keepf hb f13 g13; replace g14 := keepf hb f14 g14; replace g15 := keepf hb f15 g15; replace f0 := keepc hb f0; replace f1 := keepc hb f1; replace f2 := keepc hb f2; replace f3 := keepc hb f3; replace f4 := keepc hb f4; replace f5 := keepc hb f5; replace f6 := keepc hb f6; replace f7 := keepc hb f7; replace f8 := keepc hb f8; replace f9 := keepc hb f9; replace f10 := keepc hb f10; replace f11 := keepc hb f11; replace f12 := keepc hb f12; replace f13 := keepc hb f13; replace f14 := keepc hb f14; replace f15 := keepc hb f15; replace B := keepb B hb; clear hb)
          refine hK.out _ _ ⟨f0, f1, f2, f3, f4, f5, f6, f7⟩ (fun _ => ?_)
          clear hK K
          (try simp only [Act.put, List.setIfInBounds_toArray, List.set_cons_zero, List.set_cons_succ])
          refine anyN_ready (rs := [10]) (by kernel_rfl) (by simp) ?_
          refine AllN.last (o := ?o127) ?hi127 (by simp) (fun K hK => ?step127) AllN.nil
          case hi127 => (simp only [List.getElem?_toArray, List.getElem?_cons_zero, List.getElem?_cons_succ]; (first | done | with_reducible rfl))
          go_simp
          have n0 : W.heap.size ≠ w.heap.size := by clear B; omega
          have n1 : W.heap.size ≠ w.heap.size + 1 := by clear B; omega
          have n2 : W.heap.size ≠ w113.heap.size := by clear B; omega
          have nb : w.heap.size ≤ W.heap.size := by clear B; omega
          refine namedS (K := K) f8 f9 f10 f11 (fun y127 hf z0 z1 z2 z3 => ?_)
          replace f0 := hf.cell f0 n0; replace f1 := hf.cell f1 n0; replace f2 := hf.cell f2 n0; replace f3 := hf.cell f3 n0; replace f4 := hf.cell f4 n1; replace f5 := hf.cell f5 n1; replace f6 := hf.cell f6 n1; replace f7 := hf.cell f7 n1; replace f8 := z0; replace f9 := z1; replace f10 := z2; replace f11 := z3; replace f12 := hf.cell f12 n2; replace f13 := hf.cell f13 n2; replace f14 := hf.cell f14 n2; replace f15 := hf.cell f15 n2; replace g12 := hf.frozen g12; replace g13 := hf.frozen g13; replace g14 := hf.frozen g14; replace g15 := hf.frozen g15; replace B := hf.below B nb; clear hf z0 z1 z2 z3 nb n0 n1 n2
          refine hK.out _ _ ?_
          clear hK K
          (try simp only [Act.put, List.setIfInBounds_toArray, List.set_cons_zero, List.set_cons_succ])
          refine anyN_ready (rs := [11]) (by kernel_rfl) (by simp) ?_
          refine AllN.last (o := ?o128) ?hi128 (by simp) (fun K hK => ?step128) AllN.nil
          case hi128 => (simp only [List.getElem?_toArray, List.getElem?_cons_zero, List.getElem?_cons_succ]; (first | done | with_reducible rfl))
          go_simp
          have n0 : w113.heap.size ≠ w.heap.size := by clear B; omega
          have n1 : w113.heap.size ≠ w.heap.size + 1 := by clear B; omega
          have n2 : w113.heap.size ≠ W.heap.size := by clear B; omega
          have nb : w.heap.size ≤ w113.heap.size := by clear B; omega
          refine namedS (K := K) f12 f13 f14 f15 (fun y128 hf z0 z1 z2 z3 => ?_)
          replace f0 := hf.cell f0 n0; replace f1 := hf.cell f1 n0; replace f2 := hf.cell f2 n0; replace f3 := hf.cell f3 n0; replace f4 := hf.cell f4 n1; replace f5 := hf.cell f5 n1; replace f6 := hf.cell f6 n1; replace f7 := hf.cell f7 n1; replace f8 := hf.cell f8 n2; replace f9 := hf.cell f9 n2; replace f10 := hf.cell f10 n2; replace f11 := hf.cell f11 n2; replace f12 := z0; replace f13 := z1; replace f14 := z2; replace f15 := z3; replace B := hf.below B nb; clear hf z0 z1 z2 z3 nb n0 n1 n2
          refine hK.out _ _ ?_
          clear hK K
          (try simp only [Act.put, List.setIfInBounds_toArray, List.set_cons_zero, List.set_cons_succ])
          refine anyN_done (by kernel_rfl) ?_ _
          exact then_normal ⟨W.heap.size, w113.heap.size, rfl, B, f0, f1, f2, f3, f4, f5, f6, f7, f8, f9, f10, f11, f12, f13, f14, f15⟩
      case step114 =>
       go_simp
       have m114 : w.heap.size + 1 < w111.heap.size := World.block_lt_of_cell? w111 _ f7
       have p114 : W.heap.size < w111.heap.size := World.block_lt_of_cell? w111 _ f8
       refine namedA (K := K) (fun w114 hb f12 f13 f14 f15 g12 g13 g14 g15 => ?_)
       replace g8 := keepf hb f8 g8; replace g9 := keepf hb f9 g9; replace g10 := keepf hb f10 g10; replace g11 := keepf hb f11 g11; replace f0 := keepc hb f0; replace f1 := keepc hb f1; replace f2 := keepc hb f2; replace f3 := keepc hb f3; replace f4 := keepc hb f4; replace f5 := keepc hb f5; replace f6 := keepc hb f6; replace f7 := keepc hb f7; replace f8 := keepc hb f8; replace f9 := keepc hb f9; replace f10 := keepc hb f10; replace f11 := keepc hb f11; replace B := keepb B hb; clear hb
       refine hK.out _ _ ⟨f0, f1, f2, f3, f4, f5, f6, f7⟩ (fun _ => ?_)
       clear hK K
       (try simp only [Act.put, List.setIfInBounds_toArray, List.set_cons_zero, List.set_cons_succ])
       refine anyN_ready (rs := [3]) (by kernel_rfl) (by simp) (AllN.cons (o := ?o129) ?hi129 (fun K hK => ?step129) AllN.nil)
       case hi129 => (simp only [List.getElem?_toArray, List.getElem?_cons_zero, List.getElem?_cons_succ]; (first | done | with_reducible rfl))
       case step129 =>
        go_simp
        (go_at_call 22; (with_reducible refine (rect_any _ _ _ _ _).mono ?_); rintro e w129 ⟨rfl, hb⟩; replace g8 := keepf hb f8 g8; replace g9 := keepf hb f9 g9; replace g10 := keepf hb f10 g10; replace g11 := keepf hb f11 g11; replace g12 := keepf hb f12 g12; replace g13 := keepf hb f13 g13; replace g14 := keepf hb f14 g14; replace g15 := keepf hb f15 g15; replace f0 := keepc hb f0; replace f1 := keepc hb f1; replace f2 := keepc hb f2; replace f3 := keepc hb f3; replace f4 := keepc hb f4; replace f5 := keepc hb f5; replace f6 := keepc hb f6; replace f7 := keepc hb f7; replace f8 := keepc hb f8; replace f9 := keepc hb f9; replace f10 := keepc hb f10; replace f11 := keepc hb f11; replace f12 := keepc hb f12; replace f13 := keepc hb f13; replace f14 := keepc hb f14; replace f15 := keepc hb f15; replace B := keepb B hb; clear hb)
        refine hK.out _ _ ⟨f0, f1, f2, f3, f4, f5, f6, f7⟩ (fun _ => ?_)
        clear hK K
        (try simp only [Act.put, List.setIfInBounds_toArray, List.set_cons_zero, List.set_cons_succ])
        refine anyN_ready (rs := [6]) (by kernel_rfl) (by simp) (AllN.cons (o := ?o130) ?hi130 (fun K hK => ?step130) AllN.nil)
        case hi130 => (simp only [List.getElem?_toArray, List.getElem?_cons_zero, List.getElem?_cons_succ]; (first | done | with_reducible rfl))
        case step130 =>
         go_simp
         (go_at_call 20; (with_reducible refine (cutR_any _ _ _ _ _ _).mono ?_); rintro e w130 ⟨rfl, hb⟩; replace g8 := keepf hb f8 g8; replace g9 := keepf hb f9 g9; replace g10 := keepf hb f10 g10; replace g11 := keepf hb f11 g11; replace g12 := keepf hb f12 g12; replace g13 := keepf hb f13 g13; replace g14 := keepf hb f14 g14; replace g15 := keepf hb f15 g15; replace f0 := keepc hb f0; replace f1 := keepc hb f1; replace f2 := keepc hb f2; replace f3 := keepc hb f3; replace f4 := keepc hb f4; replace f5 := keepc hb f5; replace f6 := keepc hb f6; replace f7 := keepc hb f7; replace f8 := keepc hb f8; replace f9 := keepc hb f9; replace f10 := keepc hb f10; replace f11 := keepc hb f11; replace f12 := keepc hb f12; replace f13 := keepc hb f13; replace f14 := keepc hb f14; replace f15 := keepc hb f15; replace B := keepb B hb; clear hb)
         refine hK.out _ _ ⟨f0, f1, f2, f3, f4, f5, f6, f7⟩ (fun _ => ?_)
         clear hK K
         (try simp only [Act.put, List.setIfInBounds_toArray, List.set_cons_zero, List.set_cons_succ])
         simp only [es0, es1, es2, es3]
         refine anyN_ready (rs := [7]) (by kernel_rfl) (by simp) (AllN.cons (o := ?o131) ?hi131 (fun K hK => ?step131) AllN.nil)
         case hi131 => (simp only [List.getElem?_toArray, List.getElem?_cons_zero, List.getElem?_cons_succ]; (first | done | with_reducible rfl))
         case step131 =>
          go_simp
          (go_at_call 22; (with_reducible refine (rect_any _ _ _ _ _).mono ?_); rintro e w131 ⟨rfl, hb⟩; replace g8 := keepf hb f8 g8; replace g9 := keepf hb f9 g9; replace g10 := keepf hb f10 g10; replace g11 := keepf hb f11 g11; replace g12 := keepf hb f12 g12; replace g13 := keepf hb f13 g13; replace g14 := keepf hb f14 g14; replace g15 := keepf hb f15 g15; replace f0 := keepc hb f0; replace f1 := keepc hb f1; replace f2 := keepc hb f2; replace f3 := keepc hb f3; replace f4 := keepc hb f4; replace f5 := keepc hb f5; replace f6 := keepc hb f6; replace f7 := keepc hb f7; replace f8 := keepc hb f8; replace f9 := keepc hb f9; replace f10 := keepc hb f10; replace f11 := keepc hb f11; replace f12 := keepc hb f12; replace f13 := keepc hb f13; replace f14 := keepc hb f14; replace f15 := keepc hb f15; replace B := keepb B hb; clear hb)
          refine hK.out _ _ ⟨f0, f1, f2, f3, f4, f5, f6, f7⟩ (fun _ => ?_)
          clear hK K
          (try simp only [Act.put, List.setIfInBounds_toArray, List.set_cons_zero, List.set_cons_succ])
          refine anyN_ready (rs := [10]) (by kernel_rfl) (by simp) ?_
          refine AllN.last (o := ?o132) ?hi132 (by simp) (fun K hK => ?step132) AllN.nil
          case hi132 => (simp only [List.getElem?_toArray, List.getElem?_cons_zero, List.getElem?_cons_succ]; (first | done | with_reducible rfl))
          go_simp
          have n0 : W.heap.size ≠ w.heap.size := by clear B; omega
          have n1 : W.heap.size ≠ w.heap.size + 1 := by clear B; omega
          have n2 : W.heap.size ≠ w111.heap.size := by clear B; omega
          have nb : w.heap.size ≤ W.heap.size := by clear B; omega
          refine namedS (K := K) f8 f9 f10 f11 (fun y132 hf z0 z1 z2 z3 => ?_)
          replace f0 := hf.cell f0 n0; replace f1 := hf.cell f1 n0; replace f2 := hf.cell f2 n0; replace f3 := hf.cell f3 n0; replace f4 := hf.cell f4 n1; replace f5 := hf.cell f5 n1; replace f6 := hf.cell f6 n1; replace f7 := hf.cell f7 n1; replace f8 := z0; replace f9 := z1; replace f10 := z2; replace f11 := z3; replace f12 := hf.cell f12 n2; replace f13 := hf.cell f13 n2; replace f14 := hf.cell f14 n2; replace f15 := hf.cell f15 n2; replace g12 := hf.frozen g12; replace g13 := hf.frozen g13; replace g14 := hf.frozen g14; replace g15 := hf.frozen g15; replace B := hf.below B nb; clear hf z0 z1 z2 z3 nb n0 n1 n2
          refine hK.out _ _ ?_
          clear hK K
          (try simp only [Act.put, List.setIfInBounds_toArray, List.set_cons_zero, List.set_cons_succ])
          refine anyN_ready (rs := [11]) (by kernel_rfl) (by simp) ?_
          refine AllN.last (o := ?o133) ?hi133 (by simp) (fun K hK => ?step133) AllN.nil
          case hi133 => (simp only [List.getElem?_toArray, List.getElem?_cons_zero, List.getElem?_cons_succ]; (first | done | with_reducible rfl))
          go_simp
          have n0 : w111.heap.size ≠ w.heap.size := by clear B; omega
          have n1 : w111.heap.size ≠ w.heap.size + 1 := by clear B; omega
          have n2 : w111.heap.size ≠ W.heap.size := by clear B; omega
          have nb : w.heap.size ≤ w111.heap.size := by clear B; omega
          refine namedS (K := K) f12 f13 f14 f15 (fun y133 hf z0 z1 z2 z3 => ?_)
          replace f0 := hf.cell f0 n0; replace f1 := hf.cell f1 n0; replace f2 := hf.cell f2 n0; replace f3 := hf.cell f3 n0; replace f4 := hf.cell f4 n1; replace f5 := hf.cell f5 n1; replace f6 := hf.cell f6 n1; replace f7 := hf.cell f7 n1; replace f8 := hf.cell f8 n2; replace f9 := hf.cell f9 n2; replace f10 := hf.cell f10 n2; replace f11 := hf.cell f11 n2; replace f12 := z0; replace f13 := z1; replace f14 := z2; replace f15 := z3; replace B := hf.below B nb; clear hf z0 z1 z2 z3 nb n0 n1 n2
          refine hK.out _ _ ?_
          clear hK K
          (try simp only [Act.put, List.setIfInBounds_toArray, List.set_cons_zero, List.set_cons_succ])
          refine anyN_done (by kernel_rfl) ?_ _
          exact then_normal ⟨W.heap.size, w111.heap.size, rfl, B, f0, f1, f2, f3, f4, f5, f6, f7, f8, f9, f10, f11, f12, f13, f14, f15⟩
     case step112 =>
      go_simp
      have m112 : w.heap.size + 1 < w6.heap.size := World.block_lt_of_cell? w6 _ f7
      have p112 : W.heap.size < w6.heap.size := World.block_lt_of_cell? w6 _ f8
      refine namedA (K := K) (fun w112 hb f12 f13 f14 f15 g12 g13 g14 g15 => ?_)
      replace g8 := keepf hb f8 g8; replace g9 := keepf hb f9 g9; replace g10 := keepf hb f10 g10; replace g11 := keepf hb f11 g11; replace f0 := keepc hb f0; replace f1 := keepc hb f1; replace f2 := keepc hb f2; replace f3 := keepc hb f3; replace f4 := keepc hb f4; replace f5 := keepc hb f5; replace f6 := keepc hb f6; replace f7 := keepc hb f7; replace f8 := keepc hb f8; replace f9 := keepc hb f9; replace f10 := keepc hb f10; replace f11 := keepc hb f11; replace B := keepb B hb; clear hb
      refine hK.out _ _ ⟨f0, f1, f2, f3, f4, f5, f6, f7⟩ (fun _ => ?_)
      clear hK K
      (try simp only [Act.put, List.setIfInBounds_toArray, List.set_cons_zero, List.set_cons_succ])
      refine anyN_ready (rs := [2]) (by kernel_rfl) (by simp) (AllN.cons (o := ?o134) ?hi134 (fun K hK => ?step134) AllN.nil)
      case hi134 => (simp only [List.getElem?_toArray, List.getElem?_cons_zero, List.getElem?_cons_succ]; (first | done | with_reducible rfl))
      case step134 =>
       go_simp
       (go_at_call 20; (with_reducible refine (cutR_any _ _ _ _ _ _).mono ?_); rintro e w134 ⟨rfl, hb⟩; replace g8 := keepf hb f8 g8; replace g9 := keepf hb f9 g9; replace g10 := keepf hb f10 g10; replace g11 := keepf hb f11 g11; replace g12 := keepf hb f12 g12; replace g13 := keepf hb f13 g13; replace g14 := keepf hb f14 g14; replace g15 := keepf hb f15 g15; replace f0 := keepc hb f0; replace f1 := keepc hb f1; replace f2 := keepc hb f2; replace f3 := keepc hb f3; replace f4 := keepc hb f4; replace f5 := keepc hb f5; replace f6 := keepc hb f6; replace f7 := keepc hb f7; replace f8 := keepc hb f8; replace f9 := keepc hb f9; replace f10 := keepc hb f10; replace f11 := keepc hb f11; replace f12 := keepc hb f12; replace f13 := keepc hb f13; replace f14 := keepc hb f14; replace f15 := keepc hb f15; replace B := keepb B hb; clear hb)
       refine hK.out _ _ ⟨f0, f1, f2, f3, f4, f5, f6, f7⟩ (fun _ => ?_)
       clear hK K
       (try simp only [Act.put, List.setIfInBounds_toArray, List.set_cons_zero, List.set_cons_succ])
       simp only [er0, er1, er2, er3]
       refine anyN_ready (rs := [3]) (by kernel_rfl) (by simp) (AllN.cons (o := ?o135) ?hi135 (fun K hK => ?step135) AllN.nil)
       case hi135 => (simp only [List.getElem?_toArray, List.getElem?_cons_zero, List.getElem?_cons_succ]; (first | done | with_reducible rfl))
       case step135 =>
        go_simp
        (go_at_call 22; (with_reducible refine (rect_any _ _ _ _ _).mono ?_); rintro e w135 ⟨rfl, hb⟩; replace g8 := keepf hb f8 g8; replace g9 := keepf hb f9 g9; replace g10 := keepf hb f10 g10; replace g11 := keepf hb f11 g11; replace g12 := keepf hb f12 g12; replace g13 := keepf hb f13 g13; replace g14 := keepf hb f14 g14; replace g15 := keepf hb f15 g15; replace f0 := keepc hb f0; replace f1 := keepc hb f1; replace f2 := keepc hb f2; replace f3 := keepc hb f3; replace f4 := keepc hb f4; replace f5 := keepc hb f5; replace f6 := keepc hb f6; replace f7 := keepc hb f7; replace f8 := keepc hb f8; replace f9 := keepc hb f9; replace f10 := keepc hb f10; replace f11 := keepc hb f11; replace f12 := keepc hb f12; replace f13 := keepc hb f13; replace f14 := keepc hb f14; replace f15 := keepc hb f15; replace B := keepb B hb; clear hb)
        refine hK.out _ _ ⟨f0, f1, f2, f3, f4, f5, f6, f7⟩ (fun _ => ?_)
        clear hK K
        (try simp only [Act.put, List.setIfInBounds_toArray, List.set_cons_zero, List.set_cons_succ])
        refine anyN_ready (rs := [6]) (by kernel_rfl) (by simp) (AllN.cons (o := ?o136) ?hi136 (fun K hK => ?step136) AllN.nil)
        case hi136 => (simp only [List.getElem?_toArray, List.getElem?_cons_zero, List.getElem?_cons_succ]; (first | done | with_reducible rfl))
        case step136 =>
         go_simp
         (go_at_call 20; (with_reducible refine (cutR_any _ _ _ _ _ _).mono ?_); rintro e w136 ⟨rfl, hb⟩; replace g8 := keepf hb f8 g8; replace g9 := keepf hb f9 g9; replace g10 := keepf hb f10 g10; replace g11 := keepf hb f11 g11; replace g12 := keepf hb f12 g12; replace g13 := keepf hb f13 g13; replace g14 := keepf hb f14 g14; replace g15 := keepf hb f15 g15; replace f0 := keepc hb f0; replace f1 := keepc hb f1; replace f2 := keepc hb f2; replace f3 := keepc hb f3; replace f4 := keepc hb f4; replace f5 := keepc hb f5; replace f6 := keepc hb f6; replace f7 := keepc hb f7; replace f8 := keepc hb f8; replace f9 := keepc hb f9; replace f10 := keepc hb f10; replace f11 := keepc hb f11; replace f12 := keepc hb f12; replace f13 := keepc hb f13; replace f14 := keepc hb f14; replace f15 := keepc hb f15; replace B := keepb B hb; clear hb)
         refine hK.out _ _ ⟨f0, f1, f2, f3, f4, f5, f6, f7⟩ (fun _ => ?_)
         clear hK K
         (try simp only [Act.put, List.setIfInBounds_toArray, List.set_cons_zero, List.set_cons_succ])
         simp only [es0, es1, es2, es3]
         refine anyN_ready (rs := [7]) (by kernel_rfl) (by simp) (AllN.cons (o := ?o137) ?hi137 (fun K hK => ?step137) AllN.nil)
         case hi137 => (simp only [List.getElem?_toArray, List.getElem?_cons_zero, List.getElem?_cons_succ]; (first | done | with_reducible rfl))
         case step137 =>
          go_simp
          (go_at_call 22; (with_reducible refine (rect_any _ _ _ _ _).mono ?_); rintro e w137 ⟨rfl, hb⟩; replace g8 := keepf hb f8 g8; replace g9 := keepf hb f9 g9; replace g10 := keepf hb f10 g10; replace g11 := keepf hb f11 g11; replace g12 := keepf hb f12 g12; replace g13 := keepf hb f13 g13; replace g14 := keepf hb f14 g14; replace g15 := keepf hb f15 g15; replace f0 := keepc hb f0; replace f1 := keepc hb f1; replace f2 := keepc hb f2; replace f3 := keepc hb f3; replace f4 := keepc hb f4; replace f5 := keepc hb f5; replace f6 := keepc hb f6; replace f7 := keepc hb f7; replace f8 := keepc hb f8; replace f9 := keepc hb f9; replace f10 := keepc hb f10; replace f11 := keepc hb f11; replace f12 := keepc hb f12; replace f13 := keepc hb f13; replace f14 := keepc hb f14; replace f15 := keepc hb f15; replace B := keepb B hb; clear hb)
          refine hK.out _ _ ⟨f0, f1, f2, f3, f4, f5, f6, f7⟩ (fun _ => ?_)
          clear hK K
          (try simp only [Act.put, List.setIfInBounds_toArray, List.set_cons_zero, List.set_cons_succ])
          refine anyN_ready (rs := [10]) (by kernel_rfl) (by simp) ?_
          refine AllN.last (o := ?o138) ?hi138 (by simp) (fun K hK => ?step138) AllN.nil
          case hi138 => (simp only [List.getElem?_toArray, List.getElem?_cons_zero, List.getElem?_cons_succ]; (first | done | with_reducible rfl))
          go_simp
          have n0 : W.heap.size ≠ w.heap.size := by clear B; omega
          have n1 : W.heap.size ≠ w.heap.size + 1 := by clear B; omega
          have n2 : W.heap.size ≠ w6.heap.size := by clear B; omega
          have nb : w.heap.size ≤ W.heap.size := by clear B; omega
          refine namedS (K := K) f8 f9 f10 f11 (fun y138 hf z0 z1 z2 z3 => ?_)
          replace f0 := hf.cell f0 n0; replace f1 := hf.cell f1 n0; replace f2 := hf.cell f2 n0; replace f3 := hf.cell f3 n0; replace f4 := hf.cell f4 n1; replace f5 := hf.cell f5 n1; replace f6 := hf.cell f6 n1; replace f7 := hf.cell f7 n1; replace f8 := z0; replace f9 := z1; replace f10 := z2; replace f11 := z3; replace f12 := hf.cell f12 n2; replace f13 := hf.cell f13 n2; replace f14 := hf.cell f14 n2; replace f15 := hf.cell f15 n2; replace g12 := hf.frozen g12; replace g13 := hf.frozen g13; replace g14 := hf.frozen g14; replace g15 := hf.frozen g15; replace B := hf.below B nb; clear hf z0 z1 z2 z3 nb n0 n1 n2
          refine hK.out _ _ ?_
          clear hK K
          (try simp only [Act.put, List.setIfInBounds_toArray, List.set_cons_zero, List.set_cons_succ])
          refine anyN_ready (rs := [11]) (by kernel_rfl) (by simp) ?_
          refine AllN.last (o := ?o139) ?hi139 (by simp) (fun K hK => ?step139) AllN.nil
          case hi139 => (simp only [List.getElem?_toArray, List.getElem?_cons_zero, List.getElem?_cons_succ]; (first | done | with_reducible rfl))
          go_simp
          have n0 : w6.heap.size ≠ w.heap.size := by clear B; omega
          have n1 : w6.heap.size ≠ w.heap.size + 1 := by clear B; omega
          have n2 : w6.heap.size ≠ W.heap.size := by clear B; omega
          have nb : w.heap.size ≤ w6.heap.size := by clear B; omega
          refine namedS (K := K) f12 f13 f14 f15 (fun y139 hf z0 z1 z2 z3 => ?_)
          replace f0 := hf.cell f0 n0; replace f1 := hf.cell f1 n0; replace f2 := hf.cell f2 n0; replace f3 := hf.cell f3 n0; replace f4 := hf.cell f4 n1; replace f5 := hf.cell f5 n1; replace f6 := hf.cell f6 n1; replace f7 := hf.cell f7 n1; replace f8 := hf.cell f8 n2; replace f9 := hf.cell f9 n2; replace f10 := hf.cell f10 n2; replace f11 := hf.cell f11 n2; replace f12 := z0; replace f13 := z1; replace f14 := z2; replace f15 := z3; replace B := hf.below B nb; clear hf z0 z1 z2 z3 nb n0 n1 n2
          refine hK.out _ _ ?_
          clear hK K
          (try simp only [Act.put, List.setIfInBounds_toArray, List.set_cons_zero, List.set_cons_succ])
          refine anyN_done (by kernel_rfl) ?_ _
          exact then_normal ⟨W.heap.size, w6.heap.size, rfl, B, f0, f1, f2, f3, f4, f5, f6, f7, f8, f9, f10, f11, f12, f13, f14, f15⟩
    case step7 =>
     go_simp
     have m7 : w.heap.size + 1 < W.heap.size := World.block_lt_of_cell? W _ f7
     refine namedA (K := K) (fun w7 hb f8 f9 f10 f11 g8 g9 g10 g11 => ?_)
     replace f0 := keepc hb f0; replace f1 := keepc hb f1; replace f2 := keepc hb f2; replace f3 := keepc hb f3; replace f4 := keepc hb f4; replace f5 := keepc hb f5; replace f6 := keepc hb f6; replace f7 := keepc hb f7; replace B := keepb B hb; clear hb
     refine hK.out _ _ ⟨f0, f1, f2, f3, f4, f5, f6, f7⟩ (fun _ => ?_)
     clear hK K
     (try simp only [Act.put, List.setIfInBounds_toArray, List.set_cons_zero, List.set_cons_succ])
     refine anyN_ready (rs := [2, 8]) (by kernel_rfl) (by simp) (AllN.cons (o := ?o140) ?hi140 (fun K hK => ?step140) (AllN.cons (o := ?o141) ?hi141 (fun K hK => ?step141) AllN.nil))
     case hi140 => (simp only [List.getElem?_toArray, List.getElem?_cons_zero, List.getElem?_cons_succ]; (first | done | with_reducible rfl))
     case hi141 => (simp only [List.getElem?_toArray, List.getElem?_cons_zero, List.getElem?_cons_succ]; (first | done | with_reducible rfl))
     case step140 =>
      go_simp
      (go_at_call 20; (with_reducible refine (cutR_any _ _ _ _ _ _).mono ?_); rintro e w140 ⟨rfl, hb⟩; replace g8 := keepf hb f8 g8; replace g9 := keepf hb f9 g9; replace g10 := keepf hb f10 g10; replace g11 := keepf hb f11 g11; replace f0 := keepc hb f0; replace f1 := keepc hb f1; replace f2 := keepc hb f2; replace f3 := keepc hb f3; replace f4 := keepc hb f4; replace f5 := keepc hb f5; replace f6 := keepc hb f6; replace f7 := keepc hb f7; replace f8 := keepc hb f8; replace f9 := keepc hb f9; replace f10 := keepc hb f10; replace f11 := keepc hb f11; replace B := keepb B hb; clear hb)
      refine hK.out _ _ ⟨f0, f1, f2, f3, f4, f5, f6, f7⟩ (fun _ => ?_)
      clear hK K
      (try simp only [Act.put, List.setIfInBounds_toArray, List.set_cons_zero, List.set_cons_succ])
      simp only [er0, er1, er2, er3]
      refine anyN_ready (rs := [3, 8]) (by kernel_rfl) (by simp) (AllN.cons (o := ?o142) ?hi142 (fun K hK => ?step142) (AllN.cons (o := ?o143) ?hi143 (fun K hK => ?step143) AllN.nil))
      case hi142 => (simp only [List.getElem?_toArray, List.getElem?_cons_zero, List.getElem?_cons_succ]; (first | done | with_reducible rfl))
      case hi143 => (simp only [List.getElem?_toArray, List.getElem?_cons_zero, List.getElem?_cons_succ]; (first | done | with_reducible rfl))
      case step142 =>
       go_simp
       (go_at_call 22; (with_reducible refine (rect_any _ _ _ _ _).mono ?_); rintro e w142 ⟨rfl, hb⟩; replace g8 := keepf hb f8 g8; replace g9 := keepf hb f9 g9; replace g10 := keepf hb f10 g10; replace g11 := keepf hb f11 g11; replace f0 := keepc hb f0; replace f1 := keepc hb f1; replace f2 := keepc hb f2; replace f3 := keepc hb f3; replace f4 := keepc hb f4; replace f5 := keepc hb f5; replace f6 := keepc hb f6; replace f7 := keepc hb f7; replace f8 := keepc hb f8; replace f9 := keepc hb f9; replace f10 := keepc hb f10; replace f11 := keepc hb f11; replace B := keepb B hb; clear hb)
       refine hK.out _ _ ⟨f0, f1, f2, f3, f4, f5, f6, f7⟩ (fun _ => ?_)
       clear hK K
       (try simp only [Act.put, List.setIfInBounds_toArray, List.set_cons_zero, List.set_cons_succ])
       refine anyN_ready (rs := [6, 8]) (by kernel_rfl) (by simp) (AllN.cons (o := ?o144) ?hi144 (fun K hK => ?step144) (AllN.cons (o := ?o145) ?hi145 (fun K hK => ?step145) AllN.nil))
       case hi144 => (simp only [List.getElem?_toArray, List.getElem?_cons_zero, List.getElem?_cons_succ]; (first | done | with_reducible rfl))
       case hi145 => (simp only [List.getElem?_toArray, List.getElem?_cons_zero, List.getElem?_cons_succ]; (first | done | with_reducible rfl))
       case step144 =>
        go_simp
        (go_at_call 20; (with_reducible refine (cutR_any _ _ _ _ _ _).mono ?_); rintro e w144 ⟨rfl, hb⟩; replace g8 := keepf hb f8 g8; replace g9 := keepf hb f9 g9; replace g10 := keepf hb f10 g10; replace g11 := keepf hb f11 g11; replace f0 := keepc hb f0; replace f1 := keepc hb f1; replace f2 := keepc hb f2; replace f3 := keepc hb f3; replace f4 := keepc hb f4; replace f5 := keepc hb f5; replace f6 := keepc hb f6; replace f7 := keepc hb f7; replace f8 := keepc hb f8; replace f9 := keepc hb f9; replace f10 := keepc hb f10; replace f11 := keepc hb f11; replace B := keepb B hb; clear hb)
        refine hK.out _ _ ⟨f0, f1, f2, f3, f4, f5, f6, f7⟩ (fun _ => ?_)
        clear hK K
        (try simp only [Act.put, List.setIfInBounds_toArray, List.set_cons_zero, List.set_cons_succ])
        simp only [es0, es1, es2, es3]
        refine anyN_ready (rs := [7, 8]) (by kernel_rfl) (by simp) (AllN.cons (o := ?o146) ?hi146 (fun K hK => ?step146) (AllN.cons (o := ?o147) ?hi147 (fun K hK => ?step147) AllN.nil))
        case hi146 => (simp only [List.getElem?_toArray, List.getElem?_cons_zero, List.getElem?_cons_succ]; (first | done | with_reducible rfl))
        case hi147 => (simp only [List.getElem?_toArray, List.getElem?_cons_zero, List.getElem?_cons_succ]; (first | done | with_reducible rfl))
        case step146 =>
         go_simp
         (go_at_call 22; (with_reducible refine (rect_any _ _ _ _ _).mono ?_); rintro e w146 ⟨rfl, hb⟩; replace g8 := keepf hb f8 g8; replace g9 := keepf hb f9 g9; replace g10 := keepf hb f10 g10; replace g11 := keepf hb f11 g11; replace f0 := keepc hb f0; replace f1 := keepc hb f1; replace f2 := keepc hb f2; replace f3 := keepc hb f3; replace f4 := keepc hb f4; replace f5 := keepc hb f5; replace f6 := keepc hb f6; replace f7 := keepc hb f7; replace f8 := keepc hb f8; replace f9 := keepc hb f9; replace f10 := keepc hb f10; replace f11 := keepc hb f11; replace B := keepb B hb; clear hb)
         refine hK.out _ _ ⟨f0, f1, f2, f3, f4, f5, f6, f7⟩ (fun _ => ?_)
         clear hK K
         (try simp only [Act.put, List.setIfInBounds_toArray, List.set_cons_zero, List.set_cons_succ])
         refine anyN_ready (rs := [8]) (by kernel_rfl) (by simp) (AllN.cons (o := ?o148) ?hi148 (fun K hK => ?step148) AllN.nil)
         case hi148 => (simp only [List.getElem?_toArray, List.getElem?_cons_zero, List.getElem?_cons_succ]; (first | done | with_reducible rfl))
         case step148 =>
          go_simp
          have m148 : w.heap.size + 1 < w146.heap.size := World.block_lt_of_cell? w146 _ f7
          have p148 : W.heap.size < w146.heap.size := World.block_lt_of_cell? w146 _ f8
          refine namedA (K := K) (fun w148 hb f12 f13 f14 f15 g12 g13 g14 g15 => ?_)
          replace g8 := keepf hb f8 g8; replace g9 := keepf hb f9 g9; replace g10 := keepf hb f10 g10; replace g11 := keepf hb f11 g11; replace f0 := keepc hb f0; replace f1 := keepc hb f1; replace f2 := keepc hb f2; replace f3 := keepc hb f3; replace f4 := keepc hb f4; replace f5 := keepc hb f5; replace f6 := keepc hb f6; replace f7 := keepc hb f7; replace f8 := keepc hb f8; replace f9 := keepc hb f9; replace f10 := keepc hb f10; replace f11 := keepc hb f11; replace B := keepb B hb; clear hb
          refine hK.out _ _ ⟨f0, f1, f2, f3, f4, f5, f6, f7⟩ (fun _ => ?_)
          clear hK K
          (try simp only [Act.put, List.setIfInBounds_toArray, List.set_cons_zero, List.set_cons_succ])
          refine anyN_ready (rs := [10]) (by kernel_rfl) (by simp) ?_
          refine AllN.last (o := ?o149) ?hi149 (by simp) (fun K hK => ?step149) AllN.nil
          case hi149 => (simp only [List.getElem?_toArray, List.getElem?_cons_zero, List.getElem?_cons_succ]; (first | done | with_reducible rfl))
          go_simp
          have n0 : w146.heap.size ≠ w.heap.size := by clear B; omega
          have n1 : w146.heap.size ≠ w.heap.size + 1 := by clear B; omega
          have n2 : w146.heap.size ≠ W.heap.size := by clear B; omega
          have nb : w.heap.size ≤ w146.heap.size := by clear B; omega
          refine namedS (K := K) f12 f13 f14 f15 (fun y149 hf z0 z1 z2 z3 => ?_)
          replace f0 := hf.cell f0 n0; replace f1 := hf.cell f1 n0; replace f2 := hf.cell f2 n0; replace f3 := hf.cell f3 n0; replace f4 := hf.cell f4 n1; replace f5 := hf.cell f5 n1; replace f6 := hf.cell f6 n1; replace f7 := hf.cell f7 n1; replace f8 := hf.cell f8 n2; replace f9 := hf.cell f9 n2; replace f10 := hf.cell f10 n2; replace f11 := hf.cell f11 n2; replace f12 := z0; replace f13 := z1; replace f14 := z2; replace f15 := z3; replace g8 := hf.frozen g8; replace g9 := hf.frozen g9; replace g10 := hf.frozen g10; replace g11 := hf.frozen g11; replace B := hf.below B nb; clear hf z0 z1 z2 z3 nb n0 n1 n2
          refine hK.out _ _ ?_
          clear hK K
          (try simp only [Act.put, List.setIfInBounds_toArray, List.set_cons_zero, List.set_cons_succ])
          refine anyN_ready (rs := [11]) (by kernel_rfl) (by simp) ?_
          refine AllN.last (o := ?o150) ?hi150 (by simp) (fun K hK => ?step150) AllN.nil
          case hi150 => (simp only [List.getElem?_toArray, List.getElem?_cons_zero, List.getElem?_cons_succ]; (first | done | with_reducible rfl))
          go_simp
          have n0 : W.heap.size ≠ w.heap.size := by clear B; omega
          have n1 : W.heap.size ≠ w.heap.size + 1 := by clear B; omega
          have n2 : W.heap.size ≠ w146.heap.size := by clear B; omega
          have nb : w.heap.size ≤ W.heap.size := by clear B; omega
          refine namedS (K := K) f8 f9 f10 f11 (fun y150 hf z0 z1 z2 z3 => ?_)
          replace f0 := hf.cell f0 n0; replace f1 := hf.cell f1 n0; replace f2 := hf.cell f2 n0; replace f3 := hf.cell f3 n0; replace f4 := hf.cell f4 n1; replace f5 := hf.cell f5 n1; replace f6 := hf.cell f6 n1; replace f7 := hf.cell f7 n1; replace f8 := z0; replace f9 := z1; replace f10 := z2; replace f11 := z3; replace f12 := hf.cell f12 n2; replace f13 := hf.cell f13 n2; replace f14 := hf.cell f14 n2; replace f15 := hf.cell f15 n2; replace B := hf.below B nb; clear hf z0 z1 z2 z3 nb n0 n1 n2
          refine hK.out _ _ ?_
          clear hK K
          (try simp only [Act.put, List.setIfInBounds_toArray, List.set_cons_zero, List.set_cons_succ])
          refine anyN_done (by kernel_rfl) ?_ _
          exact then_normal ⟨w146.heap.size, W.heap.size, rfl, B, f0, f1, f2, f3, f4, f5, f6, f7, f12, f13, f14, f15, f8, f9, f10, f11⟩
        case step147 =>
         go_simp
         have m147 : w.heap.size + 1 < w144.heap.size := World.block_lt_of_cell? w144 _ f7
         have p147 : W.heap.size < w144.heap.size := World.block_lt_of_cell? w144 _ f8
         refine namedA (K := K) (fun w147 hb f12 f13 f14 f15 g12 g13 g14 g15 => ?_)
         replace g8 := keepf hb f8 g8; replace g9 := keepf hb f9 g9; replace g10 := keepf hb f10 g10; replace g11 := keepf hb f11 g11; replace f0 := keepc hb f0; replace f1 := keepc hb f1; replace f2 := keepc hb f2; replace f3 := keepc hb f3; replace f4 := keepc hb f4; replace f5 := keepc hb f5; replace f6 := keepc hb f6; replace f7 := keepc hb f7; replace f8 := keepc hb f8; replace f9 := keepc hb f9; replace f10 := keepc hb f10; replace f11 := keepc hb f11; replace B := keepb B hb; clear hb
         refine hK.out _ _ ⟨f0, f1, f2, f3, f4, f5, f6, f7⟩ (fun _ => ?_)
         clear hK K
         (try simp only [Act.put, List.setIfInBounds_toArray, List.set_cons_zero, List.set_cons_succ])
         refine anyN_ready (rs := [7]) (by kernel_rfl) (by simp) (AllN.cons (o := ?o151) ?hi151 (fun K hK => ?step151) AllN.nil)
         case hi151 => (simp only [List.getElem?_toArray, List.getElem?_cons_zero, List.getElem?_cons_succ]; (first | done | with_reducible rfl))
         case step151 =>
          go_simp
          (go_at_call 22; (with_reducible refine (rect_any _ _ _ _ _).mono ?_); rintro e w151 ⟨rfl, hb⟩; replace g8 := keepf hb f8 g8; replace g9 := keepf hb f9 g9; replace g10 := keepf hb f10 g10; replace g11 := keepf hb f11 g11; replace g12 := keepf hb f12 g12; replace g13 := keepf hb f13 g13; replace g14 := keepf hb f14 g14; replace g15 := keepf hb f15 g15; replace f0 := keepc hb f0; replace f1 := keepc hb f1; replace f2 := keepc hb f2; replace f3 := keepc hb f3; replace f4 := keepc hb f4; replace f5 := keepc hb f5; replace f6 := keepc hb f6; replace f7 := keepc hb f7; replace f8 := keepc hb f8; replace f9 := keepc hb f9; replace f10 := keepc hb f10; replace f11 := keepc hb f11; replace f12 := keepc hb f12; replace f13 := keepc hb f13; replace f14 := keepc hb f14; replace f15 := keepc hb f15; replace B := keepb B hb; clear hb)
          refine hK.out _ _ ⟨f0, f1, f2, f3, f4, f5, f6, f7⟩ (fun _ => ?_)
          clear hK K
          (try simp only [Act.put, List.setIfInBounds_toArray, List.set_cons_zero, List.set_cons_succ])
          refine anyN_ready (rs := [10]) (by kernel_rfl) (by simp) ?_
          refine AllN.last (o := ?o152) ?hi152 (by simp) (fun K hK => ?step152) AllN.nil
          case hi152 => (simp only [List.getElem?_toArray, List.getElem?_cons_zero, List.getElem?_cons_succ]; (first | done | with_reducible rfl))
          go_simp
          have n0 : w144.heap.size ≠ w.heap.size := by clear B; omega
          have n1 : w144.heap.size ≠ w.heap.size + 1 := by clear B; omega
          have n2 : w144.heap.size ≠ W.heap.size := by clear B; omega
          have nb : w.heap.size ≤ w144.heap.size := by clear B; omega
          refine namedS (K := K) f12 f13 f14 f15 (fun y152 hf z0 z1 z2 z3 => ?_)
          replace f0 := hf.cell f0 n0; replace f1 := hf.cell f1 n0; replace f2 := hf.cell f2 n0; replace f3 := hf.cell f3 n0; replace f4 := hf.cell f4 n1; replace f5 := hf.cell f5 n1; replace f6 := hf.cell f6 n1; replace f7 := hf.cell f7 n1; replace f8 := hf.cell f8 n2; replace f9 := hf.cell f9 n2; replace f10 := hf.cell f10 n2; replace f11 := hf.cell f11 n2; replace f12 := z0; replace f13 := z1; replace f14 := z2; replace f15 := z3; replace g8 := hf.frozen g8; replace g9 := hf.frozen g9; replace g10 := hf.frozen g10; replace g11 := hf.frozen g11; replace B := hf.below B nb; clear hf z0 z1 z2 z3 nb n0 n1 n2
          refine hK.out _ _ ?_
          clear hK K
          (try simp only [Act.put, List.setIfInBounds_toArray, List.set_cons_zero, List.set_cons_succ])
          refine anyN_ready (rs := [11]) (by kernel_rfl) (by simp) ?_
          refine AllN.last (o := ?o153) ?hi153 (by simp) (fun K hK => ?step153) AllN.nil
          case hi153 => (simp only [List.getElem?_toArray, List.getElem?_cons_zero, List.getElem?_cons_succ]; (first | done | with_reducible rfl))
          go_simp
          have n0 : W.heap.size ≠ w.heap.size := by clear B; omega
          have n1 : W.heap.size ≠ w.heap.size + 1 := by clear B; omega
          have n2 : W.heap.size ≠ w144.heap.size := by clear B; omega
          have nb : w.heap.size ≤ W.heap.size := by clear B; omega
          refine namedS (K := K) f8 f9 f10 f11 (fun y153 hf z0 z1 z2 z3 => ?_)
          replace f0 := hf.cell f0 n0; replace f1 := hf.cell f1 n0; replace f2 := hf.cell f2 n0; replace f3 := hf.cell f3 n0; replace f4 := hf.cell f4 n1; replace f5 := hf.cell f5 n1; replace f6 := hf.cell f6 n1; replace f7 := hf.cell f7 n1; replace f8 := z0; replace f9 := z1; replace f10 := z2; replace f11 := z3; replace f12 := hf.cell f12 n2; replace f13 := hf.cell f13 n2; replace f14 := hf.cell f14 n2; replace f15 := hf.cell f15 n2; replace B := hf.below B nb; clear hf z0 z1 z2 z3 nb n0 n1 n2
          refine hK.out _ _ ?_
          clear hK K
          (try simp only [Act.put, List.setIfInBounds_toArray, List.set_cons_zero, List.set_cons_succ])
          refine anyN_done (by kernel_rfl) ?_ _
          exact then_normal ⟨w144.heap.size, W.heap.size, rfl, B, f0, f1, f2, f3, f4, f5, f6, f7, f12, f13, f14, f15, f8, f9, f10, f11⟩
       case step145 =>
        go_simp
        have m145 : w.heap.size + 1 < w142.heap.size := World.block_lt_of_cell? w142 _ f7
        have p145 : W.heap.size < w142.heap.size := World.block_lt_of_cell? w142 _ f8
        refine namedA (K := K) (fun w145 hb f12 f13 f14 f15 g12 g13 g14 g15 => ?_)
        replace g8 := keepf hb f8 g8; replace g9 := keepf hb f9 g9; replace g10 := keepf hb f10 g10; replace g11 := keepf hb f11 g11; replace f0 := keepc hb f0; replace f1 := keepc hb f1; replace f2 := keepc hb f2; replace f3 := keepc hb f3; replace f4 := keepc hb f4; replace f5 := keepc hb f5; replace f6 := keepc hb f6; replace f7 := keepc hb f7; replace f8 := keepc hb f8; replace f9 := keepc hb f9; replace f10 := keepc hb f10; replace f11 := keepc hb f11; replace B := keepb B hb; clear hb
        refine hK.out _ _ ⟨f0, f1, f2, f3, f4, f5, f6, f7⟩ (fun _ => ?_)
        clear hK K
        (try simp only [Act.put, List.setIfInBounds_toArray, List.set_cons_zero, List.set_cons_succ])
        refine anyN_ready (rs := [6]) (by kernel_rfl) (by simp) (AllN.cons (o := ?o154) ?hi154 (fun K hK => ?step154) AllN.nil)
        case hi154 => (simp only [List.getElem?_toArray, List.getElem?_cons_zero, List.getElem?_cons_succ]; (first | done | with_reducible rfl))
        case step154 =>
         go_simp
         (go_at_call 20; (with_reducible refine (cutR_any _ _ _ _ _ _).mono ?_); rintro e w154 ⟨rfl, hb⟩; replace g8 := keepf hb f8 g8; replace g9 := keepf hb f9 g9; replace g10 := keepf hb f10 g10; replace g11 := keepf hb f11 g11; replace g12 := keepf hb f12 g12; replace g13 := keepf hb f13 g13; replace g14 := keepf hb f14 g14; replace g15 := keepf hb f15 g15; replace f0 := keepc hb f0; replace f1 := keepc hb f1; replace f2 := keepc hb f2; replace f3 := keepc hb f3; replace f4 := keepc hb f4; replace f5 := keepc hb f5; replace f6 := keepc hb f6; replace f7 := keepc hb f7; replace f8 := keepc hb f8; replace f9 := keepc hb f9; replace f10 := keepc hb f10; replace f11 := keepc hb f11; replace f12 := keepc hb f12; replace f13 := keepc hb f13; replace f14 := keepc hb f14; replace f15 := keepc hb f15; replace B := keepb B hb; clear hb)
         refine hK.out _ _ ⟨f0, f1, f2, f3, f4, f5, f6, f7⟩ (fun _ => ?_)
         clear hK K
         (try simp only [Act.put, List.setIfInBounds_toArray, List.set_cons_zero, List.set_cons_succ])
         simp only [es0, es1, es2, es3]
         refine anyN_ready (rs := [7]) (by kernel_rfl) (by simp) (AllN.cons (o := ?o155) ?hi155 (fun K hK => ?step155) AllN.nil)
         case hi155 => (simp only [List.getElem?_toArray, List.getElem?_cons_zero, List.getElem?_cons_succ]; (first | done | with_reducible rfl))
         case step155 =>
          go_simp
          (go_at_call 22; (with_reducible refine (rect_any _ _ _ _ _).mono ?_); rintro e w155 ⟨rfl, hb⟩; replace g8 := keepf hb f8 g8; replace g9 := keepf hb f9 g9; replace g10 := keepf hb f10 g10; replace g11 := keepf hb f11 g11; replace g12 := keepf hb f12 g12; replace g13 := keepf hb f13 g13; replace g14 := keepf hb f14 g14; replace g15 := keepf hb f15 g15; replace f0 := keepc hb f0; replace f1 := keepc hb f1; replace f2 := keepc hb f2; replace f3 := keepc hb f3; replace f4 := keepc hb f4; replace f5 := keepc hb f5; replace f6 := keepc hb f6; replace f7 := keepc hb f7; replace f8 := keepc hb f8; replace f9 := keepc hb f9; replace f10 := keepc hb f10; replace f11 := keepc hb f11; replace f12 := keepc hb f12; replace f13 := keepc hb f13; replace f14 := keepc hb f14; replace f15 := keepc hb f15; replace B := keepb B hb; clear hb)
          refine hK.out _ _ ⟨f0, f1, f2, f3, f4, f5, f6, f7⟩ (fun _ => ?_)
          clear hK K
          (try simp only [Act.put, List.setIfInBounds_toArray, List.set_cons_zero, List.set_cons_succ])
          refine anyN_ready (rs := [10]) (by kernel_rfl) (by simp) ?_
          refine AllN.last (o := ?o156) ?hi156 (by simp) (fun K hK => ?step156) AllN.nil
          case hi156 => (simp only [List.getElem?_toArray, List.getElem?_cons_zero, List.getElem?_cons_succ]; (first | done | with_reducible rfl))
          go_simp
          have n0 : w142.heap.size ≠ w.heap.size := by clear B; omega
          have n1 : w142.heap.size ≠ w.heap.size + 1 := by clear B; omega
          have n2 : w142.heap.size ≠ W.heap.size := by clear B; omega
          have nb : w.heap.size ≤ w142.heap.size := by clear B; omega
          refine namedS (K := K) f12 f13 f14 f15 (fun y156 hf z0 z1 z2 z3 => ?_)
          replace f0 := hf.cell f0 n0; replace f1 := hf.cell f1 n0; replace f2 := hf.cell f2 n0; replace f3 := hf.cell f3 n0; replace f4 := hf.cell f4 n1; replace f5 := hf.cell f5 n1; replace f6 := hf.cell f6 n1; replace f7 := hf.cell f7 n1; replace f8 := hf.cell f8 n2; replace f9 := hf.cell f9 n2; replace f10 := hf.cell f10 n2; replace f11 := hf.cell f11 n2; replace f12 := z0; replace f13 := z1; replace f14 := z2; replace f15 := z3; replace g8 := hf.frozen g8; replace g9 := hf.frozen g9; replace g10 := hf.frozen g10; replace g11 := hf.frozen g11; replace B := hf.below B nb; clear hf z0 z1 z2 z3 nb n0 n1 n2
          refine hK.out _ _ ?_
          clear hK K
          (try simp only [Act.put, List.setIfInBounds_toArray, List.set_cons_zero, List.set_cons_succ])
          refine anyN_ready (rs := [11]) (by kernel_rfl) (by simp) ?_
          refine AllN.last (o := ?o157) ?hi157 (by simp) (fun K hK => ?step157) AllN.nil
          case hi157 => (simp only [List.getElem?_toArray, List.getElem?_cons_zero, List.getElem?_cons_succ]; (first | done | with_reducible rfl))
          go_simp
          have n0 : W.heap.size ≠ w.heap.size := by clear B; omega
          have n1 : W.heap.size ≠ w.heap.size + 1 := by clear B; omega
          have n2 : W.heap.size ≠ w142.heap.size := by clear B; omega
          have nb : w.heap.size ≤ W.heap.size := by clear B; omega
          refine namedS (K := K) f8 f9 f10 f11 (fun y157 hf z0 z1 z2 z3 => ?_)
          replace f0 := hf.cell f0 n0; replace f1 := hf.cell f1 n0; replace f2 := hf.cell f2 n0; replace f3 := hf.cell f3 n0; replace f4 := hf.cell f4 n1; replace f5 := hf.cell f5 n1; replace f6 := hf.cell f6 n1; replace f7 := hf.cell f7 n1; replace f8 := z0; replace f9 := z1; replace f10 := z2; replace f11 := z3; replace f12 := hf.cell f12 n2; replace f13 := hf.cell f13 n2; replace f14 := hf.cell f14 n2; replace f15 := hf.cell f15 n2; replace B := hf.below B nb; clear hf z0 z1 z2 z3 nb n0 n1 n2
          refine hK.out _ _ ?_
          clear hK K
          (try simp only [Act.put, List.setIfInBounds_toArray, List.set_cons_zero, List.set_cons_succ])
          refine anyN_done (by kernel_rfl) ?_ _
          exact then_normal ⟨w142.heap.size, W.heap.size, rfl, B, f0, f1, f2, f3, f4, f5, f6, f7, f12, f13, f14, f15, f8, f9, f10, f11⟩
      case step143 =>
       go_simp
       have m143 : w.heap.size + 1 < w140.heap.size := World.block_lt_of_cell? w140 _ f7
       have p143 : W.heap.size < w140.heap.size := World.block_lt_of_cell? w140 _ f8
       refine namedA (K := K) (fun w143 hb f12 f13 f14 f15 g12 g13 g14 g15 => ?_)
       replace g8 := keepf hb f8 g8; replace g9 := keepf hb f9 g9; replace g10 := keepf hb f10 g10; replace g11 := keepf hb f11 g11; replace f0 := keepc hb f0; replace f1 := keepc hb f1; replace f2 := keepc hb f2; replace f3 := keepc hb f3; replace f4 := keepc hb f4; replace f5 := keepc hb f5; replace f6 := keepc hb f6; replace f7 := keepc hb f7; replace f8 := keepc hb f8; replace f9 := keepc hb f9; replace f10 := keepc hb f10; replace f11 := keepc hb f11; replace B := keepb B hb; clear hb
       refine hK.out _ _ ⟨f0, f1, f2, f3, f4, f5, f6, f7⟩ (fun _ => ?_)
       clear hK K
       (try simp only [Act.put, List.setIfInBounds_toArray, List.set_cons_zero, List.set_cons_succ])
       refine anyN_ready (rs := [3]) (by kernel_rfl) (by simp) (AllN.cons (o := ?o158) ?hi158 (fun K hK => ?step158) AllN.nil)
       case hi158 => (simp only [List.getElem?_toArray, List.getElem?_cons_zero, List.getElem?_cons_succ]; (first | done | with_reducible rfl))
       case step158 =>
        go_simp
        (go_at_call 22; (with_reducible refine (rect_any _ _ _ _ _).mono ?_); rintro e w158 ⟨rfl, hb⟩; replace g8 := keepf hb f8 g8; replace g9 := keepf hb f9 g9; replace g10 := keepf hb f10 g10; replace g11 := keepf hb f11 g11; replace g12 := keepf hb f12 g12; replace g13 := keepf hb f13 g13; replace g14 := keepf hb f14 g14; replace g15 := keepf hb f15 g15; replace f0 := keepc hb f0; replace f1 := keepc hb f1; replace f2 := keepc hb f2; replace f3 := keepc hb f3; replace f4 := keepc hb f4; replace f5 := keepc hb f5; replace f6 := keepc hb f6; replace f7 := keepc hb f7; replace f8 := keepc hb f8; replace f9 := keepc hb f9; replace f10 := keepc hb f10; replace f11 := keepc hb f11; replace f12 := keepc hb f12; replace f13 := keepc hb f13; replace f14 := keepc hb f14; replace f15 := keepc hb f15; replace B := keepb B hb; clear hb)
        refine hK.out _ _ ⟨f0, f1, f2, f3, f4, f5, f6, f7⟩ (fun _ => ?_)
        clear hK K
        (try simp only [Act.put, List.setIfInBounds_toArray, List.set_cons_zero, List.set_cons_succ])
        refine anyN_ready (rs := [6]) (by kernel_rfl) (by simp) (AllN.cons (o := ?o159) ?hi159 (fun K hK => ?step159) AllN.nil)
        case hi159 => (simp only [List.getElem?_toArray, List.getElem?_cons_zero, List.getElem?_cons_succ]; (first | done | with_reducible rfl))
        case step159 =>
         go_simp
         (go_at_call 20; (with_reducible refine (cutR_any _ _ _ _ _ _).mono ?_); rintro e w159 ⟨rfl, hb⟩; replace g8 := keepf hb f8 g8; replace g9 := keepf hb f9 g9; replace g10 := keepf hb f10 g10; replace g11 := keepf hb f11 g11; replace g12 := keepf hb f12 g12; replace g13 := keepf hb f13 g13; replace g14 := keepf hb f14 g14; replace g15 := keepf hb f15 g15; replace f0 := keepc hb f0; replace f1 := keepc hb f1; replace f2 := keepc hb f2; replace f3 := keepc hb f3; replace f4 := keepc hb f4; replace f5 := keepc hb f5; replace f6 := keepc hb f6; replace f7 := keepc hb f7; replace f8 := keepc hb f8; replace f9 := keepc hb f9; replace f10 := keepc hb f10; replace f11 := keepc hb f11; replace f12 := keepc hb f12; replace f13 := keepc hb f13; replace f14 := keepc hb f14; replace f15 := keepc hb f15; replace B := keepb B hb; clear hb)
         refine hK.out _ _ ⟨f0, f1, f2, f3, f4, f5, f6, f7⟩ (fun _ => ?_)
         clear hK K
         (try simp only [Act.put, List.setIfInBounds_toArray, List.set_cons_zero, List.set_cons_succ])
         simp only [es0, es1, es2, es3]
         refine anyN_ready (rs := [7]) (by kernel_rfl) (by simp) (AllN.cons (o := ?o160) ?hi160 (fun K hK => ?step160) AllN.nil)
         case hi160 => (simp only [List.getElem?_toArray, List.getElem?_cons_zero, List.getElem?_cons_succ]; (first | done | with_reducible rfl))
         case step160 =>
          go_simp
          (go_at_call 22; (with_reducible refine (rect_any _ _ _ _ _).mono ?_); rintro e w160 ⟨rfl, hb⟩; replace g8 := keepf hb f8 g8; replace g9 := keepf hb f9 g9; replace g10 := keepf hb f10 g10; replace g11 := keepf hb f11 g11; replace g12 := keepf hb f12 g12; replace g13 := keepf hb f13 g13; replace g14 := keepf hb f14 g14; replace g15 := keepf hb f15 g15; replace f0 := keepc hb f0; replace f1 := keepc hb f1; replace f2 := keepc hb f2; replace f3 := keepc hb f3; replace f4 := keepc hb f4; replace f5 := keepc hb f5; replace f6 := keepc hb f6; replace f7 := keepc hb f7; replace f8 := keepc hb f8; replace f9 := keepc hb f9; replace f10 := keepc hb f10; replace f11 := keepc hb f11; replace f12 := keepc hb f12; replace f13 := keepc hb f13; replace f14 := keepc hb f14; replace f15 := keepc hb f15; replace B := keepb B hb; clear hb)
          refine hK.out _ _ ⟨f0, f1, f2, f3, f4, f5, f6, f7⟩ (fun _ => ?_)
          clear hK K
          (try simp only [Act.put, List.setIfInBounds_toArray, List.set_cons_zero, List.set_cons_succ])
          refine anyN_ready (rs := [10]) (by kernel_rfl) (by simp) ?_
          refine AllN.last (o := ?o161) ?hi161 (by simp) (fun K hK => ?step161) AllN.nil
          case hi161 => (simp only [List.getElem?_toArray, List.getElem?_cons_zero, List.getElem?_cons_succ]; (first | done | with_reducible rfl))
          go_simp
          have n0 : w140.heap.size ≠ w.heap.size := by clear B; omega
          have n1 : w140.heap.size ≠ w.heap.size + 1 := by clear B; omega
          have n2 : w140.heap.size ≠ W.heap.size := by clear B; omega
          have nb : w.heap.size ≤ w140.heap.size := by clear B; omega
          refine namedS (K := K) f12 f13 f14 f15 (fun y161 hf z0 z1 z2 z3 => ?_)
          replace f0 := hf.cell f0 n0; replace f1 := hf.cell f1 n0; replace f2 := hf.cell f2 n0; replace f3 := hf.cell f3 n0; replace f4 := hf.cell f4 n1; replace f5 := hf.cell f5 n1; replace f6 := hf.cell f6 n1; replace f7 := hf.cell f7 n1; replace f8 := hf.cell f8 n2; replace f9 := hf.cell f9 n2; replace f10 := hf.cell f10 n2; replace f11 := hf.cell f11 n2; replace f12 := z0; replace f13 := z1; replace f14 := z2; replace f15 := z3; replace g8 := hf.frozen g8; replace g9 := hf.frozen g9; replace g10 := hf.frozen g10; replace g11 := hf.frozen g11; replace B := hf.below B nb; clear hf z0 z1 z2 z3 nb n0 n1 n2
          refine hK.out _ _ ?_
          clear hK K
          (try simp only [Act.put, List.setIfInBounds_toArray, List.set_cons_zero, List.set_cons_succ])
          refine anyN_ready (rs := [11]) (by kernel_rfl) (by simp) ?_
          refine AllN.last (o := ?o162) ?hi162 (by simp) (fun K hK => ?step162) AllN.nil
          case hi162 => (simp only [List.getElem?_toArray, List.getElem?_cons_zero, List.getElem?_cons_succ]; (first | done | with_reducible rfl))
          go_simp
          have n0 : W.heap.size ≠ w.heap.size := by clear B; omega
          have n1 : W.heap.size ≠ w.heap.size + 1 := by clear B; omega
          have n2 : W.heap.size ≠ w140.heap.size := by clear B; omega
          have nb : w.heap.size ≤ W.heap.size := by clear B; omega
          refine namedS (K := K) f8 f9 f10 f11 (fun y162 hf z0 z1 z2 z3 => ?_)
          replace f0 := hf.cell f0 n0; replace f1 := hf.cell f1 n0; replace f2 := hf.cell f2 n0; replace f3 := hf.cell f3 n0; replace f4 := hf.cell f4 n1; replace f5 := hf.cell f5 n1; replace f6 := hf.cell f6 n1; replace f7 := hf.cell f7 n1; replace f8 := z0; replace f9 := z1; replace f10 := z2; replace f11 := z3; replace f12 := hf.cell f12 n2; replace f13 := hf.cell f13 n2; replace f14 := hf.cell f14 n2; replace f15 := hf.cell f15 n2; replace B := hf.below B nb; clear hf z0 z1 z2 z3 nb n0 n1 n2
          refine hK.out _ _ ?_
          clear hK K
          (try simp only [Act.put, List.setIfInBounds_toArray, List.set_cons_zero, List.set_cons_succ])
          refine anyN_done (by kernel_rfl) ?_ _
          exact then_normal ⟨w140.heap.size, W.heap.size, rfl, B, f0, f1, f2, f3, f4, f5, f6, f7, f12, f13, f14, f15, f8, f9, f10, f11⟩
     case step141 =>
      go_simp
      have m141 : w.heap.size + 1 < w7.heap.size := World.block_lt_of_cell? w7 _ f7
      have p141 : W.heap.size < w7.heap.size := World.block_lt_of_cell? w7 _ f8
      refine namedA (K := K) (fun w141 hb f12 f13 f14 f15 g12 g13 g14 g15 => ?_)
      replace g8 := keepf hb f8 g8; replace g9 := keepf hb f9 g9; replace g10 := keepf hb f10 g10; replace g11 := keepf hb f11 g11; replace f0 := keepc hb f0; replace f1 := keepc hb f1; replace f2 := keepc hb f2; replace f3 := keepc hb f3; replace f4 := keepc hb f4; replace f5 := keepc hb f5; replace f6 := keepc hb f6; replace f7 := keepc hb f7; replace f8 := keepc hb f8; replace f9 := keepc hb f9; replace f10 := keepc hb f10; replace f11 := keepc hb f11; replace B := keepb B hb; clear hb
      refine hK.out _ _ ⟨f0, f1, f2, f3, f4, f5, f6, f7⟩ (fun _ => ?_)
      clear hK K
      (try simp only [Act.put, List.setIfInBounds_toArray, List.set_cons_zero, List.set_cons_succ])
      refine anyN_ready (rs := [2]) (by kernel_rfl) (by simp) (AllN.cons (o := ?o163) ?hi163 (fun K hK => ?step163) AllN.nil)
      case hi163 => (simp only [List.getElem?_toArray, List.getElem?_cons_zero, List.getElem?_cons_succ]; (first | done | with_reducible rfl))
      case step163 =>
       go_simp
       (go_at_call 20; (with_reducible refine (cutR_any _ _ _ _ _ _).mono ?_); rintro e w163 ⟨rfl, hb⟩; replace g8 := keepf hb f8 g8; replace g9 := keepf hb f9 g9; replace g10 := keepf hb f10 g10; replace g11 := keepf hb f11 g11; replace g12 := keepf hb f12 g12; replace g13 := keepf hb f13 g13; replace g14 := keepf hb f14 g14; replace g15 := keepf hb f15 g15; replace f0 := keepc hb f0; replace f1 := keepc hb f1; replace f2 := keepc hb f2; replace f3 := keepc hb f3; replace f4 := keepc hb f4; replace f5 := keepc hb f5; replace f6 := keepc hb f6; replace f7 := keepc hb f7; replace f8 := keepc hb f8; replace f9 := keepc hb f9; replace f10 := keepc hb f10; replace f11 := keepc hb f11; replace f12 := keepc hb f12; replace f13 := keepc hb f13; replace f14 := keepc hb f14; replace f15 := keepc hb f15; replace B := keepb B hb; clear hb)
       refine hK.out _ _ ⟨f0, f1, f2, f3, f4, f5, f6, f7⟩ (fun _ => ?_)
       clear hK K
       (try simp only [Act.put, List.setIfInBounds_toArray, List.set_cons_zero, List.set_cons_succ])
       simp only [er0, er1, er2, er3]
       refine anyN_ready (rs := [3]) (by kernel_rfl) (by simp) (AllN.cons (o := ?o164) ?hi164 (fun K hK => ?step164) AllN.nil)
       case hi164 => (simp only [List.getElem?_toArray, List.getElem?_cons_zero, List.getElem?_cons_succ]; (first | done | with_reducible rfl))
       case step164 =>
        go_simp
        (go_at_call 22; (with_reducible refine (rect_any _ _ _ _ _).mono ?_); rintro e w164 ⟨rfl, hb⟩; replace g8 := keepf hb f8 g8; replace g9 := keepf hb f9 g9; replace g10 := keepf hb f10 g10; replace g11 := keepf hb f11 g11; replace g12 := keepf hb f12 g12; replace g13 := keepf hb f13 g13; replace g14 := keepf hb f14 g14; replace g15 := keepf hb f15 g15; replace f0 := keepc hb f0; replace f1 := keepc hb f1; replace f2 := keepc hb f2; replace f3 := keepc hb f3; replace f4 := keepc hb f4; replace f5 := keepc hb f5; replace f6 := keepc hb f6; replace f7 := keepc hb f7; replace f8 := keepc hb f8; replace f9 := keepc hb f9; replace f10 := keepc hb f10; replace f11 := keepc hb f11; replace f12 := keepc hb f12; replace f13 := keepc hb f13; replace f14 := keepc hb f14; replace f15 := keepc hb f15; replace B := keepb B hb; clear hb)
        refine hK.out _ _ ⟨f0, f1, f2, f3, f4, f5, f6, f7⟩ (fun _ => ?_)
        clear hK K
        (try simp only [Act.put, List.setIfInBounds_toArray, List.set_cons_zero, List.set_cons_succ])
        refine anyN_ready (rs := [6]) (by kernel_rfl) (by simp) (AllN.cons (o := ?o165) ?hi165 (fun K hK => ?step165) AllN.nil)
        case hi165 => (simp only [List.getElem?_toArray, List.getElem?_cons_zero, List.getElem?_cons_succ]; (first | done | with_reducible rfl))
        case step165 =>
         go_simp
         (go_at_call 20; (with_reducible refine (cutR_any _ _ _ _ _ _).mono ?_); rintro e w165 ⟨rfl, hb⟩; replace g8 := keepf hb f8 g8; replace g9 := keepf hb f9 g9; replace g10 := keepf hb f10 g10; replace g11 := keepf hb f11 g11; replace g12 := keepf hb f12 g12; replace g13 := keepf hb f13 g13; replace g14 := keepf hb f14 g14; replace g15 := keepf hb f15 g15; replace f0 := keepc hb f0; replace f1 := keepc hb f1; replace f2 := keepc hb f2; replace f3 := keepc hb f3; replace f4 := keepc hb f4; replace f5 := keepc hb f5; replace f6 := keepc hb f6; replace f7 := keepc hb f7; replace f8 := keepc hb f8; replace f9 := keepc hb f9; replace f10 := keepc hb f10; replace f11 := keepc hb f11; replace f12 := keepc hb f12; replace f13 := keepc hb f13; replace f14 := keepc hb f14; replace f15 := keepc hb f15; replace B := keepb B hb; clear hb)
         refine hK.out _ _ ⟨f0, f1, f2, f3, f4, f5, f6, f7⟩ (fun _ => ?_)
         clear hK K
         (try simp only [Act.put, List.setIfInBounds_toArray, List.set_cons_zero, List.set_cons_succ])
         simp only [es0, es1, es2, es3]
         refine anyN_ready (rs := [7]) (by kernel_rfl) (by simp) (AllN.cons (o := ?o166) ?hi166 (fun K hK => ?step166) AllN.nil)
         case hi166 => (simp only [List.getElem?_toArray, List.getElem?_cons_zero, List.getElem?_cons_succ]; (first | done | with_reducible rfl))
         case step166 =>
          go_simp
          (go_at_call 22; (with_reducible refine (rect_any _ _ _ _ _).mono ?_); rintro e w166 ⟨rfl, hb⟩; replace g8 := keepf hb f8 g8; replace g9 := keepf hb f9 g9; replace g10 := keepf hb f10 g10; replace g11 := keepf hb f11 g11; replace g12 := keepf hb f12 g12; replace g13 := keepf hb f13 g13; replace g14 := keepf hb f14 g14; replace g15 := keepf hb f15 g15; replace f0 := keepc hb f0; replace f1 := keepc hb f1; replace f2 := keepc hb f2; replace f3 := keepc hb f3; replace f4 := keepc hb f4; replace f5 := keepc hb f5; replace f6 := keepc hb f6; replace f7 := keepc hb f7; replace f8 := keepc hb f8; replace f9 := keepc hb f9; replace f10 := keepc hb f10; replace f11 := keepc hb f11; replace f12 := keepc hb f12; replace f13 := keepc hb f13; replace f14 := keepc hb f14; replace f15 := keepc hb f15; replace B := keepb B hb; clear hb)
          refine hK.out _ _ ⟨f0, f1, f2, f3, f4, f5, f6, f7⟩ (fun _ => ?_)
          clear hK K
          (try simp only [Act.put, List.setIfInBounds_toArray, List.set_cons_zero, List.set_cons_succ])
          refine anyN_ready (rs := [10]) (by kernel_rfl) (by simp) ?_
          refine AllN.last (o := ?o167) ?hi167 (by simp) (fun K hK => ?step167) AllN.nil
          case hi167 => (simp only [List.getElem?_toArray, List.getElem?_cons_zero, List.getElem?_cons_succ]; (first | done | with_reducible rfl))
          go_simp
          have n0 : w7.heap.size ≠ w.heap.size := by clear B; omega
          have n1 : w7.heap.size ≠ w.heap.size + 1 := by clear B; omega
          have n2 : w7.heap.size ≠ W.heap.size := by clear B; omega
          have nb : w.heap.size ≤ w7.heap.size := by clear B; omega
          refine namedS (K := K) f12 f13 f14 f15 (fun y167 hf z0 z1 z2 z3 => ?_)
          replace f0 := hf.cell f0 n0; replace f1 := hf.cell f1 n0; replace f2 := hf.cell f2 n0; replace f3 := hf.cell f3 n0; replace f4 := hf.cell f4 n1; replace f5 := hf.cell f5 n1; replace f6 := hf.cell f6 n1; replace f7 := hf.cell f7 n1; replace f8 := hf.cell f8 n2; replace f9 := hf.cell f9 n2; replace f10 := hf.cell f10 n2; replace f11 := hf.cell f11 n2; replace f12 := z0; replace f13 := z1; replace f14 := z2; replace f15 := z3; replace g8 := hf.frozen g8; replace g9 := hf.frozen g9; replace g10 := hf.frozen g10; replace g11 := hf.frozen g11; replace B := hf.below B nb; clear hf z0 z1 z2 z3 nb n0 n1 n2
          refine hK.out _ _ ?_
          clear hK K
          (try simp only [Act.put, List.setIfInBounds_toArray, List.set_cons_zero, List.set_cons_succ])
          refine anyN_ready (rs := [11]) (by kernel_rfl) (by simp) ?_
          refine AllN.last (o := ?o168) ?hi168 (by simp) (fun K hK => ?step168) AllN.nil
          case hi168 => (simp only [List.getElem?_toArray, List.getElem?_cons_zero, List.getElem?_cons_succ]; (first | done | with_reducible rfl))
          go_simp
          have n0 : W.heap.size ≠ w.heap.size := by clear B; omega
          have n1 : W.heap.size ≠ w.heap.size + 1 := by clear B; omega
          have n2 : W.heap.size ≠ w7.heap.size := by clear B; omega
          have nb : w.heap.size ≤ W.heap.size := by clear B; omega
          refine namedS (K := K) f8 f9 f10 f11 (fun y168 hf z0 z1 z2 z3 => ?_)
          replace f0 := hf.cell f0 n0; replace f1 := hf.cell f1 n0; replace f2 := hf.cell f2 n0; replace f3 := hf.cell f3 n0; replace f4 := hf.cell f4 n1; replace f5 := hf.cell f5 n1; replace f6 := hf.cell f6 n1; replace f7 := hf.cell f7 n1; replace f8 := z0; replace f9 := z1; replace f10 := z2; replace f11 := z3; replace f12 := hf.cell f12 n2; replace f13 := hf.cell f13 n2; replace f14 := hf.cell f14 n2; replace f15 := hf.cell f15 n2; replace B := hf.below B nb; clear hf z0 z1 z2 z3 nb n0 n1 n2
          refine hK.out _ _ ?_
          clear hK K
          (try simp only [Act.put, List.setIfInBounds_toArray, List.set_cons_zero, List.set_cons_succ])
          refine anyN_done (by kernel_rfl) ?_ _
          exact then_normal ⟨w7.heap.size, W.heap.size, rfl, B, f0, f1, f2, f3, f4, f5, f6, f7, f12, f13, f14, f15, f8, f9, f10, f11⟩
  rintro a W ⟨n7, n8, rfl, B, f0, f1, f2, f3, f4, f5, f6, f7, f8, f9, f10, f11, f12, f13, f14, f15⟩
  go_wp2
  refine region_R (S := (fun W' => W'.cell? ⟨w.heap.size, 0, none⟩ = some (.int .i64 a1x) ∧ W'.cell? ⟨w.heap.size, 1, none⟩ = some (.int .i64 a1y) ∧ W'.cell? ⟨w.heap.size, 2, none⟩ = some (.int .i64 a1z) ∧ W'.cell? ⟨w.heap.size, 3, none⟩ = some (.int .i64 a1t) ∧ W'.cell? ⟨w.heap.size + 1, 0, none⟩ = some (.int .i64 a2x) ∧ W'.cell? ⟨w.heap.size + 1, 1, none⟩ = some (.int .i64 a2y) ∧ W'.cell? ⟨w.heap.size + 1, 2, none⟩ = some (.int .i64 a2z) ∧ W'.cell? ⟨w.heap.size + 1, 3, none⟩ = some (.int .i64 a2t) ∧ W'.cell? ⟨n7, 0, none⟩ = some (.int .i64 r0) ∧ W'.cell? ⟨n7, 1, none⟩ = some (.int .i64 r1) ∧ W'.cell? ⟨n7, 2, none⟩ = some (.int .i64 r2) ∧ W'.cell? ⟨n7, 3, none⟩ = some (.int .i64 r3) ∧ W'.cell? ⟨n8, 0, none⟩ = some (.int .i64 s0) ∧ W'.cell? ⟨n8, 1, none⟩ = some (.int .i64 s1) ∧ W'.cell? ⟨n8, 2, none⟩ = some (.int .i64 s2) ∧ W'.cell? ⟨n8, 3, none⟩ = some (.int .i64 s3))) (N := []) (fun W' => Below w.heap.size w W' ∧ W'.cell? ⟨w.heap.size, 0, none⟩ = some (.int .i64 a1x) ∧ W'.cell? ⟨w.heap.size, 1, none⟩ = some (.int .i64 a1y) ∧ W'.cell? ⟨w.heap.size, 2, none⟩ = some (.int .i64 a1z) ∧ W'.cell? ⟨w.heap.size, 3, none⟩ = some (.int .i64 a1t) ∧ W'.cell? ⟨w.heap.size + 1, 0, none⟩ = some (.int .i64 a2x) ∧ W'.cell? ⟨w.heap.size + 1, 1, none⟩ = some (.int .i64 a2y) ∧ W'.cell? ⟨w.heap.size + 1, 2, none⟩ = some (.int .i64 a2z) ∧ W'.cell? ⟨w.heap.size + 1, 3, none⟩ = some (.int .i64 a2t) ∧ W'.cell? ⟨n7, 0, none⟩ = some (.int .i64 r0) ∧ W'.cell? ⟨n7, 1, none⟩ = some (.int .i64 r1) ∧ W'.cell? ⟨n7, 2, none⟩ = some (.int .i64 r2) ∧ W'.cell? ⟨n7, 3, none⟩ = some (.int .i64 r3) ∧ W'.cell? ⟨n8, 0, none⟩ = some (.int .i64 s0) ∧ W'.cell? ⟨n8, 1, none⟩ = some (.int .i64 s1) ∧ W'.cell? ⟨n8, 2, none⟩ = some (.int .i64 s2) ∧ W'.cell? ⟨n8, 3, none⟩ = some (.int .i64 s3)) (by kernel_rfl) ?_ ?_
  · (try dsimp only)
    exact ⟨B.drew, (by simp [go_sem, f0]), (by simp [go_sem, f1]), (by simp [go_sem, f2]), (by simp [go_sem, f3]), (by simp [go_sem, f4]), (by simp [go_sem, f5]), (by simp [go_sem, f6]), (by simp [go_sem, f7]), (by simp [go_sem, f8]), (by simp [go_sem, f9]), (by simp [go_sem, f10]), (by simp [go_sem, f11]), (by simp [go_sem, f12]), (by simp [go_sem, f13]), (by simp [go_sem, f14]), (by simp [go_sem, f15])⟩
  rintro W ⟨B, f0, f1, f2, f3, f4, f5, f6, f7, f8, f9, f10, f11, f12, f13, f14, f15⟩
  refine anyN_take [] (i := 0) (oi := ?o169) (v := ?v169) ?hi169 (by kernel_rfl) (by kernel_rfl) (by kernel_rfl) (by kernel_rfl) (by kernel_rfl) ?hQ169 (Or.inl ⟨?hg169, ?hy169⟩) ⟨f0, f1, f2, f3, f4, f5, f6, f7, f8, f9, f10, f11, f12, f13, f14, f15⟩ ?rest169
  case hi169 => (simp only [List.getElem?_toArray, List.getElem?_cons_zero, List.getElem?_cons_succ]; (first | done | with_reducible rfl))
  case hQ169 => exact fun _ _ _ h => h
  case hg169 => rfl
  case hy169 => (intro w hSw; (try dsimp only at hSw); go_simp; (first | done | (with_reducible rfl)))
  (try simp only [Act.put, List.setIfInBounds_toArray, List.set_cons_zero, List.set_cons_succ])
  refine anyN_take [] (i := 1) (oi := ?o170) (v := ?v170) ?hi170 (by kernel_rfl) (by kernel_rfl) (by kernel_rfl) (by kernel_rfl) (by kernel_rfl) ?hQ170 (Or.inl ⟨?hg170, ?hy170⟩) ⟨f0, f1, f2, f3, f4, f5, f6, f7, f8, f9, f10, f11, f12, f13, f14, f15⟩ ?rest170
  case hi170 => (simp only [List.getElem?_toArray, List.getElem?_cons_zero, List.getElem?_cons_succ]; (first | done | with_reducible rfl))
  case hQ170 => exact fun _ _ _ h => h
  case hg170 => rfl
  case hy170 => (intro w hSw; (try dsimp only at hSw); go_simp; (first | done | (with_reducible rfl)))
  (try simp only [Act.put, List.setIfInBounds_toArray, List.set_cons_zero, List.set_cons_succ])
  refine anyN_take [] (i := 2) (oi := ?o171) (v := ?v171) ?hi171 (by kernel_rfl) (by kernel_rfl) (by kernel_rfl) (by kernel_rfl) (by kernel_rfl) ?hQ171 (Or.inl ⟨?hg171, ?hy171⟩) ⟨f0, f1, f2, f3, f4, f5, f6, f7, f8, f9, f10, f11, f12, f13, f14, f15⟩ ?rest171
  case hi171 => (simp only [List.getElem?_toArray, List.getElem?_cons_zero, List.getElem?_cons_succ]; (first | done | with_reducible rfl))
  case hQ171 => exact fun _ _ _ h => h
  case hg171 => rfl
  case hy171 => (intro w hSw; (try dsimp only at hSw); go_simp; (first | done | (with_reducible rfl)))
  (try simp only [Act.put, List.setIfInBounds_toArray, List.set_cons_zero, List.set_cons_succ])
  refine anyN_take [] (i := 5) (oi := ?o172) (v := ?v172) ?hi172 (by kernel_rfl) (by kernel_rfl) (by kernel_rfl) (by kernel_rfl) (by kernel_rfl) ?hQ172 (Or.inl ⟨?hg172, ?hy172⟩) ⟨f0, f1, f2, f3, f4, f5, f6, f7, f8, f9, f10, f11, f12, f13, f14, f15⟩ ?rest172
  case hi172 => (simp only [List.getElem?_toArray, List.getElem?_cons_zero, List.getElem?_cons_succ]; (first | done | with_reducible rfl))
  case hQ172 => exact fun _ _ _ h => h
  case hg172 => rfl
  case hy172 => (intro w hSw; (try dsimp only at hSw); go_simp; (first | done | (with_reducible rfl)))
  (try simp only [Act.put, List.setIfInBounds_toArray, List.set_cons_zero, List.set_cons_succ])
  refine anyN_take [] (i := 6) (oi := ?o173) (v := ?v173) ?hi173 (by kernel_rfl) (by kernel_rfl) (by kernel_rfl) (by kernel_rfl) (by kernel_rfl) ?hQ173 (Or.inl ⟨?hg173, ?hy173⟩) ⟨f0, f1, f2, f3, f4, f5, f6, f7, f8, f9, f10, f11, f12, f13, f14, f15⟩ ?rest173
  case hi173 => (simp only [List.getElem?_toArray, List.getElem?_cons_zero, List.getElem?_cons_succ]; (first | done | with_reducible rfl))
  case hQ173 => exact fun _ _ _ h => h
  case hg173 => rfl
  case hy173 => (intro w hSw; (try dsimp only at hSw); go_simp; (first | done | (with_reducible rfl)))
  (try simp only [Act.put, List.setIfInBounds_toArray, List.set_cons_zero, List.set_cons_succ])
  refine anyN_ready (rs := [3]) (by kernel_rfl) (by simp) ?_
  refine AllN.cons (o := ?o174) ?hi174 (fun K hK => ?step174) AllN.nil
  case hi174 => (simp only [List.getElem?_toArray, List.getElem?_cons_zero, List.getElem?_cons_succ]; (first | done | with_reducible rfl))
  go_simp
  (go_at_call 16; (with_reducible refine (iInter_any _ _ _ _ _ _ _ _ _ _).mono ?_); rintro e w1 ⟨rfl, hb⟩; replace f0 := keepc hb f0; replace f1 := keepc hb f1; replace f2 := keepc hb f2; replace f3 := keepc hb f3; replace f4 := keepc hb f4; replace f5 := keepc hb f5; replace f6 := keepc hb f6; replace f7 := keepc hb f7; replace f8 := keepc hb f8; replace f9 := keepc hb f9; replace f10 := keepc hb f10; replace f11 := keepc hb f11; replace f12 := keepc hb f12; replace f13 := keepc hb f13; replace f14 := keepc hb f14; replace f15 := keepc hb f15; replace B := keepb B hb; clear hb)
  refine hK.out _ _ ⟨f0, f1, f2, f3, f4, f5, f6, f7, f8, f9, f10, f11, f12, f13, f14, f15⟩ (fun _ => ?_)
  clear hK K
  (try simp only [Act.put, List.setIfInBounds_toArray, List.set_cons_zero, List.set_cons_succ])
  simp only [er0, er1, er2, er3, es0, es1, es2, es3]
  refine anyN_ready (rs := [4]) (by kernel_rfl) (by simp) ?_
  refine AllN.cons (o := ?o175) ?hi175 (fun K hK => ?step175) AllN.nil
  case hi175 => (simp only [List.getElem?_toArray, List.getElem?_cons_zero, List.getElem?_cons_succ]; (first | done | with_reducible rfl))
  go_simp
  (go_at_call 22; (with_reducible refine (rect_any _ _ _ _ _).mono ?_); rintro e w1 ⟨rfl, hb⟩; replace f0 := keepc hb f0; replace f1 := keepc hb f1; replace f2 := keepc hb f2; replace f3 := keepc hb f3; replace f4 := keepc hb f4; replace f5 := keepc hb f5; replace f6 := keepc hb f6; replace f7 := keepc hb f7; replace f8 := keepc hb f8; replace f9 := keepc hb f9; replace f10 := keepc hb f10; replace f11 := keepc hb f11; replace f12 := keepc hb f12; replace f13 := keepc hb f13; replace f14 := keepc hb f14; replace f15 := keepc hb f15; replace B := keepb B hb; clear hb)
  refine hK.out _ _ ⟨f0, f1, f2, f3, f4, f5, f6, f7, f8, f9, f10, f11, f12, f13, f14, f15⟩ (fun _ => ?_)
  clear hK K
  (try simp only [Act.put, List.setIfInBounds_toArray, List.set_cons_zero, List.set_cons_succ])
  refine anyN_ready (rs := [7]) (by kernel_rfl) (by simp) ?_
  refine AllN.cons (o := ?o176) ?hi176 (fun K hK => ?step176) AllN.nil
  case hi176 => (simp only [List.getElem?_toArray, List.getElem?_cons_zero, List.getElem?_cons_succ]; (first | done | with_reducible rfl))
  go_simp
  (go_at_call 37; (with_reducible refine (common_any _ _ _ _ _ _ _ _ _).mono ?_); rintro e w1 ⟨rfl, hb⟩; replace f0 := keepc hb f0; replace f1 := keepc hb f1; replace f2 := keepc hb f2; replace f3 := keepc hb f3; replace f4 := keepc hb f4; replace f5 := keepc hb f5; replace f6 := keepc hb f6; replace f7 := keepc hb f7; replace f8 := keepc hb f8; replace f9 := keepc hb f9; replace f10 := keepc hb f10; replace f11 := keepc hb f11; replace f12 := keepc hb f12; replace f13 := keepc hb f13; replace f14 := keepc hb f14; replace f15 := keepc hb f15; replace B := keepb B hb; clear hb)
  refine hK.out _ _ ⟨f0, f1, f2, f3, f4, f5, f6, f7, f8, f9, f10, f11, f12, f13, f14, f15⟩ (fun _ => ?_)
  clear hK K
  (try simp only [Act.put, List.setIfInBounds_toArray, List.set_cons_zero, List.set_cons_succ])
  refine anyN_take [] (i := 8) (oi := ?o177) (v := ?v177) ?hi177 (by kernel_rfl) (by kernel_rfl) (by kernel_rfl) (by kernel_rfl) (by kernel_rfl) ?hQ177 (Or.inl ⟨?hg177, ?hy177⟩) ⟨f0, f1, f2, f3, f4, f5, f6, f7, f8, f9, f10, f11, f12, f13, f14, f15⟩ ?rest177
  case hi177 => (simp only [List.getElem?_toArray, List.getElem?_cons_zero, List.getElem?_cons_succ]; (first | done | with_reducible rfl))
  case hQ177 => exact fun _ _ _ h => h
  case hg177 => rfl
  case hy177 => (intro w hSw; (try dsimp only at hSw); go_simp; (first | done | (with_reducible rfl)))
  (try simp only [Act.put, List.setIfInBounds_toArray, List.set_cons_zero, List.set_cons_succ])
  refine anyN_take [] (i := 9) (oi := ?o178) (v := ?v178) ?hi178 (by kernel_rfl) (by kernel_rfl) (by kernel_rfl) (by kernel_rfl) (by kernel_rfl) ?hQ178 (Or.inl ⟨?hg178, ?hy178⟩) ⟨f0, f1, f2, f3, f4, f5, f6, f7, f8, f9, f10, f11, f12, f13, f14, f15⟩ ?rest178
  case hi178 => (simp only [List.getElem?_toArray, List.getElem?_cons_zero, List.getElem?_cons_succ]; (first | done | with_reducible rfl))
  case hQ178 => exact fun _ _ _ h => h
  case hg178 => rfl
  case hy178 => (intro w hSw; (try dsimp only at hSw); go_simp; (first | done | (with_reducible rfl)))
  (try simp only [Act.put, List.setIfInBounds_toArray, List.set_cons_zero, List.set_cons_succ])
  refine anyN_done (by kernel_rfl) ?_ _
  go_wp2
  go_ret
  exact ⟨rfl, B⟩
theorem walk (a0 : Bool) (a1x a1y a1z a1t a2x a2y a2z a2t : Int) (w1x : (Lit.int .i64 a1x).wf = true) (w1y : (Lit.int .i64 a1y).wf = true) (w1z : (Lit.int .i64 a1z).wf = true) (w1t : (Lit.int .i64 a1t).wf = true) (w2x : (Lit.int .i64 a2x).wf = true) (w2y : (Lit.int .i64 a2y).wf = true) (w2z : (Lit.int .i64 a2z).wf = true) (w2t : (Lit.int .i64 a2t).wf = true) (w : World) :
    Calls Try.prog 14 #[.bool a0, .agg #[.int .i64 a1x, .int .i64 a1y, .int .i64 a1z, .int .i64 a1t], .agg #[.int .i64 a2x, .int .i64 a2y, .int .i64 a2z, .int .i64 a2t]] w fun e w' => e = .returned (.bool true) ∧ Below w.heap.size w w' :=
  way a0 a1x a1y a1z a1t a2x a2y a2z a2t (cutZ a0 a1x) (cutZ a0 a1y) (cutZ a0 a1z) (cutZ a0 a1t) (cutZ a0 a2x) (cutZ a0 a2y) (cutZ a0 a2z) (cutZ a0 a2t) rfl rfl rfl rfl rfl rfl rfl rfl w

set_option maxRecDepth 100000 in
theorem lifted (os : Os) (started : os.Started) (H : Type) (enc : TypeId × Value → H) :
    ReturnsInHanded {} Try.checked os 14 .any (Rows.fnIntersectSpec.pre6 enc Try.prog Try.f14 Rows.fnIntersectRow.domain false) (Rows.fnIntersectSpec.post enc Try.prog Try.f14 false true false false) := by
  refine returnsInHanded_of_change (C := Try.checked) own started (by kernel_rfl) Try.func14
    (ChangeSpec.witness6 (enc := enc) (C := Try.checked) false ⟨#[], #[.bool false, .agg #[.int .i64 0, .int .i64 0, .int .i64 0, .int .i64 0], .agg #[.int .i64 0, .int .i64 0, .int .i64 0, .int .i64 0]], []⟩ 8 (by kernel_rfl) (by kernel_rfl) (by kernel_rfl) (by kernel_rfl)) ?_
  intro W base args ds gs before hval0 hW hcnd _
  have hval : ∀ (j : Nat) t v, Try.f14.params[j]? = some t → args[j]? = some v → Value.okWide Try.prog W .any base t v := hval0
  have hW' := hW
  obtain ⟨p, q, hA0, hV, rfl, hfz, hnd⟩ := hW
  have hA : DataW.TrodAll enc Try.prog W 0 (fun _ => true) true Try.f14.params.toList args.toList ds p := hA0
  rw [Try.params14] at hA hval
  obtain ⟨v0, vs0, d0, ds0, p0, q0, hargs, rfl, rfl, h0, r0⟩ := trodAll_cons hA
  obtain ⟨v1, vs1, d1, ds1, p1, q1, rfl, rfl, rfl, h1, r1⟩ := trodAll_cons r0
  obtain ⟨v2, vs2, d2, ds2, p2, q2, rfl, rfl, rfl, h2, r2⟩ := trodAll_cons r1
  obtain ⟨rfl, rfl, rfl⟩ := trodAll_nil r2
  obtain rfl : args = #[v0, v1, v2] := by cases args; simp_all
  obtain ⟨rfl, rfl⟩ := trodVars_none hV
  obtain ⟨a0, rfl, rfl, rfl⟩ := open_bool Try.underlying4 (hval 0 4 v0 rfl rfl) h0
  obtain ⟨a1x, a1y, a1z, a1t, rfl, rfl, rfl, w1x, w1y, w1z, w1t⟩ := open_rect (hval 1 25 v1 rfl rfl) h1
  obtain ⟨a2x, a2y, a2z, a2t, rfl, rfl, rfl, w2x, w2y, w2z, w2t⟩ := open_rect (hval 2 25 v2 rfl rfl) h2
  clear hA0 hval0
  refine (walk a0 a1x a1y a1z a1t a2x a2y a2z a2t w1x w1y w1z w1t w2x w2y w2z w2t W).mono fun e W' ⟨he, bel⟩ => ?_
  subst he
  exact ⟨_, rfl, _, _, _, [], _, [], hW', trodAll_mk1 (shut_bool Try.underlying4 _), (trodAll_cons_mk (shut_bool Try.underlying4 _) (trodAll_cons_mk (shut_rect w1x w1y w1z w1t) (trodAll_cons_mk (shut_rect w2x w2y w2z w2t) trodAll_mk0))), rfl, bel.frame _, fun h => by cases h⟩

theorem over : Rows.fnIntersectRow.holds Try.pinned (OpenSpec.ofChange Rows.fnIntersectSpec) :=
  OpenClaim.holds_of_wide 14 Try.f14 rfl rfl rfl rfl rfl rfl rfl ⟨rfl, rfl, rfl, rfl, rfl⟩ rfl rfl rfl rfl rfl (by kernel_rfl) Try.func14 (by kernel_rfl)
    (of_decide_eq_true (by kernel_rfl)) (by unfold Func.isWrapper; first | (rw [if_pos (by decide +kernel)]; kernel_rfl) | (rw [if_neg (by decide +kernel)]; exact ⟨rfl, rfl⟩))
    (fun os started H enc _ => lifted os started H enc)

/-- The statement. -/
theorem proved : Rows.FnIntersectSaid :=
  over
#print axioms proved
end Go.Proofs.Ytcgbkggbffafmaa.fnIntersect
