/- FnOver: Over divides and cuts the rest off; by 0 it answers false.
   The law returns true for every input, and nothing that was in memory turns. No condition. -/
import Derived.Test.YtcgbkggbffafmaaOverZ
import Derived.Test.YtcgbkggbffafmaaHold
import Derived.Test.YtcgbkggbffafmaaKeep
import Derived.WalkKit
import Derived.ProofKit
import Derived.OpenShut
namespace Go.Proofs.Ytcgbkggbffafmaa.fnOver
open Go.ChangeShapes Go.WideShapes Go.ChangeAt Go.RowKit
set_option linter.unusedVariables false

theorem own : ownKnob Try.prog.godebug = none := by kernel_rfl

set_option linter.unusedSimpArgs false
theorem run_min2 {P : Program} (ts : Array TypeId) (t : TypeId) (x y M : Int) (h : min x y = M) (w : World) :
    (Builtin.min_ ts t #[.int .i64 x, .int .i64 y]).run P w = .ok (.int .i64 M) w := by
  have e : ∀ a b : Int, (if b < a then b else a) = min a b := fun a b => by split <;> omega
  simp only [Builtin.min_, List.foldlM, Builtin.min2]
  simp [e]
  omega
set_option maxHeartbeats 4000000 in
theorem zero_t (a1x a1y a2 x0 y0 k0 M m : Int) (e0 : cutZ true a1x = x0) (e1 : cutZ true a1y = y0) (e2 : cutZ true a2 = k0) (hM : max x0 y0 = M) (hm : min x0 y0 = m) (hz : Shut (cutZ true k0 = 0)) (c0 : (k0 == 0) = true) (w : World) :
    Calls Try.prog 6 #[.bool true, .agg #[.int .i64 a1x, .int .i64 a1y], .int .i64 a2] w fun e w' => e = .returned (.bool true) ∧ Below w.heap.size w w' := by
  have rM := fun ts t W => run_max2 (P := Try.prog) ts t x0 y0 M hM W
  have rm := fun ts t W => run_min2 (P := Try.prog) ts t x0 y0 m hm W
  clear hM hm
  go_enter Try.func6, Try.ntmps6
  go_wp2_with (first
    | (go_at_call 23; (with_reducible refine (cutP_any _ _ _ _).mono ?_); rintro e w1 ⟨rfl, hb⟩; have f0 := keepc hb (p := ⟨w.heap.size, 0, none⟩) (v := .int .i64 a1x) (by simp [go_sem]); have f1 := keepc hb (p := ⟨w.heap.size, 1, none⟩) (v := .int .i64 a1y) (by simp [go_sem]); have g0 := keepf hb (p := ⟨w.heap.size, 0, none⟩) (v := .int .i64 a1x) (by simp [go_sem]) (by simp [go_sem]); have g1 := keepf hb (p := ⟨w.heap.size, 1, none⟩) (v := .int .i64 a1y) (by simp [go_sem]) (by simp [go_sem]); have B := keepb (w := w) (by repeat (first | (with_reducible exact Below.refl _ _) | (with_reducible apply Below.drew) | (with_reducible refine Below.alloc ?_ (by first | exact Nat.le_refl _ | (simp; done) | (simp; omega)) _))) hb; clear hb)
    | (go_at_call 26; (with_reducible refine (cut_any _ _ _).mono ?_); rintro e w' ⟨rfl, rfl⟩)
    | (go_at_call 28; (with_reducible refine (part_any _ _).mono ?_); rintro e w' ⟨rfl, rfl⟩)
    | (go_at_call 27; (with_reducible refine (iOverZ_any _ _ _ _ hz.out _).mono ?_); rintro e w2 ⟨rfl, hb⟩; have f2 := keepc hb (p := ⟨w.heap.size, 0, none⟩) (v := .int .i64 x0) (by simp [go_sem, f0, f1]); have f3 := keepc hb (p := ⟨w.heap.size, 1, none⟩) (v := .int .i64 y0) (by simp [go_sem, f0, f1]); clear f0 f1 g0 g1; replace B := keepb (w := w) (by repeat (first | (with_reducible exact B) | (with_reducible exact Below.refl _ _) | (with_reducible apply Below.drew) | (with_reducible refine Below.setCell ?_ (by first | (simp; done) | (simp; omega)) _) | (with_reducible refine Below.alloc ?_ (by first | exact Nat.le_refl _ | (simp; done) | (simp; omega)) _))) hb; clear hb; have h0 : ∀ o, (w2.alloc o).cell? ⟨w.heap.size, 0, none⟩ = some (.int .i64 x0) := fun o => keepA o f2; have h1 : ∀ o, (w2.alloc o).cell? ⟨w.heap.size, 1, none⟩ = some (.int .i64 y0) := fun o => keepA o f3))
  go_ret
  exact ⟨rfl, B.alloc B.size _⟩
set_option maxHeartbeats 4000000 in
theorem hi_t (a1x a1y a2 x0 y0 k0 M m : Int) (e0 : cutZ true a1x = x0) (e1 : cutZ true a1y = y0) (e2 : cutZ true a2 = k0) (hM : max x0 y0 = M) (hm : min x0 y0 = m) (hz : Shut (¬ cutZ true k0 = 0)) (c0 : (k0 == 0) = false) (c : 1125899906842624 ≤ M) (w : World) :
    Calls Try.prog 6 #[.bool true, .agg #[.int .i64 a1x, .int .i64 a1y], .int .i64 a2] w fun e w' => e = .returned (.bool true) ∧ Below w.heap.size w w' := by
  have rM := fun ts t W => run_max2 (P := Try.prog) ts t x0 y0 M hM W
  have rm := fun ts t W => run_min2 (P := Try.prog) ts t x0 y0 m hm W
  clear hM hm
  go_enter Try.func6, Try.ntmps6
  go_wp2_with (first
    | (go_at_call 23; (with_reducible refine (cutP_any _ _ _ _).mono ?_); rintro e w1 ⟨rfl, hb⟩; have f0 := keepc hb (p := ⟨w.heap.size, 0, none⟩) (v := .int .i64 a1x) (by simp [go_sem]); have f1 := keepc hb (p := ⟨w.heap.size, 1, none⟩) (v := .int .i64 a1y) (by simp [go_sem]); have g0 := keepf hb (p := ⟨w.heap.size, 0, none⟩) (v := .int .i64 a1x) (by simp [go_sem]) (by simp [go_sem]); have g1 := keepf hb (p := ⟨w.heap.size, 1, none⟩) (v := .int .i64 a1y) (by simp [go_sem]) (by simp [go_sem]); have B := keepb (w := w) (by repeat (first | (with_reducible exact Below.refl _ _) | (with_reducible apply Below.drew) | (with_reducible refine Below.alloc ?_ (by first | exact Nat.le_refl _ | (simp; done) | (simp; omega)) _))) hb; clear hb)
    | (go_at_call 26; (with_reducible refine (cut_any _ _ _).mono ?_); rintro e w' ⟨rfl, rfl⟩)
    | (go_at_call 28; (with_reducible refine (part_any _ _).mono ?_); rintro e w' ⟨rfl, rfl⟩)
    | (go_at_call 27; (with_reducible refine (iOver_any _ _ _ _ hz.out _).mono ?_); rintro e w2 ⟨rfl, hb⟩; have f2 := keepc hb (p := ⟨w.heap.size, 0, none⟩) (v := .int .i64 x0) (by simp [go_sem, f0, f1]); have f3 := keepc hb (p := ⟨w.heap.size, 1, none⟩) (v := .int .i64 y0) (by simp [go_sem, f0, f1]); clear f0 f1 g0 g1; replace B := keepb (w := w) (by repeat (first | (with_reducible exact B) | (with_reducible exact Below.refl _ _) | (with_reducible apply Below.drew) | (with_reducible refine Below.setCell ?_ (by first | (simp; done) | (simp; omega)) _) | (with_reducible refine Below.alloc ?_ (by first | exact Nat.le_refl _ | (simp; done) | (simp; omega)) _))) hb; clear hb; have h0 : ∀ o, (w2.alloc o).cell? ⟨w.heap.size, 0, none⟩ = some (.int .i64 x0) := fun o => keepA o f2; have h1 : ∀ o, (w2.alloc o).cell? ⟨w.heap.size, 1, none⟩ = some (.int .i64 y0) := fun o => keepA o f3))
  go_ret
  exact ⟨rfl, B.alloc B.size _⟩
set_option maxHeartbeats 4000000 in
theorem lo_t (a1x a1y a2 x0 y0 k0 M m : Int) (e0 : cutZ true a1x = x0) (e1 : cutZ true a1y = y0) (e2 : cutZ true a2 = k0) (hM : max x0 y0 = M) (hm : min x0 y0 = m) (hz : Shut (¬ cutZ true k0 = 0)) (c0 : (k0 == 0) = false) (c1 : M < 1125899906842624) (c : m ≤ -1125899906842624) (w : World) :
    Calls Try.prog 6 #[.bool true, .agg #[.int .i64 a1x, .int .i64 a1y], .int .i64 a2] w fun e w' => e = .returned (.bool true) ∧ Below w.heap.size w w' := by
  have rM := fun ts t W => run_max2 (P := Try.prog) ts t x0 y0 M hM W
  have rm := fun ts t W => run_min2 (P := Try.prog) ts t x0 y0 m hm W
  clear hM hm
  go_enter Try.func6, Try.ntmps6
  go_wp2_with (first
    | (go_at_call 23; (with_reducible refine (cutP_any _ _ _ _).mono ?_); rintro e w1 ⟨rfl, hb⟩; have f0 := keepc hb (p := ⟨w.heap.size, 0, none⟩) (v := .int .i64 a1x) (by simp [go_sem]); have f1 := keepc hb (p := ⟨w.heap.size, 1, none⟩) (v := .int .i64 a1y) (by simp [go_sem]); have g0 := keepf hb (p := ⟨w.heap.size, 0, none⟩) (v := .int .i64 a1x) (by simp [go_sem]) (by simp [go_sem]); have g1 := keepf hb (p := ⟨w.heap.size, 1, none⟩) (v := .int .i64 a1y) (by simp [go_sem]) (by simp [go_sem]); have B := keepb (w := w) (by repeat (first | (with_reducible exact Below.refl _ _) | (with_reducible apply Below.drew) | (with_reducible refine Below.alloc ?_ (by first | exact Nat.le_refl _ | (simp; done) | (simp; omega)) _))) hb; clear hb)
    | (go_at_call 26; (with_reducible refine (cut_any _ _ _).mono ?_); rintro e w' ⟨rfl, rfl⟩)
    | (go_at_call 28; (with_reducible refine (part_any _ _).mono ?_); rintro e w' ⟨rfl, rfl⟩)
    | (go_at_call 27; (with_reducible refine (iOver_any _ _ _ _ hz.out _).mono ?_); rintro e w2 ⟨rfl, hb⟩; have f2 := keepc hb (p := ⟨w.heap.size, 0, none⟩) (v := .int .i64 x0) (by simp [go_sem, f0, f1]); have f3 := keepc hb (p := ⟨w.heap.size, 1, none⟩) (v := .int .i64 y0) (by simp [go_sem, f0, f1]); clear f0 f1 g0 g1; replace B := keepb (w := w) (by repeat (first | (with_reducible exact B) | (with_reducible exact Below.refl _ _) | (with_reducible apply Below.drew) | (with_reducible refine Below.setCell ?_ (by first | (simp; done) | (simp; omega)) _) | (with_reducible refine Below.alloc ?_ (by first | exact Nat.le_refl _ | (simp; done) | (simp; omega)) _))) hb; clear hb; have h0 : ∀ o, (w2.alloc o).cell? ⟨w.heap.size, 0, none⟩ = some (.int .i64 x0) := fun o => keepA o f2; have h1 : ∀ o, (w2.alloc o).cell? ⟨w.heap.size, 1, none⟩ = some (.int .i64 y0) := fun o => keepA o f3))
  go_ret
  exact ⟨rfl, B.alloc B.size _⟩
set_option maxHeartbeats 4000000 in
theorem in_t (a1x a1y a2 x0 y0 k0 M m : Int) (e0 : cutZ true a1x = x0) (e1 : cutZ true a1y = y0) (e2 : cutZ true a2 = k0) (hM : max x0 y0 = M) (hm : min x0 y0 = m) (hz : Shut (¬ cutZ true k0 = 0)) (c0 : (k0 == 0) = false) (c1 : M < 1125899906842624) (c : -1125899906842624 < m) (hx : cutZ true (IntKind.i64.wrap ((IntKind.i64.wrap (x0 * oneZ true)).tdiv k0)) = overZ true x0 k0) (hy : cutZ true (IntKind.i64.wrap ((IntKind.i64.wrap (y0 * oneZ true)).tdiv k0)) = overZ true y0 k0) (w : World) :
    Calls Try.prog 6 #[.bool true, .agg #[.int .i64 a1x, .int .i64 a1y], .int .i64 a2] w fun e w' => e = .returned (.bool true) ∧ Below w.heap.size w w' := by
  have rM := fun ts t W => run_max2 (P := Try.prog) ts t x0 y0 M hM W
  have rm := fun ts t W => run_min2 (P := Try.prog) ts t x0 y0 m hm W
  have hn : ¬ k0 = 0 := by simpa using c0
  clear hM hm
  go_enter Try.func6, Try.ntmps6
  go_wp2_with (first
    | (go_at_call 23; (with_reducible refine (cutP_any _ _ _ _).mono ?_); rintro e w1 ⟨rfl, hb⟩; have f0 := keepc hb (p := ⟨w.heap.size, 0, none⟩) (v := .int .i64 a1x) (by simp [go_sem]); have f1 := keepc hb (p := ⟨w.heap.size, 1, none⟩) (v := .int .i64 a1y) (by simp [go_sem]); have g0 := keepf hb (p := ⟨w.heap.size, 0, none⟩) (v := .int .i64 a1x) (by simp [go_sem]) (by simp [go_sem]); have g1 := keepf hb (p := ⟨w.heap.size, 1, none⟩) (v := .int .i64 a1y) (by simp [go_sem]) (by simp [go_sem]); have B := keepb (w := w) (by repeat (first | (with_reducible exact Below.refl _ _) | (with_reducible apply Below.drew) | (with_reducible refine Below.alloc ?_ (by first | exact Nat.le_refl _ | (simp; done) | (simp; omega)) _))) hb; clear hb)
    | (go_at_call 26; (with_reducible refine (cut_any _ _ _).mono ?_); rintro e w' ⟨rfl, rfl⟩)
    | (go_at_call 28; (with_reducible refine (part_any _ _).mono ?_); rintro e w' ⟨rfl, rfl⟩)
    | (go_at_call 27; (with_reducible refine (iOver_any _ _ _ _ hz.out _).mono ?_); rintro e w2 ⟨rfl, hb⟩; have f2 := keepc hb (p := ⟨w.heap.size, 0, none⟩) (v := .int .i64 x0) (by simp [go_sem, f0, f1]); have f3 := keepc hb (p := ⟨w.heap.size, 1, none⟩) (v := .int .i64 y0) (by simp [go_sem, f0, f1]); clear f0 f1 g0 g1; replace B := keepb (w := w) (by repeat (first | (with_reducible exact B) | (with_reducible exact Below.refl _ _) | (with_reducible apply Below.drew) | (with_reducible refine Below.setCell ?_ (by first | (simp; done) | (simp; omega)) _) | (with_reducible refine Below.alloc ?_ (by first | exact Nat.le_refl _ | (simp; done) | (simp; omega)) _))) hb; clear hb; have h0 : ∀ o, (w2.alloc o).cell? ⟨w.heap.size, 0, none⟩ = some (.int .i64 x0) := fun o => keepA o f2; have h1 : ∀ o, (w2.alloc o).cell? ⟨w.heap.size, 1, none⟩ = some (.int .i64 y0) := fun o => keepA o f3))
  refine region_R (S := (fun W' => W'.cell? ⟨w.heap.size, 0, none⟩ = some (.int .i64 x0) ∧ W'.cell? ⟨w.heap.size, 1, none⟩ = some (.int .i64 y0) ∧ W'.cell? ⟨w2.heap.size, 0, none⟩ = some (.int .i64 (overZ true x0 k0)) ∧ W'.cell? ⟨w2.heap.size, 1, none⟩ = some (.int .i64 (overZ true y0 k0)))) (N := []) (fun W' => Below w.heap.size w W' ∧ W'.cell? ⟨w.heap.size, 0, none⟩ = some (.int .i64 x0) ∧ W'.cell? ⟨w.heap.size, 1, none⟩ = some (.int .i64 y0) ∧ W'.cell? ⟨w2.heap.size, 0, none⟩ = some (.int .i64 (overZ true x0 k0)) ∧ W'.cell? ⟨w2.heap.size, 1, none⟩ = some (.int .i64 (overZ true y0 k0))) (by kernel_rfl) ?_ ?_
  · (try dsimp only)
    exact ⟨(B.alloc B.size _).drew, (by simp [go_sem, h0]), (by simp [go_sem, h1]), (by simp [go_sem]), (by simp [go_sem])⟩
  rintro W ⟨B, f0, f1, f2, f3⟩
  refine anyN_take [] (i := 0) (oi := ?o1) (v := ?v1) ?hi1 (by kernel_rfl) (by kernel_rfl) (by kernel_rfl) (by kernel_rfl) (by kernel_rfl) ?hQ1 (Or.inl ⟨?hg1, ?hy1⟩) ⟨f0, f1, f2, f3⟩ ?rest1
  case hi1 => (simp only [List.getElem?_toArray, List.getElem?_cons_zero, List.getElem?_cons_succ]; (first | done | with_reducible rfl))
  case hQ1 => exact fun _ _ _ h => h
  case hg1 => rfl
  case hy1 => (intro w hSw; (try dsimp only at hSw); go_simp; (first | done | (with_reducible rfl)))
  (try simp only [Act.put, List.setIfInBounds_toArray, List.set_cons_zero, List.set_cons_succ])
  refine anyN_take [] (i := 1) (oi := ?o2) (v := ?v2) ?hi2 (by kernel_rfl) (by kernel_rfl) (by kernel_rfl) (by kernel_rfl) (by kernel_rfl) ?hQ2 (Or.inl ⟨?hg2, ?hy2⟩) ⟨f0, f1, f2, f3⟩ ?rest2
  case hi2 => (simp only [List.getElem?_toArray, List.getElem?_cons_zero, List.getElem?_cons_succ]; (first | done | with_reducible rfl))
  case hQ2 => exact fun _ _ _ h => h
  case hg2 => rfl
  case hy2 => (intro w hSw; (try dsimp only at hSw); go_simp; (first | done | (with_reducible rfl)))
  (try simp only [Act.put, List.setIfInBounds_toArray, List.set_cons_zero, List.set_cons_succ])
  refine anyN_take [] (i := 2) (oi := ?o3) (v := ?v3) ?hi3 (by kernel_rfl) (by kernel_rfl) (by kernel_rfl) (by kernel_rfl) (by kernel_rfl) ?hQ3 (Or.inl ⟨?hg3, ?hy3⟩) ⟨f0, f1, f2, f3⟩ ?rest3
  case hi3 => (simp only [List.getElem?_toArray, List.getElem?_cons_zero, List.getElem?_cons_succ]; (first | done | with_reducible rfl))
  case hQ3 => exact fun _ _ _ h => h
  case hg3 => rfl
  case hy3 => (intro w hSw; (try dsimp only at hSw); go_simp; (first | done | (with_reducible rfl)))
  (try simp only [Act.put, List.setIfInBounds_toArray, List.set_cons_zero, List.set_cons_succ])
  refine anyN_take [] (i := 3) (oi := ?o4) (v := ?v4) ?hi4 (by kernel_rfl) (by kernel_rfl) (by kernel_rfl) (by kernel_rfl) (by kernel_rfl) ?hQ4 (Or.inl ⟨?hg4, ?hy4⟩) ⟨f0, f1, f2, f3⟩ ?rest4
  case hi4 => (simp only [List.getElem?_toArray, List.getElem?_cons_zero, List.getElem?_cons_succ]; (first | done | with_reducible rfl))
  case hQ4 => exact fun _ _ _ h => h
  case hg4 => rfl
  case hy4 => (intro w hSw; (try dsimp only at hSw); go_simp; (first | done | (with_reducible rfl)))
  (try simp only [Act.put, List.setIfInBounds_toArray, List.set_cons_zero, List.set_cons_succ])
  refine anyN_take [] (i := 4) (oi := ?o5) (v := ?v5) ?hi5 (by kernel_rfl) (by kernel_rfl) (by kernel_rfl) (by kernel_rfl) (by kernel_rfl) ?hQ5 (Or.inl ⟨?hg5, ?hy5⟩) ⟨f0, f1, f2, f3⟩ ?rest5
  case hi5 => (simp only [List.getElem?_toArray, List.getElem?_cons_zero, List.getElem?_cons_succ]; (first | done | with_reducible rfl))
  case hQ5 => exact fun _ _ _ h => h
  case hg5 => rfl
  case hy5 => (intro w hSw; (try dsimp only at hSw); go_simp; (first | done | (with_reducible rfl)))
  (try simp only [Act.put, List.setIfInBounds_toArray, List.set_cons_zero, List.set_cons_succ])
  refine anyN_take [] (i := 5) (oi := ?o6) (v := ?v6) ?hi6 (by kernel_rfl) (by kernel_rfl) (by kernel_rfl) (by kernel_rfl) (by kernel_rfl) ?hQ6 (Or.inl ⟨?hg6, ?hy6⟩) ⟨f0, f1, f2, f3⟩ ?rest6
  case hi6 => (simp only [List.getElem?_toArray, List.getElem?_cons_zero, List.getElem?_cons_succ]; (first | done | with_reducible rfl))
  case hQ6 => exact fun _ _ _ h => h
  case hg6 => rfl
  case hy6 => (intro w hSw; (try dsimp only at hSw); go_simp; (first | done | (with_reducible rfl)))
  (try simp only [Act.put, List.setIfInBounds_toArray, List.set_cons_zero, List.set_cons_succ])
  refine anyN_take [] (i := 6) (oi := ?o7) (v := ?v7) ?hi7 (by kernel_rfl) (by kernel_rfl) (by kernel_rfl) (by kernel_rfl) (by kernel_rfl) ?hQ7 (Or.inl ⟨?hg7, ?hy7⟩) ⟨f0, f1, f2, f3⟩ ?rest7
  case hi7 => (simp only [List.getElem?_toArray, List.getElem?_cons_zero, List.getElem?_cons_succ]; (first | done | with_reducible rfl))
  case hQ7 => exact fun _ _ _ h => h
  case hg7 => rfl
  case hy7 => (intro w hSw; (try dsimp only at hSw); go_simp; (first | done | (with_reducible rfl)))
  (try simp only [Act.put, List.setIfInBounds_toArray, List.set_cons_zero, List.set_cons_succ])
  refine anyN_take [] (i := 7) (oi := ?o8) (v := ?v8) ?hi8 (by kernel_rfl) (by kernel_rfl) (by kernel_rfl) (by kernel_rfl) (by kernel_rfl) ?hQ8 (Or.inl ⟨?hg8, ?hy8⟩) ⟨f0, f1, f2, f3⟩ ?rest8
  case hi8 => (simp only [List.getElem?_toArray, List.getElem?_cons_zero, List.getElem?_cons_succ]; (first | done | with_reducible rfl))
  case hQ8 => exact fun _ _ _ h => h
  case hg8 => rfl
  case hy8 => (intro w hSw; (try dsimp only at hSw); go_simp; (first | done | (with_reducible rfl)))
  (try simp only [Act.put, List.setIfInBounds_toArray, List.set_cons_zero, List.set_cons_succ])
  refine anyN_take [] (i := 8) (oi := ?o9) (v := ?v9) ?hi9 (by kernel_rfl) (by kernel_rfl) (by kernel_rfl) (by kernel_rfl) (by kernel_rfl) ?hQ9 (Or.inl ⟨?hg9, ?hy9⟩) ⟨f0, f1, f2, f3⟩ ?rest9
  case hi9 => (simp only [List.getElem?_toArray, List.getElem?_cons_zero, List.getElem?_cons_succ]; (first | done | with_reducible rfl))
  case hQ9 => exact fun _ _ _ h => h
  case hg9 => rfl
  case hy9 => (intro w hSw; (try dsimp only at hSw); go_simp; (first | done | (with_reducible rfl)))
  (try simp only [Act.put, List.setIfInBounds_toArray, List.set_cons_zero, List.set_cons_succ])
  refine anyN_take [] (i := 9) (oi := ?o10) (v := ?v10) ?hi10 (by kernel_rfl) (by kernel_rfl) (by kernel_rfl) (by kernel_rfl) (by kernel_rfl) ?hQ10 (Or.inl ⟨?hg10, ?hy10⟩) ⟨f0, f1, f2, f3⟩ ?rest10
  case hi10 => (simp only [List.getElem?_toArray, List.getElem?_cons_zero, List.getElem?_cons_succ]; (first | done | with_reducible rfl))
  case hQ10 => exact fun _ _ _ h => h
  case hg10 => rfl
  case hy10 => (intro w hSw; (try dsimp only at hSw); go_simp; (first | done | (with_reducible rfl)))
  (try simp only [Act.put, List.setIfInBounds_toArray, List.set_cons_zero, List.set_cons_succ])
  refine anyN_take [] (i := 10) (oi := ?o11) (v := ?v11) ?hi11 (by kernel_rfl) (by kernel_rfl) (by kernel_rfl) (by kernel_rfl) (by kernel_rfl) ?hQ11 (Or.inl ⟨?hg11, ?hy11⟩) ⟨f0, f1, f2, f3⟩ ?rest11
  case hi11 => (simp only [List.getElem?_toArray, List.getElem?_cons_zero, List.getElem?_cons_succ]; (first | done | with_reducible rfl))
  case hQ11 => exact fun _ _ _ h => h
  case hg11 => rfl
  case hy11 => (intro w hSw; (try dsimp only at hSw); go_simp; (first | done | (with_reducible rfl)))
  (try simp only [Act.put, List.setIfInBounds_toArray, List.set_cons_zero, List.set_cons_succ])
  refine anyN_take [] (i := 11) (oi := ?o12) (v := ?v12) ?hi12 (by kernel_rfl) (by kernel_rfl) (by kernel_rfl) (by kernel_rfl) (by kernel_rfl) ?hQ12 (Or.inl ⟨?hg12, ?hy12⟩) ⟨f0, f1, f2, f3⟩ ?rest12
  case hi12 => (simp only [List.getElem?_toArray, List.getElem?_cons_zero, List.getElem?_cons_succ]; (first | done | with_reducible rfl))
  case hQ12 => exact fun _ _ _ h => h
  case hg12 => rfl
  case hy12 => (intro w hSw; (try dsimp only at hSw); go_simp; (first | done | (with_reducible rfl)))
  (try simp only [Act.put, List.setIfInBounds_toArray, List.set_cons_zero, List.set_cons_succ])
  refine anyN_take [] (i := 12) (oi := ?o13) (v := ?v13) ?hi13 (by kernel_rfl) (by kernel_rfl) (by kernel_rfl) (by kernel_rfl) (by kernel_rfl) ?hQ13 (Or.inl ⟨?hg13, ?hy13⟩) ⟨f0, f1, f2, f3⟩ ?rest13
  case hi13 => (simp only [List.getElem?_toArray, List.getElem?_cons_zero, List.getElem?_cons_succ]; (first | done | with_reducible rfl))
  case hQ13 => exact fun _ _ _ h => h
  case hg13 => rfl
  case hy13 => (intro w hSw; (try dsimp only at hSw); go_simp; (first | done | (with_reducible rfl)))
  (try simp only [Act.put, List.setIfInBounds_toArray, List.set_cons_zero, List.set_cons_succ])
  refine anyN_take [] (i := 13) (oi := ?o14) (v := ?v14) ?hi14 (by kernel_rfl) (by kernel_rfl) (by kernel_rfl) (by kernel_rfl) (by kernel_rfl) ?hQ14 (Or.inl ⟨?hg14, ?hy14⟩) ⟨f0, f1, f2, f3⟩ ?rest14
  case hi14 => (simp only [List.getElem?_toArray, List.getElem?_cons_zero, List.getElem?_cons_succ]; (first | done | with_reducible rfl))
  case hQ14 => exact fun _ _ _ h => h
  case hg14 => rfl
  case hy14 => (intro w hSw; (try dsimp only at hSw); go_simp; (first | done | (with_reducible rfl)))
  (try simp only [Act.put, List.setIfInBounds_toArray, List.set_cons_zero, List.set_cons_succ])
  refine anyN_take [] (i := 14) (oi := ?o15) (v := ?v15) ?hi15 (by kernel_rfl) (by kernel_rfl) (by kernel_rfl) (by kernel_rfl) (by kernel_rfl) ?hQ15 (Or.inl ⟨?hg15, ?hy15⟩) ⟨f0, f1, f2, f3⟩ ?rest15
  case hi15 => (simp only [List.getElem?_toArray, List.getElem?_cons_zero, List.getElem?_cons_succ]; (first | done | with_reducible rfl))
  case hQ15 => exact fun _ _ _ h => h
  case hg15 => rfl
  case hy15 => (intro w hSw; (try dsimp only at hSw); go_simp; (first | done | (with_reducible rfl)))
  (try simp only [Act.put, List.setIfInBounds_toArray, List.set_cons_zero, List.set_cons_succ])
  refine anyN_take [] (i := 15) (oi := ?o16) (v := ?v16) ?hi16 (by kernel_rfl) (by kernel_rfl) (by kernel_rfl) (by kernel_rfl) (by kernel_rfl) ?hQ16 (Or.inl ⟨?hg16, ?hy16⟩) ⟨f0, f1, f2, f3⟩ ?rest16
  case hi16 => (simp only [List.getElem?_toArray, List.getElem?_cons_zero, List.getElem?_cons_succ]; (first | done | with_reducible rfl))
  case hQ16 => exact fun _ _ _ h => h
  case hg16 => rfl
  case hy16 => (intro w hSw; (try dsimp only at hSw); go_simp; (first | done | (with_reducible rfl)))
  (try simp only [Act.put, List.setIfInBounds_toArray, List.set_cons_zero, List.set_cons_succ])
  refine anyN_take [] (i := 16) (oi := ?o17) (v := ?v17) ?hi17 (by kernel_rfl) (by kernel_rfl) (by kernel_rfl) (by kernel_rfl) (by kernel_rfl) ?hQ17 (Or.inl ⟨?hg17, ?hy17⟩) ⟨f0, f1, f2, f3⟩ ?rest17
  case hi17 => (simp only [List.getElem?_toArray, List.getElem?_cons_zero, List.getElem?_cons_succ]; (first | done | with_reducible rfl))
  case hQ17 => exact fun _ _ _ h => h
  case hg17 => rfl
  case hy17 => (intro w hSw; (try dsimp only at hSw); go_simp; (first | done | (with_reducible rfl)))
  (try simp only [Act.put, List.setIfInBounds_toArray, List.set_cons_zero, List.set_cons_succ])
  refine anyN_ready (rs := [17]) (by kernel_rfl) (by simp) ?_
  refine AllN.cons (o := ?o18) ?hi18 (fun K hK => ?step18) AllN.nil
  case hi18 => (simp only [List.getElem?_toArray, List.getElem?_cons_zero, List.getElem?_cons_succ]; (first | done | with_reducible rfl))
  go_simp
  (go_at_call 23; (with_reducible refine (cutP_any _ _ _ _).mono ?_); rintro e w1 ⟨rfl, hb⟩; replace f0 := keepc hb f0; replace f1 := keepc hb f1; replace f2 := keepc hb f2; replace f3 := keepc hb f3; replace B := keepb B hb; clear hb)
  refine hK.out _ _ ⟨f0, f1, f2, f3⟩ (fun _ => ?_)
  clear hK K
  (try simp only [Act.put, List.setIfInBounds_toArray, List.set_cons_zero, List.set_cons_succ])
  simp only [hx, hy]
  refine anyN_take [] (i := 18) (oi := ?o19) (v := ?v19) ?hi19 (by kernel_rfl) (by kernel_rfl) (by kernel_rfl) (by kernel_rfl) (by kernel_rfl) ?hQ19 (Or.inl ⟨?hg19, ?hy19⟩) ⟨f0, f1, f2, f3⟩ ?rest19
  case hi19 => (simp only [List.getElem?_toArray, List.getElem?_cons_zero, List.getElem?_cons_succ]; (first | done | with_reducible rfl))
  case hQ19 => exact fun _ _ _ h => h
  case hg19 => rfl
  case hy19 => (intro w hSw; (try dsimp only at hSw); go_simp; (first | done | (with_reducible rfl)))
  (try simp only [Act.put, List.setIfInBounds_toArray, List.set_cons_zero, List.set_cons_succ])
  refine anyN_take [] (i := 19) (oi := ?o20) (v := ?v20) ?hi20 (by kernel_rfl) (by kernel_rfl) (by kernel_rfl) (by kernel_rfl) (by kernel_rfl) ?hQ20 (Or.inl ⟨?hg20, ?hy20⟩) ⟨f0, f1, f2, f3⟩ ?rest20
  case hi20 => (simp only [List.getElem?_toArray, List.getElem?_cons_zero, List.getElem?_cons_succ]; (first | done | with_reducible rfl))
  case hQ20 => exact fun _ _ _ h => h
  case hg20 => rfl
  case hy20 => (intro w hSw; (try dsimp only at hSw); go_simp; (first | done | (with_reducible rfl)))
  (try simp only [Act.put, List.setIfInBounds_toArray, List.set_cons_zero, List.set_cons_succ])
  refine anyN_take [] (i := 20) (oi := ?o21) (v := ?v21) ?hi21 (by kernel_rfl) (by kernel_rfl) (by kernel_rfl) (by kernel_rfl) (by kernel_rfl) ?hQ21 (Or.inl ⟨?hg21, ?hy21⟩) ⟨f0, f1, f2, f3⟩ ?rest21
  case hi21 => (simp only [List.getElem?_toArray, List.getElem?_cons_zero, List.getElem?_cons_succ]; (first | done | with_reducible rfl))
  case hQ21 => exact fun _ _ _ h => h
  case hg21 => rfl
  case hy21 => (intro w hSw; (try dsimp only at hSw); go_simp; (first | done | (with_reducible rfl)))
  (try simp only [Act.put, List.setIfInBounds_toArray, List.set_cons_zero, List.set_cons_succ])
  refine anyN_done (by kernel_rfl) ?_ _
  go_wp2
  go_ret
  exact ⟨rfl, B⟩
set_option maxHeartbeats 4000000 in
theorem zero_f (a1x a1y a2 x0 y0 k0 M m : Int) (e0 : cutZ false a1x = x0) (e1 : cutZ false a1y = y0) (e2 : cutZ false a2 = k0) (hM : max x0 y0 = M) (hm : min x0 y0 = m) (hz : Shut (cutZ false k0 = 0)) (c0 : (k0 == 0) = true) (w : World) :
    Calls Try.prog 6 #[.bool false, .agg #[.int .i64 a1x, .int .i64 a1y], .int .i64 a2] w fun e w' => e = .returned (.bool true) ∧ Below w.heap.size w w' := by
  have rM := fun ts t W => run_max2 (P := Try.prog) ts t x0 y0 M hM W
  have rm := fun ts t W => run_min2 (P := Try.prog) ts t x0 y0 m hm W
  clear hM hm
  go_enter Try.func6, Try.ntmps6
  go_wp2_with (first
    | (go_at_call 23; (with_reducible refine (cutP_any _ _ _ _).mono ?_); rintro e w1 ⟨rfl, hb⟩; have f0 := keepc hb (p := ⟨w.heap.size, 0, none⟩) (v := .int .i64 a1x) (by simp [go_sem]); have f1 := keepc hb (p := ⟨w.heap.size, 1, none⟩) (v := .int .i64 a1y) (by simp [go_sem]); have g0 := keepf hb (p := ⟨w.heap.size, 0, none⟩) (v := .int .i64 a1x) (by simp [go_sem]) (by simp [go_sem]); have g1 := keepf hb (p := ⟨w.heap.size, 1, none⟩) (v := .int .i64 a1y) (by simp [go_sem]) (by simp [go_sem]); have B := keepb (w := w) (by repeat (first | (with_reducible exact Below.refl _ _) | (with_reducible apply Below.drew) | (with_reducible refine Below.alloc ?_ (by first | exact Nat.le_refl _ | (simp; done) | (simp; omega)) _))) hb; clear hb)
    | (go_at_call 26; (with_reducible refine (cut_any _ _ _).mono ?_); rintro e w' ⟨rfl, rfl⟩)
    | (go_at_call 28; (with_reducible refine (part_any _ _).mono ?_); rintro e w' ⟨rfl, rfl⟩)
    | (go_at_call 27; (with_reducible refine (iOverZ_any _ _ _ _ hz.out _).mono ?_); rintro e w2 ⟨rfl, hb⟩; have f2 := keepc hb (p := ⟨w.heap.size, 0, none⟩) (v := .int .i64 x0) (by simp [go_sem, f0, f1]); have f3 := keepc hb (p := ⟨w.heap.size, 1, none⟩) (v := .int .i64 y0) (by simp [go_sem, f0, f1]); clear f0 f1 g0 g1; replace B := keepb (w := w) (by repeat (first | (with_reducible exact B) | (with_reducible exact Below.refl _ _) | (with_reducible apply Below.drew) | (with_reducible refine Below.setCell ?_ (by first | (simp; done) | (simp; omega)) _) | (with_reducible refine Below.alloc ?_ (by first | exact Nat.le_refl _ | (simp; done) | (simp; omega)) _))) hb; clear hb; have h0 : ∀ o, (w2.alloc o).cell? ⟨w.heap.size, 0, none⟩ = some (.int .i64 x0) := fun o => keepA o f2; have h1 : ∀ o, (w2.alloc o).cell? ⟨w.heap.size, 1, none⟩ = some (.int .i64 y0) := fun o => keepA o f3))
  go_ret
  exact ⟨rfl, B.alloc B.size _⟩
set_option maxHeartbeats 4000000 in
theorem hi_f (a1x a1y a2 x0 y0 k0 M m : Int) (e0 : cutZ false a1x = x0) (e1 : cutZ false a1y = y0) (e2 : cutZ false a2 = k0) (hM : max x0 y0 = M) (hm : min x0 y0 = m) (hz : Shut (¬ cutZ false k0 = 0)) (c0 : (k0 == 0) = false) (c : 16777216 ≤ M) (w : World) :
    Calls Try.prog 6 #[.bool false, .agg #[.int .i64 a1x, .int .i64 a1y], .int .i64 a2] w fun e w' => e = .returned (.bool true) ∧ Below w.heap.size w w' := by
  have rM := fun ts t W => run_max2 (P := Try.prog) ts t x0 y0 M hM W
  have rm := fun ts t W => run_min2 (P := Try.prog) ts t x0 y0 m hm W
  clear hM hm
  go_enter Try.func6, Try.ntmps6
  go_wp2_with (first
    | (go_at_call 23; (with_reducible refine (cutP_any _ _ _ _).mono ?_); rintro e w1 ⟨rfl, hb⟩; have f0 := keepc hb (p := ⟨w.heap.size, 0, none⟩) (v := .int .i64 a1x) (by simp [go_sem]); have f1 := keepc hb (p := ⟨w.heap.size, 1, none⟩) (v := .int .i64 a1y) (by simp [go_sem]); have g0 := keepf hb (p := ⟨w.heap.size, 0, none⟩) (v := .int .i64 a1x) (by simp [go_sem]) (by simp [go_sem]); have g1 := keepf hb (p := ⟨w.heap.size, 1, none⟩) (v := .int .i64 a1y) (by simp [go_sem]) (by simp [go_sem]); have B := keepb (w := w) (by repeat (first | (with_reducible exact Below.refl _ _) | (with_reducible apply Below.drew) | (with_reducible refine Below.alloc ?_ (by first | exact Nat.le_refl _ | (simp; done) | (simp; omega)) _))) hb; clear hb)
    | (go_at_call 26; (with_reducible refine (cut_any _ _ _).mono ?_); rintro e w' ⟨rfl, rfl⟩)
    | (go_at_call 28; (with_reducible refine (part_any _ _).mono ?_); rintro e w' ⟨rfl, rfl⟩)
    | (go_at_call 27; (with_reducible refine (iOver_any _ _ _ _ hz.out _).mono ?_); rintro e w2 ⟨rfl, hb⟩; have f2 := keepc hb (p := ⟨w.heap.size, 0, none⟩) (v := .int .i64 x0) (by simp [go_sem, f0, f1]); have f3 := keepc hb (p := ⟨w.heap.size, 1, none⟩) (v := .int .i64 y0) (by simp [go_sem, f0, f1]); clear f0 f1 g0 g1; replace B := keepb (w := w) (by repeat (first | (with_reducible exact B) | (with_reducible exact Below.refl _ _) | (with_reducible apply Below.drew) | (with_reducible refine Below.setCell ?_ (by first | (simp; done) | (simp; omega)) _) | (with_reducible refine Below.alloc ?_ (by first | exact Nat.le_refl _ | (simp; done) | (simp; omega)) _))) hb; clear hb; have h0 : ∀ o, (w2.alloc o).cell? ⟨w.heap.size, 0, none⟩ = some (.int .i64 x0) := fun o => keepA o f2; have h1 : ∀ o, (w2.alloc o).cell? ⟨w.heap.size, 1, none⟩ = some (.int .i64 y0) := fun o => keepA o f3))
  go_ret
  exact ⟨rfl, B.alloc B.size _⟩
set_option maxHeartbeats 4000000 in
theorem lo_f (a1x a1y a2 x0 y0 k0 M m : Int) (e0 : cutZ false a1x = x0) (e1 : cutZ false a1y = y0) (e2 : cutZ false a2 = k0) (hM : max x0 y0 = M) (hm : min x0 y0 = m) (hz : Shut (¬ cutZ false k0 = 0)) (c0 : (k0 == 0) = false) (c1 : M < 16777216) (c : m ≤ -16777216) (w : World) :
    Calls Try.prog 6 #[.bool false, .agg #[.int .i64 a1x, .int .i64 a1y], .int .i64 a2] w fun e w' => e = .returned (.bool true) ∧ Below w.heap.size w w' := by
  have rM := fun ts t W => run_max2 (P := Try.prog) ts t x0 y0 M hM W
  have rm := fun ts t W => run_min2 (P := Try.prog) ts t x0 y0 m hm W
  clear hM hm
  go_enter Try.func6, Try.ntmps6
  go_wp2_with (first
    | (go_at_call 23; (with_reducible refine (cutP_any _ _ _ _).mono ?_); rintro e w1 ⟨rfl, hb⟩; have f0 := keepc hb (p := ⟨w.heap.size, 0, none⟩) (v := .int .i64 a1x) (by simp [go_sem]); have f1 := keepc hb (p := ⟨w.heap.size, 1, none⟩) (v := .int .i64 a1y) (by simp [go_sem]); have g0 := keepf hb (p := ⟨w.heap.size, 0, none⟩) (v := .int .i64 a1x) (by simp [go_sem]) (by simp [go_sem]); have g1 := keepf hb (p := ⟨w.heap.size, 1, none⟩) (v := .int .i64 a1y) (by simp [go_sem]) (by simp [go_sem]); have B := keepb (w := w) (by repeat (first | (with_reducible exact Below.refl _ _) | (with_reducible apply Below.drew) | (with_reducible refine Below.alloc ?_ (by first | exact Nat.le_refl _ | (simp; done) | (simp; omega)) _))) hb; clear hb)
    | (go_at_call 26; (with_reducible refine (cut_any _ _ _).mono ?_); rintro e w' ⟨rfl, rfl⟩)
    | (go_at_call 28; (with_reducible refine (part_any _ _).mono ?_); rintro e w' ⟨rfl, rfl⟩)
    | (go_at_call 27; (with_reducible refine (iOver_any _ _ _ _ hz.out _).mono ?_); rintro e w2 ⟨rfl, hb⟩; have f2 := keepc hb (p := ⟨w.heap.size, 0, none⟩) (v := .int .i64 x0) (by simp [go_sem, f0, f1]); have f3 := keepc hb (p := ⟨w.heap.size, 1, none⟩) (v := .int .i64 y0) (by simp [go_sem, f0, f1]); clear f0 f1 g0 g1; replace B := keepb (w := w) (by repeat (first | (with_reducible exact B) | (with_reducible exact Below.refl _ _) | (with_reducible apply Below.drew) | (with_reducible refine Below.setCell ?_ (by first | (simp; done) | (simp; omega)) _) | (with_reducible refine Below.alloc ?_ (by first | exact Nat.le_refl _ | (simp; done) | (simp; omega)) _))) hb; clear hb; have h0 : ∀ o, (w2.alloc o).cell? ⟨w.heap.size, 0, none⟩ = some (.int .i64 x0) := fun o => keepA o f2; have h1 : ∀ o, (w2.alloc o).cell? ⟨w.heap.size, 1, none⟩ = some (.int .i64 y0) := fun o => keepA o f3))
  go_ret
  exact ⟨rfl, B.alloc B.size _⟩
set_option maxHeartbeats 4000000 in
theorem in_f (a1x a1y a2 x0 y0 k0 M m : Int) (e0 : cutZ false a1x = x0) (e1 : cutZ false a1y = y0) (e2 : cutZ false a2 = k0) (hM : max x0 y0 = M) (hm : min x0 y0 = m) (hz : Shut (¬ cutZ false k0 = 0)) (c0 : (k0 == 0) = false) (c1 : M < 16777216) (c : -16777216 < m) (hx : cutZ false (IntKind.i64.wrap ((IntKind.i64.wrap (x0 * oneZ false)).tdiv k0)) = overZ false x0 k0) (hy : cutZ false (IntKind.i64.wrap ((IntKind.i64.wrap (y0 * oneZ false)).tdiv k0)) = overZ false y0 k0) (w : World) :
    Calls Try.prog 6 #[.bool false, .agg #[.int .i64 a1x, .int .i64 a1y], .int .i64 a2] w fun e w' => e = .returned (.bool true) ∧ Below w.heap.size w w' := by
  have rM := fun ts t W => run_max2 (P := Try.prog) ts t x0 y0 M hM W
  have rm := fun ts t W => run_min2 (P := Try.prog) ts t x0 y0 m hm W
  have hn : ¬ k0 = 0 := by simpa using c0
  clear hM hm
  go_enter Try.func6, Try.ntmps6
  go_wp2_with (first
    | (go_at_call 23; (with_reducible refine (cutP_any _ _ _ _).mono ?_); rintro e w1 ⟨rfl, hb⟩; have f0 := keepc hb (p := ⟨w.heap.size, 0, none⟩) (v := .int .i64 a1x) (by simp [go_sem]); have f1 := keepc hb (p := ⟨w.heap.size, 1, none⟩) (v := .int .i64 a1y) (by simp [go_sem]); have g0 := keepf hb (p := ⟨w.heap.size, 0, none⟩) (v := .int .i64 a1x) (by simp [go_sem]) (by simp [go_sem]); have g1 := keepf hb (p := ⟨w.heap.size, 1, none⟩) (v := .int .i64 a1y) (by simp [go_sem]) (by simp [go_sem]); have B := keepb (w := w) (by repeat (first | (with_reducible exact Below.refl _ _) | (with_reducible apply Below.drew) | (with_reducible refine Below.alloc ?_ (by first | exact Nat.le_refl _ | (simp; done) | (simp; omega)) _))) hb; clear hb)
    | (go_at_call 26; (with_reducible refine (cut_any _ _ _).mono ?_); rintro e w' ⟨rfl, rfl⟩)
    | (go_at_call 28; (with_reducible refine (part_any _ _).mono ?_); rintro e w' ⟨rfl, rfl⟩)
    | (go_at_call 27; (with_reducible refine (iOver_any _ _ _ _ hz.out _).mono ?_); rintro e w2 ⟨rfl, hb⟩; have f2 := keepc hb (p := ⟨w.heap.size, 0, none⟩) (v := .int .i64 x0) (by simp [go_sem, f0, f1]); have f3 := keepc hb (p := ⟨w.heap.size, 1, none⟩) (v := .int .i64 y0) (by simp [go_sem, f0, f1]); clear f0 f1 g0 g1; replace B := keepb (w := w) (by repeat (first | (with_reducible exact B) | (with_reducible exact Below.refl _ _) | (with_reducible apply Below.drew) | (with_reducible refine Below.setCell ?_ (by first | (simp; done) | (simp; omega)) _) | (with_reducible refine Below.alloc ?_ (by first | exact Nat.le_refl _ | (simp; done) | (simp; omega)) _))) hb; clear hb; have h0 : ∀ o, (w2.alloc o).cell? ⟨w.heap.size, 0, none⟩ = some (.int .i64 x0) := fun o => keepA o f2; have h1 : ∀ o, (w2.alloc o).cell? ⟨w.heap.size, 1, none⟩ = some (.int .i64 y0) := fun o => keepA o f3))
  refine region_R (S := (fun W' => W'.cell? ⟨w.heap.size, 0, none⟩ = some (.int .i64 x0) ∧ W'.cell? ⟨w.heap.size, 1, none⟩ = some (.int .i64 y0) ∧ W'.cell? ⟨w2.heap.size, 0, none⟩ = some (.int .i64 (overZ false x0 k0)) ∧ W'.cell? ⟨w2.heap.size, 1, none⟩ = some (.int .i64 (overZ false y0 k0)))) (N := []) (fun W' => Below w.heap.size w W' ∧ W'.cell? ⟨w.heap.size, 0, none⟩ = some (.int .i64 x0) ∧ W'.cell? ⟨w.heap.size, 1, none⟩ = some (.int .i64 y0) ∧ W'.cell? ⟨w2.heap.size, 0, none⟩ = some (.int .i64 (overZ false x0 k0)) ∧ W'.cell? ⟨w2.heap.size, 1, none⟩ = some (.int .i64 (overZ false y0 k0))) (by kernel_rfl) ?_ ?_
  · (try dsimp only)
    exact ⟨(B.alloc B.size _).drew, (by simp [go_sem, h0]), (by simp [go_sem, h1]), (by simp [go_sem]), (by simp [go_sem])⟩
  rintro W ⟨B, f0, f1, f2, f3⟩
  refine anyN_take [] (i := 0) (oi := ?o22) (v := ?v22) ?hi22 (by kernel_rfl) (by kernel_rfl) (by kernel_rfl) (by kernel_rfl) (by kernel_rfl) ?hQ22 (Or.inl ⟨?hg22, ?hy22⟩) ⟨f0, f1, f2, f3⟩ ?rest22
  case hi22 => (simp only [List.getElem?_toArray, List.getElem?_cons_zero, List.getElem?_cons_succ]; (first | done | with_reducible rfl))
  case hQ22 => exact fun _ _ _ h => h
  case hg22 => rfl
  case hy22 => (intro w hSw; (try dsimp only at hSw); go_simp; (first | done | (with_reducible rfl)))
  (try simp only [Act.put, List.setIfInBounds_toArray, List.set_cons_zero, List.set_cons_succ])
  refine anyN_take [] (i := 1) (oi := ?o23) (v := ?v23) ?hi23 (by kernel_rfl) (by kernel_rfl) (by kernel_rfl) (by kernel_rfl) (by kernel_rfl) ?hQ23 (Or.inl ⟨?hg23, ?hy23⟩) ⟨f0, f1, f2, f3⟩ ?rest23
  case hi23 => (simp only [List.getElem?_toArray, List.getElem?_cons_zero, List.getElem?_cons_succ]; (first | done | with_reducible rfl))
  case hQ23 => exact fun _ _ _ h => h
  case hg23 => rfl
  case hy23 => (intro w hSw; (try dsimp only at hSw); go_simp; (first | done | (with_reducible rfl)))
  (try simp only [Act.put, List.setIfInBounds_toArray, List.set_cons_zero, List.set_cons_succ])
  refine anyN_take [] (i := 2) (oi := ?o24) (v := ?v24) ?hi24 (by kernel_rfl) (by kernel_rfl) (by kernel_rfl) (by kernel_rfl) (by kernel_rfl) ?hQ24 (Or.inl ⟨?hg24, ?hy24⟩) ⟨f0, f1, f2, f3⟩ ?rest24
  case hi24 => (simp only [List.getElem?_toArray, List.getElem?_cons_zero, List.getElem?_cons_succ]; (first | done | with_reducible rfl))
  case hQ24 => exact fun _ _ _ h => h
  case hg24 => rfl
  case hy24 => (intro w hSw; (try dsimp only at hSw); go_simp; (first | done | (with_reducible rfl)))
  (try simp only [Act.put, List.setIfInBounds_toArray, List.set_cons_zero, List.set_cons_succ])
  refine anyN_take [] (i := 3) (oi := ?o25) (v := ?v25) ?hi25 (by kernel_rfl) (by kernel_rfl) (by kernel_rfl) (by kernel_rfl) (by kernel_rfl) ?hQ25 (Or.inl ⟨?hg25, ?hy25⟩) ⟨f0, f1, f2, f3⟩ ?rest25
  case hi25 => (simp only [List.getElem?_toArray, List.getElem?_cons_zero, List.getElem?_cons_succ]; (first | done | with_reducible rfl))
  case hQ25 => exact fun _ _ _ h => h
  case hg25 => rfl
  case hy25 => (intro w hSw; (try dsimp only at hSw); go_simp; (first | done | (with_reducible rfl)))
  (try simp only [Act.put, List.setIfInBounds_toArray, List.set_cons_zero, List.set_cons_succ])
  refine anyN_take [] (i := 4) (oi := ?o26) (v := ?v26) ?hi26 (by kernel_rfl) (by kernel_rfl) (by kernel_rfl) (by kernel_rfl) (by kernel_rfl) ?hQ26 (Or.inl ⟨?hg26, ?hy26⟩) ⟨f0, f1, f2, f3⟩ ?rest26
  case hi26 => (simp only [List.getElem?_toArray, List.getElem?_cons_zero, List.getElem?_cons_succ]; (first | done | with_reducible rfl))
  case hQ26 => exact fun _ _ _ h => h
  case hg26 => rfl
  case hy26 => (intro w hSw; (try dsimp only at hSw); go_simp; (first | done | (with_reducible rfl)))
  (try simp only [Act.put, List.setIfInBounds_toArray, List.set_cons_zero, List.set_cons_succ])
  refine anyN_take [] (i := 5) (oi := ?o27) (v := ?v27) ?hi27 (by kernel_rfl) (by kernel_rfl) (by kernel_rfl) (by kernel_rfl) (by kernel_rfl) ?hQ27 (Or.inl ⟨?hg27, ?hy27⟩) ⟨f0, f1, f2, f3⟩ ?rest27
  case hi27 => (simp only [List.getElem?_toArray, List.getElem?_cons_zero, List.getElem?_cons_succ]; (first | done | with_reducible rfl))
  case hQ27 => exact fun _ _ _ h => h
  case hg27 => rfl
  case hy27 => (intro w hSw; (try dsimp only at hSw); go_simp; (first | done | (with_reducible rfl)))
  (try simp only [Act.put, List.setIfInBounds_toArray, List.set_cons_zero, List.set_cons_succ])
  refine anyN_take [] (i := 6) (oi := ?o28) (v := ?v28) ?hi28 (by kernel_rfl) (by kernel_rfl) (by kernel_rfl) (by kernel_rfl) (by kernel_rfl) ?hQ28 (Or.inl ⟨?hg28, ?hy28⟩) ⟨f0, f1, f2, f3⟩ ?rest28
  case hi28 => (simp only [List.getElem?_toArray, List.getElem?_cons_zero, List.getElem?_cons_succ]; (first | done | with_reducible rfl))
  case hQ28 => exact fun _ _ _ h => h
  case hg28 => rfl
  case hy28 => (intro w hSw; (try dsimp only at hSw); go_simp; (first | done | (with_reducible rfl)))
  (try simp only [Act.put, List.setIfInBounds_toArray, List.set_cons_zero, List.set_cons_succ])
  refine anyN_take [] (i := 7) (oi := ?o29) (v := ?v29) ?hi29 (by kernel_rfl) (by kernel_rfl) (by kernel_rfl) (by kernel_rfl) (by kernel_rfl) ?hQ29 (Or.inl ⟨?hg29, ?hy29⟩) ⟨f0, f1, f2, f3⟩ ?rest29
  case hi29 => (simp only [List.getElem?_toArray, List.getElem?_cons_zero, List.getElem?_cons_succ]; (first | done | with_reducible rfl))
  case hQ29 => exact fun _ _ _ h => h
  case hg29 => rfl
  case hy29 => (intro w hSw; (try dsimp only at hSw); go_simp; (first | done | (with_reducible rfl)))
  (try simp only [Act.put, List.setIfInBounds_toArray, List.set_cons_zero, List.set_cons_succ])
  refine anyN_take [] (i := 8) (oi := ?o30) (v := ?v30) ?hi30 (by kernel_rfl) (by kernel_rfl) (by kernel_rfl) (by kernel_rfl) (by kernel_rfl) ?hQ30 (Or.inl ⟨?hg30, ?hy30⟩) ⟨f0, f1, f2, f3⟩ ?rest30
  case hi30 => (simp only [List.getElem?_toArray, List.getElem?_cons_zero, List.getElem?_cons_succ]; (first | done | with_reducible rfl))
  case hQ30 => exact fun _ _ _ h => h
  case hg30 => rfl
  case hy30 => (intro w hSw; (try dsimp only at hSw); go_simp; (first | done | (with_reducible rfl)))
  (try simp only [Act.put, List.setIfInBounds_toArray, List.set_cons_zero, List.set_cons_succ])
  refine anyN_take [] (i := 9) (oi := ?o31) (v := ?v31) ?hi31 (by kernel_rfl) (by kernel_rfl) (by kernel_rfl) (by kernel_rfl) (by kernel_rfl) ?hQ31 (Or.inl ⟨?hg31, ?hy31⟩) ⟨f0, f1, f2, f3⟩ ?rest31
  case hi31 => (simp only [List.getElem?_toArray, List.getElem?_cons_zero, List.getElem?_cons_succ]; (first | done | with_reducible rfl))
  case hQ31 => exact fun _ _ _ h => h
  case hg31 => rfl
  case hy31 => (intro w hSw; (try dsimp only at hSw); go_simp; (first | done | (with_reducible rfl)))
  (try simp only [Act.put, List.setIfInBounds_toArray, List.set_cons_zero, List.set_cons_succ])
  refine anyN_take [] (i := 10) (oi := ?o32) (v := ?v32) ?hi32 (by kernel_rfl) (by kernel_rfl) (by kernel_rfl) (by kernel_rfl) (by kernel_rfl) ?hQ32 (Or.inl ⟨?hg32, ?hy32⟩) ⟨f0, f1, f2, f3⟩ ?rest32
  case hi32 => (simp only [List.getElem?_toArray, List.getElem?_cons_zero, List.getElem?_cons_succ]; (first | done | with_reducible rfl))
  case hQ32 => exact fun _ _ _ h => h
  case hg32 => rfl
  case hy32 => (intro w hSw; (try dsimp only at hSw); go_simp; (first | done | (with_reducible rfl)))
  (try simp only [Act.put, List.setIfInBounds_toArray, List.set_cons_zero, List.set_cons_succ])
  refine anyN_take [] (i := 11) (oi := ?o33) (v := ?v33) ?hi33 (by kernel_rfl) (by kernel_rfl) (by kernel_rfl) (by kernel_rfl) (by kernel_rfl) ?hQ33 (Or.inl ⟨?hg33, ?hy33⟩) ⟨f0, f1, f2, f3⟩ ?rest33
  case hi33 => (simp only [List.getElem?_toArray, List.getElem?_cons_zero, List.getElem?_cons_succ]; (first | done | with_reducible rfl))
  case hQ33 => exact fun _ _ _ h => h
  case hg33 => rfl
  case hy33 => (intro w hSw; (try dsimp only at hSw); go_simp; (first | done | (with_reducible rfl)))
  (try simp only [Act.put, List.setIfInBounds_toArray, List.set_cons_zero, List.set_cons_succ])
  refine anyN_take [] (i := 12) (oi := ?o34) (v := ?v34) ?hi34 (by kernel_rfl) (by kernel_rfl) (by kernel_rfl) (by kernel_rfl) (by kernel_rfl) ?hQ34 (Or.inl ⟨?hg34, ?hy34⟩) ⟨f0, f1, f2, f3⟩ ?rest34
  case hi34 => (simp only [List.getElem?_toArray, List.getElem?_cons_zero, List.getElem?_cons_succ]; (first | done | with_reducible rfl))
  case hQ34 => exact fun _ _ _ h => h
  case hg34 => rfl
  case hy34 => (intro w hSw; (try dsimp only at hSw); go_simp; (first | done | (with_reducible rfl)))
  (try simp only [Act.put, List.setIfInBounds_toArray, List.set_cons_zero, List.set_cons_succ])
  refine anyN_take [] (i := 13) (oi := ?o35) (v := ?v35) ?hi35 (by kernel_rfl) (by kernel_rfl) (by kernel_rfl) (by kernel_rfl) (by kernel_rfl) ?hQ35 (Or.inl ⟨?hg35, ?hy35⟩) ⟨f0, f1, f2, f3⟩ ?rest35
  case hi35 => (simp only [List.getElem?_toArray, List.getElem?_cons_zero, List.getElem?_cons_succ]; (first | done | with_reducible rfl))
  case hQ35 => exact fun _ _ _ h => h
  case hg35 => rfl
  case hy35 => (intro w hSw; (try dsimp only at hSw); go_simp; (first | done | (with_reducible rfl)))
  (try simp only [Act.put, List.setIfInBounds_toArray, List.set_cons_zero, List.set_cons_succ])
  refine anyN_take [] (i := 14) (oi := ?o36) (v := ?v36) ?hi36 (by kernel_rfl) (by kernel_rfl) (by kernel_rfl) (by kernel_rfl) (by kernel_rfl) ?hQ36 (Or.inl ⟨?hg36, ?hy36⟩) ⟨f0, f1, f2, f3⟩ ?rest36
  case hi36 => (simp only [List.getElem?_toArray, List.getElem?_cons_zero, List.getElem?_cons_succ]; (first | done | with_reducible rfl))
  case hQ36 => exact fun _ _ _ h => h
  case hg36 => rfl
  case hy36 => (intro w hSw; (try dsimp only at hSw); go_simp; (first | done | (with_reducible rfl)))
  (try simp only [Act.put, List.setIfInBounds_toArray, List.set_cons_zero, List.set_cons_succ])
  refine anyN_take [] (i := 15) (oi := ?o37) (v := ?v37) ?hi37 (by kernel_rfl) (by kernel_rfl) (by kernel_rfl) (by kernel_rfl) (by kernel_rfl) ?hQ37 (Or.inl ⟨?hg37, ?hy37⟩) ⟨f0, f1, f2, f3⟩ ?rest37
  case hi37 => (simp only [List.getElem?_toArray, List.getElem?_cons_zero, List.getElem?_cons_succ]; (first | done | with_reducible rfl))
  case hQ37 => exact fun _ _ _ h => h
  case hg37 => rfl
  case hy37 => (intro w hSw; (try dsimp only at hSw); go_simp; (first | done | (with_reducible rfl)))
  (try simp only [Act.put, List.setIfInBounds_toArray, List.set_cons_zero, List.set_cons_succ])
  refine anyN_take [] (i := 16) (oi := ?o38) (v := ?v38) ?hi38 (by kernel_rfl) (by kernel_rfl) (by kernel_rfl) (by kernel_rfl) (by kernel_rfl) ?hQ38 (Or.inl ⟨?hg38, ?hy38⟩) ⟨f0, f1, f2, f3⟩ ?rest38
  case hi38 => (simp only [List.getElem?_toArray, List.getElem?_cons_zero, List.getElem?_cons_succ]; (first | done | with_reducible rfl))
  case hQ38 => exact fun _ _ _ h => h
  case hg38 => rfl
  case hy38 => (intro w hSw; (try dsimp only at hSw); go_simp; (first | done | (with_reducible rfl)))
  (try simp only [Act.put, List.setIfInBounds_toArray, List.set_cons_zero, List.set_cons_succ])
  refine anyN_ready (rs := [17]) (by kernel_rfl) (by simp) ?_
  refine AllN.cons (o := ?o39) ?hi39 (fun K hK => ?step39) AllN.nil
  case hi39 => (simp only [List.getElem?_toArray, List.getElem?_cons_zero, List.getElem?_cons_succ]; (first | done | with_reducible rfl))
  go_simp
  (go_at_call 23; (with_reducible refine (cutP_any _ _ _ _).mono ?_); rintro e w1 ⟨rfl, hb⟩; replace f0 := keepc hb f0; replace f1 := keepc hb f1; replace f2 := keepc hb f2; replace f3 := keepc hb f3; replace B := keepb B hb; clear hb)
  refine hK.out _ _ ⟨f0, f1, f2, f3⟩ (fun _ => ?_)
  clear hK K
  (try simp only [Act.put, List.setIfInBounds_toArray, List.set_cons_zero, List.set_cons_succ])
  simp only [hx, hy]
  refine anyN_take [] (i := 18) (oi := ?o40) (v := ?v40) ?hi40 (by kernel_rfl) (by kernel_rfl) (by kernel_rfl) (by kernel_rfl) (by kernel_rfl) ?hQ40 (Or.inl ⟨?hg40, ?hy40⟩) ⟨f0, f1, f2, f3⟩ ?rest40
  case hi40 => (simp only [List.getElem?_toArray, List.getElem?_cons_zero, List.getElem?_cons_succ]; (first | done | with_reducible rfl))
  case hQ40 => exact fun _ _ _ h => h
  case hg40 => rfl
  case hy40 => (intro w hSw; (try dsimp only at hSw); go_simp; (first | done | (with_reducible rfl)))
  (try simp only [Act.put, List.setIfInBounds_toArray, List.set_cons_zero, List.set_cons_succ])
  refine anyN_take [] (i := 19) (oi := ?o41) (v := ?v41) ?hi41 (by kernel_rfl) (by kernel_rfl) (by kernel_rfl) (by kernel_rfl) (by kernel_rfl) ?hQ41 (Or.inl ⟨?hg41, ?hy41⟩) ⟨f0, f1, f2, f3⟩ ?rest41
  case hi41 => (simp only [List.getElem?_toArray, List.getElem?_cons_zero, List.getElem?_cons_succ]; (first | done | with_reducible rfl))
  case hQ41 => exact fun _ _ _ h => h
  case hg41 => rfl
  case hy41 => (intro w hSw; (try dsimp only at hSw); go_simp; (first | done | (with_reducible rfl)))
  (try simp only [Act.put, List.setIfInBounds_toArray, List.set_cons_zero, List.set_cons_succ])
  refine anyN_take [] (i := 20) (oi := ?o42) (v := ?v42) ?hi42 (by kernel_rfl) (by kernel_rfl) (by kernel_rfl) (by kernel_rfl) (by kernel_rfl) ?hQ42 (Or.inl ⟨?hg42, ?hy42⟩) ⟨f0, f1, f2, f3⟩ ?rest42
  case hi42 => (simp only [List.getElem?_toArray, List.getElem?_cons_zero, List.getElem?_cons_succ]; (first | done | with_reducible rfl))
  case hQ42 => exact fun _ _ _ h => h
  case hg42 => rfl
  case hy42 => (intro w hSw; (try dsimp only at hSw); go_simp; (first | done | (with_reducible rfl)))
  (try simp only [Act.put, List.setIfInBounds_toArray, List.set_cons_zero, List.set_cons_succ])
  refine anyN_done (by kernel_rfl) ?_ _
  go_wp2
  go_ret
  exact ⟨rfl, B⟩
theorem over_t (x k : Int) : cutZ true (IntKind.i64.wrap ((IntKind.i64.wrap (x * oneZ true)).tdiv k)) = overZ true x k := by
  rw [oneZ_t, cutZ_t]; rfl
theorem over_f (x k : Int) (h1 : -16777216 < x) (h2 : x < 16777216) (hx : cutZ false x = x) (hk : cutZ false k = k) : cutZ false (IntKind.i64.wrap ((IntKind.i64.wrap (x * oneZ false)).tdiv k)) = overZ false x k := by
  rw [cutZ_f] at hx hk
  rw [oneZ_f, cutZ_f]
  show _ = dvS (wrap32 x) (wrap32 k)
  rw [hx, hk]
  unfold dvS
  have e1 : IntKind.i64.wrap (x * 64) = x * 64 := IntWalk.i64_in _ ⟨by omega, by omega⟩
  have e2 : IntKind.i32.wrap (x * 64) = x * 64 := IntWalk.i32_in _ ⟨by omega, by omega⟩
  rw [e1, e2]
  generalize (x * 64).tdiv k = q
  rw [IntWalk.i64_left, IntKind.wrap_i32]
  unfold wrap32 wrap64; omega
theorem walk_t (a1x a1y a2 : Int) (w : World) :
    Calls Try.prog 6 #[.bool true, .agg #[.int .i64 a1x, .int .i64 a1y], .int .i64 a2] w fun e w' => e = .returned (.bool true) ∧ Below w.heap.size w w' := by
  cases c0 : (cutZ true a2 == 0)
  · have hz : ¬ cutZ true (cutZ true a2) = 0 := by rw [cutZ_cut]; simpa using c0
    by_cases c1 : 1125899906842624 ≤ max (cutZ true a1x) (cutZ true a1y)
    · exact hi_t a1x a1y a2 _ _ _ _ _ rfl rfl rfl rfl rfl hz c0 c1 w
    by_cases c2 : min (cutZ true a1x) (cutZ true a1y) ≤ -1125899906842624
    · exact lo_t a1x a1y a2 _ _ _ _ _ rfl rfl rfl rfl rfl hz c0 (by omega) c2 w
    exact in_t a1x a1y a2 _ _ _ _ _ rfl rfl rfl rfl rfl hz c0 (by omega) (by omega) (over_t _ _) (over_t _ _) w
  · have hz : cutZ true (cutZ true a2) = 0 := by rw [cutZ_cut]; simpa using c0
    exact zero_t a1x a1y a2 _ _ _ _ _ rfl rfl rfl rfl rfl hz c0 w
theorem walk_f (a1x a1y a2 : Int) (w : World) :
    Calls Try.prog 6 #[.bool false, .agg #[.int .i64 a1x, .int .i64 a1y], .int .i64 a2] w fun e w' => e = .returned (.bool true) ∧ Below w.heap.size w w' := by
  cases c0 : (cutZ false a2 == 0)
  · have hz : ¬ cutZ false (cutZ false a2) = 0 := by rw [cutZ_cut]; simpa using c0
    by_cases c1 : 16777216 ≤ max (cutZ false a1x) (cutZ false a1y)
    · exact hi_f a1x a1y a2 _ _ _ _ _ rfl rfl rfl rfl rfl hz c0 c1 w
    by_cases c2 : min (cutZ false a1x) (cutZ false a1y) ≤ -16777216
    · exact lo_f a1x a1y a2 _ _ _ _ _ rfl rfl rfl rfl rfl hz c0 (by omega) c2 w
    exact in_f a1x a1y a2 _ _ _ _ _ rfl rfl rfl rfl rfl hz c0 (by omega) (by omega) (over_f _ _ (by omega) (by omega) (cutZ_cut _ _) (cutZ_cut _ _)) (over_f _ _ (by omega) (by omega) (cutZ_cut _ _) (cutZ_cut _ _)) w
  · have hz : cutZ false (cutZ false a2) = 0 := by rw [cutZ_cut]; simpa using c0
    exact zero_f a1x a1y a2 _ _ _ _ _ rfl rfl rfl rfl rfl hz c0 w
theorem walk (a0 : Bool) (a1x a1y a2 : Int) (w1x : (Lit.int .i64 a1x).wf = true) (w1y : (Lit.int .i64 a1y).wf = true) (w2 : (Lit.int .i64 a2).wf = true) (w : World) :
    Calls Try.prog 6 #[.bool a0, .agg #[.int .i64 a1x, .int .i64 a1y], .int .i64 a2] w fun e w' => e = .returned (.bool true) ∧ Below w.heap.size w w' := by
  cases a0
  · exact walk_f a1x a1y a2 w
  · exact walk_t a1x a1y a2 w

set_option maxRecDepth 100000 in
theorem lifted (os : Os) (started : os.Started) (H : Type) (enc : TypeId × Value → H) :
    ReturnsInHanded {} Try.checked os 6 .any (Rows.fnOverSpec.pre6 enc Try.prog Try.f6 Rows.fnOverRow.domain false) (Rows.fnOverSpec.post enc Try.prog Try.f6 false true false false) := by
  refine returnsInHanded_of_change (C := Try.checked) own started (by kernel_rfl) Try.func6
    (ChangeSpec.witness6 (enc := enc) (C := Try.checked) false ⟨#[], #[.bool false, .agg #[.int .i64 0, .int .i64 0], .int .i64 0], []⟩ 8 (by kernel_rfl) (by kernel_rfl) (by kernel_rfl) (by kernel_rfl)) ?_
  intro W base args ds gs before hval0 hW hcnd _
  have hval : ∀ (j : Nat) t v, Try.f6.params[j]? = some t → args[j]? = some v → Value.okWide Try.prog W .any base t v := hval0
  have hW' := hW
  obtain ⟨p, q, hA0, hV, rfl, hfz, hnd⟩ := hW
  have hA : DataW.TrodAll enc Try.prog W 0 (fun _ => true) true Try.f6.params.toList args.toList ds p := hA0
  rw [Try.params6] at hA hval
  obtain ⟨v0, vs0, d0, ds0, p0, q0, hargs, rfl, rfl, h0, r0⟩ := trodAll_cons hA
  obtain ⟨v1, vs1, d1, ds1, p1, q1, rfl, rfl, rfl, h1, r1⟩ := trodAll_cons r0
  obtain ⟨v2, vs2, d2, ds2, p2, q2, rfl, rfl, rfl, h2, r2⟩ := trodAll_cons r1
  obtain ⟨rfl, rfl, rfl⟩ := trodAll_nil r2
  obtain rfl : args = #[v0, v1, v2] := by cases args; simp_all
  obtain ⟨rfl, rfl⟩ := trodVars_none hV
  obtain ⟨a0, rfl, rfl, rfl⟩ := open_bool Try.underlying4 (hval 0 4 v0 rfl rfl) h0
  obtain ⟨a1x, a1y, rfl, rfl, rfl, w1x, w1y⟩ := open_point (hval 1 23 v1 rfl rfl) h1
  obtain ⟨a2, rfl, rfl, rfl, w2⟩ := open_int Try.underlying2 (hval 2 2 v2 rfl rfl) h2
  clear hA0 hval0
  refine (walk a0 a1x a1y a2 w1x w1y w2 W).mono fun e W' ⟨he, bel⟩ => ?_
  subst he
  exact ⟨_, rfl, _, _, _, [], _, [], hW', trodAll_mk1 (shut_bool Try.underlying4 _), (trodAll_cons_mk (shut_bool Try.underlying4 _) (trodAll_cons_mk (shut_point w1x w1y) (trodAll_cons_mk (shut_int Try.underlying2 w2) trodAll_mk0))), rfl, bel.frame _, fun h => by cases h⟩

theorem over : Rows.fnOverRow.holds Try.pinned (OpenSpec.ofChange Rows.fnOverSpec) :=
  OpenClaim.holds_of_wide 6 Try.f6 rfl rfl rfl rfl rfl rfl rfl ⟨rfl, rfl, rfl, rfl, rfl⟩ rfl rfl rfl rfl rfl (by kernel_rfl) Try.func6 (by kernel_rfl)
    (of_decide_eq_true (by kernel_rfl)) (by unfold Func.isWrapper; first | (rw [if_pos (by decide +kernel)]; kernel_rfl) | (rw [if_neg (by decide +kernel)]; exact ⟨rfl, rfl⟩))
    (fun os started H enc _ => lifted os started H enc)

/-- The statement. -/
theorem proved : Rows.FnOverSaid :=
  over
#print axioms proved
end Go.Proofs.Ytcgbkggbffafmaa.fnOver
