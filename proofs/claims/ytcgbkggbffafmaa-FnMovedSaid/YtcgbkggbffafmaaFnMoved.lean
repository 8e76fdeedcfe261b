/- FnMoved: a moved rectangle has its points moved, and Sub moves it back.
   The law returns true for every input, and nothing that was in memory turns. No condition. -/
import Derived.Test.YtcgbkggbffafmaaImplP
import Derived.WalkKit
import Derived.ProofKit
import Derived.OpenShut
namespace Go.Proofs.Ytcgbkggbffafmaa.fnMoved
open Go.ChangeShapes Go.WideShapes Go.ChangeAt Go.RowKit
set_option linter.unusedVariables false

theorem own : ownKnob Try.prog.godebug = none := by kernel_rfl

set_option maxHeartbeats 4000000 in
theorem walk (a0 : Bool) (a1x a1y a1z a1t a2x a2y : Int) (w1x : (Lit.int .i64 a1x).wf = true) (w1y : (Lit.int .i64 a1y).wf = true) (w1z : (Lit.int .i64 a1z).wf = true) (w1t : (Lit.int .i64 a1t).wf = true) (w2x : (Lit.int .i64 a2x).wf = true) (w2y : (Lit.int .i64 a2y).wf = true) (w : World) :
    Calls Try.prog 12 #[.bool a0, .agg #[.int .i64 a1x, .int .i64 a1y, .int .i64 a1z, .int .i64 a1t], .agg #[.int .i64 a2x, .int .i64 a2y]] w fun e w' => e = .returned (.bool true) ∧ Below w.heap.size w w' := by
  obtain ⟨s0, hs0⟩ : ∃ s, wZ a0 (a1x + a2x) = s := ⟨_, rfl⟩
  have c0 := cut_wrap a0 (a1x + a2x)
  have d0 := sub_add a0 a1x a2x (i64_of_wf w1x)
  rw [hs0] at c0 d0
  have k0 : cutZ a0 (IntKind.i64.wrap (a1x + a2x)) = s0 := by rw [IntWalk.i64_left]; exact c0
  obtain ⟨s1, hs1⟩ : ∃ s, wZ a0 (a1y + a2y) = s := ⟨_, rfl⟩
  have c1 := cut_wrap a0 (a1y + a2y)
  have d1 := sub_add a0 a1y a2y (i64_of_wf w1y)
  rw [hs1] at c1 d1
  have k1 : cutZ a0 (IntKind.i64.wrap (a1y + a2y)) = s1 := by rw [IntWalk.i64_left]; exact c1
  obtain ⟨s2, hs2⟩ : ∃ s, wZ a0 (a1z + a2x) = s := ⟨_, rfl⟩
  have c2 := cut_wrap a0 (a1z + a2x)
  have d2 := sub_add a0 a1z a2x (i64_of_wf w1z)
  rw [hs2] at c2 d2
  have k2 : cutZ a0 (IntKind.i64.wrap (a1z + a2x)) = s2 := by rw [IntWalk.i64_left]; exact c2
  obtain ⟨s3, hs3⟩ : ∃ s, wZ a0 (a1t + a2y) = s := ⟨_, rfl⟩
  have c3 := cut_wrap a0 (a1t + a2y)
  have d3 := sub_add a0 a1t a2y (i64_of_wf w1t)
  rw [hs3] at c3 d3
  have k3 : cutZ a0 (IntKind.i64.wrap (a1t + a2y)) = s3 := by rw [IntWalk.i64_left]; exact c3
  clear w1x w1y w1z w1t w2x w2y
  go_enter Try.func12, Try.ntmps12
  go_wp2_with (first
    | (go_at_call 35; (with_reducible refine (iMoved_any _ _ _ _ _ _ _ _).mono ?_); rintro e w1 ⟨rfl, hb⟩; (first | (replace f0 := keepc hb f0; replace f1 := keepc hb f1; replace f2 := keepc hb f2; replace f3 := keepc hb f3; replace f4 := keepc hb f4; replace f5 := keepc hb f5; replace B := keepb B hb) | (have f0 := keepc hb (p := ⟨w.heap.size, 0, none⟩) (v := .int .i64 a1x) (by simp [go_sem]); have f1 := keepc hb (p := ⟨w.heap.size, 1, none⟩) (v := .int .i64 a1y) (by simp [go_sem]); have f2 := keepc hb (p := ⟨w.heap.size, 2, none⟩) (v := .int .i64 a1z) (by simp [go_sem]); have f3 := keepc hb (p := ⟨w.heap.size, 3, none⟩) (v := .int .i64 a1t) (by simp [go_sem]); have f4 := keepc hb (p := ⟨w.heap.size + 1, 0, none⟩) (v := .int .i64 a2x) (by simp [go_sem]); have f5 := keepc hb (p := ⟨w.heap.size + 1, 1, none⟩) (v := .int .i64 a2y) (by simp [go_sem]); have B := keepb (w := w) (by repeat (first | (with_reducible exact Below.refl _ _) | (with_reducible apply Below.drew) | (with_reducible refine Below.alloc ?_ (by first | exact Nat.le_refl _ | (simp; done) | (simp; omega)) _))) hb)); clear hb))
  obtain ⟨w2, hw2⟩ : ∃ w2, w2 = w1 := ⟨_, rfl⟩
  subst hw2
  have hA : Below w2.heap.size w2 (w2.alloc (.cells #[.int .i64 s0, .int .i64 s1, .int .i64 s2, .int .i64 s3] 25)).drew := ((Below.refl _ _).alloc (Nat.le_refl _) _).drew
  replace f0 := keepc hA f0
  replace f1 := keepc hA f1
  replace f2 := keepc hA f2
  replace f3 := keepc hA f3
  replace f4 := keepc hA f4
  replace f5 := keepc hA f5
  have f6 : (w2.alloc (.cells #[.int .i64 s0, .int .i64 s1, .int .i64 s2, .int .i64 s3] 25)).drew.cell? ⟨w2.heap.size, 0, none⟩ = some (.int .i64 s0) := by simp [go_sem]
  have f7 : (w2.alloc (.cells #[.int .i64 s0, .int .i64 s1, .int .i64 s2, .int .i64 s3] 25)).drew.cell? ⟨w2.heap.size, 1, none⟩ = some (.int .i64 s1) := by simp [go_sem]
  have f8 : (w2.alloc (.cells #[.int .i64 s0, .int .i64 s1, .int .i64 s2, .int .i64 s3] 25)).drew.cell? ⟨w2.heap.size, 2, none⟩ = some (.int .i64 s2) := by simp [go_sem]
  have f9 : (w2.alloc (.cells #[.int .i64 s0, .int .i64 s1, .int .i64 s2, .int .i64 s3] 25)).drew.cell? ⟨w2.heap.size, 3, none⟩ = some (.int .i64 s3) := by simp [go_sem]
  replace B := keepb B hA
  clear hA
  go_region_held3 (fun w' => w'.cell? ⟨w.heap.size, 0, none⟩ = some (.int .i64 a1x) ∧ w'.cell? ⟨w.heap.size, 1, none⟩ = some (.int .i64 a1y) ∧ w'.cell? ⟨w.heap.size, 2, none⟩ = some (.int .i64 a1z) ∧ w'.cell? ⟨w.heap.size, 3, none⟩ = some (.int .i64 a1t) ∧ w'.cell? ⟨w.heap.size + 1, 0, none⟩ = some (.int .i64 a2x) ∧ w'.cell? ⟨w.heap.size + 1, 1, none⟩ = some (.int .i64 a2y) ∧ w'.cell? ⟨w2.heap.size, 0, none⟩ = some (.int .i64 s0) ∧ w'.cell? ⟨w2.heap.size, 1, none⟩ = some (.int .i64 s1) ∧ w'.cell? ⟨w2.heap.size, 2, none⟩ = some (.int .i64 s2) ∧ w'.cell? ⟨w2.heap.size, 3, none⟩ = some (.int .i64 s3))
    (first | (with_reducible exact ⟨f0, f1, f2, f3, f4, f5, f6, f7, f8, f9⟩) | (simp [go_sem, f0, f1, f2, f3, f4, f5, f6, f7, f8, f9]; done))
    (first
      | (go_at_call 36; (with_reducible refine (iBack_any _ _ _ _ _ _ _ _).mono ?_); rintro e w1 ⟨rfl, hb⟩; replace f0 := keepc hb f0; replace f1 := keepc hb f1; replace f2 := keepc hb f2; replace f3 := keepc hb f3; replace f4 := keepc hb f4; replace f5 := keepc hb f5; replace f6 := keepc hb f6; replace f7 := keepc hb f7; replace f8 := keepc hb f8; replace f9 := keepc hb f9; replace B := keepb B hb; clear hb)
      | (go_at_call 20; (with_reducible refine (cutR_any _ _ _ _ _ _).mono ?_); rintro e w1 ⟨rfl, hb⟩; replace f0 := keepc hb f0; replace f1 := keepc hb f1; replace f2 := keepc hb f2; replace f3 := keepc hb f3; replace f4 := keepc hb f4; replace f5 := keepc hb f5; replace f6 := keepc hb f6; replace f7 := keepc hb f7; replace f8 := keepc hb f8; replace f9 := keepc hb f9; replace B := keepb B hb; clear hb))
  go_wp2
  go_ret
  exact ⟨rfl, (by repeat (first | (with_reducible exact B) | (with_reducible exact Below.refl _ _) | (with_reducible apply Below.drew) | (with_reducible refine Below.setCell ?_ (by first | (simp; done) | (simp; omega)) _) | (with_reducible refine Below.alloc ?_ (by first | exact Nat.le_refl _ | (simp; done) | (simp; omega)) _)))⟩

set_option maxRecDepth 100000 in
theorem lifted (os : Os) (started : os.Started) (H : Type) (enc : TypeId × Value → H) :
    ReturnsInHanded {} Try.checked os 12 .any (Rows.fnMovedSpec.pre6 enc Try.prog Try.f12 Rows.fnMovedRow.domain false) (Rows.fnMovedSpec.post enc Try.prog Try.f12 false true false false) := by
  refine returnsInHanded_of_change (C := Try.checked) own started (by kernel_rfl) Try.func12
    (ChangeSpec.witness6 (enc := enc) (C := Try.checked) false ⟨#[], #[.bool false, .agg #[.int .i64 0, .int .i64 0, .int .i64 0, .int .i64 0], .agg #[.int .i64 0, .int .i64 0]], []⟩ 8 (by kernel_rfl) (by kernel_rfl) (by kernel_rfl) (by kernel_rfl)) ?_
  intro W base args ds gs before hval0 hW hcnd _
  have hval : ∀ (j : Nat) t v, Try.f12.params[j]? = some t → args[j]? = some v → Value.okWide Try.prog W .any base t v := hval0
  have hW' := hW
  obtain ⟨p, q, hA0, hV, rfl, hfz, hnd⟩ := hW
  have hA : DataW.TrodAll enc Try.prog W 0 (fun _ => true) true Try.f12.params.toList args.toList ds p := hA0
  rw [Try.params12] at hA hval
  obtain ⟨v0, vs0, d0, ds0, p0, q0, hargs, rfl, rfl, h0, r0⟩ := trodAll_cons hA
  obtain ⟨v1, vs1, d1, ds1, p1, q1, rfl, rfl, rfl, h1, r1⟩ := trodAll_cons r0
  obtain ⟨v2, vs2, d2, ds2, p2, q2, rfl, rfl, rfl, h2, r2⟩ := trodAll_cons r1
  obtain ⟨rfl, rfl, rfl⟩ := trodAll_nil r2
  obtain rfl : args = #[v0, v1, v2] := by cases args; simp_all
  obtain ⟨rfl, rfl⟩ := trodVars_none hV
  obtain ⟨a0, rfl, rfl, rfl⟩ := open_bool Try.underlying4 (hval 0 4 v0 rfl rfl) h0
  obtain ⟨a1x, a1y, a1z, a1t, rfl, rfl, rfl, w1x, w1y, w1z, w1t⟩ := open_rect (hval 1 25 v1 rfl rfl) h1
  obtain ⟨a2x, a2y, rfl, rfl, rfl, w2x, w2y⟩ := open_point (hval 2 23 v2 rfl rfl) h2
  clear hA0 hval0
  refine (walk a0 a1x a1y a1z a1t a2x a2y w1x w1y w1z w1t w2x w2y W).mono fun e W' ⟨he, bel⟩ => ?_
  subst he
  exact ⟨_, rfl, _, _, _, [], _, [], hW', trodAll_mk1 (shut_bool Try.underlying4 _), (trodAll_cons_mk (shut_bool Try.underlying4 _) (trodAll_cons_mk (shut_rect w1x w1y w1z w1t) (trodAll_cons_mk (shut_point w2x w2y) trodAll_mk0))), rfl, bel.frame _, fun h => by cases h⟩

theorem over : Rows.fnMovedRow.holds Try.pinned (OpenSpec.ofChange Rows.fnMovedSpec) :=
  OpenClaim.holds_of_wide 12 Try.f12 rfl rfl rfl rfl rfl rfl rfl ⟨rfl, rfl, rfl, rfl, rfl⟩ rfl rfl rfl rfl rfl (by kernel_rfl) Try.func12 (by kernel_rfl)
    (of_decide_eq_true (by kernel_rfl)) (by unfold Func.isWrapper; first | (rw [if_pos (by decide +kernel)]; kernel_rfl) | (rw [if_neg (by decide +kernel)]; exact ⟨rfl, rfl⟩))
    (fun os started H enc _ => lifted os started H enc)

/-- The statement. -/
theorem proved : Rows.FnMovedSaid :=
  over
#print axioms proved
end Go.Proofs.Ytcgbkggbffafmaa.fnMoved
