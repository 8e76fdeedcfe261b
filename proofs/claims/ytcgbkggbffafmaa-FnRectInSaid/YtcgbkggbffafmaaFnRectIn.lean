/- FnRectIn: a rectangle is in another one if all its points are.
   The law returns true for every input, and nothing that was in memory turns. No condition. -/
import Derived.Test.YtcgbkggbffafmaaImplB
import Derived.WalkKit
import Derived.ProofKit
import Derived.OpenShut
namespace Go.Proofs.Ytcgbkggbffafmaa.fnRectIn
open Go.ChangeShapes Go.WideShapes Go.ChangeAt Go.RowKit
set_option linter.unusedVariables false

theorem own : ownKnob Try.prog.godebug = none := by kernel_rfl

set_option maxHeartbeats 4000000 in
theorem walk (a0 : Bool) (a1x a1y a1z a1t a2x a2y a2z a2t : Int) (w1x : (Lit.int .i64 a1x).wf = true) (w1y : (Lit.int .i64 a1y).wf = true) (w1z : (Lit.int .i64 a1z).wf = true) (w1t : (Lit.int .i64 a1t).wf = true) (w2x : (Lit.int .i64 a2x).wf = true) (w2y : (Lit.int .i64 a2y).wf = true) (w2z : (Lit.int .i64 a2z).wf = true) (w2t : (Lit.int .i64 a2t).wf = true) (w : World) :
    Calls Try.prog 9 #[.bool a0, .agg #[.int .i64 a1x, .int .i64 a1y, .int .i64 a1z, .int .i64 a1t], .agg #[.int .i64 a2x, .int .i64 a2y, .int .i64 a2z, .int .i64 a2t]] w fun e w' => e = .returned (.bool true) ∧ Below w.heap.size w w' := by
  clear w1x w1y w1z w1t w2x w2y w2z w2t
  have k0 := cut_0 a0
  have e0 : ∀ u0 v0 u1 v1, inB 0 0 0 0 u0 v0 u1 v1 = true := fun _ _ _ _ => rfl
  go_enter Try.func9, Try.ntmps9
  go_wp2
  go_region_held3 (fun w' => w'.cell? ⟨w.heap.size, 0, none⟩ = some (.int .i64 a1x) ∧ w'.cell? ⟨w.heap.size, 1, none⟩ = some (.int .i64 a1y) ∧ w'.cell? ⟨w.heap.size, 2, none⟩ = some (.int .i64 a1z) ∧ w'.cell? ⟨w.heap.size, 3, none⟩ = some (.int .i64 a1t) ∧ w'.cell? ⟨w.heap.size + 1, 0, none⟩ = some (.int .i64 a2x) ∧ w'.cell? ⟨w.heap.size + 1, 1, none⟩ = some (.int .i64 a2y) ∧ w'.cell? ⟨w.heap.size + 1, 2, none⟩ = some (.int .i64 a2z) ∧ w'.cell? ⟨w.heap.size + 1, 3, none⟩ = some (.int .i64 a2t))
    (first | (with_reducible exact ⟨f0, f1, f2, f3, f4, f5, f6, f7⟩) | (simp [go_sem]; done) | (simp [go_sem, f0, f1, f2, f3, f4, f5, f6, f7]; done))
    (first
      | (go_at_call 18; (with_reducible refine (iRectIn_any _ _ _ _ _ _ _ _ _ _).mono ?_); rintro e w1 ⟨rfl, hb⟩; (first | (replace f0 := keepc hb f0; replace f1 := keepc hb f1; replace f2 := keepc hb f2; replace f3 := keepc hb f3; replace f4 := keepc hb f4; replace f5 := keepc hb f5; replace f6 := keepc hb f6; replace f7 := keepc hb f7; replace B := keepb B hb) | (have f0 := keepc hb (p := ⟨w.heap.size, 0, none⟩) (v := .int .i64 a1x) (by simp [go_sem]); have f1 := keepc hb (p := ⟨w.heap.size, 1, none⟩) (v := .int .i64 a1y) (by simp [go_sem]); have f2 := keepc hb (p := ⟨w.heap.size, 2, none⟩) (v := .int .i64 a1z) (by simp [go_sem]); have f3 := keepc hb (p := ⟨w.heap.size, 3, none⟩) (v := .int .i64 a1t) (by simp [go_sem]); have f4 := keepc hb (p := ⟨w.heap.size + 1, 0, none⟩) (v := .int .i64 a2x) (by simp [go_sem]); have f5 := keepc hb (p := ⟨w.heap.size + 1, 1, none⟩) (v := .int .i64 a2y) (by simp [go_sem]); have f6 := keepc hb (p := ⟨w.heap.size + 1, 2, none⟩) (v := .int .i64 a2z) (by simp [go_sem]); have f7 := keepc hb (p := ⟨w.heap.size + 1, 3, none⟩) (v := .int .i64 a2t) (by simp [go_sem]); have B := keepb (w := w) (by repeat (first | exact Below.refl _ _ | apply Below.drew | (refine Below.alloc ?_ (by first | exact Nat.le_refl _ | (simp; done) | (simp; omega)) _))) hb)); clear hb)
      | (go_at_call 20; (with_reducible refine (cutR_any _ _ _ _ _ _).mono ?_); rintro e w1 ⟨rfl, hb⟩; (first | (replace f0 := keepc hb f0; replace f1 := keepc hb f1; replace f2 := keepc hb f2; replace f3 := keepc hb f3; replace f4 := keepc hb f4; replace f5 := keepc hb f5; replace f6 := keepc hb f6; replace f7 := keepc hb f7; replace B := keepb B hb) | (have f0 := keepc hb (p := ⟨w.heap.size, 0, none⟩) (v := .int .i64 a1x) (by simp [go_sem]); have f1 := keepc hb (p := ⟨w.heap.size, 1, none⟩) (v := .int .i64 a1y) (by simp [go_sem]); have f2 := keepc hb (p := ⟨w.heap.size, 2, none⟩) (v := .int .i64 a1z) (by simp [go_sem]); have f3 := keepc hb (p := ⟨w.heap.size, 3, none⟩) (v := .int .i64 a1t) (by simp [go_sem]); have f4 := keepc hb (p := ⟨w.heap.size + 1, 0, none⟩) (v := .int .i64 a2x) (by simp [go_sem]); have f5 := keepc hb (p := ⟨w.heap.size + 1, 1, none⟩) (v := .int .i64 a2y) (by simp [go_sem]); have f6 := keepc hb (p := ⟨w.heap.size + 1, 2, none⟩) (v := .int .i64 a2z) (by simp [go_sem]); have f7 := keepc hb (p := ⟨w.heap.size + 1, 3, none⟩) (v := .int .i64 a2t) (by simp [go_sem]); have B := keepb (w := w) (by repeat (first | exact Below.refl _ _ | apply Below.drew | (refine Below.alloc ?_ (by first | exact Nat.le_refl _ | (simp; done) | (simp; omega)) _))) hb)); clear hb)
      | (go_at_call 22; (with_reducible refine (rect_any _ _ _ _ _).mono ?_); rintro e w1 ⟨rfl, hb⟩; (first | (replace f0 := keepc hb f0; replace f1 := keepc hb f1; replace f2 := keepc hb f2; replace f3 := keepc hb f3; replace f4 := keepc hb f4; replace f5 := keepc hb f5; replace f6 := keepc hb f6; replace f7 := keepc hb f7; replace B := keepb B hb) | (have f0 := keepc hb (p := ⟨w.heap.size, 0, none⟩) (v := .int .i64 a1x) (by simp [go_sem]); have f1 := keepc hb (p := ⟨w.heap.size, 1, none⟩) (v := .int .i64 a1y) (by simp [go_sem]); have f2 := keepc hb (p := ⟨w.heap.size, 2, none⟩) (v := .int .i64 a1z) (by simp [go_sem]); have f3 := keepc hb (p := ⟨w.heap.size, 3, none⟩) (v := .int .i64 a1t) (by simp [go_sem]); have f4 := keepc hb (p := ⟨w.heap.size + 1, 0, none⟩) (v := .int .i64 a2x) (by simp [go_sem]); have f5 := keepc hb (p := ⟨w.heap.size + 1, 1, none⟩) (v := .int .i64 a2y) (by simp [go_sem]); have f6 := keepc hb (p := ⟨w.heap.size + 1, 2, none⟩) (v := .int .i64 a2z) (by simp [go_sem]); have f7 := keepc hb (p := ⟨w.heap.size + 1, 3, none⟩) (v := .int .i64 a2t) (by simp [go_sem]); have B := keepb (w := w) (by repeat (first | exact Below.refl _ _ | apply Below.drew | (refine Below.alloc ?_ (by first | exact Nat.le_refl _ | (simp; done) | (simp; omega)) _))) hb)); clear hb)
      | (go_at_call 32; (with_reducible refine (inSpec_any _ _ _ _ _ _ _ _ _).mono ?_); rintro e w1 ⟨rfl, hb⟩; (first | (replace f0 := keepc hb f0; replace f1 := keepc hb f1; replace f2 := keepc hb f2; replace f3 := keepc hb f3; replace f4 := keepc hb f4; replace f5 := keepc hb f5; replace f6 := keepc hb f6; replace f7 := keepc hb f7; replace B := keepb B hb) | (have f0 := keepc hb (p := ⟨w.heap.size, 0, none⟩) (v := .int .i64 a1x) (by simp [go_sem]); have f1 := keepc hb (p := ⟨w.heap.size, 1, none⟩) (v := .int .i64 a1y) (by simp [go_sem]); have f2 := keepc hb (p := ⟨w.heap.size, 2, none⟩) (v := .int .i64 a1z) (by simp [go_sem]); have f3 := keepc hb (p := ⟨w.heap.size, 3, none⟩) (v := .int .i64 a1t) (by simp [go_sem]); have f4 := keepc hb (p := ⟨w.heap.size + 1, 0, none⟩) (v := .int .i64 a2x) (by simp [go_sem]); have f5 := keepc hb (p := ⟨w.heap.size + 1, 1, none⟩) (v := .int .i64 a2y) (by simp [go_sem]); have f6 := keepc hb (p := ⟨w.heap.size + 1, 2, none⟩) (v := .int .i64 a2z) (by simp [go_sem]); have f7 := keepc hb (p := ⟨w.heap.size + 1, 3, none⟩) (v := .int .i64 a2t) (by simp [go_sem]); have B := keepb (w := w) (by repeat (first | exact Below.refl _ _ | apply Below.drew | (refine Below.alloc ?_ (by first | exact Nat.le_refl _ | (simp; done) | (simp; omega)) _))) hb)); clear hb))
  go_wp2
  go_ret
  exact ⟨rfl, (by repeat (first | exact B | exact Below.refl _ _ | apply Below.drew | (refine Below.setCell ?_ (by first | (simp; done) | (simp; omega)) _) | (refine Below.alloc ?_ (by first | exact Nat.le_refl _ | (simp; done) | (simp; omega)) _)))⟩

set_option maxRecDepth 100000 in
theorem lifted (os : Os) (started : os.Started) (H : Type) (enc : TypeId × Value → H) :
    ReturnsInHanded {} Try.checked os 9 .any (Rows.fnRectInSpec.pre6 enc Try.prog Try.f9 Rows.fnRectInRow.domain false) (Rows.fnRectInSpec.post enc Try.prog Try.f9 false true false false) := by
  refine returnsInHanded_of_change (C := Try.checked) own started (by kernel_rfl) Try.func9
    (ChangeSpec.witness6 (enc := enc) (C := Try.checked) false ⟨#[], #[.bool false, .agg #[.int .i64 0, .int .i64 0, .int .i64 0, .int .i64 0], .agg #[.int .i64 0, .int .i64 0, .int .i64 0, .int .i64 0]], []⟩ 8 (by kernel_rfl) (by kernel_rfl) (by kernel_rfl) (by kernel_rfl)) ?_
  intro W base args ds gs before hval0 hW hcnd _
  have hval : ∀ (j : Nat) t v, Try.f9.params[j]? = some t → args[j]? = some v → Value.okWide Try.prog W .any base t v := hval0
  have hW' := hW
  obtain ⟨p, q, hA0, hV, rfl, hfz, hnd⟩ := hW
  have hA : DataW.TrodAll enc Try.prog W 0 (fun _ => true) true Try.f9.params.toList args.toList ds p := hA0
  rw [Try.params9] at hA hval
  obtain ⟨v0, vs0, d0, ds0, p0, q0, hargs, rfl, rfl, h0, r0⟩ := trodAll_cons hA
  obtain ⟨v1, vs1, d1, ds1, p1, q1, rfl, rfl, rfl, h1, r1⟩ := trodAll_cons r0
  obtain ⟨v2, vs2, d2, ds2, p2, q2, rfl, rfl, rfl, h2, r2⟩ := trodAll_cons r1
  obtain ⟨rfl, rfl, rfl⟩ := trodAll_nil r2
  obtain rfl : args = #[v0, v1, v2] := by cases args; simp_all
  obtain ⟨rfl, rfl⟩ := trodVars_none hV
  obtain ⟨a0, rfl, rfl, rfl⟩ := open_bool Try.underlying4 (hval 0 4 v0 rfl rfl) h0
  obtain ⟨a1x, a1y, a1z, a1t, rfl, rfl, rfl, w1x, w1y, w1z, w1t⟩ := open_rect (hval 1 25 v1 rfl rfl) h1
  obtain ⟨a2x, a2y, a2z, a2t, rfl, rfl, rfl, w2x, w2y, w2z, w2t⟩ := open_rect (hval 2 25 v2 rfl rfl) h2
  clear hA0 hval0
  refine (walk a0 a1x a1y a1z a1t a2x a2y a2z a2t w1x w1y w1z w1t w2x w2y w2z w2t W).mono fun e W' ⟨he, bel⟩ => ?_
  subst he
  exact ⟨_, rfl, _, _, _, [], _, [], hW', trodAll_mk1 (shut_bool Try.underlying4 _), (trodAll_cons_mk (shut_bool Try.underlying4 _) (trodAll_cons_mk (shut_rect w1x w1y w1z w1t) (trodAll_cons_mk (shut_rect w2x w2y w2z w2t) trodAll_mk0))), rfl, bel.frame _, fun h => by cases h⟩

theorem over : Rows.fnRectInRow.holds Try.pinned (OpenSpec.ofChange Rows.fnRectInSpec) :=
  OpenClaim.holds_of_wide 9 Try.f9 rfl rfl rfl rfl rfl rfl rfl ⟨rfl, rfl, rfl, rfl, rfl⟩ rfl rfl rfl rfl rfl (by kernel_rfl) Try.func9 (by kernel_rfl)
    (of_decide_eq_true (by kernel_rfl)) (by unfold Func.isWrapper; first | (rw [if_pos (by decide +kernel)]; kernel_rfl) | (rw [if_neg (by decide +kernel)]; exact ⟨rfl, rfl⟩))
    (fun os started H enc _ => lifted os started H enc)

/-- The statement. -/
theorem proved : Rows.FnRectInSaid :=
  over
#print axioms proved
end Go.Proofs.Ytcgbkggbffafmaa.fnRectIn
