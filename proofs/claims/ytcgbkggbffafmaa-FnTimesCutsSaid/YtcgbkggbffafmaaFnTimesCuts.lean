/- FnTimesCuts: a point times a number, where the product has room, is both its numbers times it, divided by the parts of one, without the rest.
   The law returns true for every input, and nothing that was in memory turns. No condition. -/
import Derived.Test.YtcgbkggbffafmaaImplT
import Derived.WalkKit
import Derived.ProofKit
import Derived.OpenShut
namespace Go.Proofs.Ytcgbkggbffafmaa.fnTimesCuts
open Go.ChangeShapes Go.WideShapes Go.ChangeAt Go.RowKit
set_option linter.unusedVariables false

theorem own : ownKnob Try.prog.godebug = none := by kernel_rfl

set_option maxHeartbeats 4000000 in
theorem no_t (a1x a1y a2 : Int) (i0 : I64 a1x) (i1 : I64 a1y) (i2 : I64 a2) (hs : smallB true a1x a1y a2 = false) (w : World) :
    Calls Try.prog 11 #[.bool true, .agg #[.int .i64 a1x, .int .i64 a1y], .int .i64 a2] w fun e w' => e = .returned (.bool true) ∧ Below w.heap.size w w' := by
  go_enter Try.func11, Try.ntmps11
  go_wp2_with (first
    | (go_at_call 33; (with_reducible refine (small_law _ _ _ _ i0 i1 i2 _).mono ?_); rintro e w1 ⟨rfl, hb⟩; (first | (replace f0 := keepc hb f0; replace f1 := keepc hb f1; replace B := keepb B hb) | (have f0 := keepc hb (p := ⟨w.heap.size, 0, none⟩) (v := .int .i64 a1x) (by simp [go_sem]); have f1 := keepc hb (p := ⟨w.heap.size, 1, none⟩) (v := .int .i64 a1y) (by simp [go_sem]); have B := keepb (w := w) (by repeat (first | (with_reducible exact Below.refl _ _) | (with_reducible apply Below.drew) | (with_reducible refine Below.alloc ?_ (by first | exact Nat.le_refl _ | (simp; done) | (simp; omega)) _))) hb)); clear hb))
  go_ret
  exact ⟨rfl, (by repeat (first | (with_reducible exact B) | (with_reducible exact Below.refl _ _) | (with_reducible apply Below.drew) | (with_reducible refine Below.setCell ?_ (by first | (simp; done) | (simp; omega)) _) | (with_reducible refine Below.alloc ?_ (by first | exact Nat.le_refl _ | (simp; done) | (simp; omega)) _)))⟩
set_option maxHeartbeats 4000000 in
theorem no_f (a1x a1y a2 : Int) (i0 : I64 a1x) (i1 : I64 a1y) (i2 : I64 a2) (hs : smallB false a1x a1y a2 = false) (w : World) :
    Calls Try.prog 11 #[.bool false, .agg #[.int .i64 a1x, .int .i64 a1y], .int .i64 a2] w fun e w' => e = .returned (.bool true) ∧ Below w.heap.size w w' := by
  go_enter Try.func11, Try.ntmps11
  go_wp2_with (first
    | (go_at_call 33; (with_reducible refine (small_law _ _ _ _ i0 i1 i2 _).mono ?_); rintro e w1 ⟨rfl, hb⟩; (first | (replace f0 := keepc hb f0; replace f1 := keepc hb f1; replace B := keepb B hb) | (have f0 := keepc hb (p := ⟨w.heap.size, 0, none⟩) (v := .int .i64 a1x) (by simp [go_sem]); have f1 := keepc hb (p := ⟨w.heap.size, 1, none⟩) (v := .int .i64 a1y) (by simp [go_sem]); have B := keepb (w := w) (by repeat (first | (with_reducible exact Below.refl _ _) | (with_reducible apply Below.drew) | (with_reducible refine Below.alloc ?_ (by first | exact Nat.le_refl _ | (simp; done) | (simp; omega)) _))) hb)); clear hb))
  go_ret
  exact ⟨rfl, (by repeat (first | (with_reducible exact B) | (with_reducible exact Below.refl _ _) | (with_reducible apply Below.drew) | (with_reducible refine Below.setCell ?_ (by first | (simp; done) | (simp; omega)) _) | (with_reducible refine Below.alloc ?_ (by first | exact Nat.le_refl _ | (simp; done) | (simp; omega)) _)))⟩
set_option maxHeartbeats 4000000 in
theorem yes_t (a1x a1y a2 : Int) (i0 : I64 a1x) (i1 : I64 a1y) (i2 : I64 a2) (hs : smallB true a1x a1y a2 = true) (w : World) :
    Calls Try.prog 11 #[.bool true, .agg #[.int .i64 a1x, .int .i64 a1y], .int .i64 a2] w fun e w' => e = .returned (.bool true) ∧ Below w.heap.size w w' := by
  have hr := hs
  unfold smallB roomB at hr
  simp at hr
  obtain ⟨⟨⟨⟨⟨r1, r2⟩, r3⟩, r4⟩, r5⟩, r6⟩ := hr
  have k1 : oneZ true = 4096 := rfl
  have h3 := mulZ_three true
  rw [k1] at h3
  have i3 : I64 4096 := by unfold I64; omega
  have i4 : I64 3 := by unfold I64; omega
  obtain ⟨p0, e0, b01, b02, t0⟩ : ∃ p, a1x * a2 = p ∧ -4611686018427387904 ≤ p ∧ p ≤ 4611686018427387904 ∧ timesZ true a1x a2 = p.tdiv 4096 := (by obtain ⟨p, x1, x2, x3, x4⟩ := times_t a1x a2 i0 i2 (by omega) (by omega) (by omega) (by omega); exact ⟨p, x1, by omega, by omega, x4⟩)
  have n0 := tdiv_in p0 4096 (by omega)
  have o0 := tdiv_bd p0 4096 4611686018427387904 (by omega) (by omega) (by omega)
  obtain ⟨q0, hq0⟩ : ∃ q, p0.tdiv 4096 = q := ⟨_, rfl⟩
  rw [hq0] at t0 n0 o0
  have E0 : IntKind.i64.wrap (a1x * a2) = p0 := by rw [e0]; exact IntWalk.i64_in _ ⟨by omega, by omega⟩
  have F0 : wrap64 p0 = p0 := IntWalk.wrap64_in _ ⟨by omega, by omega⟩
  have F0' : IntKind.i64.wrap p0 = p0 := IntWalk.i64_in _ ⟨by omega, by omega⟩
  have G0 : wrap64 q0 = q0 := IntWalk.wrap64_in _ ⟨by omega, by omega⟩
  have G0' : IntKind.i64.wrap q0 = q0 := IntWalk.i64_in _ ⟨by omega, by omega⟩
  obtain ⟨p1, e1, b11, b12, t1⟩ : ∃ p, a1y * a2 = p ∧ -4611686018427387904 ≤ p ∧ p ≤ 4611686018427387904 ∧ timesZ true a1y a2 = p.tdiv 4096 := (by obtain ⟨p, x1, x2, x3, x4⟩ := times_t a1y a2 i1 i2 (by omega) (by omega) (by omega) (by omega); exact ⟨p, x1, by omega, by omega, x4⟩)
  have n1 := tdiv_in p1 4096 (by omega)
  have o1 := tdiv_bd p1 4096 4611686018427387904 (by omega) (by omega) (by omega)
  obtain ⟨q1, hq1⟩ : ∃ q, p1.tdiv 4096 = q := ⟨_, rfl⟩
  rw [hq1] at t1 n1 o1
  have E1 : IntKind.i64.wrap (a1y * a2) = p1 := by rw [e1]; exact IntWalk.i64_in _ ⟨by omega, by omega⟩
  have F1 : wrap64 p1 = p1 := IntWalk.wrap64_in _ ⟨by omega, by omega⟩
  have F1' : IntKind.i64.wrap p1 = p1 := IntWalk.i64_in _ ⟨by omega, by omega⟩
  have G1 : wrap64 q1 = q1 := IntWalk.wrap64_in _ ⟨by omega, by omega⟩
  have G1' : IntKind.i64.wrap q1 = q1 := IntWalk.i64_in _ ⟨by omega, by omega⟩
  clear r1 r2 r3 r4 r5 r6
  obtain ⟨n01, n02⟩ := n0
  obtain ⟨n11, n12⟩ := n1
  obtain ⟨o01, o02⟩ := o0
  obtain ⟨o11, o12⟩ := o1
  have g0 : (4096 : Int) ≠ 0 := by decide
  go_enter Try.func11, Try.ntmps11
  go_wp2_with (first
    | (go_at_call 33; (with_reducible refine (small_law _ _ _ _ i0 i1 i2 _).mono ?_); rintro e w1 ⟨rfl, hb⟩; (first | (replace f0 := keepc hb f0; replace f1 := keepc hb f1; replace B := keepb B hb) | (have f0 := keepc hb (p := ⟨w.heap.size, 0, none⟩) (v := .int .i64 a1x) (by simp [go_sem]); have f1 := keepc hb (p := ⟨w.heap.size, 1, none⟩) (v := .int .i64 a1y) (by simp [go_sem]); have B := keepb (w := w) (by repeat (first | (with_reducible exact Below.refl _ _) | (with_reducible apply Below.drew) | (with_reducible refine Below.alloc ?_ (by first | exact Nat.le_refl _ | (simp; done) | (simp; omega)) _))) hb)); clear hb)
    | (go_at_call 28; (with_reducible refine (part_any _ _).mono ?_); rintro e w' ⟨rfl, rfl⟩))
  obtain ⟨w2, hw2⟩ : ∃ w2, w2 = w1 := ⟨_, rfl⟩
  subst hw2
  have hD : Below w2.heap.size w2 w2.drew := (Below.refl _ _).drew
  replace f0 := keepc hD f0
  replace f1 := keepc hD f1
  replace B := keepb B hD
  clear hD
  go_region_held3 (fun w' => w'.cell? ⟨w.heap.size, 0, none⟩ = some (.int .i64 a1x) ∧ w'.cell? ⟨w.heap.size, 1, none⟩ = some (.int .i64 a1y))
    (first | (with_reducible exact ⟨f0, f1⟩) | (simp [go_sem, f0, f1]; done))
    (first
      | (go_at_call 31; (with_reducible refine (iTimes_any _ _ _ _ _).mono ?_); rintro e w1 ⟨rfl, hb⟩; replace f0 := keepc hb f0; replace f1 := keepc hb f1; replace B := keepb B hb; clear hb)
      | (go_at_call 34; (with_reducible refine (iMul_any _ _ _ i3 i4 _).mono ?_); rintro e w' ⟨rfl, rfl⟩))
  go_wp2
  go_ret
  exact ⟨rfl, (by repeat (first | (with_reducible exact B) | (with_reducible exact Below.refl _ _) | (with_reducible apply Below.drew) | (with_reducible apply keepN) | (with_reducible refine Below.setCell ?_ (by first | (simp; done) | (simp; omega)) _) | (with_reducible refine Below.alloc ?_ (by first | exact Nat.le_refl _ | (simp; done) | (simp; omega)) _)))⟩
set_option maxHeartbeats 4000000 in
theorem yes_f (a1x a1y a2 : Int) (i0 : I64 a1x) (i1 : I64 a1y) (i2 : I64 a2) (hs : smallB false a1x a1y a2 = true) (w : World) :
    Calls Try.prog 11 #[.bool false, .agg #[.int .i64 a1x, .int .i64 a1y], .int .i64 a2] w fun e w' => e = .returned (.bool true) ∧ Below w.heap.size w w' := by
  have hr := hs
  unfold smallB roomB at hr
  simp at hr
  obtain ⟨⟨⟨⟨⟨⟨⟨r1, r2⟩, r3⟩, r4⟩, r5⟩, r6⟩, r7⟩, r8⟩ := hr
  have k1 : oneZ false = 64 := rfl
  have h3 := mulZ_three false
  rw [k1] at h3
  have i3 : I64 64 := by unfold I64; omega
  have i4 : I64 3 := by unfold I64; omega
  obtain ⟨p0, e0, b01, b02, t0⟩ : ∃ p, a1x * a2 = p ∧ -4611686018427387904 ≤ p ∧ p ≤ 4611686018427387904 ∧ timesZ false a1x a2 = p.tdiv 64 := (by obtain ⟨p, x1, x2, x3, x4⟩ := times_f a1x a2 i0 i2 (by omega) (by omega) (by omega) (by omega) (by omega); exact ⟨p, x1, by omega, by omega, x4⟩)
  have n0 := tdiv_in p0 64 (by omega)
  have o0 := tdiv_bd p0 64 4611686018427387904 (by omega) (by omega) (by omega)
  obtain ⟨q0, hq0⟩ : ∃ q, p0.tdiv 64 = q := ⟨_, rfl⟩
  rw [hq0] at t0 n0 o0
  have E0 : IntKind.i64.wrap (a1x * a2) = p0 := by rw [e0]; exact IntWalk.i64_in _ ⟨by omega, by omega⟩
  have F0 : wrap64 p0 = p0 := IntWalk.wrap64_in _ ⟨by omega, by omega⟩
  have F0' : IntKind.i64.wrap p0 = p0 := IntWalk.i64_in _ ⟨by omega, by omega⟩
  have G0 : wrap64 q0 = q0 := IntWalk.wrap64_in _ ⟨by omega, by omega⟩
  have G0' : IntKind.i64.wrap q0 = q0 := IntWalk.i64_in _ ⟨by omega, by omega⟩
  obtain ⟨p1, e1, b11, b12, t1⟩ : ∃ p, a1y * a2 = p ∧ -4611686018427387904 ≤ p ∧ p ≤ 4611686018427387904 ∧ timesZ false a1y a2 = p.tdiv 64 := (by obtain ⟨p, x1, x2, x3, x4⟩ := times_f a1y a2 i1 i2 (by omega) (by omega) (by omega) (by omega) (by omega); exact ⟨p, x1, by omega, by omega, x4⟩)
  have n1 := tdiv_in p1 64 (by omega)
  have o1 := tdiv_bd p1 64 4611686018427387904 (by omega) (by omega) (by omega)
  obtain ⟨q1, hq1⟩ : ∃ q, p1.tdiv 64 = q := ⟨_, rfl⟩
  rw [hq1] at t1 n1 o1
  have E1 : IntKind.i64.wrap (a1y * a2) = p1 := by rw [e1]; exact IntWalk.i64_in _ ⟨by omega, by omega⟩
  have F1 : wrap64 p1 = p1 := IntWalk.wrap64_in _ ⟨by omega, by omega⟩
  have F1' : IntKind.i64.wrap p1 = p1 := IntWalk.i64_in _ ⟨by omega, by omega⟩
  have G1 : wrap64 q1 = q1 := IntWalk.wrap64_in _ ⟨by omega, by omega⟩
  have G1' : IntKind.i64.wrap q1 = q1 := IntWalk.i64_in _ ⟨by omega, by omega⟩
  clear r1 r2 r3 r4 r5 r6 r7 r8
  obtain ⟨n01, n02⟩ := n0
  obtain ⟨n11, n12⟩ := n1
  obtain ⟨o01, o02⟩ := o0
  obtain ⟨o11, o12⟩ := o1
  have g0 : (64 : Int) ≠ 0 := by decide
  go_enter Try.func11, Try.ntmps11
  go_wp2_with (first
    | (go_at_call 33; (with_reducible refine (small_law _ _ _ _ i0 i1 i2 _).mono ?_); rintro e w1 ⟨rfl, hb⟩; (first | (replace f0 := keepc hb f0; replace f1 := keepc hb f1; replace B := keepb B hb) | (have f0 := keepc hb (p := ⟨w.heap.size, 0, none⟩) (v := .int .i64 a1x) (by simp [go_sem]); have f1 := keepc hb (p := ⟨w.heap.size, 1, none⟩) (v := .int .i64 a1y) (by simp [go_sem]); have B := keepb (w := w) (by repeat (first | (with_reducible exact Below.refl _ _) | (with_reducible apply Below.drew) | (with_reducible refine Below.alloc ?_ (by first | exact Nat.le_refl _ | (simp; done) | (simp; omega)) _))) hb)); clear hb)
    | (go_at_call 28; (with_reducible refine (part_any _ _).mono ?_); rintro e w' ⟨rfl, rfl⟩))
  obtain ⟨w2, hw2⟩ : ∃ w2, w2 = w1 := ⟨_, rfl⟩
  subst hw2
  have hD : Below w2.heap.size w2 w2.drew := (Below.refl _ _).drew
  replace f0 := keepc hD f0
  replace f1 := keepc hD f1
  replace B := keepb B hD
  clear hD
  go_region_held3 (fun w' => w'.cell? ⟨w.heap.size, 0, none⟩ = some (.int .i64 a1x) ∧ w'.cell? ⟨w.heap.size, 1, none⟩ = some (.int .i64 a1y))
    (first | (with_reducible exact ⟨f0, f1⟩) | (simp [go_sem, f0, f1]; done))
    (first
      | (go_at_call 31; (with_reducible refine (iTimes_any _ _ _ _ _).mono ?_); rintro e w1 ⟨rfl, hb⟩; replace f0 := keepc hb f0; replace f1 := keepc hb f1; replace B := keepb B hb; clear hb)
      | (go_at_call 34; (with_reducible refine (iMul_any _ _ _ i3 i4 _).mono ?_); rintro e w' ⟨rfl, rfl⟩))
  go_wp2
  go_ret
  exact ⟨rfl, (by repeat (first | (with_reducible exact B) | (with_reducible exact Below.refl _ _) | (with_reducible apply Below.drew) | (with_reducible apply keepN) | (with_reducible refine Below.setCell ?_ (by first | (simp; done) | (simp; omega)) _) | (with_reducible refine Below.alloc ?_ (by first | exact Nat.le_refl _ | (simp; done) | (simp; omega)) _)))⟩
theorem walk (a0 : Bool) (a1x a1y a2 : Int) (w1x : (Lit.int .i64 a1x).wf = true) (w1y : (Lit.int .i64 a1y).wf = true) (w2 : (Lit.int .i64 a2).wf = true) (w : World) :
    Calls Try.prog 11 #[.bool a0, .agg #[.int .i64 a1x, .int .i64 a1y], .int .i64 a2] w fun e w' => e = .returned (.bool true) ∧ Below w.heap.size w w' := by
  have i0 := i64_of_wf w1x
  have i1 := i64_of_wf w1y
  have i2 := i64_of_wf w2
  cases a0
  · cases hs : smallB false a1x a1y a2
    · exact no_f a1x a1y a2 i0 i1 i2 hs w
    · exact yes_f a1x a1y a2 i0 i1 i2 hs w
  · cases hs : smallB true a1x a1y a2
    · exact no_t a1x a1y a2 i0 i1 i2 hs w
    · exact yes_t a1x a1y a2 i0 i1 i2 hs w

set_option maxRecDepth 100000 in
theorem lifted (os : Os) (started : os.Started) (H : Type) (enc : TypeId × Value → H) :
    ReturnsInHanded {} Try.checked os 11 .any (Rows.fnTimesCutsSpec.pre6 enc Try.prog Try.f11 Rows.fnTimesCutsRow.domain false) (Rows.fnTimesCutsSpec.post enc Try.prog Try.f11 false true false false) := by
  refine returnsInHanded_of_change (C := Try.checked) own started (by kernel_rfl) Try.func11
    (ChangeSpec.witness6 (enc := enc) (C := Try.checked) false ⟨#[], #[.bool false, .agg #[.int .i64 0, .int .i64 0], .int .i64 0], []⟩ 8 (by kernel_rfl) (by kernel_rfl) (by kernel_rfl) (by kernel_rfl)) ?_
  intro W base args ds gs before hval0 hW hcnd _
  have hval : ∀ (j : Nat) t v, Try.f11.params[j]? = some t → args[j]? = some v → Value.okWide Try.prog W .any base t v := hval0
  have hW' := hW
  obtain ⟨p, q, hA0, hV, rfl, hfz, hnd⟩ := hW
  have hA : DataW.TrodAll enc Try.prog W 0 (fun _ => true) true Try.f11.params.toList args.toList ds p := hA0
  rw [Try.params11] at hA hval
  obtain ⟨v0, vs0, d0, ds0, p0, q0, hargs, rfl, rfl, h0, r0⟩ := trodAll_cons hA
  obtain ⟨v1, vs1, d1, ds1, p1, q1, rfl, rfl, rfl, h1, r1⟩ := trodAll_cons r0
  obtain ⟨v2, vs2, d2, ds2, p2, q2, rfl, rfl, rfl, h2, r2⟩ := trodAll_cons r1
  obtain ⟨rfl, rfl, rfl⟩ := trodAll_nil r2
  obtain rfl : args = #[v0, v1, v2] := by cases args; simp_all
  obtain ⟨rfl, rfl⟩ := trodVars_none hV
  obtain ⟨a0, rfl, rfl, rfl⟩ := open_bool Try.underlying4 (hval 0 4 v0 rfl rfl) h0
  obtain ⟨a1x, a1y, rfl, rfl, rfl, w1x, w1y⟩ := open_point (hval 1 23 v1 rfl rfl) h1
  obtain ⟨a2, rfl, rfl, rfl, w2⟩ := open_int Try.underlying2 (hval 2 2 v2 rfl rfl) h2
  clear hA0 hval0
  refine (walk a0 a1x a1y a2 w1x w1y w2 W).mono fun e W' ⟨he, bel⟩ => ?_
  subst he
  exact ⟨_, rfl, _, _, _, [], _, [], hW', trodAll_mk1 (shut_bool Try.underlying4 _), (trodAll_cons_mk (shut_bool Try.underlying4 _) (trodAll_cons_mk (shut_point w1x w1y) (trodAll_cons_mk (shut_int Try.underlying2 w2) trodAll_mk0))), rfl, bel.frame _, fun h => by cases h⟩

theorem over : Rows.fnTimesCutsRow.holds Try.pinned (OpenSpec.ofChange Rows.fnTimesCutsSpec) :=
  OpenClaim.holds_of_wide 11 Try.f11 rfl rfl rfl rfl rfl rfl rfl ⟨rfl, rfl, rfl, rfl, rfl⟩ rfl rfl rfl rfl rfl (by kernel_rfl) Try.func11 (by kernel_rfl)
    (of_decide_eq_true (by kernel_rfl)) (by unfold Func.isWrapper; first | (rw [if_pos (by decide +kernel)]; kernel_rfl) | (rw [if_neg (by decide +kernel)]; exact ⟨rfl, rfl⟩))
    (fun os started H enc _ => lifted os started H enc)

/-- The statement. -/
theorem proved : Rows.FnTimesCutsSaid :=
  over
#print axioms proved
end Go.Proofs.Ytcgbkggbffafmaa.fnTimesCuts
