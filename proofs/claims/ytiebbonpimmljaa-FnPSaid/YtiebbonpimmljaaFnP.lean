/- FnP: P and R are made of whole numbers.
   The law returns true for every input, and nothing that was in memory turns. No condition. -/
import Derived.Test.YtiebbonpimmljaaPts
import Derived.WalkKit
import Derived.ProofKit
import Derived.OpenShut
namespace Go.Proofs.Ytiebbonpimmljaa.fnP
open Go.ChangeShapes Go.WideShapes Go.ChangeAt Go.RowKit
set_option linter.unusedVariables false

theorem own : ownKnob Try.prog.godebug = none := by kernel_rfl

set_option maxHeartbeats 4000000 in
theorem out_0_hi (a0 a1 a2 a3 : Int) (i0 : I64 a0) (i1 : I64 a1) (i2 : I64 a2) (i3 : I64 a3)  (c : 33554432 ≤ a0) (w : World) :
    Calls Try.prog 12 #[.int .i64 a0, .int .i64 a1, .int .i64 a2, .int .i64 a3] w fun e w' => e = .returned (.bool true) ∧ Below w.heap.size w w' := by
  obtain ⟨_, _⟩ := i0
  obtain ⟨_, _⟩ := i1
  obtain ⟨_, _⟩ := i2
  obtain ⟨_, _⟩ := i3
  go_enter Try.func12, Try.ntmps12
  go_wp2_with fail
  refine wp_loop_rounds 1 ?_
  repeat any_goals (rw [rounds_succ]; go_wp2_with fail)
  go_ret
  exact ⟨rfl, (by repeat (first | (with_reducible exact Below.refl _ _) | (with_reducible apply Below.drew) | (with_reducible apply keepN) | (with_reducible refine Below.alloc ?_ (by first | exact Nat.le_refl _ | (simp; done) | (simp; omega)) _)))⟩
set_option maxHeartbeats 4000000 in
theorem out_0_lo (a0 a1 a2 a3 : Int) (i0 : I64 a0) (i1 : I64 a1) (i2 : I64 a2) (i3 : I64 a3)  (c : a0 < -33554432) (w : World) :
    Calls Try.prog 12 #[.int .i64 a0, .int .i64 a1, .int .i64 a2, .int .i64 a3] w fun e w' => e = .returned (.bool true) ∧ Below w.heap.size w w' := by
  obtain ⟨_, _⟩ := i0
  obtain ⟨_, _⟩ := i1
  obtain ⟨_, _⟩ := i2
  obtain ⟨_, _⟩ := i3
  go_enter Try.func12, Try.ntmps12
  go_wp2_with fail
  refine wp_loop_rounds 1 ?_
  repeat any_goals (rw [rounds_succ]; go_wp2_with fail)
  go_ret
  exact ⟨rfl, (by repeat (first | (with_reducible exact Below.refl _ _) | (with_reducible apply Below.drew) | (with_reducible apply keepN) | (with_reducible refine Below.alloc ?_ (by first | exact Nat.le_refl _ | (simp; done) | (simp; omega)) _)))⟩
set_option maxHeartbeats 4000000 in
theorem out_1_hi (a0 a1 a2 a3 : Int) (i0 : I64 a0) (i1 : I64 a1) (i2 : I64 a2) (i3 : I64 a3) (r0 : R25 a0) (c : 33554432 ≤ a1) (w : World) :
    Calls Try.prog 12 #[.int .i64 a0, .int .i64 a1, .int .i64 a2, .int .i64 a3] w fun e w' => e = .returned (.bool true) ∧ Below w.heap.size w w' := by
  obtain ⟨_, _⟩ := i0
  obtain ⟨_, _⟩ := i1
  obtain ⟨_, _⟩ := i2
  obtain ⟨_, _⟩ := i3
  obtain ⟨_, _⟩ := r0
  go_enter Try.func12, Try.ntmps12
  go_wp2_with fail
  refine wp_loop_rounds 2 ?_
  repeat any_goals (rw [rounds_succ]; go_wp2_with fail)
  go_ret
  exact ⟨rfl, (by repeat (first | (with_reducible exact Below.refl _ _) | (with_reducible apply Below.drew) | (with_reducible apply keepN) | (with_reducible refine Below.alloc ?_ (by first | exact Nat.le_refl _ | (simp; done) | (simp; omega)) _)))⟩
set_option maxHeartbeats 4000000 in
theorem out_1_lo (a0 a1 a2 a3 : Int) (i0 : I64 a0) (i1 : I64 a1) (i2 : I64 a2) (i3 : I64 a3) (r0 : R25 a0) (c : a1 < -33554432) (w : World) :
    Calls Try.prog 12 #[.int .i64 a0, .int .i64 a1, .int .i64 a2, .int .i64 a3] w fun e w' => e = .returned (.bool true) ∧ Below w.heap.size w w' := by
  obtain ⟨_, _⟩ := i0
  obtain ⟨_, _⟩ := i1
  obtain ⟨_, _⟩ := i2
  obtain ⟨_, _⟩ := i3
  obtain ⟨_, _⟩ := r0
  go_enter Try.func12, Try.ntmps12
  go_wp2_with fail
  refine wp_loop_rounds 2 ?_
  repeat any_goals (rw [rounds_succ]; go_wp2_with fail)
  go_ret
  exact ⟨rfl, (by repeat (first | (with_reducible exact Below.refl _ _) | (with_reducible apply Below.drew) | (with_reducible apply keepN) | (with_reducible refine Below.alloc ?_ (by first | exact Nat.le_refl _ | (simp; done) | (simp; omega)) _)))⟩
set_option maxHeartbeats 4000000 in
theorem out_2_hi (a0 a1 a2 a3 : Int) (i0 : I64 a0) (i1 : I64 a1) (i2 : I64 a2) (i3 : I64 a3) (r0 : R25 a0) (r1 : R25 a1) (c : 33554432 ≤ a2) (w : World) :
    Calls Try.prog 12 #[.int .i64 a0, .int .i64 a1, .int .i64 a2, .int .i64 a3] w fun e w' => e = .returned (.bool true) ∧ Below w.heap.size w w' := by
  obtain ⟨_, _⟩ := i0
  obtain ⟨_, _⟩ := i1
  obtain ⟨_, _⟩ := i2
  obtain ⟨_, _⟩ := i3
  obtain ⟨_, _⟩ := r0
  obtain ⟨_, _⟩ := r1
  go_enter Try.func12, Try.ntmps12
  go_wp2_with fail
  refine wp_loop_rounds 3 ?_
  repeat any_goals (rw [rounds_succ]; go_wp2_with fail)
  go_ret
  exact ⟨rfl, (by repeat (first | (with_reducible exact Below.refl _ _) | (with_reducible apply Below.drew) | (with_reducible apply keepN) | (with_reducible refine Below.alloc ?_ (by first | exact Nat.le_refl _ | (simp; done) | (simp; omega)) _)))⟩
set_option maxHeartbeats 4000000 in
theorem out_2_lo (a0 a1 a2 a3 : Int) (i0 : I64 a0) (i1 : I64 a1) (i2 : I64 a2) (i3 : I64 a3) (r0 : R25 a0) (r1 : R25 a1) (c : a2 < -33554432) (w : World) :
    Calls Try.prog 12 #[.int .i64 a0, .int .i64 a1, .int .i64 a2, .int .i64 a3] w fun e w' => e = .returned (.bool true) ∧ Below w.heap.size w w' := by
  obtain ⟨_, _⟩ := i0
  obtain ⟨_, _⟩ := i1
  obtain ⟨_, _⟩ := i2
  obtain ⟨_, _⟩ := i3
  obtain ⟨_, _⟩ := r0
  obtain ⟨_, _⟩ := r1
  go_enter Try.func12, Try.ntmps12
  go_wp2_with fail
  refine wp_loop_rounds 3 ?_
  repeat any_goals (rw [rounds_succ]; go_wp2_with fail)
  go_ret
  exact ⟨rfl, (by repeat (first | (with_reducible exact Below.refl _ _) | (with_reducible apply Below.drew) | (with_reducible apply keepN) | (with_reducible refine Below.alloc ?_ (by first | exact Nat.le_refl _ | (simp; done) | (simp; omega)) _)))⟩
set_option maxHeartbeats 4000000 in
theorem out_3_hi (a0 a1 a2 a3 : Int) (i0 : I64 a0) (i1 : I64 a1) (i2 : I64 a2) (i3 : I64 a3) (r0 : R25 a0) (r1 : R25 a1) (r2 : R25 a2) (c : 33554432 ≤ a3) (w : World) :
    Calls Try.prog 12 #[.int .i64 a0, .int .i64 a1, .int .i64 a2, .int .i64 a3] w fun e w' => e = .returned (.bool true) ∧ Below w.heap.size w w' := by
  obtain ⟨_, _⟩ := i0
  obtain ⟨_, _⟩ := i1
  obtain ⟨_, _⟩ := i2
  obtain ⟨_, _⟩ := i3
  obtain ⟨_, _⟩ := r0
  obtain ⟨_, _⟩ := r1
  obtain ⟨_, _⟩ := r2
  go_enter Try.func12, Try.ntmps12
  go_wp2_with fail
  refine wp_loop_rounds 4 ?_
  repeat any_goals (rw [rounds_succ]; go_wp2_with fail)
  go_ret
  exact ⟨rfl, (by repeat (first | (with_reducible exact Below.refl _ _) | (with_reducible apply Below.drew) | (with_reducible apply keepN) | (with_reducible refine Below.alloc ?_ (by first | exact Nat.le_refl _ | (simp; done) | (simp; omega)) _)))⟩
set_option maxHeartbeats 4000000 in
theorem out_3_lo (a0 a1 a2 a3 : Int) (i0 : I64 a0) (i1 : I64 a1) (i2 : I64 a2) (i3 : I64 a3) (r0 : R25 a0) (r1 : R25 a1) (r2 : R25 a2) (c : a3 < -33554432) (w : World) :
    Calls Try.prog 12 #[.int .i64 a0, .int .i64 a1, .int .i64 a2, .int .i64 a3] w fun e w' => e = .returned (.bool true) ∧ Below w.heap.size w w' := by
  obtain ⟨_, _⟩ := i0
  obtain ⟨_, _⟩ := i1
  obtain ⟨_, _⟩ := i2
  obtain ⟨_, _⟩ := i3
  obtain ⟨_, _⟩ := r0
  obtain ⟨_, _⟩ := r1
  obtain ⟨_, _⟩ := r2
  go_enter Try.func12, Try.ntmps12
  go_wp2_with fail
  refine wp_loop_rounds 4 ?_
  repeat any_goals (rw [rounds_succ]; go_wp2_with fail)
  go_ret
  exact ⟨rfl, (by repeat (first | (with_reducible exact Below.refl _ _) | (with_reducible apply Below.drew) | (with_reducible apply keepN) | (with_reducible refine Below.alloc ?_ (by first | exact Nat.le_refl _ | (simp; done) | (simp; omega)) _)))⟩
set_option maxHeartbeats 4000000 in
theorem inside (a0 a1 a2 a3 : Int) (i0 : I64 a0) (i1 : I64 a1) (i2 : I64 a2) (i3 : I64 a3) (r0 : R25 a0) (r1 : R25 a1) (r2 : R25 a2) (r3 : R25 a3) (w : World) :
    Calls Try.prog 12 #[.int .i64 a0, .int .i64 a1, .int .i64 a2, .int .i64 a3] w fun e w' => e = .returned (.bool true) ∧ Below w.heap.size w w' := by
  obtain ⟨_, _⟩ := i0
  obtain ⟨_, _⟩ := i1
  obtain ⟨_, _⟩ := i2
  obtain ⟨_, _⟩ := i3
  have mn0 : ∃ m, (if a2 < a0 then a2 else a0) = m ∧ R25 m ∧ m ≤ a0 ∧ m ≤ a2 ∧ min a0 a2 = m := ⟨_, rfl, by split <;> assumption, by split <;> omega, by split <;> omega, by split <;> omega⟩
  have mn1 : ∃ m, (if a3 < a1 then a3 else a1) = m ∧ R25 m ∧ m ≤ a1 ∧ m ≤ a3 ∧ min a1 a3 = m := ⟨_, rfl, by split <;> assumption, by split <;> omega, by split <;> omega, by split <;> omega⟩
  have mx0 : ∃ m, (if a0 < a2 then a2 else a0) = m ∧ R25 m ∧ a0 ≤ m ∧ a2 ≤ m := ⟨_, rfl, by split <;> assumption, by split <;> omega, by split <;> omega⟩
  have mx1 : ∃ m, (if a1 < a3 then a3 else a1) = m ∧ R25 m ∧ a1 ≤ m ∧ a3 ≤ m := ⟨_, rfl, by split <;> assumption, by split <;> omega, by split <;> omega⟩
  obtain ⟨m0, p0, q0, l0, l0', _⟩ := mn0
  obtain ⟨m1, p1, q1, l1, l1', _⟩ := mn1
  obtain ⟨m2, p2, q2, l2, l2'⟩ := mx0
  obtain ⟨m3, p3, q3, l3, l3'⟩ := mx1
  have le0 : m0 ≤ m2 := by omega
  have le1 : m1 ≤ m3 := by omega
  have s0 : m0 * 64 = 64 * m0 := Int.mul_comm _ _
  have s1 : m1 * 64 = 64 * m1 := Int.mul_comm _ _
  have s2 : m2 * 64 = 64 * m2 := Int.mul_comm _ _
  have s3 : m3 * 64 = 64 * m3 := Int.mul_comm _ _
  have u1 : R25 1 := by unfold R25; omega
  have b0 := q0
  have b1 := q1
  have b2 := q2
  have b3 := q3
  obtain ⟨_, _⟩ := b0
  obtain ⟨_, _⟩ := b1
  obtain ⟨_, _⟩ := b2
  obtain ⟨_, _⟩ := b3
  have d0 := r0
  have d1 := r1
  have d2 := r2
  have d3 := r3
  obtain ⟨_, _⟩ := d0
  obtain ⟨_, _⟩ := d1
  obtain ⟨_, _⟩ := d2
  obtain ⟨_, _⟩ := d3
  clear l0 l0' l1 l1' l2 l2' l3 l3'
  go_enter Try.func12, Try.ntmps12
  go_wp2_with fail
  refine wp_loop_rounds 5 ?_
  repeat any_goals (rw [rounds_succ]; go_wp2_with fail)
  go_wp2_with (first
    | (go_at_call 25; (with_reducible refine (iP_any _ _ r0 r1 _).mono ?_); rintro e w1 ⟨rfl, hb⟩; have B := keepb (w := w) (by repeat (first | (with_reducible exact Below.refl _ _) | (with_reducible apply Below.drew) | (with_reducible refine Below.alloc ?_ (by first | exact Nat.le_refl _ | (simp; done) | (simp; omega)) _))) hb; clear hb)
    | (go_at_call 27; (with_reducible refine (iR_any _ _ _ _ q0 q1 q2 q3 le0 le1 _).mono ?_); rintro e w1 ⟨rfl, hb⟩; replace B := keepb B hb; clear hb)
    | (go_at_call 26; (with_reducible refine (rect_any _ _ _ _ _).mono ?_); rintro e w1 ⟨rfl, hb⟩; replace B := keepb B hb; clear hb)
    | (go_at_call 22; (with_reducible refine (iI_any _ (by assumption) _).mono ?_); rintro e w' ⟨rfl, rfl⟩))
  go_ret
  exact ⟨rfl, B⟩
theorem walk (a0 a1 a2 a3 : Int) (w0 : (Lit.int .i64 a0).wf = true) (w1 : (Lit.int .i64 a1).wf = true) (w2 : (Lit.int .i64 a2).wf = true) (w3 : (Lit.int .i64 a3).wf = true) (w : World) :
    Calls Try.prog 12 #[.int .i64 a0, .int .i64 a1, .int .i64 a2, .int .i64 a3] w fun e w' => e = .returned (.bool true) ∧ Below w.heap.size w w' := by
  have i0 := i64_of_wf w0
  have i1 := i64_of_wf w1
  have i2 := i64_of_wf w2
  have i3 := i64_of_wf w3
  by_cases h0 : 33554432 ≤ a0
  · exact out_0_hi a0 a1 a2 a3 i0 i1 i2 i3  h0 w
  by_cases l0 : a0 < -33554432
  · exact out_0_lo a0 a1 a2 a3 i0 i1 i2 i3  l0 w
  have r0 : R25 a0 := ⟨by omega, by omega⟩
  by_cases h1 : 33554432 ≤ a1
  · exact out_1_hi a0 a1 a2 a3 i0 i1 i2 i3 r0 h1 w
  by_cases l1 : a1 < -33554432
  · exact out_1_lo a0 a1 a2 a3 i0 i1 i2 i3 r0 l1 w
  have r1 : R25 a1 := ⟨by omega, by omega⟩
  by_cases h2 : 33554432 ≤ a2
  · exact out_2_hi a0 a1 a2 a3 i0 i1 i2 i3 r0 r1 h2 w
  by_cases l2 : a2 < -33554432
  · exact out_2_lo a0 a1 a2 a3 i0 i1 i2 i3 r0 r1 l2 w
  have r2 : R25 a2 := ⟨by omega, by omega⟩
  by_cases h3 : 33554432 ≤ a3
  · exact out_3_hi a0 a1 a2 a3 i0 i1 i2 i3 r0 r1 r2 h3 w
  by_cases l3 : a3 < -33554432
  · exact out_3_lo a0 a1 a2 a3 i0 i1 i2 i3 r0 r1 r2 l3 w
  have r3 : R25 a3 := ⟨by omega, by omega⟩
  exact inside a0 a1 a2 a3 i0 i1 i2 i3 r0 r1 r2 r3 w

set_option maxRecDepth 100000 in
theorem lifted (os : Os) (started : os.Started) (H : Type) (enc : TypeId × Value → H) :
    ReturnsInHanded {} Try.checked os 12 .any (Rows.fnPSpec.pre6 enc Try.prog Try.f12 Rows.fnPRow.domain false) (Rows.fnPSpec.post enc Try.prog Try.f12 false true false false) := by
  refine returnsInHanded_of_change (C := Try.checked) own started (by kernel_rfl) Try.func12
    (ChangeSpec.witness6 (enc := enc) (C := Try.checked) false ⟨#[], #[.int .i64 0, .int .i64 0, .int .i64 0, .int .i64 0], []⟩ 8 (by kernel_rfl) (by kernel_rfl) (by kernel_rfl) (by kernel_rfl)) ?_
  intro W base args ds gs before hval0 hW hcnd _
  have hval : ∀ (j : Nat) t v, Try.f12.params[j]? = some t → args[j]? = some v → Value.okWide Try.prog W .any base t v := hval0
  have hW' := hW
  obtain ⟨p, q, hA0, hV, rfl, hfz, hnd⟩ := hW
  have hA : DataW.TrodAll enc Try.prog W 0 (fun _ => true) true Try.f12.params.toList args.toList ds p := hA0
  rw [Try.params12] at hA hval
  obtain ⟨v0, vs0, d0, ds0, p0, q0, hargs, rfl, rfl, h0, r0⟩ := trodAll_cons hA
  obtain ⟨v1, vs1, d1, ds1, p1, q1, rfl, rfl, rfl, h1, r1⟩ := trodAll_cons r0
  obtain ⟨v2, vs2, d2, ds2, p2, q2, rfl, rfl, rfl, h2, r2⟩ := trodAll_cons r1
  obtain ⟨v3, vs3, d3, ds3, p3, q3, rfl, rfl, rfl, h3, r3⟩ := trodAll_cons r2
  obtain ⟨rfl, rfl, rfl⟩ := trodAll_nil r3
  obtain rfl : args = #[v0, v1, v2, v3] := by cases args; simp_all
  obtain ⟨rfl, rfl⟩ := trodVars_none hV
  obtain ⟨a0, rfl, rfl, rfl, w0⟩ := open_int Try.underlying3 (hval 0 3 v0 rfl rfl) h0
  obtain ⟨a1, rfl, rfl, rfl, w1⟩ := open_int Try.underlying3 (hval 1 3 v1 rfl rfl) h1
  obtain ⟨a2, rfl, rfl, rfl, w2⟩ := open_int Try.underlying3 (hval 2 3 v2 rfl rfl) h2
  obtain ⟨a3, rfl, rfl, rfl, w3⟩ := open_int Try.underlying3 (hval 3 3 v3 rfl rfl) h3
  clear hA0 hval0
  refine (walk a0 a1 a2 a3 w0 w1 w2 w3 W).mono fun e W' ⟨he, bel⟩ => ?_
  subst he
  exact ⟨_, rfl, _, _, _, [], _, [], hW', trodAll_mk1 (shut_bool Try.underlying4 _), (trodAll_cons_mk (shut_int Try.underlying3 w0) (trodAll_cons_mk (shut_int Try.underlying3 w1) (trodAll_cons_mk (shut_int Try.underlying3 w2) (trodAll_cons_mk (shut_int Try.underlying3 w3) trodAll_mk0)))), rfl, bel.frame _, fun h => by cases h⟩

theorem over : Rows.fnPRow.holds Try.pinned (OpenSpec.ofChange Rows.fnPSpec) :=
  OpenClaim.holds_of_wide 12 Try.f12 rfl rfl rfl rfl rfl rfl rfl ⟨rfl, rfl, rfl, rfl, rfl⟩ rfl rfl rfl rfl rfl (by kernel_rfl) Try.func12 (by kernel_rfl)
    (of_decide_eq_true (by kernel_rfl)) (by unfold Func.isWrapper; first | (rw [if_pos (by decide +kernel)]; kernel_rfl) | (rw [if_neg (by decide +kernel)]; exact ⟨rfl, rfl⟩))
    (fun os started H enc _ => lifted os started H enc)

/-- The statement. -/
theorem proved : Rows.FnPSaid :=
  over
#print axioms proved
end Go.Proofs.Ytiebbonpimmljaa.fnP
