/- FnOverAndTimes: a point times a whole number, divided by it, is the point.
   The law returns true for every input, and nothing that was in memory turns. No condition. -/
import Derived.Test.YtcgbkggbffafmaaOver
import Derived.WalkKit
import Derived.ProofKit
import Derived.OpenShut
namespace Go.Proofs.Ytcgbkggbffafmaa.fnOverAndTimes
open Go.ChangeShapes Go.WideShapes Go.ChangeAt Go.RowKit
set_option linter.unusedVariables false

theorem own : ownKnob Try.prog.godebug = none := by kernel_rfl

theorem run_min2 {P : Program} (ts : Array TypeId) (t : TypeId) (x y M : Int) (h : min x y = M) (w : World) :
    (Builtin.min_ ts t #[.int .i64 x, .int .i64 y]).run P w = .ok (.int .i64 M) w := by
  have e : ∀ a b : Int, (if b < a then b else a) = min a b := fun a b => by split <;> omega
  simp only [Builtin.min_, List.foldlM, Builtin.min2]
  simp [e]
  omega
theorem div_back (x n d : Int) (hd : 0 < d) (hn : n ≠ 0) : (x * n * d).tdiv (d * n) = x := by
  have e : x * n * d = (d * n) * x := by
    rw [Int.mul_comm (x * n) d, Int.mul_comm x n, Int.mul_assoc]
  rw [e]
  exact Int.mul_tdiv_cancel_left x (Int.mul_ne_zero (by omega) hn)
theorem times_back (b : Bool) (x n : Int) (h1 : -8192 ≤ x) (h2 : x ≤ 8192) (h3 : -1000 ≤ n) (h4 : n ≤ 1000) (hn : n ≠ 0) :
    timesZ b x (oneZ b * n) = x * n ∧ overZ b (x * n) (oneZ b * n) = x := by
  have hp := small_mul x n 8192 1000 (by omega) (by omega) (by omega) (by omega)
  cases b
  · rw [oneZ_f]
    have c1 : wrap32 x = x := by unfold wrap32; omega
    have c2 : wrap32 (64 * n) = 64 * n := by unfold wrap32; omega
    have c3 : wrap32 (x * n) = x * n := by unfold wrap32; omega
    have e1 : x * (64 * n) = 64 * (x * n) := Int.mul_left_comm _ _ _
    have e2 := div_back x n 64 (by omega) hn
    constructor
    · rw [timesZ_f, c1, c2]
      unfold tmS
      rw [e1]
      generalize x * n = p at *
      have e3 : wrap32 (64 * p) = 64 * p := by unfold wrap32; omega
      rw [e3, Int.mul_tdiv_cancel_left p (by decide)]
      exact c3
    · show dvS (wrap32 (x * n)) (wrap32 (64 * n)) = x
      rw [c2, c3]
      unfold dvS
      have e3 : IntKind.i32.wrap (x * n * 64) = x * n * 64 := IntWalk.i32_in _ ⟨by omega, by omega⟩
      rw [e3, e2]
      exact IntWalk.i32_in _ ⟨by omega, by omega⟩
  · rw [oneZ_t]
    have e1 : x * (4096 * n) = 4096 * (x * n) := Int.mul_left_comm _ _ _
    have e2 := div_back x n 4096 (by omega) hn
    constructor
    · rw [timesZ_t]
      unfold tmL
      rw [e1]
      generalize x * n = p at *
      have e3 : wrap64 (4096 * p) = 4096 * p := by unfold wrap64; omega
      rw [e3, Int.mul_tdiv_cancel_left p (by decide)]
      unfold wrap64; omega
    · show dvL (x * n) (4096 * n) = x
      unfold dvL
      have e3 : IntKind.i64.wrap (x * n * 4096) = x * n * 4096 := IntWalk.i64_in _ ⟨by omega, by omega⟩
      rw [e3, e2]
      exact IntWalk.i64_in _ ⟨by omega, by omega⟩
theorem cut_one_mul (b : Bool) (n : Int) (h3 : -1000 ≤ n) (h4 : n ≤ 1000) (hn : n ≠ 0) : ¬ cutZ b (oneZ b * n) = 0 := by
  cases b
  · rw [cutZ_f, oneZ_f]; unfold wrap32; omega
  · rw [cutZ_t, oneZ_t]; omega
set_option maxHeartbeats 4000000 in
theorem out_zero (a0 : Bool) (a1x a1y a2 M m : Int) (hM : max a1x a1y = M) (hm : min a1x a1y = m) (i0 : I64 a1x) (i1 : I64 a1y) (i2 : I64 a2) (c : (a2 == 0) = true) (w : World) :
    Calls Try.prog 8 #[.bool a0, .agg #[.int .i64 a1x, .int .i64 a1y], .int .i64 a2] w fun e w' => e = .returned (.bool true) ∧ Below w.heap.size w w' := by
  have rM := fun ts t W => run_max2 (P := Try.prog) ts t a1x a1y M hM W
  have rm := fun ts t W => run_min2 (P := Try.prog) ts t a1x a1y m hm W
  clear hM hm
  obtain ⟨_, _⟩ := i0
  obtain ⟨_, _⟩ := i1
  obtain ⟨_, _⟩ := i2
  go_enter Try.func8, Try.ntmps8
  go_wp2_with fail
  go_ret
  exact ⟨rfl, (by repeat (first | (with_reducible exact Below.refl _ _) | (with_reducible apply Below.drew) | (with_reducible apply keepN) | (with_reducible refine Below.alloc ?_ (by first | exact Nat.le_refl _ | (simp; done) | (simp; omega)) _)))⟩
set_option maxHeartbeats 4000000 in
theorem out_hi (a0 : Bool) (a1x a1y a2 M m : Int) (hM : max a1x a1y = M) (hm : min a1x a1y = m) (i0 : I64 a1x) (i1 : I64 a1y) (i2 : I64 a2) (c0 : (a2 == 0) = false) (c : 1000 < a2) (w : World) :
    Calls Try.prog 8 #[.bool a0, .agg #[.int .i64 a1x, .int .i64 a1y], .int .i64 a2] w fun e w' => e = .returned (.bool true) ∧ Below w.heap.size w w' := by
  have rM := fun ts t W => run_max2 (P := Try.prog) ts t a1x a1y M hM W
  have rm := fun ts t W => run_min2 (P := Try.prog) ts t a1x a1y m hm W
  clear hM hm
  obtain ⟨_, _⟩ := i0
  obtain ⟨_, _⟩ := i1
  obtain ⟨_, _⟩ := i2
  go_enter Try.func8, Try.ntmps8
  go_wp2_with fail
  go_ret
  exact ⟨rfl, (by repeat (first | (with_reducible exact Below.refl _ _) | (with_reducible apply Below.drew) | (with_reducible apply keepN) | (with_reducible refine Below.alloc ?_ (by first | exact Nat.le_refl _ | (simp; done) | (simp; omega)) _)))⟩
set_option maxHeartbeats 4000000 in
theorem out_lo (a0 : Bool) (a1x a1y a2 M m : Int) (hM : max a1x a1y = M) (hm : min a1x a1y = m) (i0 : I64 a1x) (i1 : I64 a1y) (i2 : I64 a2) (c0 : (a2 == 0) = false) (c1 : a2 ≤ 1000) (c : a2 < -1000) (w : World) :
    Calls Try.prog 8 #[.bool a0, .agg #[.int .i64 a1x, .int .i64 a1y], .int .i64 a2] w fun e w' => e = .returned (.bool true) ∧ Below w.heap.size w w' := by
  have rM := fun ts t W => run_max2 (P := Try.prog) ts t a1x a1y M hM W
  have rm := fun ts t W => run_min2 (P := Try.prog) ts t a1x a1y m hm W
  clear hM hm
  obtain ⟨_, _⟩ := i0
  obtain ⟨_, _⟩ := i1
  obtain ⟨_, _⟩ := i2
  go_enter Try.func8, Try.ntmps8
  go_wp2_with fail
  go_ret
  exact ⟨rfl, (by repeat (first | (with_reducible exact Below.refl _ _) | (with_reducible apply Below.drew) | (with_reducible apply keepN) | (with_reducible refine Below.alloc ?_ (by first | exact Nat.le_refl _ | (simp; done) | (simp; omega)) _)))⟩
set_option maxHeartbeats 4000000 in
theorem out_M (a0 : Bool) (a1x a1y a2 M m : Int) (hM : max a1x a1y = M) (hm : min a1x a1y = m) (i0 : I64 a1x) (i1 : I64 a1y) (i2 : I64 a2) (c0 : (a2 == 0) = false) (c1 : a2 ≤ 1000) (c2 : -1000 ≤ a2) (c : 8192 < M) (w : World) :
    Calls Try.prog 8 #[.bool a0, .agg #[.int .i64 a1x, .int .i64 a1y], .int .i64 a2] w fun e w' => e = .returned (.bool true) ∧ Below w.heap.size w w' := by
  have rM := fun ts t W => run_max2 (P := Try.prog) ts t a1x a1y M hM W
  have rm := fun ts t W => run_min2 (P := Try.prog) ts t a1x a1y m hm W
  clear hM hm
  obtain ⟨_, _⟩ := i0
  obtain ⟨_, _⟩ := i1
  obtain ⟨_, _⟩ := i2
  go_enter Try.func8, Try.ntmps8
  go_wp2_with fail
  go_ret
  exact ⟨rfl, (by repeat (first | (with_reducible exact Below.refl _ _) | (with_reducible apply Below.drew) | (with_reducible apply keepN) | (with_reducible refine Below.alloc ?_ (by first | exact Nat.le_refl _ | (simp; done) | (simp; omega)) _)))⟩
set_option maxHeartbeats 4000000 in
theorem out_m (a0 : Bool) (a1x a1y a2 M m : Int) (hM : max a1x a1y = M) (hm : min a1x a1y = m) (i0 : I64 a1x) (i1 : I64 a1y) (i2 : I64 a2) (c0 : (a2 == 0) = false) (c1 : a2 ≤ 1000) (c2 : -1000 ≤ a2) (c3 : M ≤ 8192) (c : m < -8192) (w : World) :
    Calls Try.prog 8 #[.bool a0, .agg #[.int .i64 a1x, .int .i64 a1y], .int .i64 a2] w fun e w' => e = .returned (.bool true) ∧ Below w.heap.size w w' := by
  have rM := fun ts t W => run_max2 (P := Try.prog) ts t a1x a1y M hM W
  have rm := fun ts t W => run_min2 (P := Try.prog) ts t a1x a1y m hm W
  clear hM hm
  obtain ⟨_, _⟩ := i0
  obtain ⟨_, _⟩ := i1
  obtain ⟨_, _⟩ := i2
  go_enter Try.func8, Try.ntmps8
  go_wp2_with fail
  go_ret
  exact ⟨rfl, (by repeat (first | (with_reducible exact Below.refl _ _) | (with_reducible apply Below.drew) | (with_reducible apply keepN) | (with_reducible refine Below.alloc ?_ (by first | exact Nat.le_refl _ | (simp; done) | (simp; omega)) _)))⟩
set_option maxHeartbeats 4000000 in
theorem inside (a0 : Bool) (a1x a1y a2 M m : Int) (hM : max a1x a1y = M) (hm : min a1x a1y = m) (i0 : I64 a1x) (i1 : I64 a1y) (i2 : I64 a2) (c0 : (a2 == 0) = false) (c1 : a2 ≤ 1000) (c2 : -1000 ≤ a2) (c3 : M ≤ 8192) (c4 : -8192 ≤ m) (w : World) :
    Calls Try.prog 8 #[.bool a0, .agg #[.int .i64 a1x, .int .i64 a1y], .int .i64 a2] w fun e w' => e = .returned (.bool true) ∧ Below w.heap.size w w' := by
  have rM := fun ts t W => run_max2 (P := Try.prog) ts t a1x a1y M hM W
  have rm := fun ts t W => run_min2 (P := Try.prog) ts t a1x a1y m hm W
  have hn : a2 ≠ 0 := by simpa using c0
  obtain ⟨t0, o0⟩ := times_back a0 a1x a2 (by omega) (by omega) c2 c1 hn
  obtain ⟨t1, o1⟩ := times_back a0 a1y a2 (by omega) (by omega) c2 c1 hn
  have hz := Lib.hid (cut_one_mul a0 a2 c2 c1 hn)
  have ob := oneZ_bd a0
  obtain ⟨one, ho⟩ : ∃ one, oneZ a0 = one := ⟨_, rfl⟩
  rw [ho] at t0 t1 o0 o1 hz ob
  have hk := small_mul one a2 4096 1000 (by omega) (by omega) (by omega) (by omega)
  obtain ⟨k, ek⟩ : ∃ k, one * a2 = k := ⟨_, rfl⟩
  rw [ek] at t0 t1 o0 o1 hz hk
  obtain ⟨k1, k2⟩ := hk
  obtain ⟨u, eu⟩ : ∃ u, a1x * a2 = u := ⟨_, rfl⟩
  obtain ⟨v, ev⟩ : ∃ v, a1y * a2 = v := ⟨_, rfl⟩
  rw [eu] at t0 o0
  rw [ev] at t1 o1
  clear hM hm eu ev hn
  go_enter Try.func8, Try.ntmps8
  go_wp2_with (first
    | (go_at_call 28; (with_reducible refine (part_any _ _).mono ?_); rintro e w' ⟨rfl, rfl⟩)
    | (go_at_call 31; (with_reducible refine (iTimes_any _ _ _ _ _).mono ?_); rintro e w1 ⟨rfl, hb⟩; (first | (replace f0 := keepc hb f0; replace f1 := keepc hb f1; replace B := keepb B hb) | (have f0 := keepc hb (p := ⟨w.heap.size, 0, none⟩) (v := .int .i64 a1x) (by simp [go_sem]); have f1 := keepc hb (p := ⟨w.heap.size, 1, none⟩) (v := .int .i64 a1y) (by simp [go_sem]); have B := keepb (w := w) (by repeat (first | (with_reducible exact Below.refl _ _) | (with_reducible apply Below.drew) | (with_reducible refine Below.alloc ?_ (by first | exact Nat.le_refl _ | (simp; done) | (simp; omega)) _))) hb)); clear hb)
    | (go_at_call 27; (with_reducible refine (iOver_any _ _ _ _ hz.out _).mono ?_); rintro e w1 ⟨rfl, hb⟩; (first | (replace f0 := keepc hb f0; replace f1 := keepc hb f1; replace B := keepb B hb) | (have f0 := keepc hb (p := ⟨w.heap.size, 0, none⟩) (v := .int .i64 a1x) (by simp [go_sem]); have f1 := keepc hb (p := ⟨w.heap.size, 1, none⟩) (v := .int .i64 a1y) (by simp [go_sem]); have B := keepb (w := w) (by repeat (first | (with_reducible exact Below.refl _ _) | (with_reducible apply Below.drew) | (with_reducible refine Below.alloc ?_ (by first | exact Nat.le_refl _ | (simp; done) | (simp; omega)) _))) hb)); clear hb; have h0 : ∀ o, (w1.alloc o).cell? ⟨w.heap.size, 0, none⟩ = some (.int .i64 a1x) := fun o => keepA o f0; have h1 : ∀ o, (w1.alloc o).cell? ⟨w.heap.size, 1, none⟩ = some (.int .i64 a1y) := fun o => keepA o f1))
  go_ret
  exact ⟨rfl, B.alloc B.size _⟩
theorem walk (a0 : Bool) (a1x a1y a2 : Int) (w1x : (Lit.int .i64 a1x).wf = true) (w1y : (Lit.int .i64 a1y).wf = true) (w2 : (Lit.int .i64 a2).wf = true) (w : World) :
    Calls Try.prog 8 #[.bool a0, .agg #[.int .i64 a1x, .int .i64 a1y], .int .i64 a2] w fun e w' => e = .returned (.bool true) ∧ Below w.heap.size w w' := by
  have i0 := i64_of_wf w1x
  have i1 := i64_of_wf w1y
  have i2 := i64_of_wf w2
  cases c0 : (a2 == 0)
  · by_cases c1 : 1000 < a2
    · exact out_hi a0 a1x a1y a2 _ _ rfl rfl i0 i1 i2 c0 c1 w
    by_cases c2 : a2 < -1000
    · exact out_lo a0 a1x a1y a2 _ _ rfl rfl i0 i1 i2 c0 (by omega) c2 w
    by_cases c3 : 8192 < max a1x a1y
    · exact out_M a0 a1x a1y a2 _ _ rfl rfl i0 i1 i2 c0 (by omega) (by omega) c3 w
    by_cases c4 : min a1x a1y < -8192
    · exact out_m a0 a1x a1y a2 _ _ rfl rfl i0 i1 i2 c0 (by omega) (by omega) (by omega) c4 w
    exact inside a0 a1x a1y a2 _ _ rfl rfl i0 i1 i2 c0 (by omega) (by omega) (by omega) (by omega) w
  · exact out_zero a0 a1x a1y a2 _ _ rfl rfl i0 i1 i2 c0 w

set_option maxRecDepth 100000 in
theorem lifted (os : Os) (started : os.Started) (H : Type) (enc : TypeId × Value → H) :
    ReturnsInHanded {} Try.checked os 8 .any (Rows.fnOverAndTimesSpec.pre6 enc Try.prog Try.f8 Rows.fnOverAndTimesRow.domain false) (Rows.fnOverAndTimesSpec.post enc Try.prog Try.f8 false true false false) := by
  refine returnsInHanded_of_change (C := Try.checked) own started (by kernel_rfl) Try.func8
    (ChangeSpec.witness6 (enc := enc) (C := Try.checked) false ⟨#[], #[.bool false, .agg #[.int .i64 0, .int .i64 0], .int .i64 0], []⟩ 8 (by kernel_rfl) (by kernel_rfl) (by kernel_rfl) (by kernel_rfl)) ?_
  intro W base args ds gs before hval0 hW hcnd _
  have hval : ∀ (j : Nat) t v, Try.f8.params[j]? = some t → args[j]? = some v → Value.okWide Try.prog W .any base t v := hval0
  have hW' := hW
  obtain ⟨p, q, hA0, hV, rfl, hfz, hnd⟩ := hW
  have hA : DataW.TrodAll enc Try.prog W 0 (fun _ => true) true Try.f8.params.toList args.toList ds p := hA0
  rw [Try.params8] at hA hval
  obtain ⟨v0, vs0, d0, ds0, p0, q0, hargs, rfl, rfl, h0, r0⟩ := trodAll_cons hA
  obtain ⟨v1, vs1, d1, ds1, p1, q1, rfl, rfl, rfl, h1, r1⟩ := trodAll_cons r0
  obtain ⟨v2, vs2, d2, ds2, p2, q2, rfl, rfl, rfl, h2, r2⟩ := trodAll_cons r1
  obtain ⟨rfl, rfl, rfl⟩ := trodAll_nil r2
  obtain rfl : args = #[v0, v1, v2] := by cases args; simp_all
  obtain ⟨rfl, rfl⟩ := trodVars_none hV
  obtain ⟨a0, rfl, rfl, rfl⟩ := open_bool Try.underlying4 (hval 0 4 v0 rfl rfl) h0
  obtain ⟨a1x, a1y, rfl, rfl, rfl, w1x, w1y⟩ := open_point (hval 1 23 v1 rfl rfl) h1
  obtain ⟨a2, rfl, rfl, rfl, w2⟩ := open_int Try.underlying3 (hval 2 3 v2 rfl rfl) h2
  clear hA0 hval0
  refine (walk a0 a1x a1y a2 w1x w1y w2 W).mono fun e W' ⟨he, bel⟩ => ?_
  subst he
  exact ⟨_, rfl, _, _, _, [], _, [], hW', trodAll_mk1 (shut_bool Try.underlying4 _), (trodAll_cons_mk (shut_bool Try.underlying4 _) (trodAll_cons_mk (shut_point w1x w1y) (trodAll_cons_mk (shut_int Try.underlying3 w2) trodAll_mk0))), rfl, bel.frame _, fun h => by cases h⟩

theorem over : Rows.fnOverAndTimesRow.holds Try.pinned (OpenSpec.ofChange Rows.fnOverAndTimesSpec) :=
  OpenClaim.holds_of_wide 8 Try.f8 rfl rfl rfl rfl rfl rfl rfl ⟨rfl, rfl, rfl, rfl, rfl⟩ rfl rfl rfl rfl rfl (by kernel_rfl) Try.func8 (by kernel_rfl)
    (of_decide_eq_true (by kernel_rfl)) (by unfold Func.isWrapper; first | (rw [if_pos (by decide +kernel)]; kernel_rfl) | (rw [if_neg (by decide +kernel)]; exact ⟨rfl, rfl⟩))
    (fun os started H enc _ => lifted os started H enc)

/-- The statement. -/
theorem proved : Rows.FnOverAndTimesSaid :=
  over
#print axioms proved
end Go.Proofs.Ytcgbkggbffafmaa.fnOverAndTimes
