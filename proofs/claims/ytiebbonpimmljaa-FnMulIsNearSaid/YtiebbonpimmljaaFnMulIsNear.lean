/- FnMulIsNear: a product, times the parts of one, is not farther than half of these from the product of the parts.
   The law returns true for every input, and nothing that was in memory turns. No condition. -/
import Derived.Test.YtiebbonpimmljaaMul
import Derived.WalkKit
import Derived.ProofKit
import Derived.OpenShut
namespace Go.Proofs.Ytiebbonpimmljaa.fnMulIsNear
open Go.ChangeShapes Go.WideShapes Go.ChangeAt Go.RowKit
set_option linter.unusedVariables false

theorem own : ownKnob Try.prog.godebug = none := by kernel_rfl

theorem run_max4 {P : Program} (ts : Array TypeId) (t : TypeId) (x y z u M : Int) (h : max (max (max x y) z) u = M) (w : World) :
    (Builtin.max_ ts t #[.int .i64 x, .int .i64 y, .int .i64 z, .int .i64 u]).run P w = .ok (.int .i64 M) w := by
  have e : ∀ a b : Int, (if b > a then b else a) = max a b := fun a b => by split <;> omega
  simp only [Builtin.max_, List.foldlM, Builtin.max2]
  simp [e]
  omega
theorem walk (a0 : Bool) (a1 a2 : Int) (w1 : (Lit.int .i64 a1).wf = true) (w2 : (Lit.int .i64 a2).wf = true) (w : World) :
    Calls Try.prog 11 #[.bool a0, .int .i64 a1, .int .i64 a2] w fun e w' => e = .returned (.bool true) ∧ Grown w w' := by
  have h1 := i64_of_wf w1
  have h2 := i64_of_wf w2
  clear w1 w2
  have i1 := cutZ_i64 a0 a1 h1
  have i2 := cutZ_i64 a0 a2 h2
  have i3 : I64 (oneZ a0) := by have := oneZ_bd a0; unfold I64; omega
  have i4 : I64 3 := by unfold I64; omega
  have c1 := cutZ_cut a0 a1
  have c2 := cutZ_cut a0 a2
  have h3 := mulZ_three a0
  obtain ⟨X, hX⟩ : ∃ X, cutZ a0 a1 = X := ⟨_, rfl⟩
  obtain ⟨Y, hY⟩ : ∃ Y, cutZ a0 a2 = Y := ⟨_, rfl⟩
  rw [hX] at i1 c1
  rw [hY] at i2 c2
  obtain ⟨NX, hNX⟩ : ∃ NX, wrap64 (-X) = NX := ⟨_, rfl⟩
  obtain ⟨NY, hNY⟩ : ∃ NY, wrap64 (-Y) = NY := ⟨_, rfl⟩
  obtain ⟨M, hM⟩ : ∃ M, max (max (max X NX) Y) NY = M := ⟨_, rfl⟩
  have hm := fun ts t W => run_max4 (P := Try.prog) ts t X NX Y NY M hM W
  obtain ⟨m, hmm⟩ : ∃ m, mulZ a0 X Y = m := ⟨_, rfl⟩
  by_cases d0 : 1073741824 < M
  · clear hM c1 c2
    go_enter Try.func11, Try.ntmps11
    go_wp2_with (go_at_call 16; refine (cut_any _ _ _).mono ?_; rintro e w' ⟨rfl, rfl⟩)
    go_ret
    exact ⟨rfl, Grown.refl _⟩
  cases a0
  · rw [oneZ_f] at i3 h3
    have k1 : oneZ false = 64 := rfl
    have b1 : -1073741824 ≤ X ∧ X ≤ 1073741824 := by
      have := wrap32_bd a1
      rw [cutZ_f] at hX
      unfold wrap64 at hNX; omega
    have b2 : -1073741824 ≤ Y ∧ Y ≤ 1073741824 := by
      have := wrap32_bd a2
      rw [cutZ_f] at hY
      unfold wrap64 at hNY; omega
    have b3 := small_mul X Y 1073741824 1073741824 (by omega) (by omega) (by omega) (by omega)
    have q : ∃ p, X * Y = p ∧ (-68719476736 ≤ p → p ≤ 68719476736 → -31 ≤ 64 * m - p ∧ 64 * m - p ≤ 32) ∧ -2147483648 ≤ m ∧ m ≤ 2147483647 := by
      have e1 : wrap32 X = X := by rw [← cutZ_f]; exact c1
      have e2 : wrap32 Y = Y := by rw [← cutZ_f]; exact c2
      rw [mulZ_f, e1, e2] at hmm
      refine ⟨_, rfl, fun g1 g2 => ?_, ?_⟩
      · rw [← hmm]; exact near_f _ g1 g2
      · rw [← hmm]; exact wrap32_bd _
    obtain ⟨p, hp, q1, q2, q3⟩ := q
    rw [hp] at b3
    obtain ⟨b4, b5⟩ := b3
    clear hM c1 c2 b1 b2
    by_cases d1 : 68719476736 < p
    · clear q1
      go_enter Try.func11, Try.ntmps11
      go_wp2_with (go_at_call 16; refine (cut_any _ _ _).mono ?_; rintro e w' ⟨rfl, rfl⟩)
      go_ret
      exact ⟨rfl, Grown.refl _⟩
    by_cases d2 : p < -68719476736
    · clear q1
      go_enter Try.func11, Try.ntmps11
      go_wp2_with (go_at_call 16; refine (cut_any _ _ _).mono ?_; rintro e w' ⟨rfl, rfl⟩)
      go_ret
      exact ⟨rfl, Grown.refl _⟩
    obtain ⟨q4, q5⟩ := q1 (by omega) (by omega)
    clear q1
    by_cases d3 : 64 * m - p < 0
    all_goals
      go_enter Try.func11, Try.ntmps11
      go_wp2_with (first
        | (go_at_call 17; refine (part_any _ _).mono ?_; rintro e w' ⟨rfl, rfl⟩)
        | (go_at_call 16; refine (cut_any _ _ _).mono ?_; rintro e w' ⟨rfl, rfl⟩)
        | (go_at_call 24; (with_reducible refine (iMul_any _ _ _ (by assumption) (by assumption) _).mono ?_); rintro e w' ⟨rfl, rfl⟩))
      go_ret
      exact ⟨rfl, Grown.refl _⟩
  · rw [oneZ_t] at i3 h3
    have k1 : oneZ true = 4096 := rfl
    obtain ⟨p, hp⟩ : ∃ p, X * Y = p := ⟨_, rfl⟩
    have q := near_t p
    rw [mulZ_t, hp] at hmm
    rw [hmm] at q
    have e : wrap64 (wrap64 (4096 * m) - wrap64 p) = wrap64 (4096 * m - p) := by unfold wrap64; omega
    rw [← e] at q
    obtain ⟨D, hD⟩ : ∃ D, wrap64 (wrap64 (4096 * m) - wrap64 p) = D := ⟨_, rfl⟩
    rw [hD] at q
    obtain ⟨q4, q5⟩ := q
    have hmm' : mulZ true X Y = m := by rw [mulZ_t, hp]; exact hmm
    clear hM c1 c2 e hmm
    by_cases d3 : D < 0
    all_goals
      go_enter Try.func11, Try.ntmps11
      go_wp2_with (first
        | (go_at_call 17; refine (part_any _ _).mono ?_; rintro e w' ⟨rfl, rfl⟩)
        | (go_at_call 16; refine (cut_any _ _ _).mono ?_; rintro e w' ⟨rfl, rfl⟩)
        | (go_at_call 24; (with_reducible refine (iMul_any _ _ _ (by assumption) (by assumption) _).mono ?_); rintro e w' ⟨rfl, rfl⟩))
      go_ret
      exact ⟨rfl, Grown.refl _⟩

set_option maxRecDepth 100000 in
theorem lifted (os : Os) (started : os.Started) (H : Type) (enc : TypeId × Value → H) :
    ReturnsInHanded {} Try.checked os 11 .any (Rows.fnMulIsNearSpec.pre6 enc Try.prog Try.f11 Rows.fnMulIsNearRow.domain false) (Rows.fnMulIsNearSpec.post enc Try.prog Try.f11 false true false false) := by
  refine returnsInHanded_of_change (C := Try.checked) own started (by kernel_rfl) Try.func11
    (ChangeSpec.witness6 (enc := enc) (C := Try.checked) false ⟨#[], #[.bool false, .int .i64 0, .int .i64 0], []⟩ 8 (by kernel_rfl) (by kernel_rfl) (by kernel_rfl) (by kernel_rfl)) ?_
  intro W base args ds gs before hval0 hW hcnd _
  have hval : ∀ (j : Nat) t v, Try.f11.params[j]? = some t → args[j]? = some v → Value.okWide Try.prog W .any base t v := hval0
  have hW' := hW
  obtain ⟨p, q, hA0, hV, rfl, hfz, hnd⟩ := hW
  have hA : DataW.TrodAll enc Try.prog W 0 (fun _ => true) true Try.f11.params.toList args.toList ds p := hA0
  rw [Try.params11] at hA hval
  obtain ⟨v0, vs0, d0, ds0, p0, q0, hargs, rfl, rfl, h0, r0⟩ := trodAll_cons hA
  obtain ⟨v1, vs1, d1, ds1, p1, q1, rfl, rfl, rfl, h1, r1⟩ := trodAll_cons r0
  obtain ⟨v2, vs2, d2, ds2, p2, q2, rfl, rfl, rfl, h2, r2⟩ := trodAll_cons r1
  obtain ⟨rfl, rfl, rfl⟩ := trodAll_nil r2
  obtain rfl : args = #[v0, v1, v2] := by cases args; simp_all
  obtain ⟨rfl, rfl⟩ := trodVars_none hV
  obtain ⟨a0, rfl, rfl, rfl⟩ := open_bool Try.underlying4 (hval 0 4 v0 rfl rfl) h0
  obtain ⟨a1, rfl, rfl, rfl, w1⟩ := open_int Try.underlying2 (hval 1 2 v1 rfl rfl) h1
  obtain ⟨a2, rfl, rfl, rfl, w2⟩ := open_int Try.underlying2 (hval 2 2 v2 rfl rfl) h2
  clear hA0 hval0
  simp only [List.append_nil] at hW'
  refine (walk a0 a1 a2 w1 w2 W).mono fun e W' ⟨he, hg⟩ => ?_
  subst he
  exact ⟨_, rfl, post_of_same (pa := []) (pv := []) hW' (fun _ _ _ => (trodAll_cons_mk (shut_bool Try.underlying4 _) trodAll_mk0)) (fun sp _ => (trodAll_cons_mk (shut_bool Try.underlying4 _) (trodAll_cons_mk (shut_int Try.underlying2 w1) (trodAll_cons_mk (shut_int Try.underlying2 w2) trodAll_mk0)))) (fun _ _ => rfl) rfl
    (hg.frame _) hg.2.1 (ok_one (by kernel_rfl) rfl (okWide_bool_mk Try.underlying4 _))⟩

theorem over : Rows.fnMulIsNearRow.holds Try.pinned (OpenSpec.ofChange Rows.fnMulIsNearSpec) :=
  OpenClaim.holds_of_wide 11 Try.f11 rfl rfl rfl rfl rfl rfl rfl ⟨rfl, rfl, rfl, rfl, rfl⟩ rfl rfl rfl rfl rfl (by kernel_rfl) Try.func11 (by kernel_rfl)
    (of_decide_eq_true (by kernel_rfl)) (by unfold Func.isWrapper; first | (rw [if_pos (by decide +kernel)]; kernel_rfl) | (rw [if_neg (by decide +kernel)]; exact ⟨rfl, rfl⟩))
    (fun os started H enc _ => lifted os started H enc)

/-- The statement. -/
theorem proved : Rows.FnMulIsNearSaid :=
  over
#print axioms proved
end Go.Proofs.Ytiebbonpimmljaa.fnMulIsNear
