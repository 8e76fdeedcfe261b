/- FnMulIsCommutative: a product is the same the other way round; one, and only whole numbers of it, leave a number as it is, or times as great.
   The law returns true for every input, and nothing that was in memory turns. No condition. -/
import Derived.Test.YtiebbonpimmljaaMul
import Derived.WalkKit
import Derived.ProofKit
import Derived.OpenShut
namespace Go.Proofs.Ytiebbonpimmljaa.fnMulIsCommutative
open Go.ChangeShapes Go.WideShapes Go.ChangeAt Go.RowKit
set_option linter.unusedVariables false

theorem own : ownKnob Try.prog.godebug = none := by kernel_rfl

theorem walk (a0 : Bool) (a1 a2 a3 : Int) (w1 : (Lit.int .i64 a1).wf = true) (w2 : (Lit.int .i64 a2).wf = true) (w3 : (Lit.int .i64 a3).wf = true) (w : World) :
    Calls Try.prog 10 #[.bool a0, .int .i64 a1, .int .i64 a2, .int .i64 a3] w fun e w' => e = .returned (.bool true) ∧ Grown w w' := by
  have h1 := i64_of_wf w1
  have h2 := i64_of_wf w2
  have h3 := i64_of_wf w3
  clear w1 w2 w3
  obtain ⟨m, hm⟩ : ∃ m, mulZ a0 a1 a2 = m := ⟨_, rfl⟩
  have hm' : mulZ a0 a2 a1 = m := by rw [mulZ_comm, hm]
  have ho := mulZ_one a0 a1 h1
  have hI : I64 (oneZ a0) := by have := oneZ_bd a0; unfold I64; omega
  by_cases c1 : 1000 < a3
  · go_enter Try.func10, Try.ntmps10
    go_wp2_with (first
      | (go_at_call 17; refine (part_any _ _).mono ?_; rintro e w' ⟨rfl, rfl⟩)
      | (go_at_call 16; refine (cut_any _ _ _).mono ?_; rintro e w' ⟨rfl, rfl⟩)
      | (go_at_call 24; (with_reducible refine (iMul_any _ _ _ (by assumption) (by assumption) _).mono ?_); rintro e w' ⟨rfl, rfl⟩))
    go_ret
    exact ⟨rfl, Grown.refl _⟩
  by_cases c2 : a3 < -1000
  · go_enter Try.func10, Try.ntmps10
    go_wp2_with (first
      | (go_at_call 17; refine (part_any _ _).mono ?_; rintro e w' ⟨rfl, rfl⟩)
      | (go_at_call 16; refine (cut_any _ _ _).mono ?_; rintro e w' ⟨rfl, rfl⟩)
      | (go_at_call 24; (with_reducible refine (iMul_any _ _ _ (by assumption) (by assumption) _).mono ?_); rintro e w' ⟨rfl, rfl⟩))
    go_ret
    exact ⟨rfl, Grown.refl _⟩
  by_cases c3 : 1048576 < a1
  · go_enter Try.func10, Try.ntmps10
    go_wp2_with (first
      | (go_at_call 17; refine (part_any _ _).mono ?_; rintro e w' ⟨rfl, rfl⟩)
      | (go_at_call 16; refine (cut_any _ _ _).mono ?_; rintro e w' ⟨rfl, rfl⟩)
      | (go_at_call 24; (with_reducible refine (iMul_any _ _ _ (by assumption) (by assumption) _).mono ?_); rintro e w' ⟨rfl, rfl⟩))
    go_ret
    exact ⟨rfl, Grown.refl _⟩
  by_cases c4 : a1 < -1048576
  · go_enter Try.func10, Try.ntmps10
    go_wp2_with (first
      | (go_at_call 17; refine (part_any _ _).mono ?_; rintro e w' ⟨rfl, rfl⟩)
      | (go_at_call 16; refine (cut_any _ _ _).mono ?_; rintro e w' ⟨rfl, rfl⟩)
      | (go_at_call 24; (with_reducible refine (iMul_any _ _ _ (by assumption) (by assumption) _).mono ?_); rintro e w' ⟨rfl, rfl⟩))
    go_ret
    exact ⟨rfl, Grown.refl _⟩
  have hw := mulZ_whole a0 a1 a3 (by omega) (by omega) (by omega) (by omega)
  have hp := small_mul a3 a1 1000 1048576 (by omega) (by omega) (by omega) (by omega)
  obtain ⟨p, hpp⟩ : ∃ p, a3 * a1 = p := ⟨_, rfl⟩
  rw [hpp] at hw hp
  obtain ⟨d1, d2⟩ := hp
  obtain ⟨o, hoo⟩ : ∃ o, oneZ a0 = o := ⟨_, rfl⟩
  obtain ⟨q, hq⟩ : ∃ q, o * a3 = q := ⟨_, rfl⟩
  have hob := oneZ_bd a0
  rw [hoo] at hw ho hI hob
  have hqb := small_mul o a3 4096 1000 (by omega) (by omega) (by omega) (by omega)
  rw [hq] at hw hqb
  obtain ⟨d3, d4⟩ := hqb
  have hIq : I64 q := by unfold I64; omega
  go_enter Try.func10, Try.ntmps10
  go_wp2_with (first
    | (go_at_call 17; refine (part_any _ _).mono ?_; rintro e w' ⟨rfl, rfl⟩)
    | (go_at_call 16; refine (cut_any _ _ _).mono ?_; rintro e w' ⟨rfl, rfl⟩)
    | (go_at_call 24; (with_reducible refine (iMul_any _ _ _ (by assumption) (by assumption) _).mono ?_); rintro e w' ⟨rfl, rfl⟩))
  go_ret
  exact ⟨rfl, Grown.refl _⟩

set_option maxRecDepth 100000 in
theorem lifted (os : Os) (started : os.Started) (H : Type) (enc : TypeId × Value → H) :
    ReturnsInHanded {} Try.checked os 10 .any (Rows.fnMulIsCommutativeSpec.pre6 enc Try.prog Try.f10 Rows.fnMulIsCommutativeRow.domain false) (Rows.fnMulIsCommutativeSpec.post enc Try.prog Try.f10 false true false false) := by
  refine returnsInHanded_of_change (C := Try.checked) own started (by kernel_rfl) Try.func10
    (ChangeSpec.witness6 (enc := enc) (C := Try.checked) false ⟨#[], #[.bool false, .int .i64 0, .int .i64 0, .int .i64 0], []⟩ 8 (by kernel_rfl) (by kernel_rfl) (by kernel_rfl) (by kernel_rfl)) ?_
  intro W base args ds gs before hval0 hW hcnd _
  have hval : ∀ (j : Nat) t v, Try.f10.params[j]? = some t → args[j]? = some v → Value.okWide Try.prog W .any base t v := hval0
  have hW' := hW
  obtain ⟨p, q, hA0, hV, rfl, hfz, hnd⟩ := hW
  have hA : DataW.TrodAll enc Try.prog W 0 (fun _ => true) true Try.f10.params.toList args.toList ds p := hA0
  rw [Try.params10] at hA hval
  obtain ⟨v0, vs0, d0, ds0, p0, q0, hargs, rfl, rfl, h0, r0⟩ := trodAll_cons hA
  obtain ⟨v1, vs1, d1, ds1, p1, q1, rfl, rfl, rfl, h1, r1⟩ := trodAll_cons r0
  obtain ⟨v2, vs2, d2, ds2, p2, q2, rfl, rfl, rfl, h2, r2⟩ := trodAll_cons r1
  obtain ⟨v3, vs3, d3, ds3, p3, q3, rfl, rfl, rfl, h3, r3⟩ := trodAll_cons r2
  obtain ⟨rfl, rfl, rfl⟩ := trodAll_nil r3
  obtain rfl : args = #[v0, v1, v2, v3] := by cases args; simp_all
  obtain ⟨rfl, rfl⟩ := trodVars_none hV
  obtain ⟨a0, rfl, rfl, rfl⟩ := open_bool Try.underlying4 (hval 0 4 v0 rfl rfl) h0
  obtain ⟨a1, rfl, rfl, rfl, w1⟩ := open_int Try.underlying2 (hval 1 2 v1 rfl rfl) h1
  obtain ⟨a2, rfl, rfl, rfl, w2⟩ := open_int Try.underlying2 (hval 2 2 v2 rfl rfl) h2
  obtain ⟨a3, rfl, rfl, rfl, w3⟩ := open_int Try.underlying3 (hval 3 3 v3 rfl rfl) h3
  clear hA0 hval0
  simp only [List.append_nil] at hW'
  refine (walk a0 a1 a2 a3 w1 w2 w3 W).mono fun e W' ⟨he, hg⟩ => ?_
  subst he
  exact ⟨_, rfl, post_of_same (pa := []) (pv := []) hW' (fun _ _ _ => (trodAll_cons_mk (shut_bool Try.underlying4 _) trodAll_mk0)) (fun sp _ => (trodAll_cons_mk (shut_bool Try.underlying4 _) (trodAll_cons_mk (shut_int Try.underlying2 w1) (trodAll_cons_mk (shut_int Try.underlying2 w2) (trodAll_cons_mk (shut_int Try.underlying3 w3) trodAll_mk0))))) (fun _ _ => rfl) rfl
    (hg.frame _) hg.2.1 (ok_one (by kernel_rfl) rfl (okWide_bool_mk Try.underlying4 _))⟩

theorem over : Rows.fnMulIsCommutativeRow.holds Try.pinned (OpenSpec.ofChange Rows.fnMulIsCommutativeSpec) :=
  OpenClaim.holds_of_wide 10 Try.f10 rfl rfl rfl rfl rfl rfl rfl ⟨rfl, rfl, rfl, rfl, rfl⟩ rfl rfl rfl rfl rfl (by kernel_rfl) Try.func10 (by kernel_rfl)
    (of_decide_eq_true (by kernel_rfl)) (by unfold Func.isWrapper; first | (rw [if_pos (by decide +kernel)]; kernel_rfl) | (rw [if_neg (by decide +kernel)]; exact ⟨rfl, rfl⟩))
    (fun os started H enc _ => lifted os started H enc)

/-- The statement. -/
theorem proved : Rows.FnMulIsCommutativeSaid :=
  over
#print axioms proved
end Go.Proofs.Ytiebbonpimmljaa.fnMulIsCommutative
