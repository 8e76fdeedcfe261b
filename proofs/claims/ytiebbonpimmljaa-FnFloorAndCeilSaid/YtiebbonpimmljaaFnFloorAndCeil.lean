/- FnFloorAndCeil: Ceil is Floor of the opposite number, opposite; it is Floor or one more; and Round is one of the two.
   The law returns true for every input, and nothing that was in memory turns. No condition. -/
import Derived.Test.YtiebbonpimmljaaFloors
import Derived.Test.YtiebbonpimmljaaMath2
import Derived.WalkKit
import Derived.ProofKit
import Derived.OpenShut
namespace Go.Proofs.Ytiebbonpimmljaa.fnFloorAndCeil
open Go.ChangeShapes Go.WideShapes Go.ChangeAt Go.RowKit
set_option linter.unusedVariables false

theorem own : ownKnob Try.prog.godebug = none := by kernel_rfl

theorem walk (a0 : Bool) (a1 : Int) (w1 : (Lit.int .i64 a1).wf = true) (w : World) :
    Calls Try.prog 6 #[.bool a0, .int .i64 a1] w fun e w' => e = .returned (.bool true) ∧ Grown w w' := by
  have h := i64_of_wf w1
  obtain ⟨y, hy⟩ : ∃ y, wrap64 (-a1) = y := ⟨_, rfl⟩
  have h' : I64 y := by have := wrap64_bd (-a1); unfold I64; omega
  have h1 : I64 1 := by unfold I64; omega
  cases hw : wholeB a0 a1
  · go_enter Try.func6, Try.ntmps6
    go_wp2_with (go_at_call 13; refine (whole_any _ _ _).mono ?_; rintro e w' ⟨rfl, rfl⟩)
    go_ret
    exact ⟨rfl, Grown.refl _⟩
  cases hv : wholeB a0 y
  · go_enter Try.func6, Try.ntmps6
    go_wp2_with (go_at_call 13; refine (whole_any _ _ _).mono ?_; rintro e w' ⟨rfl, rfl⟩)
    go_ret
    exact ⟨rfl, Grown.refl _⟩
  by_cases hn : cutZ a0 a1 = cutZ a0 y → cutZ a0 a1 = 0
  · obtain ⟨g1, g2, g3⟩ := both_law a0 a1 y h hy hw hv hn
    have g4 := ceil_one a0
    have b1 := floorZ_bd a0 a1 h
    obtain ⟨A, hA⟩ : ∃ A, floorZ a0 a1 = A := ⟨_, rfl⟩
    obtain ⟨F, hF⟩ : ∃ F, floorZ a0 y = F := ⟨_, rfl⟩
    obtain ⟨C, hC⟩ : ∃ C, ceilZ a0 a1 = C := ⟨_, rfl⟩
    obtain ⟨R, hR⟩ : ∃ R, roundZ a0 a1 = R := ⟨_, rfl⟩
    rw [hA, hC, hR] at g3
    rw [hA, hC] at g2
    rw [hC, hF] at g1
    rw [hA] at b1
    obtain rfl : F = -C := by omega
    clear g1
    by_cases ht : cutZ a0 a1 = cutZ a0 y
    · have ht2 := hn ht
      have e1 : (cutZ a0 a1 == cutZ a0 y) = true := by simpa using ht
      have e2 : (cutZ a0 a1 != 0) = false := by simpa using ht2
      clear ht ht2 hn
      rcases g2 with rfl | rfl <;> rcases g3 with rfl | rfl
      all_goals
        go_enter Try.func6, Try.ntmps6
        go_wp2_with (first
          | (go_at_call 13; refine (whole_any _ _ _).mono ?_; rintro e w' ⟨rfl, rfl⟩)
          | (go_at_call 16; refine (cut_any _ _ _).mono ?_; rintro e w' ⟨rfl, rfl⟩)
          | (go_at_call 14; refine (iCeil_any _ _ (by assumption) _).mono ?_; rintro e w' ⟨rfl, rfl⟩)
          | (go_at_call 20; refine (iRound_any _ _ (by assumption) _).mono ?_; rintro e w' ⟨rfl, rfl⟩)
          | (go_at_call 18; refine (iFloor_any _ _ (by assumption) _).mono ?_; rintro e w' ⟨rfl, rfl⟩))
        go_ret
        exact ⟨rfl, Grown.refl _⟩
    · have e1 : (cutZ a0 a1 == cutZ a0 y) = false := by simpa using ht
      clear ht hn
      rcases g2 with rfl | rfl <;> rcases g3 with rfl | rfl
      all_goals
        go_enter Try.func6, Try.ntmps6
        go_wp2_with (first
          | (go_at_call 13; refine (whole_any _ _ _).mono ?_; rintro e w' ⟨rfl, rfl⟩)
          | (go_at_call 16; refine (cut_any _ _ _).mono ?_; rintro e w' ⟨rfl, rfl⟩)
          | (go_at_call 14; refine (iCeil_any _ _ (by assumption) _).mono ?_; rintro e w' ⟨rfl, rfl⟩)
          | (go_at_call 20; refine (iRound_any _ _ (by assumption) _).mono ?_; rintro e w' ⟨rfl, rfl⟩)
          | (go_at_call 18; refine (iFloor_any _ _ (by assumption) _).mono ?_; rintro e w' ⟨rfl, rfl⟩))
        go_ret
        exact ⟨rfl, Grown.refl _⟩
  · have ht : cutZ a0 a1 = cutZ a0 y ∧ ¬ cutZ a0 a1 = 0 := by simpa using hn
    have e1 : (cutZ a0 a1 == cutZ a0 y) = true := by simpa using ht.1
    have e2 : (cutZ a0 a1 != 0) = true := by simpa using ht.2
    clear ht hn
    go_enter Try.func6, Try.ntmps6
    go_wp2_with (first
      | (go_at_call 13; refine (whole_any _ _ _).mono ?_; rintro e w' ⟨rfl, rfl⟩)
      | (go_at_call 16; refine (cut_any _ _ _).mono ?_; rintro e w' ⟨rfl, rfl⟩))
    go_ret
    exact ⟨rfl, Grown.refl _⟩

set_option maxRecDepth 100000 in
theorem lifted (os : Os) (started : os.Started) (H : Type) (enc : TypeId × Value → H) :
    ReturnsInHanded {} Try.checked os 6 .any (Rows.fnFloorAndCeilSpec.pre6 enc Try.prog Try.f6 Rows.fnFloorAndCeilRow.domain false) (Rows.fnFloorAndCeilSpec.post enc Try.prog Try.f6 false true false false) := by
  refine returnsInHanded_of_change (C := Try.checked) own started (by kernel_rfl) Try.func6
    (ChangeSpec.witness6 (enc := enc) (C := Try.checked) false ⟨#[], #[.bool false, .int .i64 0], []⟩ 8 (by kernel_rfl) (by kernel_rfl) (by kernel_rfl) (by kernel_rfl)) ?_
  intro W base args ds gs before hval0 hW hcnd _
  have hval : ∀ (j : Nat) t v, Try.f6.params[j]? = some t → args[j]? = some v → Value.okWide Try.prog W .any base t v := hval0
  have hW' := hW
  obtain ⟨p, q, hA0, hV, rfl, hfz, hnd⟩ := hW
  have hA : DataW.TrodAll enc Try.prog W 0 (fun _ => true) true Try.f6.params.toList args.toList ds p := hA0
  rw [Try.params6] at hA hval
  obtain ⟨v0, vs0, d0, ds0, p0, q0, hargs, rfl, rfl, h0, r0⟩ := trodAll_cons hA
  obtain ⟨v1, vs1, d1, ds1, p1, q1, rfl, rfl, rfl, h1, r1⟩ := trodAll_cons r0
  obtain ⟨rfl, rfl, rfl⟩ := trodAll_nil r1
  obtain rfl : args = #[v0, v1] := by cases args; simp_all
  obtain ⟨rfl, rfl⟩ := trodVars_none hV
  obtain ⟨a0, rfl, rfl, rfl⟩ := open_bool Try.underlying4 (hval 0 4 v0 rfl rfl) h0
  obtain ⟨a1, rfl, rfl, rfl, w1⟩ := open_int Try.underlying2 (hval 1 2 v1 rfl rfl) h1
  clear hA0 hval0
  simp only [List.append_nil] at hW'
  refine (walk a0 a1 w1 W).mono fun e W' ⟨he, hg⟩ => ?_
  subst he
  exact ⟨_, rfl, post_of_same (pa := []) (pv := []) hW' (fun _ _ _ => (trodAll_cons_mk (shut_bool Try.underlying4 _) trodAll_mk0)) (fun sp _ => (trodAll_cons_mk (shut_bool Try.underlying4 _) (trodAll_cons_mk (shut_int Try.underlying2 w1) trodAll_mk0))) (fun _ _ => rfl) rfl
    (hg.frame _) hg.2.1 (ok_one (by kernel_rfl) rfl (okWide_bool_mk Try.underlying4 _))⟩

theorem over : Rows.fnFloorAndCeilRow.holds Try.pinned (OpenSpec.ofChange Rows.fnFloorAndCeilSpec) :=
  OpenClaim.holds_of_wide 6 Try.f6 rfl rfl rfl rfl rfl rfl rfl ⟨rfl, rfl, rfl, rfl, rfl⟩ rfl rfl rfl rfl rfl (by kernel_rfl) Try.func6 (by kernel_rfl)
    (of_decide_eq_true (by kernel_rfl)) (by unfold Func.isWrapper; first | (rw [if_pos (by decide +kernel)]; kernel_rfl) | (rw [if_neg (by decide +kernel)]; exact ⟨rfl, rfl⟩))
    (fun os started H enc _ => lifted os started H enc)

/-- The statement. -/
theorem proved : Rows.FnFloorAndCeilSaid :=
  over
#print axioms proved
end Go.Proofs.Ytiebbonpimmljaa.fnFloorAndCeil
