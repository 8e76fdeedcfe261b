/- FnOrdered: a greater number has no smaller Floor, Round, Ceil.
   The law returns true for every input, and nothing that was in memory turns. No condition. -/
import Derived.Test.YtiebbonpimmljaaFloors
import Derived.Test.YtiebbonpimmljaaMath2
import Derived.WalkKit
import Derived.ProofKit
import Derived.OpenShut
namespace Go.Proofs.Ytiebbonpimmljaa.fnOrdered
open Go.ChangeShapes Go.WideShapes Go.ChangeAt Go.RowKit
set_option linter.unusedVariables false

theorem own : ownKnob Try.prog.godebug = none := by kernel_rfl

theorem core (b : Bool) (x y X Y : Int) (hx : I64 x) (hy : I64 y) (h : I64 X) (h' : I64 Y) (cx : cutZ b X = X) (cy : cutZ b Y = Y) (hle : X ≤ Y)
    (hs : (cutZ b x = X ∧ cutZ b y = Y) ∨ (cutZ b x = Y ∧ cutZ b y = X ∧ X < Y)) (w : World) :
    Calls Try.prog 7 #[.bool b, .int .i64 x, .int .i64 y] w fun e w' => e = .returned (.bool true) ∧ Grown w w' := by
  have h1 : I64 1 := by unfold I64; omega
  have hle' : cutZ b X ≤ cutZ b Y := by rw [cx, cy]; exact hle
  cases hv : wholeB b Y
  · rcases hs with ⟨s1, s2⟩ | ⟨s1, s2, s3⟩
    all_goals
      clear cx cy hle'
      go_enter Try.func7, Try.ntmps7
      go_wp2_with (first
        | (go_at_call 13; refine (whole_any _ _ _).mono ?_; rintro e w' ⟨rfl, rfl⟩)
        | (go_at_call 16; refine (cut_any _ _ _).mono ?_; rintro e w' ⟨rfl, rfl⟩))
      go_ret
      exact ⟨rfl, Grown.refl _⟩
  · have hw := whole_down b X Y hle' hv
    have g1 := floor_up b X Y hle'
    have g2 := round_up b X Y h h' hle' hw hv
    have g3 := ceil_up b X Y h h' hle' hw hv
    have g4 := ceil_one b
    obtain ⟨A, hA⟩ : ∃ A, floorZ b X = A := ⟨_, rfl⟩
    obtain ⟨A', hA'⟩ : ∃ A, floorZ b Y = A := ⟨_, rfl⟩
    obtain ⟨C, hC⟩ : ∃ C, ceilZ b X = C := ⟨_, rfl⟩
    obtain ⟨C', hC'⟩ : ∃ C, ceilZ b Y = C := ⟨_, rfl⟩
    obtain ⟨R, hR⟩ : ∃ R, roundZ b X = R := ⟨_, rfl⟩
    obtain ⟨R', hR'⟩ : ∃ R, roundZ b Y = R := ⟨_, rfl⟩
    rw [hA, hA'] at g1
    rw [hR, hR'] at g2
    rw [hC, hC'] at g3
    clear hle' hw cx cy
    rcases hs with ⟨s1, s2⟩ | ⟨s1, s2, s3⟩
    all_goals
      go_enter Try.func7, Try.ntmps7
      go_wp2_with (first
        | (go_at_call 13; refine (whole_any _ _ _).mono ?_; rintro e w' ⟨rfl, rfl⟩)
        | (go_at_call 16; refine (cut_any _ _ _).mono ?_; rintro e w' ⟨rfl, rfl⟩)
        | (go_at_call 14; refine (iCeil_any _ _ (by assumption) _).mono ?_; rintro e w' ⟨rfl, rfl⟩)
        | (go_at_call 20; refine (iRound_any _ _ (by assumption) _).mono ?_; rintro e w' ⟨rfl, rfl⟩)
        | (go_at_call 18; refine (iFloor_any _ _ (by assumption) _).mono ?_; rintro e w' ⟨rfl, rfl⟩))
      go_ret
      exact ⟨rfl, Grown.refl _⟩
theorem walk (a0 : Bool) (a1 a2 : Int) (w1 : (Lit.int .i64 a1).wf = true) (w2 : (Lit.int .i64 a2).wf = true) (w : World) :
    Calls Try.prog 7 #[.bool a0, .int .i64 a1, .int .i64 a2] w fun e w' => e = .returned (.bool true) ∧ Grown w w' := by
  have h := i64_of_wf w1
  have h' := i64_of_wf w2
  by_cases hc : cutZ a0 a1 ≤ cutZ a0 a2
  · exact core a0 a1 a2 _ _ h h' (cutZ_i64 a0 a1 h) (cutZ_i64 a0 a2 h') (cutZ_cut _ _) (cutZ_cut _ _) hc (Or.inl ⟨rfl, rfl⟩) w
  · exact core a0 a1 a2 _ _ h h' (cutZ_i64 a0 a2 h') (cutZ_i64 a0 a1 h) (cutZ_cut _ _) (cutZ_cut _ _) (by omega) (Or.inr ⟨rfl, rfl, by omega⟩) w

set_option maxRecDepth 100000 in
theorem lifted (os : Os) (started : os.Started) (H : Type) (enc : TypeId × Value → H) :
    ReturnsInHanded {} Try.checked os 7 .any (Rows.fnOrderedSpec.pre6 enc Try.prog Try.f7 Rows.fnOrderedRow.domain false) (Rows.fnOrderedSpec.post enc Try.prog Try.f7 false true false false) := by
  refine returnsInHanded_of_change (C := Try.checked) own started (by kernel_rfl) Try.func7
    (ChangeSpec.witness6 (enc := enc) (C := Try.checked) false ⟨#[], #[.bool false, .int .i64 0, .int .i64 0], []⟩ 8 (by kernel_rfl) (by kernel_rfl) (by kernel_rfl) (by kernel_rfl)) ?_
  intro W base args ds gs before hval0 hW hcnd _
  have hval : ∀ (j : Nat) t v, Try.f7.params[j]? = some t → args[j]? = some v → Value.okWide Try.prog W .any base t v := hval0
  have hW' := hW
  obtain ⟨p, q, hA0, hV, rfl, hfz, hnd⟩ := hW
  have hA : DataW.TrodAll enc Try.prog W 0 (fun _ => true) true Try.f7.params.toList args.toList ds p := hA0
  rw [Try.params7] at hA hval
  obtain ⟨v0, vs0, d0, ds0, p0, q0, hargs, rfl, rfl, h0, r0⟩ := trodAll_cons hA
  obtain ⟨v1, vs1, d1, ds1, p1, q1, rfl, rfl, rfl, h1, r1⟩ := trodAll_cons r0
  obtain ⟨v2, vs2, d2, ds2, p2, q2, rfl, rfl, rfl, h2, r2⟩ := trodAll_cons r1
  obtain ⟨rfl, rfl, rfl⟩ := trodAll_nil r2
  obtain rfl : args = #[v0, v1, v2] := by cases args; simp_all
  obtain ⟨rfl, rfl⟩ := trodVars_none hV
  obtain ⟨a0, rfl, rfl, rfl⟩ := open_bool Try.underlying4 (hval 0 4 v0 rfl rfl) h0
  obtain ⟨a1, rfl, rfl, rfl, w1⟩ := open_int Try.underlying2 (hval 1 2 v1 rfl rfl) h1
  obtain ⟨a2, rfl, rfl, rfl, w2⟩ := open_int Try.underlying2 (hval 2 2 v2 rfl rfl) h2
  clear hA0 hval0
  simp only [List.append_nil] at hW'
  refine (walk a0 a1 a2 w1 w2 W).mono fun e W' ⟨he, hg⟩ => ?_
  subst he
  exact ⟨_, rfl, post_of_same (pa := []) (pv := []) hW' (fun _ _ _ => (trodAll_cons_mk (shut_bool Try.underlying4 _) trodAll_mk0)) (fun sp _ => (trodAll_cons_mk (shut_bool Try.underlying4 _) (trodAll_cons_mk (shut_int Try.underlying2 w1) (trodAll_cons_mk (shut_int Try.underlying2 w2) trodAll_mk0)))) (fun _ _ => rfl) rfl
    (hg.frame _) hg.2.1 (ok_one (by kernel_rfl) rfl (okWide_bool_mk Try.underlying4 _))⟩

theorem over : Rows.fnOrderedRow.holds Try.pinned (OpenSpec.ofChange Rows.fnOrderedSpec) :=
  OpenClaim.holds_of_wide 7 Try.f7 rfl rfl rfl rfl rfl rfl rfl ⟨rfl, rfl, rfl, rfl, rfl⟩ rfl rfl rfl rfl rfl (by kernel_rfl) Try.func7 (by kernel_rfl)
    (of_decide_eq_true (by kernel_rfl)) (by unfold Func.isWrapper; first | (rw [if_pos (by decide +kernel)]; kernel_rfl) | (rw [if_neg (by decide +kernel)]; exact ⟨rfl, rfl⟩))
    (fun os started H enc _ => lifted os started H enc)

/-- The statement. -/
theorem proved : Rows.FnOrderedSaid :=
  over
#print axioms proved
end Go.Proofs.Ytiebbonpimmljaa.fnOrdered
