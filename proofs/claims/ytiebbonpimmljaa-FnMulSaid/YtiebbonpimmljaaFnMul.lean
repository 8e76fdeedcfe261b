/- FnMul: the product of two numbers, if it is one of this size, is the nearest one; of two the greater one.
   The law returns true for every input, and nothing that was in memory turns. No condition. -/
import Derived.Test.YtiebbonpimmljaaSMul
import Derived.Test.YtiebbonpimmljaaMul
import Derived.WalkKit
import Derived.ProofKit
import Derived.OpenShut
namespace Go.Proofs.Ytiebbonpimmljaa.fnMul
open Go.ChangeShapes Go.WideShapes Go.ChangeAt Go.RowKit
set_option linter.unusedVariables false

theorem own : ownKnob Try.prog.godebug = none := by kernel_rfl

theorem keepN {B : Nat} {a w : World} (h : Below B a w) (n : Nat) : Below B a (w.drewN n) := ⟨h.os, h.tape, h.output, h.size, h.block⟩
set_option maxHeartbeats 1000000 in
theorem walk (a0 : Bool) (a1 a2 : Int) (w1 : (Lit.int .i64 a1).wf = true) (w2 : (Lit.int .i64 a2).wf = true) (w : World) :
    Calls Try.prog 9 #[.bool a0, .int .i64 a1, .int .i64 a2] w fun e w' => e = .returned (.bool true) ∧ Below w.heap.size w w' := by
  have h1 := i64_of_wf w1
  have h2 := i64_of_wf w2
  clear w1 w2
  have c1 := cutZ_i64 a0 a1 h1
  have c2 := cutZ_i64 a0 a2 h2
  have nm := near_mul a0 a1 a2
  replace nm := Lib.hid nm
  go_enter Try.func9, Try.ntmps9
  go_wp2_with (first
    | (go_at_call 17; (with_reducible refine (part_any _ _).mono ?_); rintro e w' ⟨rfl, rfl⟩)
    | (go_at_call 16; (with_reducible refine (cut_any _ _ _).mono ?_); rintro e w' ⟨rfl, rfl⟩))
  refine (specMul_any a0 _ _ c1 c2 _).mono ?_
  rintro e w' ⟨z, ok, rfl, hz, hn, n, rfl⟩
  replace hn := Lib.hid hn
  cases ok
  · go_wp2_with (first
      | (go_at_call 16; (with_reducible refine (cut_any _ _ _).mono ?_); rintro e w' ⟨rfl, rfl⟩))
    go_ret
    exact ⟨rfl, keepN (Below.refl _ _) _⟩
  · by_cases hc : z = cutZ a0 z
    · have hm := nm.out z (hn.out rfl) hz hc
      have e1 : (z != cutZ a0 z) = false := by simpa using hc
      clear hc
      go_wp2_with (first
        | (go_at_call 16; (with_reducible refine (cut_any _ _ _).mono ?_); rintro e w' ⟨rfl, rfl⟩)
        | (go_at_call 24; (with_reducible refine (iMul_any _ _ _ h1 h2 _).mono ?_); rintro e w' ⟨rfl, rfl⟩))
      go_ret
      exact ⟨rfl, keepN (Below.refl _ _) _⟩
    · have e1 : (z != cutZ a0 z) = true := by simpa using hc
      clear hc
      go_wp2_with (first
        | (go_at_call 16; (with_reducible refine (cut_any _ _ _).mono ?_); rintro e w' ⟨rfl, rfl⟩))
      go_ret
      exact ⟨rfl, keepN (Below.refl _ _) _⟩

set_option maxRecDepth 100000 in
theorem lifted (os : Os) (started : os.Started) (H : Type) (enc : TypeId × Value → H) :
    ReturnsInHanded {} Try.checked os 9 .any (Rows.fnMulSpec.pre6 enc Try.prog Try.f9 Rows.fnMulRow.domain false) (Rows.fnMulSpec.post enc Try.prog Try.f9 false true false false) := by
  refine returnsInHanded_of_change (C := Try.checked) own started (by kernel_rfl) Try.func9
    (ChangeSpec.witness6 (enc := enc) (C := Try.checked) false ⟨#[], #[.bool false, .int .i64 0, .int .i64 0], []⟩ 8 (by kernel_rfl) (by kernel_rfl) (by kernel_rfl) (by kernel_rfl)) ?_
  intro W base args ds gs before hval0 hW hcnd _
  have hval : ∀ (j : Nat) t v, Try.f9.params[j]? = some t → args[j]? = some v → Value.okWide Try.prog W .any base t v := hval0
  have hW' := hW
  obtain ⟨p, q, hA0, hV, rfl, hfz, hnd⟩ := hW
  have hA : DataW.TrodAll enc Try.prog W 0 (fun _ => true) true Try.f9.params.toList args.toList ds p := hA0
  rw [Try.params9] at hA hval
  obtain ⟨v0, vs0, d0, ds0, p0, q0, hargs, rfl, rfl, h0, r0⟩ := trodAll_cons hA
  obtain ⟨v1, vs1, d1, ds1, p1, q1, rfl, rfl, rfl, h1, r1⟩ := trodAll_cons r0
  obtain ⟨v2, vs2, d2, ds2, p2, q2, rfl, rfl, rfl, h2, r2⟩ := trodAll_cons r1
  obtain ⟨rfl, rfl, rfl⟩ := trodAll_nil r2
  obtain rfl : args = #[v0, v1, v2] := by cases args; simp_all
  obtain ⟨rfl, rfl⟩ := trodVars_none hV
  obtain ⟨a0, rfl, rfl, rfl⟩ := open_bool Try.underlying4 (hval 0 4 v0 rfl rfl) h0
  obtain ⟨a1, rfl, rfl, rfl, w1⟩ := open_int Try.underlying2 (hval 1 2 v1 rfl rfl) h1
  obtain ⟨a2, rfl, rfl, rfl, w2⟩ := open_int Try.underlying2 (hval 2 2 v2 rfl rfl) h2
  clear hA0 hval0
  refine (walk a0 a1 a2 w1 w2 W).mono fun e W' ⟨he, bel⟩ => ?_
  subst he
  exact ⟨_, rfl, _, _, _, [], _, [], hW', trodAll_mk1 (shut_bool Try.underlying4 _), (trodAll_cons_mk (shut_bool Try.underlying4 _) (trodAll_cons_mk (shut_int Try.underlying2 w1) (trodAll_cons_mk (shut_int Try.underlying2 w2) trodAll_mk0))), rfl, bel.frame _, fun h => by cases h⟩

theorem over : Rows.fnMulRow.holds Try.pinned (OpenSpec.ofChange Rows.fnMulSpec) :=
  OpenClaim.holds_of_wide 9 Try.f9 rfl rfl rfl rfl rfl rfl rfl ⟨rfl, rfl, rfl, rfl, rfl⟩ rfl rfl rfl rfl rfl (by kernel_rfl) Try.func9 (by kernel_rfl)
    (of_decide_eq_true (by kernel_rfl)) (by unfold Func.isWrapper; first | (rw [if_pos (by decide +kernel)]; kernel_rfl) | (rw [if_neg (by decide +kernel)]; exact ⟨rfl, rfl⟩))
    (fun os started H enc _ => lifted os started H enc)

/-- The statement. -/
theorem proved : Rows.FnMulSaid :=
  over
#print axioms proved
end Go.Proofs.Ytiebbonpimmljaa.fnMul
