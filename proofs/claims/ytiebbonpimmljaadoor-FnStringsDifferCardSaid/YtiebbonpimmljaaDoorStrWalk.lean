/- What the two laws on String come to: true, for every input, where the library's table of powers of ten reads as it is laid. -/
import Derived.Test.YtiebbonpimmljaaDoorSpecStr
import Derived.Test.YtiebbonpimmljaaDoorInj
namespace Go.Proofs.YtiebbonpimmljaaDoor
open Go.RowKit
set_option maxHeartbeats 1000000 in
theorem string_walk (a0 : Bool) (a1 : Int) (h : I64 a1) (w : World) (ht : TabOk w) :
    Calls Tryd.prog 3 #[.bool a0, .int .i64 a1] w fun e w' => e = .returned (.bool true) ∧ Below w.heap.size w w' := by
  have hc := cutZ_i64 a0 a1 h
  go_enter Tryd.func3, Tryd.ntmps3
  go_wp2_with fail
  refine (iString_any _ _ h _ ht).mono ?_
  rintro e w1 ⟨rfl, hB⟩
  clear ht
  generalize hT : strZ a0 (cutZ a0 a1) = T
  replace hT := Lib.hid hT
  go_wp2_with (first
    | (go_at_call 8; (with_reducible refine (part_any _ _).mono ?_); rintro e w' ⟨rfl, rfl⟩)
    | (go_at_call 7; (with_reducible refine (cut_any _ _ _).mono ?_); rintro e w' ⟨rfl, rfl⟩))
  refine (sString_any a0 _ hc _).mono ?_
  rintro e w' ⟨rfl, rfl⟩
  rw [hT.out]
  go_wp2_with fail
  go_ret
  exact ⟨rfl, hB⟩
set_option maxHeartbeats 1000000 in
theorem differ_walk (a0 : Bool) (a1 a2 : Int) (h : I64 a1) (h' : I64 a2) (w : World) (ht : TabOk w) :
    Calls Tryd.prog 4 #[.bool a0, .int .i64 a1, .int .i64 a2] w fun e w' => e = .returned (.bool true) ∧ Below w.heap.size w w' := by
  have i0 : I64 0 := by unfold I64; omega
  go_enter Tryd.func4, Tryd.ntmps4
  go_wp2_with fail
  refine (iString_any _ _ h _ ht).mono ?_
  rintro e w1 ⟨rfl, hB⟩
  have ht1 := ht.below hB
  clear ht
  go_wp2_with fail
  refine (iString_any _ _ h' _ ht1).mono ?_
  rintro e w2 ⟨rfl, hB2⟩
  have ht2 := ht1.below hB2
  have hBB := keepb hB hB2
  clear ht1 hB hB2
  have hz := str_ne a0 (cutZ a0 0)
  by_cases hc : cutZ a0 a1 = cutZ a0 a2
  · rw [← hc]
    have q2 : (cutZ a0 a1 == cutZ a0 a2) = true := by simpa using hc
    clear hc
    go_wp2_with (first
      | (go_at_call 7; (with_reducible refine (cut_any _ _ _).mono ?_); rintro e w' ⟨rfl, rfl⟩))
    refine (iString_any _ _ i0 _ ht2).mono ?_
    rintro e w3 ⟨rfl, hB3⟩
    have hB4 := keepb hBB hB3
    clear hBB hB3 ht2
    generalize strZ a0 (cutZ a0 0) = Z at *
    have z1 : Z.isEmpty = false := by cases Z; exact absurd rfl hz; rfl
    go_wp2_with fail
    go_ret
    exact ⟨rfl, hB4⟩
  · have hS : strZ a0 (cutZ a0 a1) ≠ strZ a0 (cutZ a0 a2) := fun e => hc (str_inj a0 _ _ e)
    have q2 : (cutZ a0 a1 == cutZ a0 a2) = false := by simpa using hc
    generalize strZ a0 (cutZ a0 a1) = S at *
    generalize strZ a0 (cutZ a0 a2) = T at *
    have q1 : (S == T) = false := by simpa using hS
    clear hc hS
    go_wp2_with (first
      | (go_at_call 7; (with_reducible refine (cut_any _ _ _).mono ?_); rintro e w' ⟨rfl, rfl⟩))
    refine (iString_any _ _ i0 _ ht2).mono ?_
    rintro e w3 ⟨rfl, hB3⟩
    have hB4 := keepb hBB hB3
    clear hBB hB3 ht2
    generalize strZ a0 (cutZ a0 0) = Z at *
    have z1 : Z.isEmpty = false := by cases Z; exact absurd rfl hz; rfl
    go_wp2_with fail
    go_ret
    exact ⟨rfl, hB4⟩
end Go.Proofs.YtiebbonpimmljaaDoor
