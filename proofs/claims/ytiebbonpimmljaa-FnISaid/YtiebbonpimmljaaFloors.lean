/- What Floor, Ceil, Round and the reference's functions of these names come to: for every int64, nothing in memory turns. -/
import Derived.Test.YtiebbonpimmljaaNum
import Derived.Lib.Hide
namespace Go.Proofs.Ytiebbonpimmljaa
open Go.RowKit

theorem whole_any (b : Bool) (x : Int) (w : World) : Calls Try.prog 13 #[.bool b, .int .i64 x] w fun e w' => e = .returned (.bool (wholeB b x)) ∧ w = w' := by
  cases b
  · have c := cut_any false x
    rw [cutZ_f] at c
    go_enter Try.func13, Try.ntmps13
    go_wp2_with (go_at_call 16; refine (c _).mono ?_; rintro e w' ⟨rfl, rfl⟩)
    go_ret
    exact ⟨rfl, rfl⟩
  · go_enter Try.func13, Try.ntmps13
    go_wp2
    go_ret
    exact ⟨rfl, rfl⟩
theorem iCeil_any (b : Bool) (x : Int) (h : I64 x) (w : World) : Calls Try.prog 14 #[.bool b, .int .i64 x] w fun e w' => e = .returned (.int .i64 (ceilZ b x)) ∧ w = w' := by
  have hb := ceilZ_bd b x
  have hi : wrap64 (ceilZ b x) = ceilZ b x := wrap64_id ⟨by omega, by omega⟩
  obtain ⟨h1, h2⟩ := h
  cases b
  all_goals
    replace hi := Lib.hid hi
    go_enter Try.func14, Try.ntmps14
    go_wp2
    go_ret
    first | exact ⟨rfl, rfl⟩ | exact ⟨ret_int hi.out, rfl⟩
theorem iRound_any (b : Bool) (x : Int) (h : I64 x) (w : World) : Calls Try.prog 20 #[.bool b, .int .i64 x] w fun e w' => e = .returned (.int .i64 (roundZ b x)) ∧ w = w' := by
  have hb := roundZ_bd b x
  have hi : wrap64 (roundZ b x) = roundZ b x := wrap64_id ⟨by omega, by omega⟩
  obtain ⟨h1, h2⟩ := h
  cases b
  all_goals
    replace hi := Lib.hid hi
    go_enter Try.func20, Try.ntmps20
    go_wp2
    go_ret
    first | exact ⟨rfl, rfl⟩ | exact ⟨ret_int hi.out, rfl⟩
theorem iFloor_any (b : Bool) (x : Int) (h : I64 x) (w : World) : Calls Try.prog 18 #[.bool b, .int .i64 x] w fun e w' => e = .returned (.int .i64 (floorZ b x)) ∧ w = w' := by
  have hb := wrap32_bd x
  have hi : wrap64 (wrap32 (wrap32 x) / 64) = floorZ false x := by unfold floorZ; rw [cutZ_f, oneZ_f]; unfold wrap64 wrap32; omega
  obtain ⟨h1, h2⟩ := h
  cases b
  all_goals
    replace hi := Lib.hid hi
    go_enter Try.func18, Try.ntmps18
    go_wp2
    go_ret
    first | exact ⟨ret_int hi.out, rfl⟩ | exact ⟨rfl, rfl⟩
theorem sFloor_any (b : Bool) (x : Int) (h : I64 x) (w : World) : Calls Try.prog 19 #[.int .i64 x, .int .i64 (oneZ b)] w fun e w' => e = .returned (.int .i64 (sFloor b x)) ∧ w = w' := by
  obtain ⟨h1, h2⟩ := h
  cases b
  · rw [oneZ_f]
    by_cases hx : x < 0
    · obtain ⟨q, r, hq, hr, e1, e2, e3, e4⟩ := below_64 x hx
      by_cases hz : r < 0
      all_goals
        go_enter Try.func19, Try.ntmps19
        go_wp2
        go_ret
        exact ⟨ret_int (by unfold sFloor; first | (rw [oneZ_f]; done) | (rw [oneZ_f]; omega)), rfl⟩
    · by_cases hz : 0 < x % 64
      all_goals
        go_enter Try.func19, Try.ntmps19
        go_wp2
        go_ret
        exact ⟨ret_int (by unfold sFloor; first | (rw [oneZ_f]; done) | (rw [oneZ_f]; omega)), rfl⟩
  · rw [oneZ_t]
    by_cases hx : x < 0
    · obtain ⟨q, r, hq, hr, e1, e2, e3, e4⟩ := below_4096 x hx
      by_cases hz : r < 0
      all_goals
        go_enter Try.func19, Try.ntmps19
        go_wp2
        go_ret
        exact ⟨ret_int (by unfold sFloor; first | (rw [oneZ_t]; done) | (rw [oneZ_t]; omega)), rfl⟩
    · by_cases hz : 0 < x % 4096
      all_goals
        go_enter Try.func19, Try.ntmps19
        go_wp2
        go_ret
        exact ⟨ret_int (by unfold sFloor; first | (rw [oneZ_t]; done) | (rw [oneZ_t]; omega)), rfl⟩
theorem sCeil_any (b : Bool) (x : Int) (h : I64 x) (w : World) : Calls Try.prog 15 #[.int .i64 x, .int .i64 (oneZ b)] w fun e w' => e = .returned (.int .i64 (sCeil b x)) ∧ w = w' := by
  obtain ⟨h1, h2⟩ := h
  cases b
  · rw [oneZ_f]
    by_cases hx : x < 0
    · obtain ⟨q, r, hq, hr, e1, e2, e3, e4⟩ := below_64 x hx
      by_cases hz : r < 0
      all_goals
        go_enter Try.func15, Try.ntmps15
        go_wp2
        go_ret
        exact ⟨ret_int (by unfold sCeil; first | (rw [oneZ_f]; done) | (rw [oneZ_f]; omega)), rfl⟩
    · by_cases hz : 0 < x % 64
      all_goals
        go_enter Try.func15, Try.ntmps15
        go_wp2
        go_ret
        exact ⟨ret_int (by unfold sCeil; first | (rw [oneZ_f]; done) | (rw [oneZ_f]; omega)), rfl⟩
  · rw [oneZ_t]
    by_cases hx : x < 0
    · obtain ⟨q, r, hq, hr, e1, e2, e3, e4⟩ := below_4096 x hx
      by_cases hz : r < 0
      all_goals
        go_enter Try.func15, Try.ntmps15
        go_wp2
        go_ret
        exact ⟨ret_int (by unfold sCeil; first | (rw [oneZ_t]; done) | (rw [oneZ_t]; omega)), rfl⟩
    · by_cases hz : 0 < x % 4096
      all_goals
        go_enter Try.func15, Try.ntmps15
        go_wp2
        go_ret
        exact ⟨ret_int (by unfold sCeil; first | (rw [oneZ_t]; done) | (rw [oneZ_t]; omega)), rfl⟩
theorem sRound_any (b : Bool) (x : Int) (h : I64 x) (w : World) : Calls Try.prog 21 #[.int .i64 x, .int .i64 (oneZ b)] w fun e w' => e = .returned (.int .i64 (sRound b x)) ∧ w = w' := by
  have hf := sFloor_any b x h
  obtain ⟨h1, h2⟩ := h
  have hs := sFloor_bd b x ⟨h1, h2⟩
  have ht : oneZ b * sFloor b x ≤ x ∧ x < oneZ b * sFloor b x + oneZ b := by
    unfold sFloor; cases b
    · rw [oneZ_f]; omega
    · rw [oneZ_t]; omega
  have hr : sRound b x = if oneZ b ≤ 2 * (x - sFloor b x * oneZ b) then sFloor b x + 1 else sFloor b x := by
    unfold sRound sFloor; cases b
    · rw [oneZ_f]; split <;> omega
    · rw [oneZ_t]; split <;> omega
  rw [hr]
  clear hr
  generalize sFloor b x = q at *
  cases b
  · rw [oneZ_f] at hf ht ⊢
    replace hf := Lib.hid hf
    by_cases hz : 64 ≤ 2 * (x - q * 64)
    · rw [if_pos hz]
      go_enter Try.func21, Try.ntmps21
      go_wp2_with (go_at_call 19; refine (hf.out _).mono ?_; rintro e w' ⟨rfl, rfl⟩)
      go_ret
      exact ⟨rfl, rfl⟩
    · rw [if_neg hz]
      go_enter Try.func21, Try.ntmps21
      go_wp2_with (go_at_call 19; refine (hf.out _).mono ?_; rintro e w' ⟨rfl, rfl⟩)
      go_ret
      exact ⟨rfl, rfl⟩
  · rw [oneZ_t] at hf ht ⊢
    replace hf := Lib.hid hf
    by_cases hz : 4096 ≤ 2 * (x - q * 4096)
    · rw [if_pos hz]
      go_enter Try.func21, Try.ntmps21
      go_wp2_with (go_at_call 19; refine (hf.out _).mono ?_; rintro e w' ⟨rfl, rfl⟩)
      go_ret
      exact ⟨rfl, rfl⟩
    · rw [if_neg hz]
      go_enter Try.func21, Try.ntmps21
      go_wp2_with (go_at_call 19; refine (hf.out _).mono ?_; rintro e w' ⟨rfl, rfl⟩)
      go_ret
      exact ⟨rfl, rfl⟩
end Go.Proofs.Ytiebbonpimmljaa
