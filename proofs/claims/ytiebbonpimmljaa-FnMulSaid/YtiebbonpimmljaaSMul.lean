/- What the reference's Size and Mul come to: for any two int64; where Mul says yes its number is the nearest one. Nothing in memory turns. -/
import Derived.Test.YtiebbonpimmljaaProd
import Derived.Test.YtiebbonpimmljaaMathQ
import Derived.Deep.QuietTactic
import Derived.BigQuiet
namespace Go.Proofs.Ytiebbonpimmljaa
open Go.RowKit

theorem size_any (x : Int) (h : I64 x) (w : World) : Calls Try.prog 36 #[.int .i64 x] w fun e w' => e = .returned (.int .u64 (absZ x)) ∧ w = w' := by
  by_cases hx : x < 0
  · have k := Lib.hid (size_neg x h hx)
    go_enter Try.func36, Try.ntmps36
    go_wp2
    go_ret
    exact ⟨ret_int k.out, rfl⟩
  · have k := Lib.hid (size_pos x h hx)
    go_enter Try.func36, Try.ntmps36
    go_wp2
    go_ret
    exact ⟨ret_int k.out, rfl⟩
theorem ret_ib {k : IntKind} {a b : Int} {c d : Bool} (h : a = b) (h' : c = d) : Ending.returned (.tuple #[.int k a, .bool c]) = .returned (.tuple #[.int k b, .bool d]) := by rw [h, h']
def SpecMul (b : Bool) (X Y : Int) (w : World) (e : Ending) (w' : World) : Prop :=
  ∃ (z : Int) (ok : Bool), e = .returned (.tuple #[.int .i64 z, .bool ok]) ∧ I64 z ∧ (ok = true → z = nearZ b (X * Y)) ∧ ∃ n, w' = w.drewN n
set_option maxHeartbeats 4000000 in
theorem specMul_f (X Y : Int) (hX : I64 X) (hY : I64 Y) (w : World) : Calls Try.prog 23 #[.int .i64 X, .int .i64 Y, .int .i64 64] w (SpecMul false X Y w) := by
  have aX := absZ_bd X hX
  have aY := absZ_bd Y hY
  have hP := abs_prod X Y hX hY
  have hsame := abs_same X Y
  have hoth := abs_other X Y
  obtain ⟨aX1, aX2⟩ := aX
  obtain ⟨aY1, aY2⟩ := aY
  obtain ⟨x, ex⟩ : ∃ x, absZ X = x := ⟨_, rfl⟩
  obtain ⟨y, ey⟩ : ∃ y, absZ Y = y := ⟨_, rfl⟩
  rw [ex] at aX1 aX2
  rw [ey] at aY1 aY2
  rw [ex, ey] at hP hsame hoth
  replace hsame := Lib.hid hsame
  replace hoth := Lib.hid hoth
  replace hP := Lib.hid hP
  go_enter Try.func23, Try.ntmps23
  go_wp2_with (go_at_call 36; (with_reducible refine (size_any _ (by assumption) _).mono ?_); rintro e w' ⟨rfl, rfl⟩)
  refine (product_any x y (by omega) (by omega) (by omega) (by omega) _).mono ?_
  rintro e w' ⟨H, L, hT, rfl, rfl⟩
  have hB := hP.out
  obtain ⟨t1, t2, t3, t4, t5⟩ := hT
  clear aX1 aX2 aY1 aY2 ex ey hP
  replace hT := Lib.hid t5
  clear t5
  obtain ⟨P, eP⟩ : ∃ P, x * y = P := ⟨_, rfl⟩
  rw [eP] at hB hT hsame hoth
  clear eP
  by_cases hbig : 16 ≤ H
  · have hq : 1 ≤ H / 16 := by omega
    clear hB
    go_wp2
    go_ret2
    exact ⟨0, false, rfl, by unfold I64; omega, (fun h => by cases h), 0, rfl⟩
  have hq0 : (H / 16 != 0) = false := by
    have : H / 16 = 0 := by omega
    rw [this]; rfl
  have hQ := or_q6 H L t1 (by omega) t3 t4
  have hR := u64_and63 L t3 t4
  obtain ⟨Q, hQv⟩ : ∃ Q, bits .or .u64 (IntKind.u64.wrap (H * 288230376151711744)) (L / 64) = Q := ⟨_, rfl⟩
  obtain ⟨R, hRv⟩ : ∃ R, bits .and .u64 L 63 = R := ⟨_, rfl⟩
  have hQv2 : bits .or .u64 (H * 288230376151711744) (L / 64) = Q := by rw [← hQv, u64w, show H * 288230376151711744 % 18446744073709551616 = H * 288230376151711744 by omega]
  rw [hQv] at hQ
  rw [hRv] at hR
  have hQ' := Lib.hid hQ
  have hR' := Lib.hid hR
  have q1 : 0 ≤ Q := by omega
  have q2 : Q ≤ 4611686018427387903 := by omega
  have r1 : 0 ≤ R := by omega
  have r2 : R < 64 := by omega
  have hB' := Lib.hid hB
  clear hQ hR hB
  by_cases g : (0 ≤ X ∧ 0 ≤ Y)
  · obtain ⟨g1, g2⟩ := g
    have d1 : decide (X < 0) = false := by simp; omega
    have d2 : decide (Y < 0) = false := by simp; omega
    have hs := Lib.hid (hsame.out (by omega))
    replace hs : Hid (X * Y = P) := hs
    by_cases c : 32 ≤ R
    · go_wp2
      go_quiet (fail)
      go_wp2
      go_ret2
      exact ⟨(Q + 1), _, rfl, by unfold I64; omega, fun _ => by rw [hs.out]; have h1 := hQ'.out; have h2 := hR'.out; have h3 := hT.out; unfold nearZ; rw [oneZ_f]; omega, _, rfl⟩
    · go_wp2
      go_quiet (fail)
      go_wp2
      go_ret2
      exact ⟨Q, _, rfl, by unfold I64; omega, fun _ => by rw [hs.out]; have h1 := hQ'.out; have h2 := hR'.out; have h3 := hT.out; unfold nearZ; rw [oneZ_f]; omega, _, rfl⟩
  by_cases g : (0 ≤ X ∧ Y < 0)
  · obtain ⟨g1, g2⟩ := g
    have d1 : decide (X < 0) = false := by simp; omega
    have d2 : decide (Y < 0) = true := by simp; omega
    have hs := Lib.hid (hoth.out (by omega))
    replace hs : Hid (X * Y = -P) := hs
    by_cases c : 32 < R
    · go_wp2
      go_quiet (fail)
      go_wp2
      go_ret2
      exact ⟨(-(Q + 1)), _, rfl, by unfold I64; omega, fun _ => by rw [hs.out]; have h1 := hQ'.out; have h2 := hR'.out; have h3 := hT.out; unfold nearZ; rw [oneZ_f]; omega, _, rfl⟩
    · go_wp2
      go_quiet (fail)
      go_wp2
      go_ret2
      exact ⟨(-Q), _, rfl, by unfold I64; omega, fun _ => by rw [hs.out]; have h1 := hQ'.out; have h2 := hR'.out; have h3 := hT.out; unfold nearZ; rw [oneZ_f]; omega, _, rfl⟩
  by_cases g : (X < 0 ∧ 0 ≤ Y)
  · obtain ⟨g1, g2⟩ := g
    have d1 : decide (X < 0) = true := by simp; omega
    have d2 : decide (Y < 0) = false := by simp; omega
    have hs := Lib.hid (hoth.out (by omega))
    replace hs : Hid (X * Y = -P) := hs
    by_cases c : 32 < R
    · go_wp2
      go_quiet (fail)
      go_wp2
      go_ret2
      exact ⟨(-(Q + 1)), _, rfl, by unfold I64; omega, fun _ => by rw [hs.out]; have h1 := hQ'.out; have h2 := hR'.out; have h3 := hT.out; unfold nearZ; rw [oneZ_f]; omega, _, rfl⟩
    · go_wp2
      go_quiet (fail)
      go_wp2
      go_ret2
      exact ⟨(-Q), _, rfl, by unfold I64; omega, fun _ => by rw [hs.out]; have h1 := hQ'.out; have h2 := hR'.out; have h3 := hT.out; unfold nearZ; rw [oneZ_f]; omega, _, rfl⟩
  by_cases g : (X < 0 ∧ Y < 0)
  · obtain ⟨g1, g2⟩ := g
    have d1 : decide (X < 0) = true := by simp; omega
    have d2 : decide (Y < 0) = true := by simp; omega
    have hs := Lib.hid (hsame.out (by omega))
    replace hs : Hid (X * Y = P) := hs
    by_cases c : 32 ≤ R
    · go_wp2
      go_quiet (fail)
      go_wp2
      go_ret2
      exact ⟨(Q + 1), _, rfl, by unfold I64; omega, fun _ => by rw [hs.out]; have h1 := hQ'.out; have h2 := hR'.out; have h3 := hT.out; unfold nearZ; rw [oneZ_f]; omega, _, rfl⟩
    · go_wp2
      go_quiet (fail)
      go_wp2
      go_ret2
      exact ⟨Q, _, rfl, by unfold I64; omega, fun _ => by rw [hs.out]; have h1 := hQ'.out; have h2 := hR'.out; have h3 := hT.out; unfold nearZ; rw [oneZ_f]; omega, _, rfl⟩
  omega
set_option maxHeartbeats 4000000 in
theorem specMul_t (X Y : Int) (hX : I64 X) (hY : I64 Y) (w : World) : Calls Try.prog 23 #[.int .i64 X, .int .i64 Y, .int .i64 4096] w (SpecMul true X Y w) := by
  have aX := absZ_bd X hX
  have aY := absZ_bd Y hY
  have hP := abs_prod X Y hX hY
  have hsame := abs_same X Y
  have hoth := abs_other X Y
  obtain ⟨aX1, aX2⟩ := aX
  obtain ⟨aY1, aY2⟩ := aY
  obtain ⟨x, ex⟩ : ∃ x, absZ X = x := ⟨_, rfl⟩
  obtain ⟨y, ey⟩ : ∃ y, absZ Y = y := ⟨_, rfl⟩
  rw [ex] at aX1 aX2
  rw [ey] at aY1 aY2
  rw [ex, ey] at hP hsame hoth
  replace hsame := Lib.hid hsame
  replace hoth := Lib.hid hoth
  replace hP := Lib.hid hP
  go_enter Try.func23, Try.ntmps23
  go_wp2_with (go_at_call 36; (with_reducible refine (size_any _ (by assumption) _).mono ?_); rintro e w' ⟨rfl, rfl⟩)
  refine (product_any x y (by omega) (by omega) (by omega) (by omega) _).mono ?_
  rintro e w' ⟨H, L, hT, rfl, rfl⟩
  have hB := hP.out
  obtain ⟨t1, t2, t3, t4, t5⟩ := hT
  clear aX1 aX2 aY1 aY2 ex ey hP
  replace hT := Lib.hid t5
  clear t5
  obtain ⟨P, eP⟩ : ∃ P, x * y = P := ⟨_, rfl⟩
  rw [eP] at hB hT hsame hoth
  clear eP
  by_cases hbig : 1024 ≤ H
  · have hq : 1 ≤ H / 1024 := by omega
    clear hB
    go_wp2
    go_ret2
    exact ⟨0, false, rfl, by unfold I64; omega, (fun h => by cases h), 0, rfl⟩
  have hq0 : (H / 1024 != 0) = false := by
    have : H / 1024 = 0 := by omega
    rw [this]; rfl
  have hQ := or_q12 H L t1 (by omega) t3 t4
  have hR := u64_and4095 L t3 t4
  obtain ⟨Q, hQv⟩ : ∃ Q, bits .or .u64 (IntKind.u64.wrap (H * 4503599627370496)) (L / 4096) = Q := ⟨_, rfl⟩
  obtain ⟨R, hRv⟩ : ∃ R, bits .and .u64 L 4095 = R := ⟨_, rfl⟩
  have hQv2 : bits .or .u64 (H * 4503599627370496) (L / 4096) = Q := by rw [← hQv, u64w, show H * 4503599627370496 % 18446744073709551616 = H * 4503599627370496 by omega]
  rw [hQv] at hQ
  rw [hRv] at hR
  have hQ' := Lib.hid hQ
  have hR' := Lib.hid hR
  have q1 : 0 ≤ Q := by omega
  have q2 : Q ≤ 4611686018427387903 := by omega
  have r1 : 0 ≤ R := by omega
  have r2 : R < 4096 := by omega
  have hB' := Lib.hid hB
  clear hQ hR hB
  by_cases g : (0 ≤ X ∧ 0 ≤ Y)
  · obtain ⟨g1, g2⟩ := g
    have d1 : decide (X < 0) = false := by simp; omega
    have d2 : decide (Y < 0) = false := by simp; omega
    have hs := Lib.hid (hsame.out (by omega))
    replace hs : Hid (X * Y = P) := hs
    by_cases c : 2048 ≤ R
    · go_wp2
      go_quiet (fail)
      go_wp2
      go_ret2
      exact ⟨(Q + 1), _, rfl, by unfold I64; omega, fun _ => by rw [hs.out]; have h1 := hQ'.out; have h2 := hR'.out; have h3 := hT.out; unfold nearZ; rw [oneZ_t]; omega, _, rfl⟩
    · go_wp2
      go_quiet (fail)
      go_wp2
      go_ret2
      exact ⟨Q, _, rfl, by unfold I64; omega, fun _ => by rw [hs.out]; have h1 := hQ'.out; have h2 := hR'.out; have h3 := hT.out; unfold nearZ; rw [oneZ_t]; omega, _, rfl⟩
  by_cases g : (0 ≤ X ∧ Y < 0)
  · obtain ⟨g1, g2⟩ := g
    have d1 : decide (X < 0) = false := by simp; omega
    have d2 : decide (Y < 0) = true := by simp; omega
    have hs := Lib.hid (hoth.out (by omega))
    replace hs : Hid (X * Y = -P) := hs
    by_cases c : 2048 < R
    · go_wp2
      go_quiet (fail)
      go_wp2
      go_ret2
      exact ⟨(-(Q + 1)), _, rfl, by unfold I64; omega, fun _ => by rw [hs.out]; have h1 := hQ'.out; have h2 := hR'.out; have h3 := hT.out; unfold nearZ; rw [oneZ_t]; omega, _, rfl⟩
    · go_wp2
      go_quiet (fail)
      go_wp2
      go_ret2
      exact ⟨(-Q), _, rfl, by unfold I64; omega, fun _ => by rw [hs.out]; have h1 := hQ'.out; have h2 := hR'.out; have h3 := hT.out; unfold nearZ; rw [oneZ_t]; omega, _, rfl⟩
  by_cases g : (X < 0 ∧ 0 ≤ Y)
  · obtain ⟨g1, g2⟩ := g
    have d1 : decide (X < 0) = true := by simp; omega
    have d2 : decide (Y < 0) = false := by simp; omega
    have hs := Lib.hid (hoth.out (by omega))
    replace hs : Hid (X * Y = -P) := hs
    by_cases c : 2048 < R
    · go_wp2
      go_quiet (fail)
      go_wp2
      go_ret2
      exact ⟨(-(Q + 1)), _, rfl, by unfold I64; omega, fun _ => by rw [hs.out]; have h1 := hQ'.out; have h2 := hR'.out; have h3 := hT.out; unfold nearZ; rw [oneZ_t]; omega, _, rfl⟩
    · go_wp2
      go_quiet (fail)
      go_wp2
      go_ret2
      exact ⟨(-Q), _, rfl, by unfold I64; omega, fun _ => by rw [hs.out]; have h1 := hQ'.out; have h2 := hR'.out; have h3 := hT.out; unfold nearZ; rw [oneZ_t]; omega, _, rfl⟩
  by_cases g : (X < 0 ∧ Y < 0)
  · obtain ⟨g1, g2⟩ := g
    have d1 : decide (X < 0) = true := by simp; omega
    have d2 : decide (Y < 0) = true := by simp; omega
    have hs := Lib.hid (hsame.out (by omega))
    replace hs : Hid (X * Y = P) := hs
    by_cases c : 2048 ≤ R
    · go_wp2
      go_quiet (fail)
      go_wp2
      go_ret2
      exact ⟨(Q + 1), _, rfl, by unfold I64; omega, fun _ => by rw [hs.out]; have h1 := hQ'.out; have h2 := hR'.out; have h3 := hT.out; unfold nearZ; rw [oneZ_t]; omega, _, rfl⟩
    · go_wp2
      go_quiet (fail)
      go_wp2
      go_ret2
      exact ⟨Q, _, rfl, by unfold I64; omega, fun _ => by rw [hs.out]; have h1 := hQ'.out; have h2 := hR'.out; have h3 := hT.out; unfold nearZ; rw [oneZ_t]; omega, _, rfl⟩
  omega
theorem specMul_any (b : Bool) (X Y : Int) (hX : I64 X) (hY : I64 Y) (w : World) : Calls Try.prog 23 #[.int .i64 X, .int .i64 Y, .int .i64 (oneZ b)] w (SpecMul b X Y w) := by
  cases b
  · exact specMul_f X Y hX hY w
  · exact specMul_t X Y hX hY w
end Go.Proofs.Ytiebbonpimmljaa
