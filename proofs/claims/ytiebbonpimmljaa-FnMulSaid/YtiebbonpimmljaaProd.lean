/- What the reference's Product comes to: the two words of the product of any two numbers of 64 bits without sign. Nothing in memory turns. -/
import Derived.Test.YtiebbonpimmljaaMul
import Derived.Test.YtiebbonpimmljaaMathP
namespace Go.Proofs.Ytiebbonpimmljaa
open Go.RowKit

def Prod2 (T : Int) (w : World) (e : Ending) (w' : World) : Prop := ∃ H L : Int, Two H L T ∧ e = .returned (.tuple #[.int .u64 H, .int .u64 L]) ∧ w = w'
set_option maxHeartbeats 1000000 in
theorem product_any (x y : Int) (hx0 : 0 ≤ x) (hx : x < 18446744073709551616) (hy0 : 0 ≤ y) (hy : y < 18446744073709551616) (w : World) :
    Calls Try.prog 35 #[.int .u64 x, .int .u64 y] w (Prod2 (x * y) w) := by
  go_enter Try.func35, Try.ntmps35
  go_wp2
  go_loop [4, 5, 6] (fun h l i => ∃ j H L : Int, -1 ≤ j ∧ j ≤ 63 ∧ i = .int .i64 j ∧ h = .int .u64 H ∧ l = .int .u64 L ∧ Two H L (x * (y / 2 ^ (j + 1).toNat))) (fun _ _ i => (intOf i + 1).toNat)
  case atStart => exact ⟨63, 0, 0, by omega, by omega, rfl, rfl, rfl, by rw [show ((63 : Int) + 1).toNat = 64 from rfl, shift_all y hy0 hy]; unfold Two; omega⟩
  case round =>
    obtain ⟨j, H, L, hj1, hj2, rfl, rfl, rfl, h2⟩ := hrel
    by_cases hj : 0 ≤ j
    · have es := bit_step x y j.toNat
      have hb := prod_bd x y j.toNat hx0 hx hy0 hy
      rw [show (j + 1).toNat = j.toNat + 1 by omega] at h2
      obtain ⟨s1, s2⟩ := shift_bd y j.toNat hy0 hy
      have ha := u64_and1 (y / 2 ^ j.toNat) s1 s2
      have hz : (j - 1 + 1).toNat = j.toNat := by omega
      have hD := two_double H L _ h2 (by
        have hb1 : 0 ≤ x * (y / 2 ^ j.toNat % 2) := Int.mul_nonneg hx0 (by omega)
        omega)
      obtain ⟨L1, hL1⟩ : ∃ v, IntKind.u64.wrap (L * 2) = v := ⟨_, rfl⟩
      rw [hL1] at hD
      have hA := two_add _ L1 _ x hD hx0 hx
      obtain ⟨L2, hL2⟩ : ∃ v, IntKind.u64.wrap (L1 + x) = v := ⟨_, rfl⟩
      rw [hL2] at hA
      have hbit : y / 2 ^ j.toNat % 2 = 0 ∨ y / 2 ^ j.toNat % 2 = 1 := by omega
      rcases hbit with hbit | hbit
      · rw [hbit] at ha es
        rw [Int.mul_zero, Int.add_zero] at es
        have hT : Hid (Two (bits .or .u64 (IntKind.u64.wrap (H * 2)) (L / 9223372036854775808)) L1 (x * (y / 2 ^ (j - 1 + 1).toNat))) := by
          rw [hz, es]; exact hD
        clear hA hD es hb h2 hz s1 s2 hbit hL2
        go_wp2
        go_round
        case rel => exact ⟨j - 1, _, _, by omega, by omega, rfl, rfl, rfl, hT.out⟩
        case measure => simp [intOf]; omega
      · rw [hbit] at ha es
        rw [Int.mul_one] at es
        obtain ⟨hA1, hA2⟩ := hA (by omega)
        by_cases hc : L2 < L1
        · have hT : Hid (Two (IntKind.u64.wrap (bits .or .u64 (IntKind.u64.wrap (H * 2)) (L / 9223372036854775808) + 1)) L2 (x * (y / 2 ^ (j - 1 + 1).toNat))) := by
            rw [hz, es]; exact hA1 hc
          clear hA1 hA2 hD es hb h2 hz s1 s2 hbit
          go_wp2
          go_round
          case rel => exact ⟨j - 1, _, _, by omega, by omega, rfl, rfl, rfl, hT.out⟩
          case measure => simp [intOf]; omega
        · have hT : Hid (Two (bits .or .u64 (IntKind.u64.wrap (H * 2)) (L / 9223372036854775808)) L2 (x * (y / 2 ^ (j - 1 + 1).toNat))) := by
            rw [hz, es]; exact hA2 hc
          clear hA1 hA2 hD es hb h2 hz s1 s2 hbit
          go_wp2
          go_round
          case rel => exact ⟨j - 1, _, _, by omega, by omega, rfl, rfl, rfl, hT.out⟩
          case measure => simp [intOf]; omega
    · obtain rfl : j = -1 := by omega
      have h3 : Hid (Two H L (x * y)) := by
        have e : y / 2 ^ ((-1 : Int) + 1).toNat = y := by
          rw [show ((-1 : Int) + 1).toNat = 0 from rfl]; simp
        rw [e] at h2; exact h2
      clear h2
      go_wp2
      go_ret2
      exact ⟨H, L, h3.out, rfl, rfl⟩
end Go.Proofs.Ytiebbonpimmljaa
