/- What muli64 and Mul come to: the two words of the product of any two int64; the product in parts of one, rounded. Nothing in memory turns. -/
import Derived.Test.YtcgbkggbffafmaaNum
import Derived.Test.YtcgbkggbffafmaaMathM
import Derived.Lib.Hide
namespace Go.Proofs.Ytcgbkggbffafmaa
open Go.RowKit
theorem ret_two {k l : IntKind} {a b c d : Int} (h : a = b) (h' : c = d) : Ending.returned (.tuple #[.int k a, .int l c]) = .returned (.tuple #[.int k b, .int l d]) := by rw [h, h']

theorem muli64_any (x y : Int) (hx : I64 x) (hy : I64 y) (w : World) : Calls Try.prog 71 #[.int .i64 x, .int .i64 y] w fun e w' => e = .returned (.tuple #[.int .u64 (loZ x y), .int .u64 (hiZ x y)]) ∧ w = w' := by
  have h1 := Lib.hid (mul_lo x y)
  have h2 := Lib.hid (mul_hi x y hx hy)
  go_enter Try.func71, Try.ntmps71
  go_wp2
  go_ret2
  exact ⟨ret_two h1.out h2.out, rfl⟩
theorem mulL_any (x y : Int) (hx : I64 x) (hy : I64 y) (w : World) : Calls Try.prog 65 #[.int .i64 x, .int .i64 y] w fun e w' => e = .returned (.int .i64 (mulZ true x y)) ∧ w = w' := by
  obtain ⟨b1, b2⟩ := loZ_bd x y
  obtain ⟨b3, b4⟩ := hiZ_bd x y
  have hl := Lib.hid (mulL_law x y)
  go_enter Try.func65, Try.ntmps65
  go_wp2_with (go_at_call 71; (with_reducible refine (muli64_any _ _ hx hy _).mono ?_); rintro e w' ⟨rfl, rfl⟩)
  go_ret
  exact ⟨ret_int hl.out, rfl⟩
theorem iMul_any (b : Bool) (x y : Int) (hx : I64 x) (hy : I64 y) (w : World) : Calls Try.prog 34 #[.bool b, .int .i64 x, .int .i64 y] w fun e w' => e = .returned (.int .i64 (mulZ b x y)) ∧ w = w' := by
  cases b
  · have hl := Lib.hid (mulS_law x y)
    go_enter Try.func34, Try.ntmps34
    go_wp2
    go_ret
    exact ⟨ret_int hl.out, rfl⟩
  · obtain ⟨b1, b2⟩ := mulZ_bd true x y
    go_enter Try.func34, Try.ntmps34
    go_wp2_with (go_at_call 65; (with_reducible refine (mulL_any _ _ hx hy _).mono ?_); rintro e w' ⟨rfl, rfl⟩)
    go_ret
    exact ⟨rfl, rfl⟩
end Go.Proofs.Ytcgbkggbffafmaa
