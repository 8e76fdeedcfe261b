/- What muli64 and Mul come to: the two words of the product of any two int64; the product in parts of one, rounded. Nothing in memory turns. -/
import Derived.Test.YtiebbonpimmljaaNum
import Derived.Test.YtiebbonpimmljaaMathM
import Derived.Lib.Hide
namespace Go.Proofs.Ytiebbonpimmljaa
open Go.RowKit
theorem ret_two {k l : IntKind} {a b c d : Int} (h : a = b) (h' : c = d) : Ending.returned (.tuple #[.int k a, .int l c]) = .returned (.tuple #[.int k b, .int l d]) := by rw [h, h']

theorem muli64_any (x y : Int) (hx : I64 x) (hy : I64 y) (w : World) : Calls Try.prog 43 #[.int .i64 x, .int .i64 y] w fun e w' => e = .returned (.tuple #[.int .u64 (loZ x y), .int .u64 (hiZ x y)]) ∧ w = w' := by
  have h1 := Lib.hid (mul_lo x y)
  have h2 := Lib.hid (mul_hi x y hx hy)
  go_enter Try.func43, Try.ntmps43
  go_wp2
  go_ret2
  exact ⟨ret_two h1.out h2.out, rfl⟩
theorem mulL_any (x y : Int) (hx : I64 x) (hy : I64 y) (w : World) : Calls Try.prog 37 #[.int .i64 x, .int .i64 y] w fun e w' => e = .returned (.int .i64 (mulZ true x y)) ∧ w = w' := by
  obtain ⟨b1, b2⟩ := loZ_bd x y
  obtain ⟨b3, b4⟩ := hiZ_bd x y
  have hl := Lib.hid (mulL_law x y)
  go_enter Try.func37, Try.ntmps37
  go_wp2_with (go_at_call 43; (with_reducible refine (muli64_any _ _ hx hy _).mono ?_); rintro e w' ⟨rfl, rfl⟩)
  go_ret
  exact ⟨ret_int hl.out, rfl⟩
theorem iMul_any (b : Bool) (x y : Int) (hx : I64 x) (hy : I64 y) (w : World) : Calls Try.prog 24 #[.bool b, .int .i64 x, .int .i64 y] w fun e w' => e = .returned (.int .i64 (mulZ b x y)) ∧ w = w' := by
  cases b
  · have hl := Lib.hid (mulS_law x y)
    go_enter Try.func24, Try.ntmps24
    go_wp2
    go_ret
    exact ⟨ret_int hl.out, rfl⟩
  · obtain ⟨b1, b2⟩ := mulZ_bd true x y
    go_enter Try.func24, Try.ntmps24
    go_wp2_with (go_at_call 37; (with_reducible refine (mulL_any _ _ hx hy _).mono ?_); rintro e w' ⟨rfl, rfl⟩)
    go_ret
    exact ⟨rfl, rfl⟩
end Go.Proofs.Ytiebbonpimmljaa
