/-
  No cell of these rows narrows 'for every input' (looked for: loops, veiled, ifaces, maps, wideKeys, modest, calm, conditions, laid).
  DERIVED. THE GIVEN ROWS OF THIS SEAT. 13 by the template 'for every input the law returns true; each argument reads behind the call as it read before'; 0 by the template 'total and deterministic' (their statements: YtcgbkggbffafmaaTotals.lean).
  GIVEN WITH THE SEED: the statements are not yours to turn. If you find one false, say at which input.
  Laid BY PROGRAM, IN A SANDBOX (cutbox-rows.mjs): the forced cells as the released guide's own fill.sh prints them over the translation 151fa19608406aaf… (all of the seat's roots in one cut). By AI agents, Wed Nov 11 2026. No macro, syntax, notation, axiom, sorry.
-/
import Derived.Test.YtcgbkggbffafmaaChecked
import GoSem.Claim
import GoSem.ClaimJoined
import GoSem.ClaimMapViews
import Derived.JoinedTies
import Derived.KernelRfl
namespace Go.Proofs.Ytcgbkggbffafmaa
/- THE CELL 'sum', in the pinned program and in every row, IS THE sha256 OF THE DUMP (.gsa) THAT YtcgbkggbffafmaaProg.lean LOADS. Nothing in Lean hashes anything: it is a label: what it is worth is what the hold of that sum in a sandbox is worth. -/
noncomputable def Try.pinned : Pinned := { name := "ytcgbkggbffafmaa", sum := "151fa19608406aaffa1a7bbf9e85b449a1d01581b86d6785ee8259a4cf1b82c4", checked := Try.checked }
namespace Rows
def none {H : Type} : Left H := { results := [], args := [] }

/-- 'laws.FnUnionAndIntersect': WHATEVER THE INPUT: true; the input reads as it did. -/
def fnUnionAndIntersectSpec : ChangeSpec := { name := "fnUnionAndIntersect", fn := fun _ => fun
  | [d1, d2, d3] => { results := [.lit (.bool true)], args := [d1, d2, d3] }
  | _ => none }
def fnUnionAndIntersectRow : OpenClaim := { program := "ytcgbkggbffafmaa", sum := "151fa19608406aaffa1a7bbf9e85b449a1d01581b86d6785ee8259a4cf1b82c4", func := "fixedpoint/laws.FnUnionAndIntersect", spec := "fnUnionAndIntersect", apart := false }
def FnUnionAndIntersectSaid : Prop := fnUnionAndIntersectRow.holds Try.pinned (OpenSpec.ofChange fnUnionAndIntersectSpec)

/-- ITS FALSE NEIGHBOUR: 'it returns false'. Refute it at one input. -/
def fnUnionAndIntersectWrong : ChangeSpec := { name := "fnUnionAndIntersect", fn := fun _ => fun
  | [d1, d2, d3] => { results := [.lit (.bool false)], args := [d1, d2, d3] }
  | _ => none }
def FnUnionAndIntersectWrongFalsely : Prop := fnUnionAndIntersectRow.holds Try.pinned (OpenSpec.ofChange fnUnionAndIntersectWrong)

/-- 'laws.FnEmpty': WHATEVER THE INPUT: true; the input reads as it did. -/
def fnEmptySpec : ChangeSpec := { name := "fnEmpty", fn := fun _ => fun
  | [d1, d2] => { results := [.lit (.bool true)], args := [d1, d2] }
  | _ => none }
def fnEmptyRow : OpenClaim := { program := "ytcgbkggbffafmaa", sum := "151fa19608406aaffa1a7bbf9e85b449a1d01581b86d6785ee8259a4cf1b82c4", func := "fixedpoint/laws.FnEmpty", spec := "fnEmpty", apart := false }
def FnEmptySaid : Prop := fnEmptyRow.holds Try.pinned (OpenSpec.ofChange fnEmptySpec)

/-- ITS FALSE NEIGHBOUR: 'it returns false'. Refute it at one input. -/
def fnEmptyWrong : ChangeSpec := { name := "fnEmpty", fn := fun _ => fun
  | [d1, d2] => { results := [.lit (.bool false)], args := [d1, d2] }
  | _ => none }
def FnEmptyWrongFalsely : Prop := fnEmptyRow.holds Try.pinned (OpenSpec.ofChange fnEmptyWrong)

/-- 'laws.FnPointIn': WHATEVER THE INPUT: true; the input reads as it did. -/
def fnPointInSpec : ChangeSpec := { name := "fnPointIn", fn := fun _ => fun
  | [d1, d2, d3] => { results := [.lit (.bool true)], args := [d1, d2, d3] }
  | _ => none }
def fnPointInRow : OpenClaim := { program := "ytcgbkggbffafmaa", sum := "151fa19608406aaffa1a7bbf9e85b449a1d01581b86d6785ee8259a4cf1b82c4", func := "fixedpoint/laws.FnPointIn", spec := "fnPointIn", apart := false }
def FnPointInSaid : Prop := fnPointInRow.holds Try.pinned (OpenSpec.ofChange fnPointInSpec)

/-- ITS FALSE NEIGHBOUR: 'it returns false'. Refute it at one input. -/
def fnPointInWrong : ChangeSpec := { name := "fnPointIn", fn := fun _ => fun
  | [d1, d2, d3] => { results := [.lit (.bool false)], args := [d1, d2, d3] }
  | _ => none }
def FnPointInWrongFalsely : Prop := fnPointInRow.holds Try.pinned (OpenSpec.ofChange fnPointInWrong)

/-- 'laws.FnOver': WHATEVER THE INPUT: true; the input reads as it did. -/
def fnOverSpec : ChangeSpec := { name := "fnOver", fn := fun _ => fun
  | [d1, d2, d3] => { results := [.lit (.bool true)], args := [d1, d2, d3] }
  | _ => none }
def fnOverRow : OpenClaim := { program := "ytcgbkggbffafmaa", sum := "151fa19608406aaffa1a7bbf9e85b449a1d01581b86d6785ee8259a4cf1b82c4", func := "fixedpoint/laws.FnOver", spec := "fnOver", unfollowed := true, recurses := true, apart := false }
def FnOverSaid : Prop := fnOverRow.holds Try.pinned (OpenSpec.ofChange fnOverSpec)

/-- ITS FALSE NEIGHBOUR: 'it returns false'. Refute it at one input. -/
def fnOverWrong : ChangeSpec := { name := "fnOver", fn := fun _ => fun
  | [d1, d2, d3] => { results := [.lit (.bool false)], args := [d1, d2, d3] }
  | _ => none }
def FnOverWrongFalsely : Prop := fnOverRow.holds Try.pinned (OpenSpec.ofChange fnOverWrong)

/-- 'laws.FnAdd': WHATEVER THE INPUT: true; the input reads as it did. -/
def fnAddSpec : ChangeSpec := { name := "fnAdd", fn := fun _ => fun
  | [d1, d2, d3] => { results := [.lit (.bool true)], args := [d1, d2, d3] }
  | _ => none }
def fnAddRow : OpenClaim := { program := "ytcgbkggbffafmaa", sum := "151fa19608406aaffa1a7bbf9e85b449a1d01581b86d6785ee8259a4cf1b82c4", func := "fixedpoint/laws.FnAdd", spec := "fnAdd", apart := false }
def FnAddSaid : Prop := fnAddRow.holds Try.pinned (OpenSpec.ofChange fnAddSpec)

/-- ITS FALSE NEIGHBOUR: 'it returns false'. Refute it at one input. -/
def fnAddWrong : ChangeSpec := { name := "fnAdd", fn := fun _ => fun
  | [d1, d2, d3] => { results := [.lit (.bool false)], args := [d1, d2, d3] }
  | _ => none }
def FnAddWrongFalsely : Prop := fnAddRow.holds Try.pinned (OpenSpec.ofChange fnAddWrong)

/-- 'laws.FnOverAndTimes': WHATEVER THE INPUT: true; the input reads as it did. -/
def fnOverAndTimesSpec : ChangeSpec := { name := "fnOverAndTimes", fn := fun _ => fun
  | [d1, d2, d3] => { results := [.lit (.bool true)], args := [d1, d2, d3] }
  | _ => none }
def fnOverAndTimesRow : OpenClaim := { program := "ytcgbkggbffafmaa", sum := "151fa19608406aaffa1a7bbf9e85b449a1d01581b86d6785ee8259a4cf1b82c4", func := "fixedpoint/laws.FnOverAndTimes", spec := "fnOverAndTimes", unfollowed := true, recurses := true, apart := false }
def FnOverAndTimesSaid : Prop := fnOverAndTimesRow.holds Try.pinned (OpenSpec.ofChange fnOverAndTimesSpec)

/-- ITS FALSE NEIGHBOUR: 'it returns false'. Refute it at one input. -/
def fnOverAndTimesWrong : ChangeSpec := { name := "fnOverAndTimes", fn := fun _ => fun
  | [d1, d2, d3] => { results := [.lit (.bool false)], args := [d1, d2, d3] }
  | _ => none }
def FnOverAndTimesWrongFalsely : Prop := fnOverAndTimesRow.holds Try.pinned (OpenSpec.ofChange fnOverAndTimesWrong)

/-- 'laws.FnRectIn': WHATEVER THE INPUT: true; the input reads as it did. -/
def fnRectInSpec : ChangeSpec := { name := "fnRectIn", fn := fun _ => fun
  | [d1, d2, d3] => { results := [.lit (.bool true)], args := [d1, d2, d3] }
  | _ => none }
def fnRectInRow : OpenClaim := { program := "ytcgbkggbffafmaa", sum := "151fa19608406aaffa1a7bbf9e85b449a1d01581b86d6785ee8259a4cf1b82c4", func := "fixedpoint/laws.FnRectIn", spec := "fnRectIn", apart := false }
def FnRectInSaid : Prop := fnRectInRow.holds Try.pinned (OpenSpec.ofChange fnRectInSpec)

/-- ITS FALSE NEIGHBOUR: 'it returns false'. Refute it at one input. -/
def fnRectInWrong : ChangeSpec := { name := "fnRectIn", fn := fun _ => fun
  | [d1, d2, d3] => { results := [.lit (.bool false)], args := [d1, d2, d3] }
  | _ => none }
def FnRectInWrongFalsely : Prop := fnRectInRow.holds Try.pinned (OpenSpec.ofChange fnRectInWrong)

/-- 'laws.FnTimes': WHATEVER THE INPUT: true; the input reads as it did. -/
def fnTimesSpec : ChangeSpec := { name := "fnTimes", fn := fun _ => fun
  | [d1, d2, d3] => { results := [.lit (.bool true)], args := [d1, d2, d3] }
  | _ => none }
def fnTimesRow : OpenClaim := { program := "ytcgbkggbffafmaa", sum := "151fa19608406aaffa1a7bbf9e85b449a1d01581b86d6785ee8259a4cf1b82c4", func := "fixedpoint/laws.FnTimes", spec := "fnTimes", apart := false }
def FnTimesSaid : Prop := fnTimesRow.holds Try.pinned (OpenSpec.ofChange fnTimesSpec)

/-- ITS FALSE NEIGHBOUR: 'it returns false'. Refute it at one input. -/
def fnTimesWrong : ChangeSpec := { name := "fnTimes", fn := fun _ => fun
  | [d1, d2, d3] => { results := [.lit (.bool false)], args := [d1, d2, d3] }
  | _ => none }
def FnTimesWrongFalsely : Prop := fnTimesRow.holds Try.pinned (OpenSpec.ofChange fnTimesWrong)

/-- 'laws.FnTimesCuts': WHATEVER THE INPUT: true; the input reads as it did. -/
def fnTimesCutsSpec : ChangeSpec := { name := "fnTimesCuts", fn := fun _ => fun
  | [d1, d2, d3] => { results := [.lit (.bool true)], args := [d1, d2, d3] }
  | _ => none }
def fnTimesCutsRow : OpenClaim := { program := "ytcgbkggbffafmaa", sum := "151fa19608406aaffa1a7bbf9e85b449a1d01581b86d6785ee8259a4cf1b82c4", func := "fixedpoint/laws.FnTimesCuts", spec := "fnTimesCuts", apart := false }
def FnTimesCutsSaid : Prop := fnTimesCutsRow.holds Try.pinned (OpenSpec.ofChange fnTimesCutsSpec)

/-- ITS FALSE NEIGHBOUR: 'it returns false'. Refute it at one input. -/
def fnTimesCutsWrong : ChangeSpec := { name := "fnTimesCuts", fn := fun _ => fun
  | [d1, d2, d3] => { results := [.lit (.bool false)], args := [d1, d2, d3] }
  | _ => none }
def FnTimesCutsWrongFalsely : Prop := fnTimesCutsRow.holds Try.pinned (OpenSpec.ofChange fnTimesCutsWrong)

/-- 'laws.FnMoved': WHATEVER THE INPUT: true; the input reads as it did. -/
def fnMovedSpec : ChangeSpec := { name := "fnMoved", fn := fun _ => fun
  | [d1, d2, d3] => { results := [.lit (.bool true)], args := [d1, d2, d3] }
  | _ => none }
def fnMovedRow : OpenClaim := { program := "ytcgbkggbffafmaa", sum := "151fa19608406aaffa1a7bbf9e85b449a1d01581b86d6785ee8259a4cf1b82c4", func := "fixedpoint/laws.FnMoved", spec := "fnMoved", apart := false }
def FnMovedSaid : Prop := fnMovedRow.holds Try.pinned (OpenSpec.ofChange fnMovedSpec)

/-- ITS FALSE NEIGHBOUR: 'it returns false'. Refute it at one input. -/
def fnMovedWrong : ChangeSpec := { name := "fnMoved", fn := fun _ => fun
  | [d1, d2, d3] => { results := [.lit (.bool false)], args := [d1, d2, d3] }
  | _ => none }
def FnMovedWrongFalsely : Prop := fnMovedRow.holds Try.pinned (OpenSpec.ofChange fnMovedWrong)

/-- 'laws.FnUnion': WHATEVER THE INPUT: true; the input reads as it did. -/
def fnUnionSpec : ChangeSpec := { name := "fnUnion", fn := fun _ => fun
  | [d1, d2, d3, d4] => { results := [.lit (.bool true)], args := [d1, d2, d3, d4] }
  | _ => none }
def fnUnionRow : OpenClaim := { program := "ytcgbkggbffafmaa", sum := "151fa19608406aaffa1a7bbf9e85b449a1d01581b86d6785ee8259a4cf1b82c4", func := "fixedpoint/laws.FnUnion", spec := "fnUnion", apart := false }
def FnUnionSaid : Prop := fnUnionRow.holds Try.pinned (OpenSpec.ofChange fnUnionSpec)

/-- ITS FALSE NEIGHBOUR: 'it returns false'. Refute it at one input. -/
def fnUnionWrong : ChangeSpec := { name := "fnUnion", fn := fun _ => fun
  | [d1, d2, d3, d4] => { results := [.lit (.bool false)], args := [d1, d2, d3, d4] }
  | _ => none }
def FnUnionWrongFalsely : Prop := fnUnionRow.holds Try.pinned (OpenSpec.ofChange fnUnionWrong)

/-- 'laws.FnIntersect': WHATEVER THE INPUT: true; the input reads as it did. -/
def fnIntersectSpec : ChangeSpec := { name := "fnIntersect", fn := fun _ => fun
  | [d1, d2, d3] => { results := [.lit (.bool true)], args := [d1, d2, d3] }
  | _ => none }
def fnIntersectRow : OpenClaim := { program := "ytcgbkggbffafmaa", sum := "151fa19608406aaffa1a7bbf9e85b449a1d01581b86d6785ee8259a4cf1b82c4", func := "fixedpoint/laws.FnIntersect", spec := "fnIntersect", apart := false }
def FnIntersectSaid : Prop := fnIntersectRow.holds Try.pinned (OpenSpec.ofChange fnIntersectSpec)

/-- ITS FALSE NEIGHBOUR: 'it returns false'. Refute it at one input. -/
def fnIntersectWrong : ChangeSpec := { name := "fnIntersect", fn := fun _ => fun
  | [d1, d2, d3] => { results := [.lit (.bool false)], args := [d1, d2, d3] }
  | _ => none }
def FnIntersectWrongFalsely : Prop := fnIntersectRow.holds Try.pinned (OpenSpec.ofChange fnIntersectWrong)

/-- 'laws.FnIntersectHasTheCommonPoints': WHATEVER THE INPUT: true; the input reads as it did. -/
def fnIntersectHasTheCommonPointsSpec : ChangeSpec := { name := "fnIntersectHasTheCommonPoints", fn := fun _ => fun
  | [d1, d2, d3, d4] => { results := [.lit (.bool true)], args := [d1, d2, d3, d4] }
  | _ => none }
def fnIntersectHasTheCommonPointsRow : OpenClaim := { program := "ytcgbkggbffafmaa", sum := "151fa19608406aaffa1a7bbf9e85b449a1d01581b86d6785ee8259a4cf1b82c4", func := "fixedpoint/laws.FnIntersectHasTheCommonPoints", spec := "fnIntersectHasTheCommonPoints", apart := false }
def FnIntersectHasTheCommonPointsSaid : Prop := fnIntersectHasTheCommonPointsRow.holds Try.pinned (OpenSpec.ofChange fnIntersectHasTheCommonPointsSpec)

/-- ITS FALSE NEIGHBOUR: 'it returns false'. Refute it at one input. -/
def fnIntersectHasTheCommonPointsWrong : ChangeSpec := { name := "fnIntersectHasTheCommonPoints", fn := fun _ => fun
  | [d1, d2, d3, d4] => { results := [.lit (.bool false)], args := [d1, d2, d3, d4] }
  | _ => none }
def FnIntersectHasTheCommonPointsWrongFalsely : Prop := fnIntersectHasTheCommonPointsRow.holds Try.pinned (OpenSpec.ofChange fnIntersectHasTheCommonPointsWrong)

/- THE SECOND FORM. 'bulk': how many values and letters a reading holds, each counted each time it is reached (what is shared counts as often as it is met; a slice's spare places count too). A statement '..UptoSaid' is the law's where the arguments, and the package variables that the reading takes, are together of bulk at most 1048576: NARROWER than '..Said'. Prove '..Said' where nothing that the law and all that it calls make is longer than what came in: it says more and counts as full. Else prove '..UptoSaid'. A law counts once. -/
mutual
def uptoBulk {H : Type} : DataW H → Nat
  | .lit (.string bytes) => bytes.length + 1
  | .lit _ => 1
  | .nil => 1
  | .ptr d => uptoBulk d + 1
  | .slice elems spare => uptoBulkAll elems + uptoBulkAll spare + 1
  | .agg parts => uptoBulkAll parts + 1
  | .iface _ d => uptoBulk d + 1
  | .map entries => uptoBulkEntries entries + 1
  | .held _ => 1
def uptoBulkAll {H : Type} : List (DataW H) → Nat
  | [] => 0
  | d :: r => uptoBulk d + uptoBulkAll r
def uptoBulkEntries {H : Type} : List (Lit × DataW H) → Nat
  | [] => 0
  | x :: r => uptoBulkEntry x + uptoBulkEntries r
def uptoBulkEntry {H : Type} : Lit × DataW H → Nat
  | (.string bytes, d) => bytes.length + uptoBulk d + 1
  | (_, d) => uptoBulk d + 1
 end
def uptoSmall : (H : Type) → List (DataW H) → Bool := fun _ ds => decide (uptoBulkAll ds ≤ 1048576)
def OpenSpec.upto (s : _root_.Go.ChangeSpec) : _root_.Go.OpenSpec := { _root_.Go.OpenSpec.ofChange s with cond := some uptoSmall }

/-- 'laws.FnUnionAndIntersect', WHERE WHAT IT READS IS OF BULK AT MOST 1048576: true; the input reads as it did. -/
def fnUnionAndIntersectUptoRow : OpenClaim := { program := "ytcgbkggbffafmaa", sum := "151fa19608406aaffa1a7bbf9e85b449a1d01581b86d6785ee8259a4cf1b82c4", func := "fixedpoint/laws.FnUnionAndIntersect", spec := "fnUnionAndIntersect", apart := false, narrowed := true }
def FnUnionAndIntersectUptoSaid : Prop := fnUnionAndIntersectUptoRow.holds Try.pinned (OpenSpec.upto fnUnionAndIntersectSpec)

/-- 'laws.FnEmpty', WHERE WHAT IT READS IS OF BULK AT MOST 1048576: true; the input reads as it did. -/
def fnEmptyUptoRow : OpenClaim := { program := "ytcgbkggbffafmaa", sum := "151fa19608406aaffa1a7bbf9e85b449a1d01581b86d6785ee8259a4cf1b82c4", func := "fixedpoint/laws.FnEmpty", spec := "fnEmpty", apart := false, narrowed := true }
def FnEmptyUptoSaid : Prop := fnEmptyUptoRow.holds Try.pinned (OpenSpec.upto fnEmptySpec)

/-- 'laws.FnPointIn', WHERE WHAT IT READS IS OF BULK AT MOST 1048576: true; the input reads as it did. -/
def fnPointInUptoRow : OpenClaim := { program := "ytcgbkggbffafmaa", sum := "151fa19608406aaffa1a7bbf9e85b449a1d01581b86d6785ee8259a4cf1b82c4", func := "fixedpoint/laws.FnPointIn", spec := "fnPointIn", apart := false, narrowed := true }
def FnPointInUptoSaid : Prop := fnPointInUptoRow.holds Try.pinned (OpenSpec.upto fnPointInSpec)

/-- 'laws.FnOver', WHERE WHAT IT READS IS OF BULK AT MOST 1048576: true; the input reads as it did. -/
def fnOverUptoRow : OpenClaim := { program := "ytcgbkggbffafmaa", sum := "151fa19608406aaffa1a7bbf9e85b449a1d01581b86d6785ee8259a4cf1b82c4", func := "fixedpoint/laws.FnOver", spec := "fnOver", unfollowed := true, recurses := true, apart := false, narrowed := true }
def FnOverUptoSaid : Prop := fnOverUptoRow.holds Try.pinned (OpenSpec.upto fnOverSpec)

/-- 'laws.FnAdd', WHERE WHAT IT READS IS OF BULK AT MOST 1048576: true; the input reads as it did. -/
def fnAddUptoRow : OpenClaim := { program := "ytcgbkggbffafmaa", sum := "151fa19608406aaffa1a7bbf9e85b449a1d01581b86d6785ee8259a4cf1b82c4", func := "fixedpoint/laws.FnAdd", spec := "fnAdd", apart := false, narrowed := true }
def FnAddUptoSaid : Prop := fnAddUptoRow.holds Try.pinned (OpenSpec.upto fnAddSpec)

/-- 'laws.FnOverAndTimes', WHERE WHAT IT READS IS OF BULK AT MOST 1048576: true; the input reads as it did. -/
def fnOverAndTimesUptoRow : OpenClaim := { program := "ytcgbkggbffafmaa", sum := "151fa19608406aaffa1a7bbf9e85b449a1d01581b86d6785ee8259a4cf1b82c4", func := "fixedpoint/laws.FnOverAndTimes", spec := "fnOverAndTimes", unfollowed := true, recurses := true, apart := false, narrowed := true }
def FnOverAndTimesUptoSaid : Prop := fnOverAndTimesUptoRow.holds Try.pinned (OpenSpec.upto fnOverAndTimesSpec)

/-- 'laws.FnRectIn', WHERE WHAT IT READS IS OF BULK AT MOST 1048576: true; the input reads as it did. -/
def fnRectInUptoRow : OpenClaim := { program := "ytcgbkggbffafmaa", sum := "151fa19608406aaffa1a7bbf9e85b449a1d01581b86d6785ee8259a4cf1b82c4", func := "fixedpoint/laws.FnRectIn", spec := "fnRectIn", apart := false, narrowed := true }
def FnRectInUptoSaid : Prop := fnRectInUptoRow.holds Try.pinned (OpenSpec.upto fnRectInSpec)

/-- 'laws.FnTimes', WHERE WHAT IT READS IS OF BULK AT MOST 1048576: true; the input reads as it did. -/
def fnTimesUptoRow : OpenClaim := { program := "ytcgbkggbffafmaa", sum := "151fa19608406aaffa1a7bbf9e85b449a1d01581b86d6785ee8259a4cf1b82c4", func := "fixedpoint/laws.FnTimes", spec := "fnTimes", apart := false, narrowed := true }
def FnTimesUptoSaid : Prop := fnTimesUptoRow.holds Try.pinned (OpenSpec.upto fnTimesSpec)

/-- 'laws.FnTimesCuts', WHERE WHAT IT READS IS OF BULK AT MOST 1048576: true; the input reads as it did. -/
def fnTimesCutsUptoRow : OpenClaim := { program := "ytcgbkggbffafmaa", sum := "151fa19608406aaffa1a7bbf9e85b449a1d01581b86d6785ee8259a4cf1b82c4", func := "fixedpoint/laws.FnTimesCuts", spec := "fnTimesCuts", apart := false, narrowed := true }
def FnTimesCutsUptoSaid : Prop := fnTimesCutsUptoRow.holds Try.pinned (OpenSpec.upto fnTimesCutsSpec)

/-- 'laws.FnMoved', WHERE WHAT IT READS IS OF BULK AT MOST 1048576: true; the input reads as it did. -/
def fnMovedUptoRow : OpenClaim := { program := "ytcgbkggbffafmaa", sum := "151fa19608406aaffa1a7bbf9e85b449a1d01581b86d6785ee8259a4cf1b82c4", func := "fixedpoint/laws.FnMoved", spec := "fnMoved", apart := false, narrowed := true }
def FnMovedUptoSaid : Prop := fnMovedUptoRow.holds Try.pinned (OpenSpec.upto fnMovedSpec)

/-- 'laws.FnUnion', WHERE WHAT IT READS IS OF BULK AT MOST 1048576: true; the input reads as it did. -/
def fnUnionUptoRow : OpenClaim := { program := "ytcgbkggbffafmaa", sum := "151fa19608406aaffa1a7bbf9e85b449a1d01581b86d6785ee8259a4cf1b82c4", func := "fixedpoint/laws.FnUnion", spec := "fnUnion", apart := false, narrowed := true }
def FnUnionUptoSaid : Prop := fnUnionUptoRow.holds Try.pinned (OpenSpec.upto fnUnionSpec)

/-- 'laws.FnIntersect', WHERE WHAT IT READS IS OF BULK AT MOST 1048576: true; the input reads as it did. -/
def fnIntersectUptoRow : OpenClaim := { program := "ytcgbkggbffafmaa", sum := "151fa19608406aaffa1a7bbf9e85b449a1d01581b86d6785ee8259a4cf1b82c4", func := "fixedpoint/laws.FnIntersect", spec := "fnIntersect", apart := false, narrowed := true }
def FnIntersectUptoSaid : Prop := fnIntersectUptoRow.holds Try.pinned (OpenSpec.upto fnIntersectSpec)

/-- 'laws.FnIntersectHasTheCommonPoints', WHERE WHAT IT READS IS OF BULK AT MOST 1048576: true; the input reads as it did. -/
def fnIntersectHasTheCommonPointsUptoRow : OpenClaim := { program := "ytcgbkggbffafmaa", sum := "151fa19608406aaffa1a7bbf9e85b449a1d01581b86d6785ee8259a4cf1b82c4", func := "fixedpoint/laws.FnIntersectHasTheCommonPoints", spec := "fnIntersectHasTheCommonPoints", apart := false, narrowed := true }
def FnIntersectHasTheCommonPointsUptoSaid : Prop := fnIntersectHasTheCommonPointsUptoRow.holds Try.pinned (OpenSpec.upto fnIntersectHasTheCommonPointsSpec)

end Rows
end Go.Proofs.Ytcgbkggbffafmaa
