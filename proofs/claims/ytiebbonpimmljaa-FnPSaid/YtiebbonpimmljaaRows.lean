/-
  No cell of these rows narrows 'for every input' (looked for: loops, veiled, ifaces, maps, wideKeys, modest, calm, conditions, laid).
  DERIVED. THE GIVEN ROWS OF THIS SEAT. 10 by the template 'for every input the law returns true; each argument reads behind the call as it read before'; 0 by the template 'total and deterministic' (their statements: YtiebbonpimmljaaTotals.lean).
  GIVEN WITH THE SEED: the statements are not yours to turn. If you find one false, say at which input.
  Laid BY PROGRAM, IN A SANDBOX (cutbox-rows.mjs): the forced cells as the released guide's own fill.sh prints them over the translation 6a2897fb2853f215… (all of the seat's roots in one cut). By AI agents, Wed Nov 11 2026. No macro, syntax, notation, axiom, sorry.
-/
import Derived.Test.YtiebbonpimmljaaChecked
import GoSem.Claim
import GoSem.ClaimJoined
import GoSem.ClaimMapViews
import Derived.JoinedTies
import Derived.KernelRfl
namespace Go.Proofs.Ytiebbonpimmljaa
/- THE CELL 'sum', in the pinned program and in every row, IS THE sha256 OF THE DUMP (.gsa) THAT YtiebbonpimmljaaProg.lean LOADS. Nothing in Lean hashes anything: it is a label: what it is worth is what the hold of that sum in a sandbox is worth. -/
noncomputable def Try.pinned : Pinned := { name := "ytiebbonpimmljaa", sum := "6a2897fb2853f2151ad94d18bd5c75d03584c8bf6e70b8be3d738c3ea0bd7106", checked := Try.checked }
namespace Rows
def none {H : Type} : Left H := { results := [], args := [] }

/-- 'laws.FnCeil': WHATEVER THE INPUT: true; the input reads as it did. -/
def fnCeilSpec : ChangeSpec := { name := "fnCeil", fn := fun _ => fun
  | [d1, d2] => { results := [.lit (.bool true)], args := [d1, d2] }
  | _ => none }
def fnCeilRow : OpenClaim := { program := "ytiebbonpimmljaa", sum := "6a2897fb2853f2151ad94d18bd5c75d03584c8bf6e70b8be3d738c3ea0bd7106", func := "fixedpoint/laws.FnCeil", spec := "fnCeil", apart := false }
def FnCeilSaid : Prop := fnCeilRow.holds Try.pinned (OpenSpec.ofChange fnCeilSpec)

/-- ITS FALSE NEIGHBOUR: 'it returns false'. Refute it at one input. -/
def fnCeilWrong : ChangeSpec := { name := "fnCeil", fn := fun _ => fun
  | [d1, d2] => { results := [.lit (.bool false)], args := [d1, d2] }
  | _ => none }
def FnCeilWrongFalsely : Prop := fnCeilRow.holds Try.pinned (OpenSpec.ofChange fnCeilWrong)

/-- 'laws.FnFloor': WHATEVER THE INPUT: true; the input reads as it did. -/
def fnFloorSpec : ChangeSpec := { name := "fnFloor", fn := fun _ => fun
  | [d1, d2] => { results := [.lit (.bool true)], args := [d1, d2] }
  | _ => none }
def fnFloorRow : OpenClaim := { program := "ytiebbonpimmljaa", sum := "6a2897fb2853f2151ad94d18bd5c75d03584c8bf6e70b8be3d738c3ea0bd7106", func := "fixedpoint/laws.FnFloor", spec := "fnFloor", apart := false }
def FnFloorSaid : Prop := fnFloorRow.holds Try.pinned (OpenSpec.ofChange fnFloorSpec)

/-- ITS FALSE NEIGHBOUR: 'it returns false'. Refute it at one input. -/
def fnFloorWrong : ChangeSpec := { name := "fnFloor", fn := fun _ => fun
  | [d1, d2] => { results := [.lit (.bool false)], args := [d1, d2] }
  | _ => none }
def FnFloorWrongFalsely : Prop := fnFloorRow.holds Try.pinned (OpenSpec.ofChange fnFloorWrong)

/-- 'laws.FnRound': WHATEVER THE INPUT: true; the input reads as it did. -/
def fnRoundSpec : ChangeSpec := { name := "fnRound", fn := fun _ => fun
  | [d1, d2] => { results := [.lit (.bool true)], args := [d1, d2] }
  | _ => none }
def fnRoundRow : OpenClaim := { program := "ytiebbonpimmljaa", sum := "6a2897fb2853f2151ad94d18bd5c75d03584c8bf6e70b8be3d738c3ea0bd7106", func := "fixedpoint/laws.FnRound", spec := "fnRound", apart := false }
def FnRoundSaid : Prop := fnRoundRow.holds Try.pinned (OpenSpec.ofChange fnRoundSpec)

/-- ITS FALSE NEIGHBOUR: 'it returns false'. Refute it at one input. -/
def fnRoundWrong : ChangeSpec := { name := "fnRound", fn := fun _ => fun
  | [d1, d2] => { results := [.lit (.bool false)], args := [d1, d2] }
  | _ => none }
def FnRoundWrongFalsely : Prop := fnRoundRow.holds Try.pinned (OpenSpec.ofChange fnRoundWrong)

/-- 'laws.FnFloorAndCeil': WHATEVER THE INPUT: true; the input reads as it did. -/
def fnFloorAndCeilSpec : ChangeSpec := { name := "fnFloorAndCeil", fn := fun _ => fun
  | [d1, d2] => { results := [.lit (.bool true)], args := [d1, d2] }
  | _ => none }
def fnFloorAndCeilRow : OpenClaim := { program := "ytiebbonpimmljaa", sum := "6a2897fb2853f2151ad94d18bd5c75d03584c8bf6e70b8be3d738c3ea0bd7106", func := "fixedpoint/laws.FnFloorAndCeil", spec := "fnFloorAndCeil", apart := false }
def FnFloorAndCeilSaid : Prop := fnFloorAndCeilRow.holds Try.pinned (OpenSpec.ofChange fnFloorAndCeilSpec)

/-- ITS FALSE NEIGHBOUR: 'it returns false'. Refute it at one input. -/
def fnFloorAndCeilWrong : ChangeSpec := { name := "fnFloorAndCeil", fn := fun _ => fun
  | [d1, d2] => { results := [.lit (.bool false)], args := [d1, d2] }
  | _ => none }
def FnFloorAndCeilWrongFalsely : Prop := fnFloorAndCeilRow.holds Try.pinned (OpenSpec.ofChange fnFloorAndCeilWrong)

/-- 'laws.FnOrdered': WHATEVER THE INPUT: true; the input reads as it did. -/
def fnOrderedSpec : ChangeSpec := { name := "fnOrdered", fn := fun _ => fun
  | [d1, d2, d3] => { results := [.lit (.bool true)], args := [d1, d2, d3] }
  | _ => none }
def fnOrderedRow : OpenClaim := { program := "ytiebbonpimmljaa", sum := "6a2897fb2853f2151ad94d18bd5c75d03584c8bf6e70b8be3d738c3ea0bd7106", func := "fixedpoint/laws.FnOrdered", spec := "fnOrdered", apart := false }
def FnOrderedSaid : Prop := fnOrderedRow.holds Try.pinned (OpenSpec.ofChange fnOrderedSpec)

/-- ITS FALSE NEIGHBOUR: 'it returns false'. Refute it at one input. -/
def fnOrderedWrong : ChangeSpec := { name := "fnOrdered", fn := fun _ => fun
  | [d1, d2, d3] => { results := [.lit (.bool false)], args := [d1, d2, d3] }
  | _ => none }
def FnOrderedWrongFalsely : Prop := fnOrderedRow.holds Try.pinned (OpenSpec.ofChange fnOrderedWrong)

/-- 'laws.FnI': WHATEVER THE INPUT: true; the input reads as it did. -/
def fnISpec : ChangeSpec := { name := "fnI", fn := fun _ => fun
  | [d] => { results := [.lit (.bool true)], args := [d] }
  | _ => none }
def fnIRow : OpenClaim := { program := "ytiebbonpimmljaa", sum := "6a2897fb2853f2151ad94d18bd5c75d03584c8bf6e70b8be3d738c3ea0bd7106", func := "fixedpoint/laws.FnI", spec := "fnI", apart := false }
def FnISaid : Prop := fnIRow.holds Try.pinned (OpenSpec.ofChange fnISpec)

/-- ITS FALSE NEIGHBOUR: 'it returns false'. Refute it at one input. -/
def fnIWrong : ChangeSpec := { name := "fnI", fn := fun _ => fun
  | [d] => { results := [.lit (.bool false)], args := [d] }
  | _ => none }
def FnIWrongFalsely : Prop := fnIRow.holds Try.pinned (OpenSpec.ofChange fnIWrong)

/-- 'laws.FnMul': WHATEVER THE INPUT: true; the input reads as it did. -/
def fnMulSpec : ChangeSpec := { name := "fnMul", fn := fun _ => fun
  | [d1, d2, d3] => { results := [.lit (.bool true)], args := [d1, d2, d3] }
  | _ => none }
def fnMulRow : OpenClaim := { program := "ytiebbonpimmljaa", sum := "6a2897fb2853f2151ad94d18bd5c75d03584c8bf6e70b8be3d738c3ea0bd7106", func := "fixedpoint/laws.FnMul", spec := "fnMul", apart := false }
def FnMulSaid : Prop := fnMulRow.holds Try.pinned (OpenSpec.ofChange fnMulSpec)

/-- ITS FALSE NEIGHBOUR: 'it returns false'. Refute it at one input. -/
def fnMulWrong : ChangeSpec := { name := "fnMul", fn := fun _ => fun
  | [d1, d2, d3] => { results := [.lit (.bool false)], args := [d1, d2, d3] }
  | _ => none }
def FnMulWrongFalsely : Prop := fnMulRow.holds Try.pinned (OpenSpec.ofChange fnMulWrong)

/-- 'laws.FnMulIsCommutative': WHATEVER THE INPUT: true; the input reads as it did. -/
def fnMulIsCommutativeSpec : ChangeSpec := { name := "fnMulIsCommutative", fn := fun _ => fun
  | [d1, d2, d3, d4] => { results := [.lit (.bool true)], args := [d1, d2, d3, d4] }
  | _ => none }
def fnMulIsCommutativeRow : OpenClaim := { program := "ytiebbonpimmljaa", sum := "6a2897fb2853f2151ad94d18bd5c75d03584c8bf6e70b8be3d738c3ea0bd7106", func := "fixedpoint/laws.FnMulIsCommutative", spec := "fnMulIsCommutative", apart := false }
def FnMulIsCommutativeSaid : Prop := fnMulIsCommutativeRow.holds Try.pinned (OpenSpec.ofChange fnMulIsCommutativeSpec)

/-- ITS FALSE NEIGHBOUR: 'it returns false'. Refute it at one input. -/
def fnMulIsCommutativeWrong : ChangeSpec := { name := "fnMulIsCommutative", fn := fun _ => fun
  | [d1, d2, d3, d4] => { results := [.lit (.bool false)], args := [d1, d2, d3, d4] }
  | _ => none }
def FnMulIsCommutativeWrongFalsely : Prop := fnMulIsCommutativeRow.holds Try.pinned (OpenSpec.ofChange fnMulIsCommutativeWrong)

/-- 'laws.FnMulIsNear': WHATEVER THE INPUT: true; the input reads as it did. -/
def fnMulIsNearSpec : ChangeSpec := { name := "fnMulIsNear", fn := fun _ => fun
  | [d1, d2, d3] => { results := [.lit (.bool true)], args := [d1, d2, d3] }
  | _ => none }
def fnMulIsNearRow : OpenClaim := { program := "ytiebbonpimmljaa", sum := "6a2897fb2853f2151ad94d18bd5c75d03584c8bf6e70b8be3d738c3ea0bd7106", func := "fixedpoint/laws.FnMulIsNear", spec := "fnMulIsNear", apart := false }
def FnMulIsNearSaid : Prop := fnMulIsNearRow.holds Try.pinned (OpenSpec.ofChange fnMulIsNearSpec)

/-- ITS FALSE NEIGHBOUR: 'it returns false'. Refute it at one input. -/
def fnMulIsNearWrong : ChangeSpec := { name := "fnMulIsNear", fn := fun _ => fun
  | [d1, d2, d3] => { results := [.lit (.bool false)], args := [d1, d2, d3] }
  | _ => none }
def FnMulIsNearWrongFalsely : Prop := fnMulIsNearRow.holds Try.pinned (OpenSpec.ofChange fnMulIsNearWrong)

/-- 'laws.FnP': WHATEVER THE INPUT: true; the input reads as it did. -/
def fnPSpec : ChangeSpec := { name := "fnP", fn := fun _ => fun
  | [d1, d2, d3, d4] => { results := [.lit (.bool true)], args := [d1, d2, d3, d4] }
  | _ => none }
def fnPRow : OpenClaim := { program := "ytiebbonpimmljaa", sum := "6a2897fb2853f2151ad94d18bd5c75d03584c8bf6e70b8be3d738c3ea0bd7106", func := "fixedpoint/laws.FnP", spec := "fnP", apart := false }
def FnPSaid : Prop := fnPRow.holds Try.pinned (OpenSpec.ofChange fnPSpec)

/-- ITS FALSE NEIGHBOUR: 'it returns false'. Refute it at one input. -/
def fnPWrong : ChangeSpec := { name := "fnP", fn := fun _ => fun
  | [d1, d2, d3, d4] => { results := [.lit (.bool false)], args := [d1, d2, d3, d4] }
  | _ => none }
def FnPWrongFalsely : Prop := fnPRow.holds Try.pinned (OpenSpec.ofChange fnPWrong)

/- THE SECOND FORM. 'bulk': how many values and letters a reading holds, each counted each time it is reached (what is shared counts as often as it is met; a slice's spare places count too). A statement '..UptoSaid' is the law's where the arguments, and the package variables that the reading takes, are together of bulk at most 1048576: NARROWER than '..Said'. Prove '..Said' where nothing that the law and all that it calls make is longer than what came in: it says more and counts as full. Else prove '..UptoSaid'. A law counts once. -/
mutual
def uptoBulk {H : Type} : DataW H → Nat
  | .lit (.string bytes) => bytes.length + 1
  | .lit _ => 1
  | .nil => 1
  | .ptr d => uptoBulk d + 1
  | .slice elems spare => uptoBulkAll elems + uptoBulkAll spare + 1
  | .agg parts => uptoBulkAll parts + 1
  | .iface _ d => uptoBulk d + 1
  | .map entries => uptoBulkEntries entries + 1
  | .held _ => 1
def uptoBulkAll {H : Type} : List (DataW H) → Nat
  | [] => 0
  | d :: r => uptoBulk d + uptoBulkAll r
def uptoBulkEntries {H : Type} : List (Lit × DataW H) → Nat
  | [] => 0
  | x :: r => uptoBulkEntry x + uptoBulkEntries r
def uptoBulkEntry {H : Type} : Lit × DataW H → Nat
  | (.string bytes, d) => bytes.length + uptoBulk d + 1
  | (_, d) => uptoBulk d + 1
 end
def uptoSmall : (H : Type) → List (DataW H) → Bool := fun _ ds => decide (uptoBulkAll ds ≤ 1048576)
def OpenSpec.upto (s : _root_.Go.ChangeSpec) : _root_.Go.OpenSpec := { _root_.Go.OpenSpec.ofChange s with cond := some uptoSmall }

/-- 'laws.FnCeil', WHERE WHAT IT READS IS OF BULK AT MOST 1048576: true; the input reads as it did. -/
def fnCeilUptoRow : OpenClaim := { program := "ytiebbonpimmljaa", sum := "6a2897fb2853f2151ad94d18bd5c75d03584c8bf6e70b8be3d738c3ea0bd7106", func := "fixedpoint/laws.FnCeil", spec := "fnCeil", apart := false, narrowed := true }
def FnCeilUptoSaid : Prop := fnCeilUptoRow.holds Try.pinned (OpenSpec.upto fnCeilSpec)

/-- 'laws.FnFloor', WHERE WHAT IT READS IS OF BULK AT MOST 1048576: true; the input reads as it did. -/
def fnFloorUptoRow : OpenClaim := { program := "ytiebbonpimmljaa", sum := "6a2897fb2853f2151ad94d18bd5c75d03584c8bf6e70b8be3d738c3ea0bd7106", func := "fixedpoint/laws.FnFloor", spec := "fnFloor", apart := false, narrowed := true }
def FnFloorUptoSaid : Prop := fnFloorUptoRow.holds Try.pinned (OpenSpec.upto fnFloorSpec)

/-- 'laws.FnRound', WHERE WHAT IT READS IS OF BULK AT MOST 1048576: true; the input reads as it did. -/
def fnRoundUptoRow : OpenClaim := { program := "ytiebbonpimmljaa", sum := "6a2897fb2853f2151ad94d18bd5c75d03584c8bf6e70b8be3d738c3ea0bd7106", func := "fixedpoint/laws.FnRound", spec := "fnRound", apart := false, narrowed := true }
def FnRoundUptoSaid : Prop := fnRoundUptoRow.holds Try.pinned (OpenSpec.upto fnRoundSpec)

/-- 'laws.FnFloorAndCeil', WHERE WHAT IT READS IS OF BULK AT MOST 1048576: true; the input reads as it did. -/
def fnFloorAndCeilUptoRow : OpenClaim := { program := "ytiebbonpimmljaa", sum := "6a2897fb2853f2151ad94d18bd5c75d03584c8bf6e70b8be3d738c3ea0bd7106", func := "fixedpoint/laws.FnFloorAndCeil", spec := "fnFloorAndCeil", apart := false, narrowed := true }
def FnFloorAndCeilUptoSaid : Prop := fnFloorAndCeilUptoRow.holds Try.pinned (OpenSpec.upto fnFloorAndCeilSpec)

/-- 'laws.FnOrdered', WHERE WHAT IT READS IS OF BULK AT MOST 1048576: true; the input reads as it did. -/
def fnOrderedUptoRow : OpenClaim := { program := "ytiebbonpimmljaa", sum := "6a2897fb2853f2151ad94d18bd5c75d03584c8bf6e70b8be3d738c3ea0bd7106", func := "fixedpoint/laws.FnOrdered", spec := "fnOrdered", apart := false, narrowed := true }
def FnOrderedUptoSaid : Prop := fnOrderedUptoRow.holds Try.pinned (OpenSpec.upto fnOrderedSpec)

/-- 'laws.FnI', WHERE WHAT IT READS IS OF BULK AT MOST 1048576: true; the input reads as it did. -/
def fnIUptoRow : OpenClaim := { program := "ytiebbonpimmljaa", sum := "6a2897fb2853f2151ad94d18bd5c75d03584c8bf6e70b8be3d738c3ea0bd7106", func := "fixedpoint/laws.FnI", spec := "fnI", apart := false, narrowed := true }
def FnIUptoSaid : Prop := fnIUptoRow.holds Try.pinned (OpenSpec.upto fnISpec)

/-- 'laws.FnMul', WHERE WHAT IT READS IS OF BULK AT MOST 1048576: true; the input reads as it did. -/
def fnMulUptoRow : OpenClaim := { program := "ytiebbonpimmljaa", sum := "6a2897fb2853f2151ad94d18bd5c75d03584c8bf6e70b8be3d738c3ea0bd7106", func := "fixedpoint/laws.FnMul", spec := "fnMul", apart := false, narrowed := true }
def FnMulUptoSaid : Prop := fnMulUptoRow.holds Try.pinned (OpenSpec.upto fnMulSpec)

/-- 'laws.FnMulIsCommutative', WHERE WHAT IT READS IS OF BULK AT MOST 1048576: true; the input reads as it did. -/
def fnMulIsCommutativeUptoRow : OpenClaim := { program := "ytiebbonpimmljaa", sum := "6a2897fb2853f2151ad94d18bd5c75d03584c8bf6e70b8be3d738c3ea0bd7106", func := "fixedpoint/laws.FnMulIsCommutative", spec := "fnMulIsCommutative", apart := false, narrowed := true }
def FnMulIsCommutativeUptoSaid : Prop := fnMulIsCommutativeUptoRow.holds Try.pinned (OpenSpec.upto fnMulIsCommutativeSpec)

/-- 'laws.FnMulIsNear', WHERE WHAT IT READS IS OF BULK AT MOST 1048576: true; the input reads as it did. -/
def fnMulIsNearUptoRow : OpenClaim := { program := "ytiebbonpimmljaa", sum := "6a2897fb2853f2151ad94d18bd5c75d03584c8bf6e70b8be3d738c3ea0bd7106", func := "fixedpoint/laws.FnMulIsNear", spec := "fnMulIsNear", apart := false, narrowed := true }
def FnMulIsNearUptoSaid : Prop := fnMulIsNearUptoRow.holds Try.pinned (OpenSpec.upto fnMulIsNearSpec)

/-- 'laws.FnP', WHERE WHAT IT READS IS OF BULK AT MOST 1048576: true; the input reads as it did. -/
def fnPUptoRow : OpenClaim := { program := "ytiebbonpimmljaa", sum := "6a2897fb2853f2151ad94d18bd5c75d03584c8bf6e70b8be3d738c3ea0bd7106", func := "fixedpoint/laws.FnP", spec := "fnP", apart := false, narrowed := true }
def FnPUptoSaid : Prop := fnPUptoRow.holds Try.pinned (OpenSpec.upto fnPSpec)

end Rows
end Go.Proofs.Ytiebbonpimmljaa
