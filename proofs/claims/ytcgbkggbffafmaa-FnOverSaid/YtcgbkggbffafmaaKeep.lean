/- Small laws: a cell that is there stays as it is when a block is made, and when another block is written. No condition. -/
import Derived.Test.YtcgbkggbffafmaaStruct
namespace Go.Proofs.Ytcgbkggbffafmaa
open Go.RowKit
theorem keepA {W : World} {p : Addr} {v : Value} (o : Obj) (h : W.cell? p = some v) : (W.alloc o).cell? p = some v :=
  keepc (W := W) ((Below.refl _ _).alloc (Nat.le_refl _) o) h
theorem keepS {W : World} {p q : Addr} {v : Value} (x : Value) (h : W.cell? p = some v) (hne : q.block ≠ p.block) : (W.setCell q x).cell? p = some v := by
  rw [World.cell?_setCell_other W q p x (fun e => hne (by rw [e]))]; exact h
theorem keepAf {W : World} {p : Addr} {v : Value} (o : Obj) (h : W.cell? p = some v) (hf : W.frozen? p = false) : (W.alloc o).frozen? p = false :=
  keepf (W := W) ((Below.refl _ _).alloc (Nat.le_refl _) o) h hf
end Go.Proofs.Ytcgbkggbffafmaa
