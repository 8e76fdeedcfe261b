/- A world named anew behind an allocation, behind four cells written in a row. No program in sight. -/
import Derived.Test.YtcgbkggbffafmaaJoin
namespace Go.Proofs.Ytcgbkggbffafmaa
open Go.RowKit
theorem namedA {K : Act → World → Prop} {a : Act} {W : World} {x0 x1 x2 x3 : Value} {t : TypeId}
    (k : ∀ V, Below W.heap.size W V → V.cell? ⟨W.heap.size, 0, none⟩ = some x0 → V.cell? ⟨W.heap.size, 1, none⟩ = some x1 → V.cell? ⟨W.heap.size, 2, none⟩ = some x2 → V.cell? ⟨W.heap.size, 3, none⟩ = some x3 →
      V.frozen? ⟨W.heap.size, 0, none⟩ = false → V.frozen? ⟨W.heap.size, 1, none⟩ = false → V.frozen? ⟨W.heap.size, 2, none⟩ = false → V.frozen? ⟨W.heap.size, 3, none⟩ = false → K a V) : K a (W.alloc (.cells #[x0, x1, x2, x3] t)) :=
  k _ ((Below.refl _ _).alloc (Nat.le_refl _) _) (by simp [go_sem]) (by simp [go_sem]) (by simp [go_sem]) (by simp [go_sem]) (by simp [go_sem]) (by simp [go_sem]) (by simp [go_sem]) (by simp [go_sem])
/-- What a store into block b keeps. -/
structure Kept (b : Nat) (W V : World) : Prop where
  cell : ∀ {p : Addr} {v : Value}, W.cell? p = some v → b ≠ p.block → V.cell? p = some v
  frozen : ∀ {p : Addr}, W.frozen? p = false → V.frozen? p = false
  below : ∀ {B : Nat} {a : World}, Below B a W → B ≤ b → Below B a V
theorem namedS {K : Act → World → Prop} {a : Act} {W : World} {b : Nat} {x0 x1 x2 x3 v0 v1 v2 v3 : Value} (h0 : W.cell? ⟨b, 0, none⟩ = some v0) (h1 : W.cell? ⟨b, 1, none⟩ = some v1) (h2 : W.cell? ⟨b, 2, none⟩ = some v2) (h3 : W.cell? ⟨b, 3, none⟩ = some v3)
    (k : ∀ V, Kept b W V → V.cell? ⟨b, 0, none⟩ = some x0 → V.cell? ⟨b, 1, none⟩ = some x1 → V.cell? ⟨b, 2, none⟩ = some x2 → V.cell? ⟨b, 3, none⟩ = some x3 → K a V) : K a (put4 W b x0 x1 x2 x3) := by
  obtain ⟨z0, z1, z2, z3⟩ := own4 (x0 := x0) (x1 := x1) (x2 := x2) (x3 := x3) h0 h1 h2 h3
  exact k _ ⟨fun h n => far4 h n, fun h => froz4 h, fun h n => below4 h n⟩ z0 z1 z2 z3
end Go.Proofs.Ytcgbkggbffafmaa
