/- The ways through a drawn region meet behind it: what follows is walked once. No program in sight. -/
import Derived.Test.YtcgbkggbffafmaaHold
import Derived.Test.YtcgbkggbffafmaaKeep
namespace Go.Proofs.Ytcgbkggbffafmaa
open Go.RowKit
theorem then_normal {K : Act → World → Prop} {Q' : Exit → Act → World → Prop} {a : Act} {w : World} (h : K a w) : Exit.then K Q' .normal a w := h
theorem wp_join {P : Program} {s : Code} {K : Act → World → Prop} {Q' : Exit → Act → World → Prop} {a : Act} {w : World} (R : Act → World → Prop)
    (rest : ∀ a' w', R a' w' → K a' w') (first : s.wp P (Exit.then R Q') a w) : s.wp P (Exit.then K Q') a w := by
  refine wp_mono first ?_
  intro e a' w' hq
  cases e with
  | normal => exact rest _ _ hq
  | exit id => exact hq
  | goto l => exact hq
  | ret => exact hq
  | panic ch => exact hq
  | outgrown => exact hq
/-- Four cells written in a row. -/
abbrev put4 (W : World) (b : Nat) (x0 x1 x2 x3 : Value) : World :=
  (((W.setCell ⟨b, 0, none⟩ x0).setCell ⟨b, 1, none⟩ x1).setCell ⟨b, 2, none⟩ x2).setCell ⟨b, 3, none⟩ x3
theorem far4 {W : World} {b : Nat} {x0 x1 x2 x3 : Value} {p : Addr} {v : Value} (h : W.cell? p = some v) (n : b ≠ p.block) : (put4 W b x0 x1 x2 x3).cell? p = some v :=
  keepS _ (keepS _ (keepS _ (keepS _ h n) n) n) n
theorem froz4 {W : World} {b : Nat} {x0 x1 x2 x3 : Value} {p : Addr} (h : W.frozen? p = false) : (put4 W b x0 x1 x2 x3).frozen? p = false := by
  rw [World.frozen?_setCell, World.frozen?_setCell, World.frozen?_setCell, World.frozen?_setCell]; exact h
theorem below4 {B : Nat} {a W : World} {b : Nat} {x0 x1 x2 x3 : Value} (h : Below B a W) (n : B ≤ b) : Below B a (put4 W b x0 x1 x2 x3) :=
  (((h.setCell n _).setCell n _).setCell n _).setCell n _
theorem own4 {W : World} {b : Nat} {x0 x1 x2 x3 v0 v1 v2 v3 : Value} (h0 : W.cell? ⟨b, 0, none⟩ = some v0) (h1 : W.cell? ⟨b, 1, none⟩ = some v1) (h2 : W.cell? ⟨b, 2, none⟩ = some v2) (h3 : W.cell? ⟨b, 3, none⟩ = some v3) :
    (put4 W b x0 x1 x2 x3).cell? ⟨b, 0, none⟩ = some x0 ∧ (put4 W b x0 x1 x2 x3).cell? ⟨b, 1, none⟩ = some x1 ∧ (put4 W b x0 x1 x2 x3).cell? ⟨b, 2, none⟩ = some x2 ∧ (put4 W b x0 x1 x2 x3).cell? ⟨b, 3, none⟩ = some x3 := by
  refine ⟨?_, ?_, ?_, ?_⟩ <;> simp [go_sem, h0, h1, h2, h3]
end Go.Proofs.Ytcgbkggbffafmaa
