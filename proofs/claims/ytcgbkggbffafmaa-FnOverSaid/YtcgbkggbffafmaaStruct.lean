/- How points and rectangles of 64-bit numbers come in and are read again: every value of these types; no condition. -/
import Derived.Test.YtcgbkggbffafmaaNum
import Derived.ProofKit
import Derived.OpenShut
import Derived.Lib.SmallJoins
namespace Go.Proofs.Ytcgbkggbffafmaa
open Go.ChangeShapes Go.WideShapes Go.ChangeAt Go.RowKit
section
variable {H : Type} {enc : TypeId × Value → H} {w : World} {base : Nat} {spare : Nat → Bool} {held : Bool}
theorem cellsP : Try.prog.cellsOf 23 = 2 := by kernel_rfl
theorem cellsR : Try.prog.cellsOf 25 = 4 := by kernel_rfl
theorem cellsI : Try.prog.cellsOf 2 = 1 := by kernel_rfl

theorem int_cell {fuel : Nat} {c : Value} {y : DataW H × List MemPlace} (h : DataW.trod enc Try.prog w base spare held fuel 2 [c] = some y) : ∃ x, c = .int .i64 x ∧ y = (.lit (.int .i64 x), []) ∧ (Lit.int .i64 x).wf = true := by
  obtain ⟨x, e0, e1, wx⟩ := DataW.trod_int Try.underlying2 h
  simp at e0
  exact ⟨x, e0, e1, wx⟩
theorem point_cells {fuel : Nat} {c0 c1 : Value} {y : DataW H × List MemPlace} (h : DataW.trod enc Try.prog w base spare held fuel 23 [c0, c1] = some y) :
    ∃ x0 x1, c0 = .int .i64 x0 ∧ c1 = .int .i64 x1 ∧ y = (.agg [.lit (.int .i64 x0), .lit (.int .i64 x1)], []) ∧ (Lit.int .i64 x0).wf = true ∧ (Lit.int .i64 x1).wf = true := by
  obtain ⟨y0, y1, n, rfl, _, h0, h1⟩ := trod_struct2 Try.underlying23 h
  obtain ⟨x0, rfl, rfl, w0⟩ := int_cell (c := c0) (by simpa [cellsI] using h0)
  obtain ⟨x1, rfl, rfl, w1⟩ := int_cell (c := c1) (by simpa [cellsI] using h1)
  exact ⟨x0, x1, rfl, rfl, rfl, w0, w1⟩
theorem open_point {r : Reach} {b0 : Nat} {v : Value} {d : DataW H} {p : List MemPlace} (hv : Value.okWide Try.prog w r b0 23 v) (h : DataW.Trod enc Try.prog w base spare held 23 v d p) :
    ∃ x0 x1, v = .agg #[.int .i64 x0, .int .i64 x1] ∧ d = .agg [.lit (.int .i64 x0), .lit (.int .i64 x1)] ∧ p = [] ∧ (Lit.int .i64 x0).wf = true ∧ (Lit.int .i64 x1).wf = true := by
  obtain ⟨cs, rfl, hsz⟩ := okWide_struct Try.underlying23 hv
  obtain ⟨c0, c1, rfl⟩ := Joins.array2 (hsz.trans cellsP)
  obtain ⟨fuel, hf⟩ := h
  obtain ⟨x0, x1, rfl, rfl, hy, w0, w1⟩ := point_cells (by simpa [Value.cells] using hf)
  simp only [Prod.mk.injEq] at hy
  exact ⟨x0, x1, rfl, hy.1, hy.2, w0, w1⟩
theorem open_rect {r : Reach} {b0 : Nat} {v : Value} {d : DataW H} {p : List MemPlace} (hv : Value.okWide Try.prog w r b0 25 v) (h : DataW.Trod enc Try.prog w base spare held 25 v d p) :
    ∃ x0 x1 x2 x3, v = .agg #[.int .i64 x0, .int .i64 x1, .int .i64 x2, .int .i64 x3] ∧ d = .agg [.agg [.lit (.int .i64 x0), .lit (.int .i64 x1)], .agg [.lit (.int .i64 x2), .lit (.int .i64 x3)]] ∧ p = [] ∧
      (Lit.int .i64 x0).wf = true ∧ (Lit.int .i64 x1).wf = true ∧ (Lit.int .i64 x2).wf = true ∧ (Lit.int .i64 x3).wf = true := by
  obtain ⟨cs, rfl, hsz⟩ := okWide_struct Try.underlying25 hv
  obtain ⟨c0, c1, c2, c3, rfl⟩ := Joins.array4 (hsz.trans cellsR)
  obtain ⟨fuel, hf⟩ := h
  obtain ⟨y0, y1, n, hx, _, h0, h1⟩ := trod_struct2 Try.underlying25 hf
  obtain ⟨x0, x1, rfl, rfl, rfl, w0, w1⟩ := point_cells (c0 := c0) (c1 := c1) (by simpa [Value.cells, cellsP] using h0)
  obtain ⟨x2, x3, rfl, rfl, rfl, w2, w3⟩ := point_cells (c0 := c2) (c1 := c3) (by simpa [Value.cells, cellsP] using h1)
  simp only [Prod.mk.injEq] at hx
  exact ⟨x0, x1, x2, x3, rfl, hx.1, hx.2, w0, w1, w2, w3⟩
theorem int_mk (m : Nat) {x : Int} (wx : (Lit.int .i64 x).wf = true) : DataW.trod enc Try.prog w base spare held (m + 1) 2 [.int .i64 x] = some (.lit (.int .i64 x), []) :=
  trod_int_mk m Try.underlying2 wx
theorem point_mk (m : Nat) {x0 x1 : Int} (w0 : (Lit.int .i64 x0).wf = true) (w1 : (Lit.int .i64 x1).wf = true) :
    DataW.trod enc Try.prog w base spare held (m + 2) 23 [.int .i64 x0, .int .i64 x1] = some (.agg [.lit (.int .i64 x0), .lit (.int .i64 x1)], []) := by
  have ts := trod_struct2_mk (enc := enc) (w := w) (base := base) (spare := spare) (held := held) (n := m + 1) (cs := [.int .i64 x0, .int .i64 x1]) Try.underlying23 (by simp [cellsP])
    (by simpa [cellsI] using int_mk m w0) (by simpa [cellsI] using int_mk m w1)
  simpa using ts
theorem shut_point {x0 x1 : Int} (w0 : (Lit.int .i64 x0).wf = true) (w1 : (Lit.int .i64 x1).wf = true) :
    DataW.Trod enc Try.prog w base spare held 23 (.agg #[.int .i64 x0, .int .i64 x1]) (.agg [.lit (.int .i64 x0), .lit (.int .i64 x1)]) [] :=
  ⟨_, by simpa [Value.cells] using point_mk 0 w0 w1⟩
theorem shut_rect {x0 x1 x2 x3 : Int} (w0 : (Lit.int .i64 x0).wf = true) (w1 : (Lit.int .i64 x1).wf = true) (w2 : (Lit.int .i64 x2).wf = true) (w3 : (Lit.int .i64 x3).wf = true) :
    DataW.Trod enc Try.prog w base spare held 25 (.agg #[.int .i64 x0, .int .i64 x1, .int .i64 x2, .int .i64 x3]) (.agg [.agg [.lit (.int .i64 x0), .lit (.int .i64 x1)], .agg [.lit (.int .i64 x2), .lit (.int .i64 x3)]]) [] := by
  have ts := trod_struct2_mk (enc := enc) (w := w) (base := base) (spare := spare) (held := held) (n := 2) (cs := [.int .i64 x0, .int .i64 x1, .int .i64 x2, .int .i64 x3]) Try.underlying25 (by simp [cellsR])
    (by simpa [cellsP] using point_mk 0 w0 w1) (by simpa [cellsP] using point_mk 0 w2 w3)
  exact ⟨_, by simpa [Value.cells] using ts⟩
end

/-! The world behind a call that makes memory and turns nothing that was there. -/
theorem keepc {W w1 : World} (hb : Below W.heap.size W w1) {p : Addr} {v : Value} (h : W.cell? p = some v) : w1.cell? p = some v := by
  rw [hb.cell (World.block_lt_of_cell? W _ h)]; exact h
theorem keepf {W w1 : World} (hb : Below W.heap.size W w1) {p : Addr} {v : Value} (h : W.cell? p = some v) (hf : W.frozen? p = false) : w1.frozen? p = false := by
  rw [hb.frozen (World.block_lt_of_cell? W _ h)]; exact hf
theorem keepb {w W w1 : World} (h : Below w.heap.size w W) (hb : Below W.heap.size W w1) : Below w.heap.size w w1 := h.trans (hb.mono h.size)
end Go.Proofs.Ytcgbkggbffafmaa
