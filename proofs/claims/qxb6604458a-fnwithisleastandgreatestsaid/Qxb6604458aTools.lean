import Derived.Test.Qxb6604458aWith
import Derived.Deep.DeepCutAuto
namespace Go.Proofs.Qxb6604458a.Num
open Go.RowKit
set_option linter.unusedVariables false

/-- Block b begins with these cells. -/
def CellsAt (w : World) (b : Nat) (cs : Array Value) : Prop := b < w.heap.size ∧ ∀ j, j < cs.size → w.cell? ⟨b, j, none⟩ = cs[j]?
theorem CellsAt.new (w : World) (cs : Array Value) (t : TypeId) : CellsAt (w.alloc (.cells cs t)) w.heap.size cs := by
  refine ⟨by simp, fun j hj => ?_⟩
  have h : (w.alloc (.cells cs t)).heap[w.heap.size]? = some (.cells cs t) := heap_alloc_new _ _
  simp only [World.cell?, h]
  simp
theorem CellsAt.new' (w : World) (cs : Array Value) (t : TypeId) {b : Nat} (hb : b = w.heap.size) : CellsAt (w.alloc (.cells cs t)) b cs := by rw [hb]; exact CellsAt.new w cs t
theorem below_on {w W w4 : World} (h4 : Below W.heap.size W w4) (hW : Below w.heap.size w W) : Below w.heap.size w w4 := hW.trans (h4.mono hW.size)
theorem CellsAt.at {w : World} {b : Nat} {cs : Array Value} (h : CellsAt w b cs) {j : Nat} {v : Value} (e : cs[j]? = some v) : w.cell? ⟨b, j, none⟩ = some v := by
  obtain ⟨hj, _⟩ := Array.getElem?_eq_some_iff.1 e
  rw [h.2 j hj, e]
theorem CellsAt.below {w w' : World} {b : Nat} {cs : Array Value} (h : CellsAt w b cs) (hb : Below w.heap.size w w') : CellsAt w' b cs :=
  ⟨Nat.lt_of_lt_of_le h.1 hb.size, fun j hj => (hb.cell (p := ⟨b, j, none⟩) h.1).trans (h.2 j hj)⟩
theorem CellsAt.alloc {w : World} {b : Nat} {cs : Array Value} (h : CellsAt w b cs) (o : Obj) : CellsAt (w.alloc o) b cs := h.below (bel (Below.refl _ _) o)
theorem CellsAt.drew {w : World} {b : Nat} {cs : Array Value} (h : CellsAt w b cs) : CellsAt w.drew b cs := h
theorem lt_of_cell {w : World} {a : Addr} {v : Value} (h : w.cell? a = some v) : a.block < w.heap.size := World.block_lt_of_cell? _ _ h
/-- Seven stores into a block that has seven cells. -/
theorem CellsAt.seven {w : World} {b : Nat} {z0 z1 z2 z3 z4 z5 z6 v0 v1 v2 v3 v4 v5 v6 : Value} (h : CellsAt w b #[z0, z1, z2, z3, z4, z5, z6]) :
    CellsAt (((((((w.setCell ⟨b, 0, none⟩ v0).setCell ⟨b, 1, none⟩ v1).setCell ⟨b, 2, none⟩ v2).setCell ⟨b, 3, none⟩ v3).setCell ⟨b, 4, none⟩ v4).setCell ⟨b, 5, none⟩ v5).setCell ⟨b, 6, none⟩ v6) b #[v0, v1, v2, v3, v4, v5, v6] := by
  have c0 := h.at (j := 0) rfl
  have c1 := h.at (j := 1) rfl
  have c2 := h.at (j := 2) rfl
  have c3 := h.at (j := 3) rfl
  have c4 := h.at (j := 4) rfl
  have c5 := h.at (j := 5) rfl
  have c6 := h.at (j := 6) rfl
  refine ⟨by simpa [World.setCell] using h.1, fun j hj => ?_⟩
  have : j = 0 ∨ j = 1 ∨ j = 2 ∨ j = 3 ∨ j = 4 ∨ j = 5 ∨ j = 6 := by simp at hj; omega
  rcases this with rfl | rfl | rfl | rfl | rfl | rfl | rfl <;> simp [go_sem, c0, c1, c2, c3, c4, c5, c6]
theorem below_seven {w w' : World} {b : Nat} {v0 v1 v2 v3 v4 v5 v6 : Value} (h : Below w.heap.size w w') (hb : w.heap.size ≤ b) :
    Below w.heap.size w (((((((w'.setCell ⟨b, 0, none⟩ v0).setCell ⟨b, 1, none⟩ v1).setCell ⟨b, 2, none⟩ v2).setCell ⟨b, 3, none⟩ v3).setCell ⟨b, 4, none⟩ v4).setCell ⟨b, 5, none⟩ v5).setCell ⟨b, 6, none⟩ v6) :=
  ((((((h.setCell hb _).setCell hb _).setCell hb _).setCell hb _).setCell hb _).setCell hb _).setCell hb _
theorem bcell {W w1 : World} (hb : Below W.heap.size W w1) : (∀ b o, b < W.heap.size → w1.cell? ⟨b, o, none⟩ = W.cell? ⟨b, o, none⟩) ∧ (∀ b o, b < W.heap.size → w1.frozen? ⟨b, o, none⟩ = W.frozen? ⟨b, o, none⟩) :=
  ⟨fun b o h => hb.cell (p := ⟨b, o, none⟩) h, fun b o h => hb.frozen (p := ⟨b, o, none⟩) h⟩


end Go.Proofs.Qxb6604458a.Num
