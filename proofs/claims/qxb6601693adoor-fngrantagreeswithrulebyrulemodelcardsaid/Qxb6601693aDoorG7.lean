import Derived.Test.Qxb6601693aDoorG6
import Derived.Deep.RegionWith
import Derived.Deep.Cut
import Derived.Lib.SmallJoins
import Derived.Laws.Tables
namespace Go.Proofs.Qxb6601693aDoor
open Go.RowKit

theorem heap2 (w : World) (a b : Obj) : ((w.alloc a).alloc b).heap[w.heap.size]? = some a := by
  have e : ((w.alloc a).alloc b).heap[w.heap.size]? = (w.alloc a).heap[w.heap.size]? := ((Below.refl (w.alloc a).heap.size (w.alloc a)).alloc (Nat.le_refl _) b).block w.heap.size (by simp)
  rw [e]
  exact heap_alloc_new w a
theorem heap2' (w : World) (a b : Obj) : ((w.alloc a).alloc b).heap[w.heap.size + 1]? = some b := by
  have := heap_alloc_new (w.alloc a) b
  simpa using this
theorem below2 (w : World) (a b : Obj) : Below w.heap.size w ((w.alloc a).alloc b) := ((Below.refl _ w).alloc (Nat.le_refl _) a).alloc (by simp) b
/-- what the eight cells of a block are -/
theorem Cells8.facts {w : World} {B : Nat} {x0 x1 x2 x3 x4 x5 x6 x7 : Int} (h : w.heap[B]? = some (.cells #[.int .i64 x0, .int .i64 x1, .int .i64 x2, .int .i64 x3, .int .i64 x4, .int .i64 x5, .int .i64 x6, .int .i64 x7] 69)) :
    (w.cell? ⟨B, 0, none⟩ = some (.int .i64 x0) ∧ w.cell? ⟨B, 1, none⟩ = some (.int .i64 x1) ∧ w.cell? ⟨B, 2, none⟩ = some (.int .i64 x2) ∧ w.cell? ⟨B, 3, none⟩ = some (.int .i64 x3) ∧ w.cell? ⟨B, 4, none⟩ = some (.int .i64 x4) ∧ w.cell? ⟨B, 5, none⟩ = some (.int .i64 x5) ∧ w.cell? ⟨B, 6, none⟩ = some (.int .i64 x6) ∧ w.cell? ⟨B, 7, none⟩ = some (.int .i64 x7)) ∧ ∀ i, w.frozen? ⟨B, i, none⟩ = false := by
  refine ⟨⟨?_, ?_, ?_, ?_, ?_, ?_, ?_, ?_⟩, fun i => Joins.unfrozen_of_block h i⟩
  all_goals rw [Joins.cell_of_block h]; rfl

theorem lt_alloc (w : World) (o : Obj) : w.heap.size < (w.alloc o).heap.size := by simp

theorem below_aft {B : Nat} {w wr w' : World} (h : Below B w wr) (hB : B ≤ wr.heap.size) (h2 : Below wr.heap.size wr w') : Below B w w' :=
  ⟨h2.os.trans h.os, h2.tape.trans h.tape, h2.output.trans h.output, Nat.le_trans h.size h2.size, fun k hk => (h2.block k (by omega)).trans (h.block k hk)⟩
theorem Cells8.lt {w : World} {B : Nat} (h : Cells8 w B) : B < w.heap.size := by
  obtain ⟨x0, x1, x2, x3, x4, x5, x6, x7, h⟩ := h
  exact (Array.getElem?_eq_some_iff.1 h).1
theorem Cells8.below {w w' : World} {B : Nat} (h : Cells8 w B) (hb : Below w.heap.size w w') : Cells8 w' B := by
  have hlt := h.lt
  obtain ⟨x0, x1, x2, x3, x4, x5, x6, x7, h⟩ := h
  exact ⟨_, _, _, _, _, _, _, _, (hb.block B hlt).trans h⟩
/-- eight stores into a block of eight numbers -/
def set8 (w : World) (B : Nat) (y0 y1 y2 y3 y4 y5 y6 y7 : Int) : World :=
  (((((((w.setCell ⟨B, 0, none⟩ (.int .i64 y0)).setCell ⟨B, 1, none⟩ (.int .i64 y1)).setCell ⟨B, 2, none⟩ (.int .i64 y2)).setCell ⟨B, 3, none⟩ (.int .i64 y3)).setCell ⟨B, 4, none⟩ (.int .i64 y4)).setCell ⟨B, 5, none⟩ (.int .i64 y5)).setCell ⟨B, 6, none⟩ (.int .i64 y6)).setCell ⟨B, 7, none⟩ (.int .i64 y7)
theorem set8_same {w : World} {B : Nat} (h : Cells8 w B) (y0 y1 y2 y3 y4 y5 y6 y7 : Int) : Cells8 (set8 w B y0 y1 y2 y3 y4 y5 y6 y7) B := by
  obtain ⟨x0, x1, x2, x3, x4, x5, x6, x7, h⟩ := h
  have h0 : (w.setCell ⟨B, 0, none⟩ (.int .i64 y0)).heap[B]? = some (.cells #[.int .i64 y0, .int .i64 x1, .int .i64 x2, .int .i64 x3, .int .i64 x4, .int .i64 x5, .int .i64 x6, .int .i64 x7] 69) := Joins.block_setCell h _
  have h1 : ((w.setCell ⟨B, 0, none⟩ (.int .i64 y0)).setCell ⟨B, 1, none⟩ (.int .i64 y1)).heap[B]? = some (.cells #[.int .i64 y0, .int .i64 y1, .int .i64 x2, .int .i64 x3, .int .i64 x4, .int .i64 x5, .int .i64 x6, .int .i64 x7] 69) := Joins.block_setCell h0 _
  have h2 : (((w.setCell ⟨B, 0, none⟩ (.int .i64 y0)).setCell ⟨B, 1, none⟩ (.int .i64 y1)).setCell ⟨B, 2, none⟩ (.int .i64 y2)).heap[B]? = some (.cells #[.int .i64 y0, .int .i64 y1, .int .i64 y2, .int .i64 x3, .int .i64 x4, .int .i64 x5, .int .i64 x6, .int .i64 x7] 69) := Joins.block_setCell h1 _
  have h3 : ((((w.setCell ⟨B, 0, none⟩ (.int .i64 y0)).setCell ⟨B, 1, none⟩ (.int .i64 y1)).setCell ⟨B, 2, none⟩ (.int .i64 y2)).setCell ⟨B, 3, none⟩ (.int .i64 y3)).heap[B]? = some (.cells #[.int .i64 y0, .int .i64 y1, .int .i64 y2, .int .i64 y3, .int .i64 x4, .int .i64 x5, .int .i64 x6, .int .i64 x7] 69) := Joins.block_setCell h2 _
  have h4 : (((((w.setCell ⟨B, 0, none⟩ (.int .i64 y0)).setCell ⟨B, 1, none⟩ (.int .i64 y1)).setCell ⟨B, 2, none⟩ (.int .i64 y2)).setCell ⟨B, 3, none⟩ (.int .i64 y3)).setCell ⟨B, 4, none⟩ (.int .i64 y4)).heap[B]? = some (.cells #[.int .i64 y0, .int .i64 y1, .int .i64 y2, .int .i64 y3, .int .i64 y4, .int .i64 x5, .int .i64 x6, .int .i64 x7] 69) := Joins.block_setCell h3 _
  have h5 : ((((((w.setCell ⟨B, 0, none⟩ (.int .i64 y0)).setCell ⟨B, 1, none⟩ (.int .i64 y1)).setCell ⟨B, 2, none⟩ (.int .i64 y2)).setCell ⟨B, 3, none⟩ (.int .i64 y3)).setCell ⟨B, 4, none⟩ (.int .i64 y4)).setCell ⟨B, 5, none⟩ (.int .i64 y5)).heap[B]? = some (.cells #[.int .i64 y0, .int .i64 y1, .int .i64 y2, .int .i64 y3, .int .i64 y4, .int .i64 y5, .int .i64 x6, .int .i64 x7] 69) := Joins.block_setCell h4 _
  have h6 : (((((((w.setCell ⟨B, 0, none⟩ (.int .i64 y0)).setCell ⟨B, 1, none⟩ (.int .i64 y1)).setCell ⟨B, 2, none⟩ (.int .i64 y2)).setCell ⟨B, 3, none⟩ (.int .i64 y3)).setCell ⟨B, 4, none⟩ (.int .i64 y4)).setCell ⟨B, 5, none⟩ (.int .i64 y5)).setCell ⟨B, 6, none⟩ (.int .i64 y6)).heap[B]? = some (.cells #[.int .i64 y0, .int .i64 y1, .int .i64 y2, .int .i64 y3, .int .i64 y4, .int .i64 y5, .int .i64 y6, .int .i64 x7] 69) := Joins.block_setCell h5 _
  have h7 : ((((((((w.setCell ⟨B, 0, none⟩ (.int .i64 y0)).setCell ⟨B, 1, none⟩ (.int .i64 y1)).setCell ⟨B, 2, none⟩ (.int .i64 y2)).setCell ⟨B, 3, none⟩ (.int .i64 y3)).setCell ⟨B, 4, none⟩ (.int .i64 y4)).setCell ⟨B, 5, none⟩ (.int .i64 y5)).setCell ⟨B, 6, none⟩ (.int .i64 y6)).setCell ⟨B, 7, none⟩ (.int .i64 y7)).heap[B]? = some (.cells #[.int .i64 y0, .int .i64 y1, .int .i64 y2, .int .i64 y3, .int .i64 y4, .int .i64 y5, .int .i64 y6, .int .i64 y7] 69) := Joins.block_setCell h6 _
  exact ⟨y0, y1, y2, y3, y4, y5, y6, y7, h7⟩
theorem set8_other {w : World} {B C : Nat} (y0 y1 y2 y3 y4 y5 y6 y7 : Int) (hne : C ≠ B) : (set8 w B y0 y1 y2 y3 y4 y5 y6 y7).heap[C]? = w.heap[C]? := by
  unfold set8
  iterate 8 rw [heap_setCell_other _ _ _ _ hne]
theorem set8_size (w : World) (B : Nat) (y0 y1 y2 y3 y4 y5 y6 y7 : Int) : (set8 w B y0 y1 y2 y3 y4 y5 y6 y7).heap.size = w.heap.size := by
  unfold set8
  simp
theorem set8_below {w w' : World} {A B : Nat} (h : Below A w w') (hB : A ≤ B) (y0 y1 y2 y3 y4 y5 y6 y7 : Int) : Below A w (set8 w' B y0 y1 y2 y3 y4 y5 y6 y7) := by
  unfold set8
  exact ((((((((h.setCell hB _).setCell hB _).setCell hB _).setCell hB _).setCell hB _).setCell hB _).setCell hB _).setCell hB _)
theorem Cells8.congr {w w' : World} {B : Nat} (h : Cells8 w B) (e : w'.heap[B]? = w.heap[B]?) : Cells8 w' B := by
  obtain ⟨x0, x1, x2, x3, x4, x5, x6, x7, h⟩ := h
  exact ⟨_, _, _, _, _, _, _, _, e.trans h⟩

end Go.Proofs.Qxb6601693aDoor
