/-
  A ROW OF COLUMNS THAT THE CALL ITSELF MADE: how it begins, what a store of one column does to it, how it reads in the end.
-/
import Derived.Test.Qxb6628450aBase
import Derived.OwnWalk
namespace Go.Proofs.Qxb6628450a
open Go.RowKit

theorem info35 : (Try.prog.info? 35).map (fun i => (i.zero, i.size, i.bytes)) = some (some (.agg #[.string ByteArray.empty, .string ByteArray.empty, .int .i64 0, .int .i64 0, .bool false]), 5, 56) := by kernel_rfl

/-- The column c lies in the array of cells from o on. -/
def cellsIn (cur : Array Value) (o : Nat) (c : Co) : Prop :=
  cur[o]? = some (.string c.name) ∧ cur[o + 1]? = some (.string c.kind) ∧ cur[o + 2]? = some (.int .i64 c.prec) ∧ cur[o + 3]? = some (.int .i64 c.scale) ∧ cur[o + 4]? = some (.bool c.nul)

/-- Block g is a row of n columns; where i is among S, column i is that of cs. -/
def Row (w : World) (g n : Nat) (cs : List Co) (S : Nat → Prop) : Prop :=
  ∃ cur : Array Value, w.heap[g]? = some (.cells cur 35 (0, 0)) ∧ cur.size = n * 5 ∧ ∀ i c, S i → cs[i]? = some c → cellsIn cur (i * 5) c

theorem row_made {w : World} {base g n : Nat} {xs : List Value} (cs : List Co) (S : Nat → Prop) (hS : ∀ i, ¬ S i) (h : w.ownsRow base 35 5 (.slice (some ⟨g, 0, none⟩) n n) n xs) : Row w g n cs S := by
  rcases h.2 with ⟨h', _⟩ | ⟨g', cap', cur, h', _, hg, _, _, hs, _⟩
  · simp at h'
  · simp only [Value.slice.injEq, Option.some.injEq, Addr.mk.injEq, and_true, true_and] at h'
    obtain ⟨rfl, rfl⟩ := h'
    exact ⟨cur, hg, hs, fun i c hi => absurd hi (hS i)⟩

theorem Row.lt {w : World} {g n : Nat} {cs : List Co} {S : Nat → Prop} (h : Row w g n cs S) : g < w.heap.size := by
  obtain ⟨cur, h1, _⟩ := h
  exact (Array.getElem?_eq_some_iff.1 h1).1

theorem Row.cells {w : World} {g n : Nat} {cs : List Co} {S : Nat → Prop} (h : Row w g n cs S) (j : Nat) (hj : j < n * 5) : ∃ v, w.cell? ⟨g, j, none⟩ = some v := by
  obtain ⟨cur, h1, h2, _⟩ := h
  rw [cell_of_row w g j cur 35 (0, 0) h1]
  exact ⟨_, Array.getElem?_eq_getElem (by omega)⟩

theorem Row.frozen {w : World} {g n : Nat} {cs : List Co} {S : Nat → Prop} (h : Row w g n cs S) (j : Nat) : w.frozen? ⟨g, j, none⟩ = false := by
  obtain ⟨cur, h1, _⟩ := h
  exact frozen_of_row w g j cur 35 h1

theorem Row.mono {w w' : World} {B g n : Nat} {cs : List Co} {S : Nat → Prop} (h : Row w g n cs S) (hg : g < B) (hw : Below B w w') : Row w' g n cs S := by
  obtain ⟨cur, h1, h2, h3⟩ := h
  exact ⟨cur, (hw.block g hg).trans h1, h2, h3⟩

/-- In the end: every column is there. -/
theorem Row.cols {w : World} {g n : Nat} {cs : List Co} {S : Nat → Prop} (h : Row w g n cs S) (hl : cs.length = n) (hS : ∀ i, i < n → S i) : Cols w w.heap.size (some ⟨g, 0, none⟩) n cs := by
  have hlt := h.lt
  obtain ⟨cur, h1, h2, h3⟩ := h
  refine ⟨hl, .inr ⟨g, 0, rfl, hlt, fun i c hi => ?_⟩⟩
  have hin : i < n := by have := (List.getElem?_eq_some_iff.1 hi).1; omega
  obtain ⟨e0, e1, e2, e3, e4⟩ := h3 i c (hS i hin) hi
  refine ⟨?_, ?_, ?_, ?_, ?_⟩ <;> rw [cell_of_row w g _ cur 35 (0, 0) h1]
  · simpa using e0
  · simpa using e1
  · simpa using e2
  · simpa using e3
  · simpa using e4

/-- One column stored, cell by cell. -/
def put5 (w : World) (g o : Nat) (c : Co) : World :=
  ((((w.setCell ⟨g, o, none⟩ (.string c.name)).setCell ⟨g, o + 1, none⟩ (.string c.kind)).setCell ⟨g, o + 2, none⟩ (.int .i64 c.prec)).setCell ⟨g, o + 3, none⟩ (.int .i64 c.scale)).setCell ⟨g, o + 4, none⟩ (.bool c.nul)

theorem sib_ne {cur : Array Value} {i j : Nat} {v : Value} (h : i ≠ j) : (cur.setIfInBounds i v)[j]? = cur[j]? := by
  rw [Array.getElem?_setIfInBounds, if_neg h]
theorem sib_eq {cur : Array Value} {i : Nat} {v : Value} (h : i < cur.size) : (cur.setIfInBounds i v)[i]? = some v := by
  rw [Array.getElem?_setIfInBounds, if_pos rfl, if_pos h]

theorem Row.put {w : World} {g n k : Nat} {cs : List Co} {S S' : Nat → Prop} (h : Row w g n cs S) (hk : k < n) {c : Co} (hc : cs[k]? = some c) (hS : ∀ i, S' i → i = k ∨ S i) : Row (put5 w g (k * 5) c) g n cs S' := by
  obtain ⟨cur, h1, h2, h3⟩ := h
  have a1 := heap_setCell_same w g (k * 5) cur 35 (.string c.name) h1
  have a2 := heap_setCell_same _ g (k * 5 + 1) _ 35 (.string c.kind) a1
  have a3 := heap_setCell_same _ g (k * 5 + 2) _ 35 (.int .i64 c.prec) a2
  have a4 := heap_setCell_same _ g (k * 5 + 3) _ 35 (.int .i64 c.scale) a3
  have a5 := heap_setCell_same _ g (k * 5 + 4) _ 35 (.bool c.nul) a4
  refine ⟨_, a5, by simpa using h2, fun i d hi hd => ?_⟩
  by_cases hik : i = k
  · subst hik
    obtain rfl : c = d := Option.some.inj (hc.symm.trans hd)
    clear a1 a2 a3 a4 a5 h3 hS
    refine ⟨?_, ?_, ?_, ?_, ?_⟩
    · rw [sib_ne (by omega), sib_ne (by omega), sib_ne (by omega), sib_ne (by omega), sib_eq (by omega)]
    · rw [sib_ne (by omega), sib_ne (by omega), sib_ne (by omega), sib_eq (by simp only [Array.size_setIfInBounds]; omega)]
    · rw [sib_ne (by omega), sib_ne (by omega), sib_eq (by simp only [Array.size_setIfInBounds]; omega)]
    · rw [sib_ne (by omega), sib_eq (by simp only [Array.size_setIfInBounds]; omega)]
    · rw [sib_eq (by simp only [Array.size_setIfInBounds]; omega)]
  · have hs : S i := by rcases hS i hi with h | h; exact absurd h hik; exact h
    obtain ⟨e0, e1, e2, e3, e4⟩ := h3 i d hs hd
    clear a1 a2 a3 a4 a5 h3 hS
    refine ⟨?_, ?_, ?_, ?_, ?_⟩ <;> (rw [sib_ne (by omega), sib_ne (by omega), sib_ne (by omega), sib_ne (by omega), sib_ne (by omega)]; assumption)

theorem put5_below {B : Nat} {w w' : World} (h : Below B w w') {g : Nat} (hg : B ≤ g) (o : Nat) (c : Co) : Below B w (put5 w' g o c) :=
  ((((h.setCell (p := ⟨g, o, none⟩) hg _).setCell (p := ⟨g, o + 1, none⟩) hg _).setCell (p := ⟨g, o + 2, none⟩) hg _).setCell (p := ⟨g, o + 3, none⟩) hg _).setCell (p := ⟨g, o + 4, none⟩) hg _

theorem put5_cell {w : World} {g o b j : Nat} {c : Co} (hb : b ≠ g) : (put5 w g o c).cell? ⟨b, j, none⟩ = w.cell? ⟨b, j, none⟩ := by
  apply World.cell?_of_block
  show (put5 w g o c).heap[b]? = w.heap[b]?
  unfold put5
  rw [heap_setCell_other _ _ _ _ (by simpa using hb), heap_setCell_other _ _ _ _ (by simpa using hb), heap_setCell_other _ _ _ _ (by simpa using hb), heap_setCell_other _ _ _ _ (by simpa using hb), heap_setCell_other _ _ _ _ (by simpa using hb)]

theorem put5_size (w : World) (g o : Nat) (c : Co) : (put5 w g o c).heap.size = w.heap.size := by simp [put5]
end Go.Proofs.Qxb6628450a
