/-
  THE WALKS OF ZZNewChunk, ZZSetRowDate, ZZNewLedger. A chunk's zero value has 65542 cells: its size is all that is used of it.
-/
import Derived.Test.Qxb6628495aBase
import Derived.WalkSpells
import Derived.OwnWalk
namespace Go.Proofs.Qxb6628495a
open Go.RowKit

/-- How many cells a value laid out has (0: it is none). -/
def aggSize : Value → Nat | .agg cs => cs.size | _ => 0

theorem zsize : (Try.prog.info? 51).bind (fun i => i.zero.map aggSize) = some 65542 := by kernel_rfl

/-- The cells of a new chunk. -/
theorem zero_chunk : ∃ Z : Array Value, Z.size = 65542 ∧ ∀ w : World, (zeroValue 51).run Try.prog w = .ok (.agg Z) w := by
  have h := zsize
  rw [Option.bind_eq_some_iff] at h
  obtain ⟨i, hi, h⟩ := h
  rw [Option.map_eq_some_iff] at h
  obtain ⟨v, hv, hs⟩ := h
  obtain ⟨Z, rfl⟩ : ∃ Z, v = .agg Z := by
    cases v with
    | agg Z => exact ⟨Z, rfl⟩
    | _ => simp [aggSize] at hs
  exact ⟨Z, hs, fun w => by simp [zeroValue, typeInfo, hi, hv, Sem.run_bind, Sem.run_pure]⟩

/-- Block b is a chunk whose cells can be written. -/
def IsChunk (w : World) (b : Nat) : Prop := ∃ Z : Array Value, Z.size = 65542 ∧ w.heap[b]? = some (.cells Z 51 (0, 0))

theorem IsChunk.lt {w : World} {b : Nat} (h : IsChunk w b) : b < w.heap.size := by
  obtain ⟨Z, _, h⟩ := h
  exact (Array.getElem?_eq_some_iff.1 h).1
theorem IsChunk.cell {w : World} {b : Nat} (h : IsChunk w b) {o : Nat} (ho : o < 65542) : ∃ v, w.cell? ⟨b, o, none⟩ = some v := by
  obtain ⟨Z, hs, h⟩ := h
  rw [cell_of_row w b o Z 51 (0, 0) h]
  exact ⟨_, Array.getElem?_eq_getElem (by omega)⟩
theorem IsChunk.frozen {w : World} {b : Nat} (h : IsChunk w b) (o : Nat) : w.frozen? ⟨b, o, none⟩ = false := by
  obtain ⟨Z, hs, h⟩ := h
  exact frozen_of_row w b o Z 51 h
theorem IsChunk.mono {w w' : World} {B b : Nat} (h : IsChunk w b) (hb : b < B) (hw : Below B w w') : IsChunk w' b := by
  obtain ⟨Z, hs, h⟩ := h
  exact ⟨Z, hs, (hw.block b hb).trans h⟩
theorem IsChunk.set {w : World} {b : Nat} (h : IsChunk w b) (g o : Nat) (u : Value) : IsChunk (w.setCell ⟨g, o, none⟩ u) b := by
  obtain ⟨Z, hs, h⟩ := h
  by_cases e : b = g
  · subst e
    exact ⟨Z.setIfInBounds o u, by simpa using hs, heap_setCell_same w b o Z 51 u h⟩
  · exact ⟨Z, hs, (heap_setCell_other w ⟨g, o, none⟩ b u (by simpa using e)).trans h⟩

theorem newChunk_any (w : World) : Calls Try.prog 10 #[] w fun e w' => e = .returned (.pointer (some ⟨w.heap.size, 0, none⟩)) ∧ IsChunk w' w.heap.size ∧ Below w.heap.size w w' ∧ w'.heap.size = w.heap.size + 1 := by
  obtain ⟨Z, hZ, hb⟩ := zero_chunk
  go_enter Try.func10, Try.ntmps10
  go_wp2
  go_ret
  exact ⟨rfl, ⟨Z, hZ, heap_alloc_new w _⟩, (Below.refl _ _).alloc (Nat.le_refl _) _, by simp⟩

theorem setRowDate_any (b : Nat) (j : Nat) (d : Int) (w : World) (h : IsChunk w b) (hj : j < 16384) :
    Calls Try.prog 11 #[.pointer (some ⟨b, 0, none⟩), .int .i64 j, .int .i32 d] w fun e w' => e = .returned (.tuple #[]) ∧ w' = w.setCell ⟨b, 16385 + j * 3 + 1, none⟩ (.int .i32 d) := by
  obtain ⟨v, hv⟩ := h.cell (o := 16385 + j * 3 + 1) (by omega)
  have hf := h.frozen (16385 + j * 3 + 1)
  have hi : (j : Int) < 16384 := by omega
  go_enter Try.func11, Try.ntmps11
  go_wp2
  go_end0
  exact ⟨rfl, rfl⟩

theorem newLedger_any (s : ByteArray) (n : Int) (lo hi : Int) (a1 a2 a3 : Option Addr) (l1 c1 l2 c2 l3 c3 : Nat) (w : World) :
    Calls Try.prog 12 #[.string s, .int .i64 n, .int .i32 lo, .int .i32 hi, .slice a1 l1 c1, .slice a2 l2 c2, .slice a3 l3 c3] w fun e w' => e = .returned (.pointer (some ⟨w.heap.size, 0, none⟩)) ∧
      w' = w.alloc (.cells #[.string s, .int .i64 n, .int .i32 lo, .int .i32 hi, .slice a1 l1 c1, .slice a2 l2 c2, .slice a3 l3 c3] 37) := by
  go_enter Try.func12, Try.ntmps12
  go_wp2
  go_ret
  exact ⟨rfl, rfl⟩
end Go.Proofs.Qxb6628495a
