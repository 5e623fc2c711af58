/-
  'make([]T, n)' WITH THE WORLD WRITTEN OUT; what a row just made holds.
-/
import Derived.Test.Qxb6628495aBase
import Derived.OwnWalk
namespace Go.Proofs.Qxb6628495a
open Go.RowKit

theorem info30 : (Try.prog.info? 30).map (fun i => (i.zero, i.size, i.bytes)) = some (some (.pointer none), 1, 8) := by kernel_rfl
theorem info21 : (Try.prog.info? 21).map (fun i => (i.zero, i.size, i.bytes)) = some (some (.int .i32 0), 1, 4) := by kernel_rfl
theorem info4 : (Try.prog.info? 4).map (fun i => (i.zero, i.size, i.bytes)) = some (some (.bool false), 1, 1) := by kernel_rfl

/-- m cells, each z. -/
def Filled (C : Array Value) (m : Nat) (z : Value) : Prop := C.size = m ∧ ∀ j, j < m → C[j]? = some z

theorem filled_made (z : Value) (hz : z.cells = #[z]) (m : Nat) : Filled (madeCells z.cells m) m z := by
  refine ⟨size_madeCells _ _, fun j hj => ?_⟩
  have h := toList_madeCells_one z m
  rw [hz, ← Array.getElem?_toList, h, List.getElem?_replicate, if_pos hj]

theorem make_row (t e : TypeId) (z : Value) (bytes : Nat) (ht : Try.prog.underlying t = some (.slice e)) (hi : (Try.prog.info? e).map (fun i => (i.zero, i.size, i.bytes)) = some (some z, 1, bytes)) (hz : z.cells = #[z])
    (k : IntKind) (X : Int) (m : Nat) (hX : X = m) (hb : bytes ≤ 8) (hm : m ≤ 1000000) :
    ∃ C, Filled C m z ∧ ∀ w : World, (Instr.makeSlice t (.int k X) (.int k X)).run Try.prog w = .ok (.slice (some ⟨w.heap.size, 0, none⟩) m m) (w.alloc (.cells C e)) := by
  obtain ⟨i, h1, h2, h3, h4⟩ := info_parts hi
  refine ⟨_, filled_made z hz m, fun w => ?_⟩
  have hbb : (i.bytes : Int) * X ≤ 281474976710656 := by
    rw [h4, hX]
    have : bytes * m ≤ 8 * 1000000 := Nat.mul_le_mul hb hm
    have h' : ((bytes * m : Nat) : Int) ≤ 281474976710656 := by omega
    rwa [Int.natCast_mul] at h'
  have := run_make (P := Try.prog) w t e i z ht h1 h2 k k X X (by omega) (Int.le_refl _) hbb (by omega)
  rw [this, h3, Nat.mul_one]
  have e1 : X.toNat = m := by omega
  rw [e1]

theorem Filled.row {C : Array Value} {m : Nat} {z : Value} (h : Filled C m z) (e : TypeId) (w : World) {p : Nat → Value → Prop} (hp : ∀ j, j < m → p j z) : RowP (w.alloc (.cells C e)) w.heap.size m p := fun j hj => by
  refine ⟨⟨z, ?_, hp j hj⟩, ?_⟩
  · rw [World.cell?_alloc_new]; exact h.2 j hj
  · exact frozen_of_row _ _ j C e (heap_alloc_new w _)
end Go.Proofs.Qxb6628495a
