/-
  PLAIN NOTIONS OF SEAT b6628495a: a slice of int32 as it lies in memory; a row of cells.
-/
import Derived.Test.Qxb6628495aProg
import Derived.WalkKit
import Derived.Outline
namespace Go.Proofs.Qxb6628495a
open Go.RowKit

theorem hide {p : Prop} (h : p) : Hid p := h
theorem unhide {p : Prop} (h : Hid p) : p := h
theorem ret_bool {a b : Bool} (h : a = b) : Ending.returned (.bool a) = .returned (.bool b) := by rw [h]
/-- It returned some bool. -/
def IsBool (e : Ending) : Prop := ∃ r, e = .returned (.bool r)
theorem isBool (r : Bool) : IsBool (.returned (.bool r)) := ⟨r, rfl⟩

/-- An int32. -/
def I32 (d : Int) : Prop := -2147483648 ≤ d ∧ d ≤ 2147483647

/-- The slice at 'a' of length n holds the dates ds, in a block below B. -/
def Dates (w : World) (B : Nat) (a : Option Addr) (n : Nat) (ds : List Int) : Prop :=
  ds.length = n ∧ (n = 0 ∨ ∃ b off, a = some ⟨b, off, none⟩ ∧ b < B ∧ ∀ i d, ds[i]? = some d → w.cell? ⟨b, off + i, none⟩ = some (.int .i32 d)) ∧ ∀ d ∈ ds, I32 d

theorem Dates.at {w : World} {B : Nat} {a : Option Addr} {n : Nat} {ds : List Int} (h : Dates w B a n ds) {k : Nat} (hk : k < n) :
    ∃ b off d, a = some ⟨b, off, none⟩ ∧ b < B ∧ ds[k]? = some d ∧ w.cell? ⟨b, off + k, none⟩ = some (.int .i32 d) ∧ I32 d := by
  obtain ⟨hl, h0 | ⟨b, off, ha, hb, hc⟩, hi⟩ := h
  · omega
  · have hk' : k < ds.length := by omega
    exact ⟨b, off, ds[k], ha, hb, List.getElem?_eq_getElem hk', hc k _ (List.getElem?_eq_getElem hk'), hi _ (List.getElem_mem _)⟩

theorem Dates.mono {w w' : World} {B B' : Nat} {a : Option Addr} {n : Nat} {ds : List Int} (h : Dates w B a n ds) (hw : Below B w w') (hB : B ≤ B') : Dates w' B' a n ds := by
  obtain ⟨hl, h0 | ⟨b, off, ha, hb, hc⟩, hi⟩ := h
  · exact ⟨hl, .inl h0, hi⟩
  · exact ⟨hl, .inr ⟨b, off, ha, by omega, fun i d hd => (hw.cell (p := ⟨b, _, none⟩) hb).trans (hc i d hd)⟩, hi⟩

/-! ### A row of n cells at the head of block g -/
def RowP (w : World) (g n : Nat) (p : Nat → Value → Prop) : Prop := ∀ j, j < n → (∃ v, w.cell? ⟨g, j, none⟩ = some v ∧ p j v) ∧ w.frozen? ⟨g, j, none⟩ = false

theorem RowP.cell {w : World} {g n : Nat} {p : Nat → Value → Prop} (h : RowP w g n p) {j : Nat} (hj : j < n) : ∃ v, w.cell? ⟨g, j, none⟩ = some v ∧ p j v := (h j hj).1
theorem RowP.frozen {w : World} {g n : Nat} {p : Nat → Value → Prop} (h : RowP w g n p) {j : Nat} (hj : j < n) : w.frozen? ⟨g, j, none⟩ = false := (h j hj).2
theorem RowP.mono {w w' : World} {B g n : Nat} {p : Nat → Value → Prop} (h : RowP w g n p) (hg : g < B) (hw : Below B w w') : RowP w' g n p := fun j hj => by
  obtain ⟨⟨v, hv, hp⟩, hf⟩ := h j hj
  exact ⟨⟨v, (hw.cell (p := ⟨g, j, none⟩) hg).trans hv, hp⟩, (hw.frozen (p := ⟨g, j, none⟩) hg).trans hf⟩
theorem RowP.weaken {w : World} {g n : Nat} {p p' : Nat → Value → Prop} (h : RowP w g n p) (hp : ∀ j v, j < n → p j v → p' j v) : RowP w g n p' := fun j hj => by
  obtain ⟨⟨v, hv, hp0⟩, hf⟩ := h j hj
  exact ⟨⟨v, hv, hp j v hj hp0⟩, hf⟩
theorem RowP.set {w : World} {g n k : Nat} {p p' : Nat → Value → Prop} (h : RowP w g n p) (u : Value) (hk : p' k u) (hp : ∀ j v, j < n → j ≠ k → p j v → p' j v) : RowP (w.setCell ⟨g, k, none⟩ u) g n p' := fun j hj => by
  obtain ⟨⟨v, hv, hp0⟩, hf⟩ := h j hj
  refine ⟨?_, by rw [World.frozen?_setCell]; exact hf⟩
  by_cases e : j = k
  · subst e
    exact ⟨u, World.cell?_setCell_same' _ _ _ (by rw [hv]; rfl), hk⟩
  · refine ⟨v, ?_, hp j v hj e hp0⟩
    rw [World.cell?_setCell_other _ _ _ _ (by intro h; cases h; exact e rfl)]
    exact hv
/-- A store into another block. -/
theorem cell_other {w : World} {b g j k : Nat} {u : Value} (h : b ≠ g) : (w.setCell ⟨g, k, none⟩ u).cell? ⟨b, j, none⟩ = w.cell? ⟨b, j, none⟩ :=
  World.cell?_setCell_other _ _ _ _ (by intro e; cases e; exact h rfl)
theorem RowP.other {w : World} {b g n k : Nat} {p : Nat → Value → Prop} (h : RowP w b n p) (hne : b ≠ g) (u : Value) : RowP (w.setCell ⟨g, k, none⟩ u) b n p := fun j hj => by
  obtain ⟨⟨v, hv, hp⟩, hf⟩ := h j hj
  exact ⟨⟨v, by rw [cell_other hne]; exact hv, hp⟩, by rw [World.frozen?_setCell]; exact hf⟩
end Go.Proofs.Qxb6628495a
