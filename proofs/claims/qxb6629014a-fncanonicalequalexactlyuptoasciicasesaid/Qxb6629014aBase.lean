/-
  PLAIN NOTIONS OF SEAT b6629014a: the ASCII lower case of an octet and of a string; a valid wire form; a row of octets that the call itself made.
-/
import Derived.Test.Qxb6629014aProg
import Derived.WalkKit
import Derived.Outline
namespace Go.Proofs.Qxb6629014a
open Go.RowKit

theorem hide {p : Prop} (h : p) : Hid p := h
theorem unhide {p : Prop} (h : Hid p) : p := h

/-- The ASCII lower case of one octet. -/
def lowerB (c : UInt8) : UInt8 := if 65 ≤ c.toNat ∧ c.toNat ≤ 90 then UInt8.ofNat (c.toNat + 32) else c

theorem lowerB_yes {c : UInt8} (h : 65 ≤ c.toNat ∧ c.toNat ≤ 90) : (lowerB c).toNat = c.toNat + 32 := by
  unfold lowerB
  rw [if_pos h, UInt8.toNat_ofNat']
  omega
theorem lowerB_no {c : UInt8} (h : ¬ (65 ≤ c.toNat ∧ c.toNat ≤ 90)) : lowerB c = c := by
  unfold lowerB
  rw [if_neg h]
theorem lowerB_idem (c : UInt8) : lowerB (lowerB c) = lowerB c := by
  by_cases h : 65 ≤ c.toNat ∧ c.toNat ≤ 90
  · have e := lowerB_yes h
    exact lowerB_no (by omega)
  · rw [lowerB_no h, lowerB_no h]

/-- The string with every octet in ASCII lower case. -/
def canon (s : ByteArray) : ByteArray := ⟨(s.data.toList.map lowerB).toArray⟩

theorem canon_size (s : ByteArray) : (canon s).size = s.size := by
  show (s.data.toList.map lowerB).toArray.size = s.data.size
  simp
theorem canon_data (s : ByteArray) : (canon s).data.toList = s.data.toList.map lowerB := by simp [canon]
theorem canon_idem (s : ByteArray) : canon (canon s) = canon s := by
  have : (s.data.toList.map lowerB).map lowerB = s.data.toList.map lowerB := by
    rw [List.map_map]
    exact List.map_congr_left fun c _ => lowerB_idem c
  unfold canon
  simp only [this]
theorem canon_append (a b : ByteArray) : canon (a ++ b) = canon a ++ canon b := by
  apply ByteArray.ext
  apply Array.toList_inj.1
  simp [canon]

/-- From place i on, s is a run of labels of 1 to 63 octets up to its end ('fuel': at least the octets that are left). -/
def validFrom (s : ByteArray) : Nat → Nat → Bool
  | 0, i => i == s.size
  | fuel + 1, i => if h : i < s.size then (decide (s[i].toNat ≠ 0) && (decide (s[i].toNat ≤ 63) && validFrom s fuel (i + 1 + s[i].toNat))) else i == s.size

theorem validFrom_end (s : ByteArray) (f i : Nat) (h : ¬ i < s.size) : validFrom s f i = (i == s.size) := by
  cases f with
  | zero => rfl
  | succ f => unfold validFrom; rw [dif_neg h]
theorem validFrom_step (s : ByteArray) (f i : Nat) (h : i < s.size) : validFrom s (f + 1) i = (decide (s[i].toNat ≠ 0) && (decide (s[i].toNat ≤ 63) && validFrom s f (i + 1 + s[i].toNat))) := by
  rw [validFrom, dif_pos h]
theorem validFrom_le (s : ByteArray) : ∀ (f i : Nat), validFrom s f i = true → i ≤ s.size
  | 0, i, h => by simp [validFrom] at h; omega
  | f + 1, i, h => by
    by_cases hi : i < s.size
    · omega
    · rw [validFrom_end s _ i hi] at h; simp at h; omega
theorem validFrom_next (s : ByteArray) (f i : Nat) (hi : i < s.size) (h : validFrom s (f + 1) i = true) :
    s[i].toNat ≠ 0 ∧ s[i].toNat ≤ 63 ∧ validFrom s f (i + 1 + s[i].toNat) = true ∧ i + 1 + s[i].toNat ≤ s.size := by
  rw [validFrom_step s f i hi] at h
  simp only [Bool.and_eq_true, decide_eq_true_eq] at h
  exact ⟨h.1, h.2.1, h.2.2, validFrom_le s f _ h.2.2⟩

/-- A valid wire form. -/
def validW (s : ByteArray) : Bool := decide (s.size ≤ 254) && validFrom s 254 0

/-! ### A row of n cells at the head of block g -/
def RowP (w : World) (g n : Nat) (p : Nat → Value → Prop) : Prop := ∀ j, j < n → (∃ v, w.cell? ⟨g, j, none⟩ = some v ∧ p j v) ∧ w.frozen? ⟨g, j, none⟩ = false

theorem RowP.cell {w : World} {g n : Nat} {p : Nat → Value → Prop} (h : RowP w g n p) {j : Nat} (hj : j < n) : ∃ v, w.cell? ⟨g, j, none⟩ = some v ∧ p j v := (h j hj).1
theorem RowP.frozen {w : World} {g n : Nat} {p : Nat → Value → Prop} (h : RowP w g n p) {j : Nat} (hj : j < n) : w.frozen? ⟨g, j, none⟩ = false := (h j hj).2
theorem RowP.mono {w w' : World} {B g n : Nat} {p : Nat → Value → Prop} (h : RowP w g n p) (hg : g < B) (hw : Below B w w') : RowP w' g n p := fun j hj => by
  obtain ⟨⟨v, hv, hp⟩, hf⟩ := h j hj
  exact ⟨⟨v, (hw.cell (p := ⟨g, j, none⟩) hg).trans hv, hp⟩, (hw.frozen (p := ⟨g, j, none⟩) hg).trans hf⟩
theorem RowP.weaken {w : World} {g n : Nat} {p p' : Nat → Value → Prop} (h : RowP w g n p) (hp : ∀ j v, j < n → p j v → p' j v) : RowP w g n p' := fun j hj => by
  obtain ⟨⟨v, hv, hp0⟩, hf⟩ := h j hj
  exact ⟨⟨v, hv, hp j v hj hp0⟩, hf⟩
theorem RowP.set {w : World} {g n k : Nat} {p p' : Nat → Value → Prop} (h : RowP w g n p) (u : Value) (hk : p' k u) (hp : ∀ j v, j < n → j ≠ k → p j v → p' j v) : RowP (w.setCell ⟨g, k, none⟩ u) g n p' := fun j hj => by
  obtain ⟨⟨v, hv, hp0⟩, hf⟩ := h j hj
  refine ⟨?_, by rw [World.frozen?_setCell]; exact hf⟩
  by_cases e : j = k
  · subst e
    exact ⟨u, World.cell?_setCell_same' _ _ _ (by rw [hv]; rfl), hk⟩
  · refine ⟨v, ?_, hp j v hj e hp0⟩
    rw [World.cell?_setCell_other _ _ _ _ (by intro h; cases h; exact e rfl)]
    exact hv
end Go.Proofs.Qxb6629014a
