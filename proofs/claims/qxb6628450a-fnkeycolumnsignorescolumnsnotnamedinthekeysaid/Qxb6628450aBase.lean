/-
  THE PLAIN NOTIONS OF SEAT b6628450a: a column as plain data; a slice of columns and a slice of strings as they lie in memory; small laws on lists.
-/
import Derived.Test.Qxb6628450aProg
import Derived.WalkKit
import Derived.Outline
namespace Go.Proofs.Qxb6628450a
open Go.RowKit

/-- One column: the five cells of a Col and of a kasane.Column alike. -/
structure Co where
  name : ByteArray
  kind : ByteArray
  prec : Int
  scale : Int
  nul : Bool

def Co.cells (c : Co) : List Value := [.string c.name, .string c.kind, .int .i64 c.prec, .int .i64 c.scale, .bool c.nul]

/-- The column c lies at offset o of block b. -/
def colAt (w : World) (b o : Nat) (c : Co) : Prop :=
  w.cell? ⟨b, o, none⟩ = some (.string c.name) ∧ w.cell? ⟨b, o + 1, none⟩ = some (.string c.kind) ∧ w.cell? ⟨b, o + 1 + 1, none⟩ = some (.int .i64 c.prec) ∧
  w.cell? ⟨b, o + 1 + 1 + 1, none⟩ = some (.int .i64 c.scale) ∧ w.cell? ⟨b, o + 1 + 1 + 1 + 1, none⟩ = some (.bool c.nul)

/-- The slice at 'a' of length n holds the columns cs, in a block below B. -/
def Cols (w : World) (B : Nat) (a : Option Addr) (n : Nat) (cs : List Co) : Prop :=
  cs.length = n ∧ (n = 0 ∨ ∃ b off, a = some ⟨b, off, none⟩ ∧ b < B ∧ ∀ i c, cs[i]? = some c → colAt w b (off + i * 5) c)

/-- The slice at 'a' of length n holds the strings ks, in a block below B. -/
def Strs (w : World) (B : Nat) (a : Option Addr) (n : Nat) (ks : List ByteArray) : Prop :=
  ks.length = n ∧ (n = 0 ∨ ∃ b off, a = some ⟨b, off, none⟩ ∧ b < B ∧ ∀ i s, ks[i]? = some s → w.cell? ⟨b, off + i, none⟩ = some (.string s))

theorem Cols.at {w : World} {B : Nat} {a : Option Addr} {n : Nat} {cs : List Co} (h : Cols w B a n cs) {k : Nat} (hk : k < n) :
    ∃ b off c, a = some ⟨b, off, none⟩ ∧ b < B ∧ cs[k]? = some c ∧ colAt w b (off + k * 5) c := by
  obtain ⟨hl, h0 | ⟨b, off, ha, hb, hc⟩⟩ := h
  · omega
  · have hk' : k < cs.length := by omega
    exact ⟨b, off, cs[k], ha, hb, List.getElem?_eq_getElem hk', hc k _ (List.getElem?_eq_getElem hk')⟩

theorem Strs.at {w : World} {B : Nat} {a : Option Addr} {n : Nat} {ks : List ByteArray} (h : Strs w B a n ks) {k : Nat} (hk : k < n) :
    ∃ b off s, a = some ⟨b, off, none⟩ ∧ b < B ∧ ks[k]? = some s ∧ w.cell? ⟨b, off + k, none⟩ = some (.string s) := by
  obtain ⟨hl, h0 | ⟨b, off, ha, hb, hc⟩⟩ := h
  · omega
  · have hk' : k < ks.length := by omega
    exact ⟨b, off, ks[k], ha, hb, List.getElem?_eq_getElem hk', hc k _ (List.getElem?_eq_getElem hk')⟩

theorem colAt.mono {w w' : World} {B b o : Nat} {c : Co} (h : colAt w b o c) (hb : b < B) (hw : Below B w w') : colAt w' b o c := by
  obtain ⟨h1, h2, h3, h4, h5⟩ := h
  exact ⟨(hw.cell (p := ⟨b, _, none⟩) hb).trans h1, (hw.cell (p := ⟨b, _, none⟩) hb).trans h2, (hw.cell (p := ⟨b, _, none⟩) hb).trans h3, (hw.cell (p := ⟨b, _, none⟩) hb).trans h4, (hw.cell (p := ⟨b, _, none⟩) hb).trans h5⟩

theorem Cols.mono {w w' : World} {B B' : Nat} {a : Option Addr} {n : Nat} {cs : List Co} (h : Cols w B a n cs) (hw : Below B w w') (hB : B ≤ B') : Cols w' B' a n cs := by
  obtain ⟨hl, h0 | ⟨b, off, ha, hb, hc⟩⟩ := h
  · exact ⟨hl, .inl h0⟩
  · exact ⟨hl, .inr ⟨b, off, ha, by omega, fun i c hi => (hc i c hi).mono hb hw⟩⟩

theorem Strs.mono {w w' : World} {B B' : Nat} {a : Option Addr} {n : Nat} {ks : List ByteArray} (h : Strs w B a n ks) (hw : Below B w w') (hB : B ≤ B') : Strs w' B' a n ks := by
  obtain ⟨hl, h0 | ⟨b, off, ha, hb, hc⟩⟩ := h
  · exact ⟨hl, .inl h0⟩
  · exact ⟨hl, .inr ⟨b, off, ha, by omega, fun i c hi => (hw.cell (p := ⟨b, _, none⟩) hb).trans (hc i c hi)⟩⟩

/-! ### small laws on lists -/
theorem any_take_succ {α : Type} (p : α → Bool) (l : List α) (k : Nat) (c : α) (h : l[k]? = some c) : (l.take (k + 1)).any p = ((l.take k).any p || p c) := by
  rw [List.take_add_one, h]; simp
theorem any_at {α : Type} (p : α → Bool) (l : List α) (k : Nat) (c : α) (h : l[k]? = some c) (hp : p c = true) : l.any p = true := by
  rw [List.any_eq_true]; exact ⟨c, List.mem_of_getElem? h, hp⟩
theorem any_end {α : Type} (p : α → Bool) (l : List α) (k : Nat) (hk : l.length ≤ k) (h : (l.take k).any p = false) : l.any p = false := by
  rwa [List.take_of_length_le hk] at h
theorem any_step {α : Type} (p : α → Bool) (l : List α) (k : Nat) (c : α) (h : l[k]? = some c) (h0 : (l.take k).any p = false) (hp : p c = false) : (l.take (k + 1)).any p = false := by
  rw [any_take_succ p l k c h, h0, hp]; rfl
theorem all_step {α : Type} (p : α → Bool) (l : List α) (k : Nat) (c : α) (h : l[k]? = some c) (h0 : (l.take k).all p = true) (hp : p c = true) : (l.take (k + 1)).all p = true := by
  rw [List.take_add_one, h]; simp [h0, hp]
theorem all_at {α : Type} (p : α → Bool) (l : List α) (k : Nat) (c : α) (h : l[k]? = some c) (hp : p c = false) : l.all p = false := by
  rw [List.all_eq_false]; exact ⟨c, List.mem_of_getElem? h, by simp [hp]⟩
theorem all_end {α : Type} (p : α → Bool) (l : List α) (k : Nat) (hk : l.length ≤ k) (h : (l.take k).all p = true) : l.all p = true := by
  rwa [List.take_of_length_le hk] at h

/-- Two strings with the same bytes. -/
def sameS (x y : ByteArray) : Bool := x.toList == y.toList
/-- Some column is named nm. -/
def hasN (cs : List Co) (nm : ByteArray) : Bool := cs.any fun c => sameS c.name nm
/-- Some string is nm. -/
def inN (ks : List ByteArray) (nm : ByteArray) : Bool := ks.any fun k => sameS k nm

theorem ret_bool {a b : Bool} (h : a = b) : Ending.returned (.bool a) = .returned (.bool b) := by rw [h]
theorem find_has {cs : List Co} {nm : ByteArray} {c : Co} (h : cs.find? (fun c => sameS c.name nm) = some c) : hasN cs nm = true := by
  unfold hasN
  rw [List.any_eq_true]
  exact ⟨c, List.mem_of_find?_eq_some h, List.find?_some (p := fun c : Co => sameS c.name nm) h⟩

theorem hide {p : Prop} (h : p) : Hid p := h
theorem unhide {p : Prop} (h : Hid p) : p := h

/-- It returned some bool. -/
def IsBool (e : Ending) : Prop := ∃ r, e = .returned (.bool r)
theorem isBool (r : Bool) : IsBool (.returned (.bool r)) := ⟨r, rfl⟩
end Go.Proofs.Qxb6628450a
