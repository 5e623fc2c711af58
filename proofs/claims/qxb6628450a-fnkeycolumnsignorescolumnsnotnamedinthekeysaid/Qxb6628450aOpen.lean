/-
  THE ARGUMENTS OPENED: what a slice of Col, a slice of strings and a Col by value read as.
-/
import Derived.Test.Qxb6628450aBase
import Derived.Deep.Slices
import Derived.ProofKit
import Derived.SliceStrings
namespace Go.Proofs.Qxb6628450a
open Go.RowKit Go.Deep Go.ChangeShapes

section
variable {H : Type} {enc : TypeId × Value → H} {w : World} {base : Nat} {spare : Nat → Bool} {held : Bool}

theorem col_of_trod {n : Nat} {cs : List Value} {x : DataW H × List MemPlace} (h : DataW.trod enc Try.prog w base spare held n 38 cs = some x) : ∃ c : Co, cs = c.cells := by
  obtain ⟨xs, m, _, rfl, hl, hlen, hf⟩ := DataW.trod_struct Try.underlying38 h
  have hl5 : cs.length = 5 := hl
  match cs, hl5 with
  | [v0, v1, v2, v3, v4], _ =>
    obtain ⟨y0, y1, y2, y3, y4, rfl⟩ : ∃ y0 y1 y2 y3 y4, xs = [y0, y1, y2, y3, y4] := by
      match xs, hlen with
      | [y0, y1, y2, y3, y4], _ => exact ⟨_, _, _, _, _, rfl⟩
    have f0 := hf 0 _ rfl
    have f1 := hf 1 _ rfl
    have f2 := hf 2 _ rfl
    have f3 := hf 3 _ rfl
    have f4 := hf 4 _ rfl
    obtain ⟨s0, e0, _⟩ := DataW.trod_string Try.underlying9 f0
    obtain ⟨s1, e1, _⟩ := DataW.trod_string Try.underlying9 f1
    obtain ⟨i2, e2, _⟩ := DataW.trod_int Try.underlying3 f2
    obtain ⟨i3, e3, _⟩ := DataW.trod_int Try.underlying3 f3
    obtain ⟨b4, e4, _⟩ := DataW.trod_bool Try.underlying4 f4
    have g0 : [v0] = [Value.string s0] := e0
    have g1 : [v1] = [Value.string s1] := e1
    have g2 : [v2] = [Value.int .i64 i2] := e2
    have g3 : [v3] = [Value.int .i64 i3] := e3
    have g4 : [v4] = [Value.bool b4] := e4
    simp only [List.cons.injEq, and_true] at g0 g1 g2 g3 g4
    subst g0 g1 g2 g3 g4
    exact ⟨⟨s0, s1, i2, i3, b4⟩, rfl⟩

theorem addp (b o i : Nat) : (⟨b, o, none⟩ : Addr).add i = ⟨b, o + i, none⟩ := by unfold Addr.add; split <;> simp_all

theorem add_zero_spot {a : Addr} {v : Value} {w : World} (h : w.cell? (a.add 0) = some v) : a = ⟨a.block, a.off, none⟩ := by
  obtain ⟨b, off, spot⟩ := a
  have hs : spot = none := by simpa [Addr.add] using World.cell?_spot h
  subst hs
  rfl

/-- What is told of a slice of Col that came in. -/
theorem open_cols {fuel : Nat} {a : Option Addr} {len cap : Nat} {x : DataW H × List MemPlace} (h : DataW.trod enc Try.prog w base spare held fuel 22 [.slice a len cap] = some x) :
    (a = none → len = 0 ∧ cap = 0) ∧ len ≤ cap ∧ cap ≤ maxLen ∧ ∃ cs, Cols w w.heap.size a len cs := by
  rcases open_slice Try.underlying22 h with ⟨hcs, _⟩ | ⟨x, l, c, m, n, D, Pl, hcs, _, hl, hm, hmm, _, hel⟩
  · simp at hcs
    obtain ⟨rfl, rfl, rfl⟩ := hcs
    exact ⟨fun _ => ⟨rfl, rfl⟩, Nat.le_refl _, by unfold maxLen; omega, [], rfl, .inl rfl⟩
  · simp at hcs
    obtain ⟨rfl, rfl, rfl⟩ := hcs
    refine ⟨fun h => by simp at h, hl, hm, ?_⟩
    have hlm : len ≤ m := by rw [hmm]; split <;> omega
    have each : ∀ i, i < len → ∃ c : Co, ∀ j v, c.cells[j]? = some v → w.cell? ((x.add (i * 5)).add j) = some v := by
      intro i hi
      obtain ⟨cs', h1, h2⟩ := hel i (by omega)
      obtain ⟨c, rfl⟩ := col_of_trod h2
      refine ⟨c, fun j v hj => ?_⟩
      obtain ⟨_, _, h3⟩ := World.cells?_some h1
      have hj5 : j < 5 := by have := (List.getElem?_eq_some_iff.1 hj).1; simpa [Co.cells] using this
      exact (h3 j hj5).trans hj
    by_cases h0 : len = 0
    · exact ⟨[], by simp [h0], .inl h0⟩
    obtain ⟨C, hC⟩ : ∃ C : Nat → Co, ∀ i, i < len → ∀ j v, (C i).cells[j]? = some v → w.cell? ((x.add (i * 5)).add j) = some v := by
      refine ⟨fun i => if hi : i < len then (each i hi).choose else ⟨ByteArray.empty, ByteArray.empty, 0, 0, false⟩, fun i hi => ?_⟩
      simp only [hi, dif_pos]
      exact (each i hi).choose_spec
    have hx := add_zero_spot (by simpa [Deep.add_add] using hC 0 (by omega) 0 _ rfl)
    refine ⟨(List.range len).map C, by simp, .inr ⟨x.block, x.off, congrArg some hx, ?_, fun i c hi => ?_⟩⟩
    · have := hC 0 (by omega) 0 _ rfl
      rw [hx, addp, addp] at this
      exact World.block_lt_of_cell? w ⟨x.block, x.off + 0 * 5 + 0, none⟩ this
    · simp only [List.getElem?_map, Option.map_eq_some_iff] at hi
      obtain ⟨i', hi, rfl⟩ := hi
      obtain ⟨hil, rfl⟩ := List.getElem?_eq_some_iff.1 hi
      simp only [List.length_range] at hil
      simp only [List.getElem_range]
      have k := hC i hil
      rw [hx] at k
      have e : ∀ j, ((⟨x.block, x.off, none⟩ : Addr).add (i * 5)).add j = ⟨x.block, x.off + i * 5 + j, none⟩ := fun j => by rw [addp, addp]
      exact ⟨by simpa [e] using k 0 _ rfl, by simpa [e] using k 1 _ rfl, by simpa [e, Nat.add_assoc] using k 2 _ rfl, by simpa [e, Nat.add_assoc] using k 3 _ rfl, by simpa [e, Nat.add_assoc] using k 4 _ rfl⟩

/-- What is told of a slice of strings that came in. -/
theorem open_keys {fuel : Nat} {a : Option Addr} {len cap : Nat} {x : DataW H × List MemPlace} (h : DataW.trod enc Try.prog w base spare held fuel 23 [.slice a len cap] = some x) :
    (a = none → len = 0 ∧ cap = 0) ∧ len ≤ cap ∧ cap ≤ maxLen ∧ ∃ ks, Strs w w.heap.size a len ks := by
  rcases open_strings Try.underlying23 Try.underlying9 (by kernel_rfl) h with ⟨hcs, _⟩ | ⟨x, l, c, ss, hcs, _, hl, hm, hz, _, hcell, _⟩
  · simp at hcs
    obtain ⟨rfl, rfl, rfl⟩ := hcs
    exact ⟨fun _ => ⟨rfl, rfl⟩, Nat.le_refl _, by unfold maxLen; omega, [], rfl, .inl rfl⟩
  · simp at hcs
    obtain ⟨rfl, rfl, rfl⟩ := hcs
    refine ⟨fun h => by simp at h, hl, hm, ?_⟩
    have hlm : len ≤ ss.length := by rw [hz]; split <;> omega
    by_cases h0 : len = 0
    · exact ⟨[], by simp [h0], .inl h0⟩
    have hx := add_zero_spot (hcell 0 (by omega))
    refine ⟨ss.take len, by simp; omega, .inr ⟨x.block, x.off, congrArg some hx, ?_, fun i s hi => ?_⟩⟩
    · have := hcell 0 (by omega)
      rw [hx, addp] at this
      exact World.block_lt_of_cell? w ⟨x.block, x.off + 0, none⟩ this
    · rw [List.getElem?_take] at hi
      split at hi
      · have hil : i < ss.length := (List.getElem?_eq_some_iff.1 hi).1
        have k := hcell i hil
        rw [hx] at k
        simpa [addp, List.getD, hi] using k
      · cases hi
end
end Go.Proofs.Qxb6628450a
