/-
  PLAIN LAWS: the first column of a name; a list of names cut in two; a row read at an index.
-/
import Derived.Test.Qxb6628450aMakes
import Derived.Test.Qxb6628450aRow
import Derived.Laws.StructEq
namespace Go.Proofs.Qxb6628450a
open Go.RowKit

/-- The first column of that name. -/
def firstN (cs : List Co) (s : ByteArray) : Co := (cs.find? fun c => sameS c.name s).getD ⟨ByteArray.empty, ByteArray.empty, 0, 0, false⟩
theorem firstN_find {cs : List Co} {s : ByteArray} (h : hasN cs s = true) : cs.find? (fun c => sameS c.name s) = some (firstN cs s) := by
  unfold firstN
  cases e : cs.find? (fun c => sameS c.name s) with
  | some c => rfl
  | none =>
    rw [List.find?_eq_none] at e
    unfold hasN at h
    rw [List.any_eq_true] at h
    obtain ⟨x, hx, hp⟩ := h
    exact absurd hp (e x hx)
theorem firsts {cs : List Co} {ks : List ByteArray} (h : ks.all (hasN cs) = true) : ∀ (k : Nat) s, ks[k]? = some s → ∃ c, (ks.map (firstN cs))[k]? = some c ∧ cs.find? (fun c => sameS c.name s) = some c := by
  intro k s hk
  rw [List.all_eq_true] at h
  exact ⟨firstN cs s, by simp [hk], firstN_find (h s (List.mem_of_getElem? hk))⟩

theorem Strs.take {w : World} {B : Nat} {a : Option Addr} {n : Nat} {ks : List ByteArray} (h : Strs w B a n ks) (t : Nat) (ht : t ≤ n) : Strs w B a t (ks.take t) := by
  obtain ⟨hl, h0 | ⟨b, off, ha, hb, hc⟩⟩ := h
  · exact ⟨by simp; omega, .inl (by omega)⟩
  · refine ⟨by simp; omega, .inr ⟨b, off, ha, hb, fun i s hi => hc i s ?_⟩⟩
    rw [List.getElem?_take] at hi
    split at hi
    · exact hi
    · cases hi
theorem Strs.drop {w : World} {B : Nat} {a : Option Addr} {n : Nat} {ks : List ByteArray} (h : Strs w B a n ks) (t : Nat) : Strs w B (a.map fun x => x.add t) (n - t) (ks.drop t) := by
  obtain ⟨hl, h0 | ⟨b, off, ha, hb, hc⟩⟩ := h
  · exact ⟨by simp; omega, .inl (by omega)⟩
  · refine ⟨by simp; omega, .inr ⟨b, off + t, by rw [ha]; simp [Addr.add], hb, fun i s hi => ?_⟩⟩
    rw [List.getElem?_drop] at hi
    have := hc (t + i) s hi
    rwa [← Nat.add_assoc] at this
theorem Strs.drop0 {w : World} {B : Nat} {a : Option Addr} {n : Nat} {ks : List ByteArray} (h : Strs w B a n ks) (t : Nat) (ht : n - t = 0) (a' : Option Addr) : Strs w B a' (n - t) (ks.drop t) :=
  ⟨by have := h.1; simp; omega, .inl ht⟩
theorem run_neqC (w : World) (x : Co) : (binOp .neq 35 (.agg #[.string x.name, .string x.kind, .int .i64 x.prec, .int .i64 x.scale, .bool x.nul]) (.agg #[.string x.name, .string x.kind, .int .i64 x.prec, .int .i64 x.scale, .bool x.nul])).run Try.prog w = .ok (.bool false) w := by
  go_simp

theorem Cols.at0 {w : World} {B g n : Nat} {cs : List Co} (h : Cols w B (some ⟨g, 0, none⟩) n cs) {k : Nat} (hk : k < n) : ∃ c, cs[k]? = some c ∧ colAt w g (k * 5) c := by
  obtain ⟨b, off, c, ha, _, hc, hcol⟩ := h.at hk
  simp only [Option.some.injEq, Addr.mk.injEq, and_true] at ha
  obtain ⟨rfl, rfl⟩ := ha
  exact ⟨c, hc, by simpa using hcol⟩
theorem take_same (ks : List ByteArray) (f : ByteArray → Co) (t k : Nat) (hk : k < t) : ((ks.take t).map f)[k]? = (ks.map f)[k]? := by simp [hk]
theorem drop_same (ks : List ByteArray) (f : ByteArray → Co) (t k : Nat) : ((ks.drop t).map f)[k]? = (ks.map f)[t + k]? := by simp

theorem all_take {cs : List Co} {ks : List ByteArray} (h : ks.all (hasN cs) = true) (t : Nat) : (ks.take t).all (hasN cs) = true := by
  rw [List.all_eq_true] at h ⊢
  exact fun x hx => h x (List.mem_of_mem_take hx)
theorem all_drop {cs : List Co} {ks : List ByteArray} (h : ks.all (hasN cs) = true) (t : Nat) : (ks.drop t).all (hasN cs) = true := by
  rw [List.all_eq_true] at h ⊢
  exact fun x hx => h x (List.mem_of_mem_drop hx)

end Go.Proofs.Qxb6628450a
