/-
  WHAT ByDate KEEPS IN MEMORY: the row 'next', the row 'rows', the first loop's list of deferred calls.
-/
import Derived.Test.Qxb6628495aIter
import Derived.Test.Qxb6628495aPlain
import Derived.Deep.Draws
namespace Go.Proofs.Qxb6628495a
open Go.RowKit Go.Shelf

theorem wrap32_id {x : Int} (h1 : -2147483648 ≤ x) (h2 : x ≤ 2147483647) : IntKind.i32.wrap x = x := by
  rw [IntKind.wrap_i32]
  omega

/-- What ByDate keeps of its own: the ledger's pointer in block H, the variable 'next' in block bp, its row of M cells in block bn; all else that lay is as it was. -/
def NextIs (w : World) (bl M bp bn : Nat) (W : World) (p : Nat → Value → Prop) : Prop :=
  W.cell? ⟨w.heap.size, 0, none⟩ = some (.pointer (some ⟨bl, 0, none⟩)) ∧ W.cell? ⟨bp, 0, none⟩ = some (.slice (some ⟨bn, 0, none⟩) M M) ∧ RowP W bn M p ∧
  (bp ≠ bn ∧ w.heap.size < bp ∧ w.heap.size < bn) ∧ bp < W.heap.size ∧ bn < W.heap.size ∧ Below w.heap.size w W

theorem nextIs_own {w : World} {bl M bp bn Bw : Nat} (p : Nat → Nat → Value → Prop) (hB : w.heap.size ≤ Bw) : OwnFrom Bw (fun k W => NextIs w bl M bp bn W (p k)) := by
  intro k W W' row h hg hr
  obtain ⟨h1, h2, h3, h4, h5, h6, h7⟩ := h
  have hr' : ∀ r, row = some r → ∃ o : Obj, W.heap[r]? = some o ∧ o.isCells = false := fun r e => (hr r e).2
  refine ⟨cell_kept h1 hg hr', cell_kept h2 hg hr', fun j hj => ?_, h4, Nat.lt_of_lt_of_le h5 hg.size, Nat.lt_of_lt_of_le h6 hg.size, ?_⟩
  · obtain ⟨⟨v, hv, hp⟩, hf⟩ := h3 j hj
    exact ⟨⟨v, cell_kept hv hg hr', hp⟩, (frozen_kept hv hg hr').trans hf⟩
  · exact (ownFrom_below (β := Nat) (n₀ := w.heap.size) (B := Bw) (w₀ := w) (Nat.le_refl _) hB) k W W' row h7 hg hr


theorem NextIs.drewN {w W : World} {bl M bp bn : Nat} {p : Nat → Value → Prop} (h : NextIs w bl M bp bn W p) (m : Nat) : NextIs w bl M bp bn (W.drewN m) p := by
  obtain ⟨h1, h2, h3, h4, h5, h6, h7⟩ := h
  exact ⟨h1, h2, h3, h4, h5, h6, ⟨h7.os, h7.tape, h7.output, h7.size, h7.block⟩⟩
theorem NextIs.drew {w W : World} {bl M bp bn : Nat} {p : Nat → Value → Prop} (h : NextIs w bl M bp bn W p) : NextIs w bl M bp bn W.drew p := h.drewN 1
theorem NextIs.set {w W : World} {bl M bp bn x : Nat} {p p' : Nat → Value → Prop} (h : NextIs w bl M bp bn W p) (v : Value) (hv : p' x v) (ho : ∀ j u, j < M → j ≠ x → p j u → p' j u) : NextIs w bl M bp bn (W.setCell ⟨bn, x, none⟩ v) p' := by
  obtain ⟨h1, h2, h3, ⟨e1, e2, e3⟩, h5, h6, h7⟩ := h
  exact ⟨(cell_other (by omega)).trans h1, (cell_other (by omega)).trans h2, h3.set v hv ho, ⟨e1, e2, e3⟩, Nat.lt_of_lt_of_le h5 (KeepsOthers.setCell W _ _).size, Nat.lt_of_lt_of_le h6 (KeepsOthers.setCell W _ _).size, h7.setCell (p := ⟨bn, x, none⟩) (by simp only; omega) v⟩
theorem NextIs.other {w W : World} {bl M bp bn g x : Nat} {p : Nat → Value → Prop} (h : NextIs w bl M bp bn W p) (v : Value) (hg : w.heap.size < g) (hp : g ≠ bp) (hn : g ≠ bn) : NextIs w bl M bp bn (W.setCell ⟨g, x, none⟩ v) p := by
  obtain ⟨h1, h2, h3, ⟨e1, e2, e3⟩, h5, h6, h7⟩ := h
  exact ⟨(cell_other (by omega)).trans h1, (cell_other (by omega)).trans h2, h3.other (by omega) v, ⟨e1, e2, e3⟩, Nat.lt_of_lt_of_le h5 (KeepsOthers.setCell W _ _).size, Nat.lt_of_lt_of_le h6 (KeepsOthers.setCell W _ _).size, h7.setCell (p := ⟨g, x, none⟩) (by simp only; omega) v⟩
theorem NextIs.weaken {w W : World} {bl M bp bn : Nat} {p p' : Nat → Value → Prop} (h : NextIs w bl M bp bn W p) (hp : ∀ j v, j < M → p j v → p' j v) : NextIs w bl M bp bn W p' := by
  obtain ⟨h1, h2, h3, h4, h5, h6, h7⟩ := h
  exact ⟨h1, h2, h3.weaken hp, h4, h5, h6, h7⟩
theorem NextIs.mono {w W W' : World} {bl M bp bn : Nat} {p : Nat → Value → Prop} (h : NextIs w bl M bp bn W p) (hb : Below W.heap.size W W') : NextIs w bl M bp bn W' p := by
  obtain ⟨h1, h2, h3, h4, h5, h6, h7⟩ := h
  have hs := h7.size
  exact ⟨(hb.cell (p := ⟨w.heap.size, 0, none⟩) (by simp only; omega)).trans h1, (hb.cell (p := ⟨bp, 0, none⟩) h5).trans h2, h3.mono h6 hb, h4, Nat.lt_of_lt_of_le h5 hb.size, Nat.lt_of_lt_of_le h6 hb.size, h7.trans (hb.mono hs)⟩
theorem keeps_drewN (W : World) (m : Nat) : KeepsOthers W (W.drewN m) := ⟨Nat.le_refl _, fun _ _ h _ => h⟩
theorem below_drewN (B : Nat) (W : World) (m : Nat) : Below B W (W.drewN m) := ⟨rfl, rfl, rfl, Nat.le_refl _, fun _ _ => rfl⟩

/-- .. and 'rows' in block bq, its row of n cells in block br; the first loop's list of deferred calls, empty, in block D. -/
def RowsIs (w : World) (bl M bp bn n bq br D : Nat) (W : World) (p q : Nat → Value → Prop) : Prop :=
  NextIs w bl M bp bn W p ∧ W.cell? ⟨bq, 0, none⟩ = some (.slice (some ⟨br, 0, none⟩) n n) ∧ RowP W br n q ∧ W.heap[D]? = some (.deferred (some [])) ∧
  (bq ≠ br ∧ bq ≠ bn ∧ br ≠ bn ∧ br ≠ bp ∧ w.heap.size < br ∧ D ≠ bn ∧ D ≠ br) ∧ bq < W.heap.size ∧ br < W.heap.size

theorem rowsIs_own {w : World} {bl M bp bn n bq br D Bw : Nat} (p q : Nat → Nat → Value → Prop) (hB : w.heap.size ≤ Bw) (hD : D < Bw) : OwnFrom Bw (fun k W => RowsIs w bl M bp bn n bq br D W (p k) (q k)) := by
  intro k W W' row h hg hr
  obtain ⟨h1, h2, h3, h4, h5, h6, h7⟩ := h
  have hr' : ∀ r, row = some r → ∃ o : Obj, W.heap[r]? = some o ∧ o.isCells = false := fun r e => (hr r e).2
  refine ⟨nextIs_own (Bw := Bw) p hB k W W' row h1 hg hr, cell_kept h2 hg hr', fun j hj => ?_, ?_, h5, Nat.lt_of_lt_of_le h6 hg.size, Nat.lt_of_lt_of_le h7 hg.size⟩
  · obtain ⟨⟨v, hv, hp⟩, hf⟩ := h3 j hj
    exact ⟨⟨v, cell_kept hv hg hr', hp⟩, (frozen_kept hv hg hr').trans hf⟩
  · exact (hg.block D (Array.getElem?_eq_some_iff.1 h4).1 (fun e => by have := (hr D e.symm).1; omega)).trans h4

theorem RowsIs.drewN {w W : World} {bl M bp bn n bq br D : Nat} {p q : Nat → Value → Prop} (h : RowsIs w bl M bp bn n bq br D W p q) (m : Nat) : RowsIs w bl M bp bn n bq br D (W.drewN m) p q := by
  obtain ⟨h1, h2, h3, h4, h5, h6, h7⟩ := h
  exact ⟨h1.drewN m, h2, h3, h4, h5, h6, h7⟩
theorem heap_other {w : World} {b g x : Nat} {u : Value} (h : b ≠ g) : (w.setCell ⟨g, x, none⟩ u).heap[b]? = w.heap[b]? := Below.heap_setCell _ _ _ _ h
theorem RowsIs.setNext {w W : World} {bl M bp bn n bq br D x : Nat} {p p' q : Nat → Value → Prop} (h : RowsIs w bl M bp bn n bq br D W p q) (v : Value) (hv : p' x v) (ho : ∀ j u, j < M → j ≠ x → p j u → p' j u) :
    RowsIs w bl M bp bn n bq br D (W.setCell ⟨bn, x, none⟩ v) p' q := by
  obtain ⟨h1, h2, h3, h4, ⟨e1, e2, e3, e4, e5, e6, e7⟩, h6, h7⟩ := h
  exact ⟨h1.set v hv ho, (cell_other e2).trans h2, h3.other e3 v, (heap_other e6).trans h4, ⟨e1, e2, e3, e4, e5, e6, e7⟩, Nat.lt_of_lt_of_le h6 (KeepsOthers.setCell W _ _).size, Nat.lt_of_lt_of_le h7 (KeepsOthers.setCell W _ _).size⟩
theorem RowsIs.setRow {w W : World} {bl M bp bn n bq br D x : Nat} {p q q' : Nat → Value → Prop} (h : RowsIs w bl M bp bn n bq br D W p q) (v : Value) (hv : q' x v) (ho : ∀ j u, j < n → j ≠ x → q j u → q' j u) :
    RowsIs w bl M bp bn n bq br D (W.setCell ⟨br, x, none⟩ v) p q' := by
  obtain ⟨h1, h2, h3, h4, ⟨e1, e2, e3, e4, e5, e6, e7⟩, h6, h7⟩ := h
  exact ⟨h1.other v e5 e4 e3, (cell_other e1).trans h2, h3.set v hv ho, (heap_other e7).trans h4, ⟨e1, e2, e3, e4, e5, e6, e7⟩, Nat.lt_of_lt_of_le h6 (KeepsOthers.setCell W _ _).size, Nat.lt_of_lt_of_le h7 (KeepsOthers.setCell W _ _).size⟩

/-- A store into block g, above n₀ and not bx, keeps what a round keeps. -/
theorem kept_set {n₀ bx g x m : Nat} {W : World} (v : Value) (hg : n₀ ≤ g) (hx : bx ≠ g) : Kept n₀ bx W ((W.drewN m).setCell ⟨g, x, none⟩ v) :=
  ⟨(below_drewN n₀ W m).setCell (p := ⟨g, x, none⟩) hg v, heap_other hx⟩
theorem keeps_set {B g x m : Nat} {W : World} (v : Value) : KeepsFrom B W ((W.drewN m).setCell ⟨g, x, none⟩ v) := ((keeps_drewN W m).trans (KeepsOthers.setCell _ _ _)).from B

/-- The row in date order at 'a'. -/
def OrdAt (w : World) (a : Option Addr) (n : Nat) (ds : List Int) : Prop := ∃ R, IsOrd ds R ∧ (n = 0 ∨ ∃ br, a = some ⟨br, 0, none⟩ ∧ br < w.heap.size ∧ ∀ k i : Nat, R[k]? = some i → w.cell? ⟨br, k, none⟩ = some (.int .i32 (i : Int)))
/-- What ByDate hands back. -/
def Sorted (n : Nat) (ds : List Int) (e : Ending) (w' : World) : Prop := ∃ a, e = .returned (.slice a n n) ∧ OrdAt w' a n ds

/-- Row j of 'rows' once the first k rows are placed. -/
def placed (ds : List Int) (k j : Nat) (v : Value) : Prop := ∀ i d, i < k → ds[i]? = some d → pos ds i d = j → v = .int .i32 (i : Int)

theorem sorted_of {w W : World} {bl M bp bn n bq br D : Nat} {p : Nat → Value → Prop} {ds : List Int} (hlen : ds.length = n) (h : RowsIs w bl M bp bn n bq br D W p (placed ds n)) : OrdAt W (some ⟨br, 0, none⟩) n ds := by
  obtain ⟨R, hR, hat⟩ := order_of ds
  refine ⟨R, hR, .inr ⟨br, rfl, h.2.2.2.2.2.2, fun k i hk => ?_⟩⟩
  obtain ⟨d, hd, hp⟩ := hat k i hk
  have hkn : k < n := by rw [← hlen, ← hR.len]; exact (List.getElem?_eq_some_iff.1 hk).1
  have hin : i < n := by rw [← hlen]; exact (List.getElem?_eq_some_iff.1 hd).1
  obtain ⟨v, hv, hq⟩ := h.2.2.1.cell hkn
  rw [hv, hq i d hin hd hp]

/-! ### 'next' as it is made: its row first, or its variable -/
theorem next_start1 (w : World) (bl M : Nat) (C : Array Value) (hC : Filled C M (.int .i32 0)) (ds : List Int) (lo : Int) :
    NextIs w bl M (w.heap.size + 1 + 1) (w.heap.size + 1) (((w.alloc (.cells #[.pointer (some ⟨bl, 0, none⟩)] 24)).alloc (.cells C 21)).alloc (.cells #[.slice (some ⟨w.heap.size + 1, 0, none⟩) M M] 22)).drew (fun j v => v = .int .i32 (cnt1 ds lo 0 j : Int)) := by
  obtain ⟨W1, e1⟩ : ∃ W1, w.alloc (.cells #[.pointer (some ⟨bl, 0, none⟩)] 24) = W1 := ⟨_, rfl⟩
  have s1 : W1.heap.size = w.heap.size + 1 := by rw [← e1]; simp
  have c1 : W1.cell? ⟨w.heap.size, 0, none⟩ = some (.pointer (some ⟨bl, 0, none⟩)) := by rw [← e1, World.cell?_alloc_new]; rfl
  have b1 : Below w.heap.size w W1 := by rw [← e1]; exact (Below.refl _ _).alloc (Nat.le_refl _) _
  rw [e1]
  obtain ⟨W2, e2⟩ : ∃ W2, W1.alloc (.cells C 21) = W2 := ⟨_, rfl⟩
  have s2 : W2.heap.size = w.heap.size + 1 + 1 := by rw [← e2]; simp [s1]
  have r2 : RowP W2 (w.heap.size + 1) M (fun j v => v = .int .i32 (cnt1 ds lo 0 j : Int)) := by
    rw [← s1, ← e2]
    exact hC.row 21 W1 fun j _ => by simp [cnt1]
  have b2 : Below W1.heap.size W1 W2 := by rw [← e2]; exact (Below.refl _ _).alloc (Nat.le_refl _) _
  rw [e2]
  obtain ⟨W3, e3⟩ : ∃ W3, W2.alloc (.cells #[.slice (some ⟨w.heap.size + 1, 0, none⟩) M M] 22) = W3 := ⟨_, rfl⟩
  have s3 : W3.heap.size = w.heap.size + 1 + 1 + 1 := by rw [← e3]; simp [s2]
  have c3 : W3.cell? ⟨w.heap.size + 1 + 1, 0, none⟩ = some (.slice (some ⟨w.heap.size + 1, 0, none⟩) M M) := by rw [← s2, ← e3, World.cell?_alloc_new]; rfl
  have b3 : Below W2.heap.size W2 W3 := by rw [← e3]; exact (Below.refl _ _).alloc (Nat.le_refl _) _
  rw [e3]
  refine ⟨?_, c3, ?_, ⟨by omega, by omega, by omega⟩, by show _ < W3.heap.size; omega, by show _ < W3.heap.size; omega, ?_⟩
  · exact ((b3.cell (p := ⟨w.heap.size, 0, none⟩) (by simp only; omega)).trans (b2.cell (p := ⟨w.heap.size, 0, none⟩) (by simp only; omega))).trans c1
  · exact r2.mono (B := W2.heap.size) (g := w.heap.size + 1) (by omega) b3.drew
  · exact ((b1.trans (b2.mono (by omega))).trans (b3.mono (by omega))).drew

theorem next_start2 (w : World) (bl M : Nat) (C : Array Value) (hC : Filled C M (.int .i32 0)) (ds : List Int) (lo : Int) :
    NextIs w bl M (w.heap.size + 1) (w.heap.size + 1 + 1) (((w.alloc (.cells #[.pointer (some ⟨bl, 0, none⟩)] 24)).alloc (.cells #[.slice (some ⟨w.heap.size + 1 + 1, 0, none⟩) M M] 22)).alloc (.cells C 21)).drew (fun j v => v = .int .i32 (cnt1 ds lo 0 j : Int)) := by
  obtain ⟨W1, e1⟩ : ∃ W1, w.alloc (.cells #[.pointer (some ⟨bl, 0, none⟩)] 24) = W1 := ⟨_, rfl⟩
  have s1 : W1.heap.size = w.heap.size + 1 := by rw [← e1]; simp
  have c1 : W1.cell? ⟨w.heap.size, 0, none⟩ = some (.pointer (some ⟨bl, 0, none⟩)) := by rw [← e1, World.cell?_alloc_new]; rfl
  have b1 : Below w.heap.size w W1 := by rw [← e1]; exact (Below.refl _ _).alloc (Nat.le_refl _) _
  rw [e1]
  obtain ⟨W2, e2⟩ : ∃ W2, W1.alloc (.cells #[.slice (some ⟨w.heap.size + 1 + 1, 0, none⟩) M M] 22) = W2 := ⟨_, rfl⟩
  have s2 : W2.heap.size = w.heap.size + 1 + 1 := by rw [← e2]; simp [s1]
  have c2 : W2.cell? ⟨w.heap.size + 1, 0, none⟩ = some (.slice (some ⟨w.heap.size + 1 + 1, 0, none⟩) M M) := by rw [show (⟨w.heap.size + 1, 0, none⟩ : Addr) = ⟨W1.heap.size, 0, none⟩ by rw [s1], ← e2, World.cell?_alloc_new]; rfl
  have b2 : Below W1.heap.size W1 W2 := by rw [← e2]; exact (Below.refl _ _).alloc (Nat.le_refl _) _
  rw [e2]
  obtain ⟨W3, e3⟩ : ∃ W3, W2.alloc (.cells C 21) = W3 := ⟨_, rfl⟩
  have s3 : W3.heap.size = w.heap.size + 1 + 1 + 1 := by rw [← e3]; simp [s2]
  have r3 : RowP W3 (w.heap.size + 1 + 1) M (fun j v => v = .int .i32 (cnt1 ds lo 0 j : Int)) := by
    rw [← s2, ← e3]
    exact hC.row 21 W2 fun j _ => by simp [cnt1]
  have b3 : Below W2.heap.size W2 W3 := by rw [← e3]; exact (Below.refl _ _).alloc (Nat.le_refl _) _
  rw [e3]
  refine ⟨?_, ?_, r3, ⟨by omega, by omega, by omega⟩, by show _ < W3.heap.size; omega, by show _ < W3.heap.size; omega, ?_⟩
  · exact ((b3.cell (p := ⟨w.heap.size, 0, none⟩) (by simp only; omega)).trans (b2.cell (p := ⟨w.heap.size, 0, none⟩) (by simp only; omega))).trans c1
  · exact (b3.cell (p := ⟨w.heap.size + 1, 0, none⟩) (by simp only; omega)).trans c2
  · exact ((b1.trans (b2.mono (by omega))).trans (b3.mono (by omega))).drew

/-! ### 'rows' as it is made -/
theorem rows_start {w wr : World} {bl M bp bn n D : Nat} {C : Array Value} (hC : Filled C n (.int .i32 0)) {p p' : Nat → Value → Prop} {ds : List Int} (h : NextIs w bl M bp bn wr p) (hp : ∀ j v, j < M → p j v → p' j v) (hD : wr.heap[D]? = some (.deferred (some []))) (hDn : D ≠ bn) :
    RowsIs w bl M bp bn n (wr.heap.size + 1) wr.heap.size D (((wr.alloc (.cells C 21)).alloc (.cells #[.slice (some ⟨wr.heap.size, 0, none⟩) n n] 22)).alloc (.cells #[.pointer (some ⟨bl, 0, none⟩)] 24)) p' (placed ds 0) := by
  obtain ⟨W1, e1⟩ : ∃ W1, wr.alloc (.cells C 21) = W1 := ⟨_, rfl⟩
  have s1 : W1.heap.size = wr.heap.size + 1 := by rw [← e1]; simp
  have r1 : RowP W1 wr.heap.size n (placed ds 0) := by
    rw [← e1]
    exact hC.row 21 wr fun j _ i d hi => absurd hi (by omega)
  have b1 : Below wr.heap.size wr W1 := by rw [← e1]; exact (Below.refl _ _).alloc (Nat.le_refl _) _
  rw [e1]
  obtain ⟨W2, e2⟩ : ∃ W2, W1.alloc (.cells #[.slice (some ⟨wr.heap.size, 0, none⟩) n n] 22) = W2 := ⟨_, rfl⟩
  have s2 : W2.heap.size = wr.heap.size + 1 + 1 := by rw [← e2]; simp [s1]
  have c2 : W2.cell? ⟨wr.heap.size + 1, 0, none⟩ = some (.slice (some ⟨wr.heap.size, 0, none⟩) n n) := by rw [show (⟨wr.heap.size + 1, 0, none⟩ : Addr) = ⟨W1.heap.size, 0, none⟩ by rw [s1], ← e2, World.cell?_alloc_new]; rfl
  have b2 : Below W1.heap.size W1 W2 := by rw [← e2]; exact (Below.refl _ _).alloc (Nat.le_refl _) _
  rw [e2]
  obtain ⟨W3, e3⟩ : ∃ W3, W2.alloc (.cells #[.pointer (some ⟨bl, 0, none⟩)] 24) = W3 := ⟨_, rfl⟩
  have s3 : W3.heap.size = wr.heap.size + 1 + 1 + 1 := by rw [← e3]; simp [s2]
  have b3 : Below W2.heap.size W2 W3 := by rw [← e3]; exact (Below.refl _ _).alloc (Nat.le_refl _) _
  rw [e3]
  have bA : Below wr.heap.size wr W3 := (b1.trans (b2.mono (by omega))).trans (b3.mono (by omega))
  have hDl : D < wr.heap.size := (Array.getElem?_eq_some_iff.1 hD).1
  obtain ⟨-, -, -, ⟨q1, q2, q3⟩, q5, q6, q7⟩ := id h
  have q8 := q7.size
  refine ⟨(h.mono bA).weaken hp, (b3.cell (p := ⟨wr.heap.size + 1, 0, none⟩) (by simp only; omega)).trans c2, (r1.mono (B := W1.heap.size) (by omega) b2).mono (B := W2.heap.size) (by omega) b3, (bA.block D hDl).trans hD, ⟨by omega, by omega, by omega, by omega, by omega, hDn, by omega⟩, by omega, by omega⟩

theorem putObj_size (W : World) (l : Nat) (o : Obj) : (W.putObj l o).heap.size = W.heap.size := by simp [World.putObj]
theorem ord_put {W : World} {br n D : Nat} {ds : List Int} {o : Obj} (h : OrdAt W (some ⟨br, 0, none⟩) n ds) (hne : br ≠ D) : OrdAt (W.putObj D o) (some ⟨br, 0, none⟩) n ds := by
  obtain ⟨R, hR, h0 | ⟨b, hb, hlt, hc⟩⟩ := h
  · exact ⟨R, hR, .inl h0⟩
  · cases hb
    exact ⟨R, hR, .inr ⟨br, rfl, by rw [putObj_size]; exact hlt, fun k i hk => (World.cell?_of_block (a := ⟨br, k, none⟩) (World.putObj_heap_other hne)).trans (hc k i hk)⟩⟩
end Go.Proofs.Qxb6628495a
