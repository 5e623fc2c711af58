/-
  THE WALK OF (Table).KeyColumns, over the contract of slices.IndexFunc. Its one statement draws its order: in every order the outcome is one.
-/
import Derived.Test.Qxb6628450aMakes
import Derived.Test.Qxb6628450aRow
import Derived.WalkSpells
namespace Go.Proofs.Qxb6628450a
open Go.RowKit

set_option maxHeartbeats 2000000 in
theorem keyColumns_any (nm : ByteArray) (B : Nat) (a : Option Addr) (n c : Nat) (cs : List Co) (B' : Nat) (a' : Option Addr) (n' c' : Nat) (ks : List ByteArray) (w : World)  (h : Cols w B a n cs)
    (h' : Strs w B' a' n' ks) (hB : B ≤ w.heap.size) (hB' : B' ≤ w.heap.size) (hn : n ≤ 5000) (hn' : n' ≤ 5000) (rs : List Co) (hrl : rs.length = n') (hrs : ∀ (k : Nat) s, ks[k]? = some s → ∃ c, rs[k]? = some c ∧ cs.find? (fun c => sameS c.name s) = some c) :
    Calls Try.prog 9 #[.agg #[.string nm, .slice a n c, .slice a' n' c']] w fun e w' => ∃ g, e = .returned (.slice (some ⟨g, 0, none⟩) n' n') ∧ Cols w' w'.heap.size (some ⟨g, 0, none⟩) n' rs ∧ Below w.heap.size w w' := by
  obtain ⟨i0, hi, hz0, hz1, hz2⟩ := info_parts info35
  go_enter Try.func9, Try.ntmps9
  go_wp2_with (at_make; refine wpList_make_full _ rfl _ _ 26 rfl (w.heap.size + 1) 35 i0 _ 5 Try.underlying26 hi hz0 hz1 .i64 .i64 _ _ n' rfl rfl rfl rfl (by rw [hz2]; omega) (by unfold maxLen; omega) (by simp) ?_; intro w1 hown hgrow; have hrow := row_made rs (fun i => i < 0) (fun i hi => by omega) hown; have hc1 := hgrow.cell (a := ⟨w.heap.size, 1, none⟩) (v := .slice a n c) (by simp) (by simp);  have hc2 := hgrow.cell (a := ⟨w.heap.size, 2, none⟩) (v := .slice a' n' c') (by simp) (by simp); have hbel := ((Below.refl w.heap.size w).alloc (Nat.le_refl _) _).grown hgrow (by simp) (by simp); clear hown; simp only [World.size_alloc] at hrow)
  clear hi hz0 hz1 hz2 i0
  have hsz : w.heap.size + 1 < w1.heap.size := hrow.lt
  go_loopw [13] (fun i wr => ∃ k : Nat, k ≤ n' ∧ i = .int .i64 k ∧ wr.cell? ⟨w.heap.size, 1, none⟩ = some (.slice a n c) ∧ Row wr (w.heap.size + 1) n' rs (fun i => i < k) ∧ Below w.heap.size w wr ∧ w.heap.size + 1 < wr.heap.size) (fun i _ => n' - (intOf i).toNat)
  case atStart => exact ⟨0, Nat.zero_le _, rfl, hc1, hrow, hbel, hsz⟩
  case round =>
    clear hc1 hrow hbel hsz hc2 hgrow w1
    obtain ⟨k, hk, rfl, hc1, hrow, hbel, hsz⟩ := hrel
    by_cases hlt : k < n'
    · obtain ⟨b, off, s, rfl, hb, hck, hc⟩ := h'.at hlt
      have hcs := (hbel.cell (p := ⟨b, off + k, none⟩) (by simp only; omega)).trans hc
      have HC : Hid (ks[k]? = some s) := hck
      clear hck h' hc
      have hbw : b < wr.heap.size := by omega
      obtain ⟨c0, hr0, hf0⟩ := hrs k s HC.out
      have hhas : hasN cs s = true := find_has hf0
      obtain ⟨hlen, h0 | ⟨ab, aoff, rfl, hab, hcols⟩⟩ := id h
      · have : cs = [] := List.eq_nil_of_length_eq_zero (by omega)
        subst this; simp [hasN] at hhas
      go_wp2
      obtain ⟨W1, hW1⟩ : ∃ W1, W1 = wr.alloc (Obj.cells #[Value.string s] 9) := ⟨_, rfl⟩
      rw [← hW1]
      have hbox : W1.cell? ⟨wr.heap.size, 0, none⟩ = some (.string s) := by rw [hW1]; simp
      have hc1' : W1.cell? ⟨w.heap.size, 1, none⟩ = some (.slice (some ⟨ab, aoff, none⟩) n c) := by rw [hW1]; rw [World.cell?_alloc_past _ _ _ (by omega)]; exact hc1
      have hsz1 : W1.heap.size = wr.heap.size + 1 := by rw [hW1]; simp
      have hbel1 : Below w.heap.size w W1 := by rw [hW1]; exact hbel.alloc hbel.size _
      have hrow1 : Row W1 (w.heap.size + 1) n' rs (fun i => i < k) := by rw [hW1]; exact hrow.mono hsz ((Below.refl _ _).alloc (Nat.le_refl _) _)
      clear hW1 hrow hbel hc1 hcs
      have hcall := hide (indexFunc_any B (some ⟨ab, aoff, none⟩) n c cs wr.heap.size s W1.drew (by unfold maxLen; omega) ((h.mono (hbel1.drew.mono hB) (Nat.le_refl _))) (by show B ≤ W1.heap.size; omega) (by show _ < W1.heap.size; omega) (by exact hbox) hhas)
      clear hbox
      have hkeep : ∀ {w2 : World} {j : Nat}, Below W1.heap.size W1.drew w2 → cs[j]? = some c0 → colAt w2 ab (aoff + j * 5) c0 := fun {w2} {j} hb2 hj => (hcols j c0 hj).mono (B := B) hab ((hbel1.mono hB).trans ((Below.refl B W1).drew.trans (hb2.mono (by omega))))
      have hjl : ∀ {j : Nat}, cs[j]? = some c0 → (j : Int) < (n : Int) := fun {j} hj => by have := (List.getElem?_eq_some_iff.1 hj).1; omega
      have hstay : ∀ {w2 : World}, Below W1.heap.size W1.drew w2 → w2.cell? ⟨w.heap.size, 1, none⟩ = some (.slice (some ⟨ab, aoff, none⟩) n c) ∧ Row w2 (w.heap.size + 1) n' rs (fun i => i < k) := fun {w2} hb2 =>
        ⟨(hb2.cell (p := ⟨w.heap.size, 1, none⟩) (by simp only; omega)).trans hc1', hrow1.mono (B := W1.heap.size) (by omega) ((Below.refl _ W1).drew.trans hb2)⟩
      clear hcols h hrs hhas
      have F0 := hide hf0
      have R0 := hide hr0
      clear hf0 hr0 hlen
      go_region_with (go_at_call 16; go_must (refine (unhide hcall).mono ?_; rintro e w2 ⟨⟨j, c1, rfl, hj, hfind⟩, hb2⟩; obtain rfl : c1 = c0 := Option.some.inj (hfind.symm.trans (unhide F0)); obtain ⟨d0, d1, d2, d3, d4⟩ := hkeep hb2 hj; have hjn := hjl hj; obtain ⟨hs2, hrow2⟩ := hstay hb2; obtain ⟨v0, r0⟩ := hrow2.cells (k * 5) (by omega); obtain ⟨v1, r1⟩ := hrow2.cells (k * 5 + 1) (by omega); obtain ⟨v2, r2⟩ := hrow2.cells (k * 5 + 1 + 1) (by omega); obtain ⟨v3, r3⟩ := hrow2.cells (k * 5 + 1 + 1 + 1) (by omega); obtain ⟨v4, r4⟩ := hrow2.cells (k * 5 + 1 + 1 + 1 + 1) (by omega); have z0 := hrow2.frozen (k * 5); have z1 := hrow2.frozen (k * 5 + 1); have z2 := hrow2.frozen (k * 5 + 1 + 1); have z3 := hrow2.frozen (k * 5 + 1 + 1 + 1); have z4 := hrow2.frozen (k * 5 + 1 + 1 + 1 + 1); have hk5 : (k : Int) < (n' : Int) := (by omega); have HJ := hide hj; clear hj hfind))
      all_goals
        have hbel2 : Below w.heap.size w w2 := hbel1.trans ((Below.refl _ W1).drew.trans (hb2.mono (by show _ ≤ W1.heap.size; omega)))
        have hsz2 : w.heap.size + 1 < w2.heap.size := by have := hb2.size; simp only [World.size_drew] at this; omega
        have R1 := Row.put (S' := fun i => i < k + 1) hrow2 (by omega) (unhide R0) (fun i hi => by omega)
        have R2 := put5_below hbel2 (g := w.heap.size + 1) (by omega) (k * 5) c1
        have R3 := (put5_cell (w := w2) (g := w.heap.size + 1) (o := k * 5) (b := w.heap.size) (j := 1) (c := c1) (by omega)).trans hs2
        have R4 := put5_size w2 (w.heap.size + 1) (k * 5) c1
        rw [← R4] at hsz2
        clear hrow2 hs2 r0 r1 r2 r3 r4 z0 z1 z2 z3 z4 d0 d1 d2 d3 d4 hrow1 hbel1 hbel2 hb2 hkeep hstay hjl R4
        unfold put5 at R1 R2 R3 hsz2
        go_wp2
        go_roundw
        case rel => exact ⟨k + 1, by omega, by go_num, R3, R1, R2, hsz2⟩
        case measure => simp [intOf]; omega
    · clear h h' hrs
      have hk' : k = n' := by omega
      subst hk'
      go_wp2
      go_ret
      exact ⟨_, rfl, hrow.cols hrl (fun i hi => hi), hbel⟩
end Go.Proofs.Qxb6628450a
