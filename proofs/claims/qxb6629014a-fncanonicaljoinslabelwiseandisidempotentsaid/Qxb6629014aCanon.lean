/-
  THE WALKS OF (Name).Canonical AND canonB1: every octet in ASCII lower case.
-/
import Derived.Test.Qxb6629014aParts
import Derived.Laws.IdiomStrings
namespace Go.Proofs.Qxb6629014a
open Go.RowKit

/-- Behind k rounds: the first k octets in lower case, the others as they were. -/
def midP (s : ByteArray) (k j : Nat) (v : Value) : Prop := ∀ (h : j < s.size), v = .int .u8 ((if j < k then lowerB s[j] else s[j]).toNat : Int)

theorem frozen_mark (w : World) (C : Array Value) (t : TypeId) (n j : Nat) (hj : j < n) : (w.alloc (.cells C t (n, n + 1))).frozen? ⟨w.heap.size, j, none⟩ = false := by
  have h : (w.alloc (.cells C t (n, n + 1))).heap[w.heap.size]? = some (.cells C t (n, n + 1)) := heap_alloc_new w _
  simp only [World.frozen?, h]
  simp
  omega

theorem row_bytes (w : World) (s : ByteArray) (c : Nat) : RowP (w.alloc (.cells (bytesRow s c) 5 ((bytesRow s c).size, (bytesRow s c).size + 1))).drew w.heap.size s.size (midP s 0) := by
  intro j hj
  have hjs : j < s.data.size := hj
  refine ⟨⟨.int .u8 (s[j].toNat : Int), ?_, fun h => by simp⟩, ?_⟩
  · show (w.alloc _).cell? _ = _
    rw [World.cell?_alloc_mark]
    unfold bytesRow
    rw [Array.getElem?_append_left (by simpa using hjs)]
    simp only [Array.getElem?_map, Array.getElem?_eq_getElem hjs, Option.map_some]
    rfl
  · exact frozen_mark w _ 5 _ j (by unfold bytesRow; simp; omega)

theorem mid_back (w : World) (g : Nat) (s : ByteArray) (c : Nat) (h : RowP w g s.size (midP s s.size)) :
    (convert 31 9 (.slice (some ⟨g, 0, none⟩) s.size c)).run Try.prog w = .ok (.string (canon s)) w := by
  have hl : (s.data.toList.map lowerB).length = s.size := by simp
  have := run_convert_bytes_back (P := Try.prog) w 31 9 5 ⟨g, 0, none⟩ c (s.data.toList.map lowerB) Try.underlying31 Try.underlying5 Try.underlying9 (fun j hj => by
    have hj' : j < s.size := by simpa using hj
    obtain ⟨v, hv, hp⟩ := h.cell hj'
    have e : (⟨g, 0, none⟩ : Addr).add j = ⟨g, j, none⟩ := by unfold Addr.add; split <;> simp_all
    rw [e, hv, hp hj', if_pos hj', List.getElem_map]
    rfl)
  rw [hl] at this
  exact this

theorem mid_up {w : World} {g : Nat} {s : ByteArray} {k : Nat} (h : RowP w g s.size (midP s k)) (hlt : k < s.size) (hup : 65 ≤ s[k].toNat ∧ s[k].toNat ≤ 90) :
    RowP (w.setCell ⟨g, k, none⟩ (.int .u8 ((s[k].toNat : Int) + 97 - 65))) g s.size (midP s (k + 1)) :=
  h.set _ (fun _ => by
    rw [if_pos (by omega), lowerB_yes hup]
    congr 1
    omega) (fun j v hj hne hp hj' => by
    rw [hp hj']
    by_cases hjk : j < k
    · rw [if_pos hjk, if_pos (by omega)]
    · rw [if_neg hjk, if_neg (by omega)])
theorem mid_same {w : World} {g : Nat} {s : ByteArray} {k : Nat} (h : RowP w g s.size (midP s k)) (hlt : k < s.size) (hup : ¬ (65 ≤ s[k].toNat ∧ s[k].toNat ≤ 90)) :
    RowP w g s.size (midP s (k + 1)) :=
  h.weaken (fun j v hj hp hj' => by
    rw [hp hj']
    by_cases hjk : j < k
    · rw [if_pos hjk, if_pos (by omega)]
    · by_cases e : j = k
      · subst e
        rw [if_neg hjk, if_pos (by omega), lowerB_no hup]
      · rw [if_neg hjk, if_neg (by omega)])

set_option maxHeartbeats 1000000 in
theorem canonical_any (s : ByteArray) (w : World) (hs : s.size ≤ 254) : Calls Try.prog 12 #[.agg #[.string s]] w fun e w' => e = .returned (.agg #[.string (canon s)]) ∧ Below w.heap.size w w' := by
  have hcv := fun (w : World) => run_bytes_of_string (P := Try.prog) w 9 31 5 s Try.underlying9 Try.underlying31 Try.underlying5
  go_enter Try.func12, Try.ntmps12
  go_wp2
  clear hcv
  generalize grownCap ((w.alloc (Obj.cells #[Value.string s] 26)).alloc (Obj.cells #[Value.string { data := #[] }] 26)) s.size 0 5 = C
  obtain ⟨W0, hW0⟩ : ∃ W0, W0 = (((w.alloc (Obj.cells #[Value.string s] 26)).alloc (Obj.cells #[Value.string { data := #[] }] 26)).alloc (.cells (bytesRow s C) 5 ((bytesRow s C).size, (bytesRow s C).size + 1))).drew := ⟨_, rfl⟩
  rw [← hW0]
  have hbel : Below w.heap.size w W0 := by rw [hW0]; exact ((((Below.refl _ _).alloc (Nat.le_refl _) _).alloc (by simp) _).alloc (by simp; omega) _).drew
  have hrow : RowP W0 (w.heap.size + 1 + 1) s.size (midP s 0) := by
    have := row_bytes ((w.alloc (Obj.cells #[Value.string s] 26)).alloc (Obj.cells #[Value.string { data := #[] }] 26)) s C
    rw [← hW0] at this
    simpa using this
  have hres : W0.cell? ⟨w.heap.size + 1, 0, none⟩ = some (.string ⟨#[]⟩) := by rw [hW0]; go_simp
  have hfr : W0.frozen? ⟨w.heap.size + 1, 0, none⟩ = false := by rw [hW0]; go_simp
  clear hW0
  go_loopw [11] (fun i wr => ∃ k : Nat, k ≤ s.size ∧ i = .int .i64 k ∧ RowP wr (w.heap.size + 1 + 1) s.size (midP s k) ∧ wr.cell? ⟨w.heap.size + 1, 0, none⟩ = some (.string ⟨#[]⟩) ∧ wr.frozen? ⟨w.heap.size + 1, 0, none⟩ = false ∧ Below w.heap.size w wr) (fun i _ => s.size - (intOf i).toNat)
  case atStart => exact ⟨0, Nat.zero_le _, rfl, hrow, hres, hfr, hbel⟩
  case round =>
    clear hrow hres hfr hbel W0
    obtain ⟨k, hk, rfl, hrow, hres, hfr, hbel⟩ := hrel
    by_cases hlt : k < s.size
    · obtain ⟨v, hv, hp⟩ := hrow.cell hlt
      obtain ⟨c, hc⟩ : ∃ c, c = s[k] := ⟨_, rfl⟩
      have hv' : v = .int .u8 (c.toNat : Int) := by rw [hp hlt, if_neg (by omega), hc]
      subst hv'
      have hz := hrow.frozen hlt
      have hub := u8_bd c
      have HC := hide hc
      clear hc hp
      by_cases hup : 65 ≤ c.toNat ∧ c.toNat ≤ 90
      · have h1 : (65 : Int) ≤ c.toNat := by omega
        have h2 : (c.toNat : Int) ≤ 90 := by omega
        have R1 : RowP (wr.setCell ⟨w.heap.size + 1 + 1, k, none⟩ (.int .u8 ((c.toNat : Int) + 97 - 65))) (w.heap.size + 1 + 1) s.size (midP s (k + 1)) := by
          have e := unhide HC
          subst e
          exact mid_up hrow hlt hup
        have R2 := hbel.setCell (p := ⟨w.heap.size + 1 + 1, k, none⟩) (by simp only; omega) (.int .u8 ((c.toNat : Int) + 97 - 65))
        go_wp2
        go_roundw
        case rel => exact ⟨k + 1, by omega, by go_num, R1, by go_simp, by go_simp, R2⟩
        case measure => simp [intOf]; omega
      · have R1 : RowP wr (w.heap.size + 1 + 1) s.size (midP s (k + 1)) := by
          have e := unhide HC
          subst e
          exact mid_same hrow hlt hup
        by_cases h1 : (65 : Int) ≤ c.toNat
        · have h2 : ¬ (c.toNat : Int) ≤ 90 := by omega
          go_wp2
          go_roundw
          case rel => exact ⟨k + 1, by omega, by go_num, R1, hres, hfr, hbel⟩
          case measure => simp [intOf]; omega
        · go_wp2
          go_roundw
          case rel => exact ⟨k + 1, by omega, by go_num, R1, hres, hfr, hbel⟩
          case measure => simp [intOf]; omega
    · have hback := mid_back wr (w.heap.size + 1 + 1) s C (hrow.weaken (fun j v hj hp => by obtain rfl : k = s.size := (by omega); exact hp))
      go_wp2
      exact bodyPost_ret (v := .agg #[.string (canon s)]) (by simp [results, Try.results12, go_sem, hres]) rfl ⟨rfl, hbel.setCell (p := ⟨w.heap.size + 1, 0, none⟩) (by simp) _⟩

set_option maxHeartbeats 400000 in
theorem canonB1_any (s : ByteArray) (w : World) (hs : s.size ≤ 254) : Calls Try.prog 7 #[.string s] w fun e w' => e = .returned (.string (canon s)) ∧ Below w.heap.size w w' := by
  go_enter Try.func7, Try.ntmps7
  go_wp2_with fail
  refine (newName_any s w).mono ?_
  rintro e w1 ⟨rfl, h1⟩
  go_wp2_with fail
  refine (canonical_any s w1 hs).mono ?_
  rintro e w2 ⟨rfl, h2⟩
  go_wp2_with fail
  refine (wire_any (canon s) w2).mono ?_
  rintro e w3 ⟨rfl, h3⟩
  go_wp2
  go_ret
  exact ⟨rfl, h1.trans ((h2.mono h1.size).trans (h3.mono (Nat.le_trans h1.size h2.size)))⟩
end Go.Proofs.Qxb6629014a
