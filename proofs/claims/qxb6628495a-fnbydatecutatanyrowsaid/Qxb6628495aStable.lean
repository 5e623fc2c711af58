/-
  THE FIRST LAW's WALK: ByDate lists every row once, in date order, rows of one date in their own order.
-/
import Derived.Test.Qxb6628495aByDate
import Derived.BigQuiet
namespace Go.Proofs.Qxb6628495a
open Go.RowKit Go.Shelf

/-- A slice of int32 as it came in: its dates. -/
theorem dates_of {w : World} {a : Option Addr} {len cap : Nat} {zs : List Int}
    (h : (a = none ∧ len = 0 ∧ cap = 0 ∧ zs = []) ∨ ∃ x, a = some x ∧ len ≤ cap ∧ cap ≤ maxLen ∧ zs.length = cap ∧ (∀ i, i < zs.length → w.cell? (x.add i) = some (.int .i32 (zs.getD i 0))) ∧ ∀ n ∈ zs, (Lit.int .i32 n).wf = true) :
    Dates w w.heap.size a len (zs.take len) ∧ len ≤ cap ∧ cap ≤ maxLen := by
  rcases h with ⟨rfl, rfl, rfl, rfl⟩ | ⟨x, rfl, hl, hm, hz, hc, hw⟩
  · exact ⟨⟨rfl, .inl rfl, fun d hd => by simp at hd⟩, Nat.le_refl _, Nat.zero_le _⟩
  · refine ⟨⟨by simp; omega, ?_, fun d hd => ?_⟩, hl, hm⟩
    · by_cases h0 : len = 0
      · exact .inl h0
      · right
        have h1 := hc 0 (by omega)
        obtain ⟨b, off, spot⟩ := x
        have e0 : (⟨b, off, spot⟩ : Addr).add 0 = ⟨b, off, spot⟩ := by simp [Addr.add]
        rw [e0] at h1
        have hs : spot = none := by
          unfold World.cell? at h1
          cases spot with
          | none => rfl
          | some s => split at h1 <;> simp at h1
        subst hs
        have hb : b < w.heap.size := by
          unfold World.cell? at h1
          split at h1
          · rename_i o _ _ ho
            exact (Array.getElem?_eq_some_iff.1 ho).1
          · cases h1
        refine ⟨b, off, rfl, hb, fun i d hd => ?_⟩
        rw [List.getElem?_take] at hd
        split at hd
        · rename_i hi
          have h2 := hc i (by omega)
          have e1 : (⟨b, off, none⟩ : Addr).add i = ⟨b, off + i, none⟩ := by
            unfold Addr.add
            split
            · rename_i q; rw [q]; rfl
            · rfl
          rw [e1] at h2
          rw [h2, List.getD_eq_getElem?_getD, hd]
          rfl
        · cases hd
    · have := hw d (List.mem_of_mem_take hd)
      simp [Lit.wf] at this
      exact this

/-- What seen[j] is behind k rows. -/
def seenP (R : List Nat) (k j : Nat) (v : Value) : Prop := v = .bool (decide (j ∈ R.take k))

theorem take_succ_mem {R : List Nat} {k r : Nat} (hk : R[k]? = some r) (j : Nat) : j ∈ R.take (k + 1) ↔ j ∈ R.take k ∨ j = r := by
  rw [List.take_add_one, hk]
  simp

theorem fresh {R : List Nat} (h : R.Nodup) {k r : Nat} (hk : R[k]? = some r) : r ∉ R.take k := by
  intro hm
  obtain ⟨i, hi, he⟩ := List.getElem_of_mem hm
  have hi' : i < k := by simp at hi; omega
  have h1 : R[i]? = some r := by
    rw [List.getElem_take] at he
    rw [List.getElem?_eq_some_iff]
    exact ⟨_, he⟩
  have hkl := (List.getElem?_eq_some_iff.1 hk).1
  have := (List.getElem?_inj (by omega) h).1 (h1.trans hk.symm)
  omega

set_option maxRecDepth 100000 in
set_option maxHeartbeats 4000000 in
theorem stable_walk (a : Option Addr) (n c : Nat) (ds : List Int) (w : World) (hn : n ≤ maxLen) (hD : Dates w w.heap.size a n ds) :
    Calls Try.prog 3 #[.slice a n c] w fun e w' => e = .returned (.bool true) ∧ Below w.heap.size w w' := by
  have HL := hide hD.1
  have HS := hide hD
  have HN := hide hn
  have hnn : n ≤ 9223372036854775807 := by unfold maxLen at hn; omega
  clear hn hD
  go_enter Try.func3, Try.ntmps3
  go_wp2_with fail
  go_at_call 5
  refine (bytes3_any a n c _ (unhide HN)).mono ?_
  rintro e w' ⟨⟨r, rfl⟩, rfl⟩
  cases r with
  | false =>
    go_wp2
    go_ret
    exact ⟨rfl, Below.refl _ _⟩
  | true =>
    by_cases hbig : 262144 < (n : Int)
    · go_wp2
      go_ret
      exact ⟨rfl, Below.refl _ _⟩
    · go_wp2_with fail
      go_at_call 6
      refine (span_any _ a n c ds _ (unhide HN) (unhide HS)).mono ?_
      rintro e w' ⟨⟨r, rfl, hsp⟩, rfl⟩
      cases r with
      | false =>
        go_wp2
        go_ret
        exact ⟨rfl, Below.refl _ _⟩
      | true =>
        have HSP := hide (hsp rfl)
        clear hsp
        go_wp2_with fail
        go_at_call 7
        refine (build_any _ a n c ds _ (by omega) (unhide HS) (Nat.le_refl _)).mono ?_
        rintro e w1 ⟨⟨bl, bc, c0, lo, hi, rfl, hLed, hEnds⟩, hbel1⟩
        have HB1 := hide hbel1
        have HLed := hide hLed
        have HEnds := hide hEnds
        clear hbel1 hLed hEnds
        go_wp2_with fail
        go_at_call 8
        refine (byDate_any n ds bl lo hi bc c0 _ (by omega) (unhide HL) (unhide HLed) (unhide HEnds) (unhide HSP) (unhide HS).2.2).mono ?_
        rintro e w2 ⟨⟨a2, rfl, hOrd⟩, hbel2⟩
        have HB2 := hide hbel2
        have HOrd := hide hOrd
        clear hbel2 hOrd
        obtain ⟨C, hC, hmk⟩ := make_row 27 4 (.bool false) 1 Try.underlying27 info4 rfl .i64 (n : Int) n rfl (by omega) (by omega)
        have HC := hide hC
        clear hC
        go_wp2
        have hB12 := (unhide HB1).trans ((unhide HB2).mono (unhide HB1).size)
        obtain ⟨R, hR, hat⟩ := unhide HOrd
        have HR := hide hR
        have HAt := hide hat
        clear hR hat HOrd
        go_loopw [6] (fun i wr => ∃ k : Nat, k ≤ n ∧ i = .int .i64 k ∧ RowP wr w2.heap.size n (seenP R k) ∧ Below w2.heap.size w2 wr) (fun i _ => n - (intOf i).toNat)
        case atStart => exact ⟨0, Nat.zero_le _, rfl, (unhide HC).row 4 w2 (fun j _ => by simp [seenP]), (Below.refl _ _).alloc (Nat.le_refl _) _⟩
        case round =>
          obtain ⟨k, hk, rfl, hrow, hbw⟩ := hrel
          by_cases hlt : k < n
          · rcases unhide HAt with h0 | ⟨br, rfl, hbr, hcell⟩
            · omega
            · have hkR : k < R.length := by rw [(unhide HR).len, unhide HL]; exact hlt
              obtain ⟨r, hr⟩ : ∃ r, R[k]? = some r := ⟨R[k], List.getElem?_eq_getElem hkR⟩
              have hrn : r < n := by have := (unhide HR).lt r (List.mem_of_getElem? hr); rw [unhide HL] at this; exact this
              have hcr : wr.cell? ⟨br, k, none⟩ = some (.int .i32 (r : Int)) := (hbw.cell (p := ⟨br, k, none⟩) hbr).trans (hcell k r hr)
              obtain ⟨v, hv, hvp⟩ := hrow.cell hrn
              have hfz := hrow.frozen hrn
              have hf := fresh (unhide HR).nodup hr
              rw [seenP, decide_eq_false hf] at hvp
              subst hvp
              have HROW := hide hrow
              have HBW := hide hbw
              have HRK := hide hr
              clear hrow hbw hr hcell hkR hf
              have q1 : (r : Int) < (n : Int) := by omega
              have q2 : (k : Int) < (n : Int) := by omega
              go_wp2
              have hr := unhide HRK
              refine ⟨⟨k + 1, by omega, by go_num, (unhide HROW).set _ ?_ ?_, (unhide HBW).setCell (p := ⟨w2.heap.size, r, none⟩) (Nat.le_refl _) _⟩, by simp [intOf]; omega⟩
              · rw [seenP, decide_eq_true ((take_succ_mem hr r).2 (.inr rfl))]
              · intro j u _ hj hu
                rw [seenP] at hu ⊢
                have hiff : j ∈ R.take (k + 1) ↔ j ∈ R.take k := (take_succ_mem hr j).trans ⟨fun h => h.resolve_right hj, .inl⟩
                rw [hu, decide_eq_decide.2 hiff]
          · have HBW := hide hbw
            clear hrow hbw
            go_wp2
            go_loopw [8] (fun i wx => ∃ k : Nat, k ≤ n ∧ i = .int .i64 k ∧ Below w2.heap.size w2 wx) (fun i _ => n - (intOf i).toNat)
            case atStart => exact ⟨0, Nat.zero_le _, rfl, unhide HBW⟩
            case round =>
              obtain ⟨t, ht, rfl, hbx⟩ := hrel
              by_cases htl : (t : Int) + 1 < (n : Int)
              · rcases unhide HAt with h0 | ⟨br, rfl, hbr, hcell⟩
                · omega
                · have hl1 : R.length = n := by rw [(unhide HR).len, unhide HL]
                  have hkR : t + 1 < R.length := by omega
                  have hr : R[t]? = some R[t] := List.getElem?_eq_getElem (by omega)
                  have hs : R[t + 1]? = some R[t + 1] := List.getElem?_eq_getElem hkR
                  have hah := List.pairwise_iff_getElem.1 (unhide HR).sorted t (t + 1) (by omega) hkR (by omega)
                  have hcr : wr.cell? ⟨br, t, none⟩ = some (.int .i32 ((R[t] : Nat) : Int)) := (hbx.cell (p := ⟨br, t, none⟩) hbr).trans (hcell t _ hr)
                  have hcs : wr.cell? ⟨br, t + 1, none⟩ = some (.int .i32 ((R[t + 1] : Nat) : Int)) := (hbx.cell (p := ⟨br, t + 1, none⟩) hbr).trans (hcell (t + 1) _ hs)
                  have hrn := (unhide HR).lt _ (List.mem_of_getElem? hr)
                  have hsn := (unhide HR).lt _ (List.mem_of_getElem? hs)
                  rw [unhide HL] at hrn hsn
                  generalize R[t] = r at *
                  generalize R[t + 1] = s at *
                  obtain ⟨d, d', hd, hd', hord⟩ := hah
                  rcases (unhide HS).2.1 with h0 | ⟨b, off, rfl, hb, hc⟩
                  · omega
                  · have hbx2 := hB12.trans (hbx.mono hB12.size)
                    have hcd : wr.cell? ⟨b, off + r, none⟩ = some (.int .i32 d) := (hbx2.cell (p := ⟨b, off + r, none⟩) hb).trans (hc r d hd)
                    have hcd' : wr.cell? ⟨b, off + s, none⟩ = some (.int .i32 d') := (hbx2.cell (p := ⟨b, off + s, none⟩) hb).trans (hc s d' hd')
                    have q1 : (r : Int) < (n : Int) := by omega
                    have q2 : (s : Int) < (n : Int) := by omega
                    have q3 : (t : Int) < (n : Int) := by omega
                    have q4 : ¬ d' < d := by omega
                    have HBX := hide hbx
                    clear hd hd' hc hbx hbx2 hcell hr hs hkR hl1
                    rcases hord with hlt' | ⟨rfl, hrs⟩
                    · have q5 : (d == d') = false := by simp; omega
                      go_wp2
                      go_quiet (fail)
                      go_wp2
                      go_quiet (fail)
                      go_wp2
                      exact ⟨⟨t + 1, by omega, by go_num, (unhide HBX).trans (below_drewN _ _ _)⟩, by simp [intOf]; omega⟩
                    · have q5 : ¬ (s : Int) < (r : Int) := by omega
                      go_wp2
                      go_quiet (fail)
                      go_wp2
                      go_quiet (fail)
                      go_wp2
                      exact ⟨⟨t + 1, by omega, by go_num, (unhide HBX).trans (below_drewN _ _ _)⟩, by simp [intOf]; omega⟩
              · go_wp2
                go_ret
                exact ⟨rfl, hB12.trans (hbx.mono hB12.size)⟩
end Go.Proofs.Qxb6628495a
