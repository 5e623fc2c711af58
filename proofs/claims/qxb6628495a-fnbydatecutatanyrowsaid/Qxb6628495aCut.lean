/-
  THE SECOND LAW's WALK: ByDate of the rows ahead of a cut, and from it on.
-/
import Derived.Test.Qxb6628495aStable
namespace Go.Proofs.Qxb6628495a
open Go.RowKit Go.Shelf

theorem Dates.take {w : World} {B : Nat} {a : Option Addr} {n k : Nat} {ds : List Int} (h : Dates w B a n ds) (hk : k ≤ n) : Dates w B a k (ds.take k) := by
  obtain ⟨hl, hc, hi⟩ := h
  refine ⟨by simp; omega, ?_, fun d hd => hi d (List.mem_of_mem_take hd)⟩
  rcases hc with h0 | ⟨b, off, ha, hb, hc⟩
  · exact .inl (by omega)
  · refine .inr ⟨b, off, ha, hb, fun i d hd => ?_⟩
    rw [List.getElem?_take] at hd
    split at hd
    · exact hc i d hd
    · cases hd
theorem Dates.drop0 {w : World} {B : Nat} {a : Option Addr} {n k : Nat} {ds : List Int} (h : Dates w B a n ds) (hk : n ≤ k) (a' : Option Addr) : Dates w B a' (n - k) (ds.drop k) := by
  obtain ⟨hl, hc, hi⟩ := h
  exact ⟨by simp; omega, .inl (by omega), fun d hd => hi d (List.mem_of_mem_drop hd)⟩
theorem Dates.drop {w : World} {B : Nat} {a : Option Addr} {n : Nat} {ds : List Int} (h : Dates w B a n ds) (k : Nat) : Dates w B (a.map fun x => x.add k) (n - k) (ds.drop k) := by
  by_cases hk : n ≤ k
  · exact h.drop0 hk _
  · obtain ⟨hl, hc, hi⟩ := h
    refine ⟨by simp; omega, ?_, fun d hd => hi d (List.mem_of_mem_drop hd)⟩
    rcases hc with h0 | ⟨b, off, rfl, hb, hc⟩
    · exact .inl (by omega)
    · refine .inr ⟨b, off + k, ?_, hb, fun i d hd => ?_⟩
      · simp only [Option.map_some, Addr.add]
        split
        · rename_i q; rw [q]; rfl
        · rfl
      · rw [List.getElem?_drop] at hd
        rw [Nat.add_assoc]
        exact hc (k + i) d hd
theorem Span.take {ds : List Int} (h : Span ds) (k : Nat) : Span (ds.take k) := fun x hx y hy => h x (List.mem_of_mem_take hx) y (List.mem_of_mem_take hy)
theorem Span.drop {ds : List Int} (h : Span ds) (k : Nat) : Span (ds.drop k) := fun x hx y hy => h x (List.mem_of_mem_drop hx) y (List.mem_of_mem_drop hy)
theorem OrdAt.mono {w w' : World} {a : Option Addr} {n : Nat} {ds : List Int} (h : OrdAt w a n ds) (hb : Below w.heap.size w w') : OrdAt w' a n ds := by
  obtain ⟨R, hR, h0 | ⟨br, ha, hlt, hc⟩⟩ := h
  · exact ⟨R, hR, .inl h0⟩
  · exact ⟨R, hR, .inr ⟨br, ha, Nat.lt_of_lt_of_le hlt hb.size, fun k i hk => (hb.cell (p := ⟨br, k, none⟩) hlt).trans (hc k i hk)⟩⟩

/-- How many of the first j rows listed lie ahead of the cut. -/
def cutF (R : List Nat) (k j : Nat) : Nat := ((R.take j).filter (fun i => decide (i < k))).length
/-- .. and from the cut on. -/
def cutB (R : List Nat) (k j : Nat) : Nat := ((R.take j).filter (fun i => decide (¬ i < k))).length

theorem cutF_step {R : List Nat} {k j r : Nat} (h : R[j]? = some r) : cutF R k (j + 1) = cutF R k j + (if r < k then 1 else 0) := by
  unfold cutF
  rw [List.take_add_one, h]
  simp only [Option.toList_some, List.filter_append, List.length_append]
  by_cases q : r < k <;> simp [q]
theorem cutB_step {R : List Nat} {k j r : Nat} (h : R[j]? = some r) : cutB R k (j + 1) = cutB R k j + (if r < k then 0 else 1) := by
  unfold cutB
  rw [List.take_add_one, h]
  simp only [Option.toList_some, List.filter_append, List.length_append, List.filter_cons, List.filter_nil, decide_eq_true_eq]
  by_cases q : r < k
  · rw [if_neg (fun e => e q), if_pos q]; rfl
  · rw [if_pos q, if_neg q]; rfl

/-- The row at place j, ahead of the cut, in the order of the first k dates. -/
theorem front_at {ds : List Int} {R Rf : List Nat} {k j r : Nat} (hR : IsOrd ds R) (hF : IsOrd (ds.take k) Rf) (hk : k ≤ ds.length) (hj : R[j]? = some r) (hr : r < k) : Rf[cutF R k j]? = some r ∧ cutF R k j < k := by
  have h := filter_at (fun i => decide (i < k)) R j r hj (by simpa using hr)
  rw [front_order hR hF hk] at h
  refine ⟨h, ?_⟩
  have h1 := (List.getElem?_eq_some_iff.1 h).1
  have h2 := hF.len
  simp at h2
  unfold cutF
  omega
theorem back_at {ds : List Int} {R Rb : List Nat} {k j r : Nat} (hR : IsOrd ds R) (hB : IsOrd (ds.drop k) Rb) (hk : k ≤ ds.length) (hj : R[j]? = some r) (hr : ¬ r < k) : ∃ s, Rb[cutB R k j]? = some s ∧ s + k = r ∧ cutB R k j < ds.length - k := by
  have h := filter_at (fun i => decide (¬ i < k)) R j r hj (by simpa using hr)
  rw [back_order hR hB hk, List.getElem?_map, Option.map_eq_some_iff] at h
  obtain ⟨s, hs, e⟩ := h
  refine ⟨s, hs, e, ?_⟩
  have h1 := (List.getElem?_eq_some_iff.1 hs).1
  have h2 := hB.len
  simp at h2
  unfold cutB
  omega

set_option maxRecDepth 100000 in
set_option maxHeartbeats 8000000 in
theorem cut_walk (a : Option Addr) (n c : Nat) (k : Int) (ds : List Int) (w : World) (hn : n ≤ maxLen) (hnc : n ≤ c) (hcm : c ≤ maxLen) (hD : Dates w w.heap.size a n ds) :
    Calls Try.prog 4 #[.slice a n c, .int .i64 k] w fun e w' => e = .returned (.bool true) ∧ Below w.heap.size w w' := by
  have HL := hide hD.1
  have HS := hide hD
  have HN := hide hn
  have hnn : c ≤ 9223372036854775807 := by unfold maxLen at hcm; omega
  clear hn hD hcm
  go_enter Try.func4, Try.ntmps4
  go_wp2_with fail
  go_at_call 9
  refine (bytes4_any a n c k _ (unhide HN)).mono ?_
  rintro e w' ⟨⟨r, rfl⟩, rfl⟩
  cases r with
  | false =>
    go_wp2
    go_ret
    exact ⟨rfl, Below.refl _ _⟩
  | true =>
    by_cases hbig : 262144 < (n : Int)
    · go_wp2
      go_ret
      exact ⟨rfl, Below.refl _ _⟩
    by_cases hk0 : k < 0
    · go_wp2
      go_ret
      exact ⟨rfl, Below.refl _ _⟩
    by_cases hk1 : (n : Int) < k
    · go_wp2
      go_ret
      exact ⟨rfl, Below.refl _ _⟩
    obtain ⟨t, rfl⟩ : ∃ t : Nat, k = t := ⟨k.toNat, by omega⟩
    have ht : t ≤ n := by omega
    clear hk0 hk1
    go_wp2_with fail
    go_at_call 6
    refine (span_any _ a n c ds _ (unhide HN) (unhide HS)).mono ?_
    rintro e w' ⟨⟨r, rfl, hsp⟩, rfl⟩
    cases r with
    | false =>
      go_wp2
      go_ret
      exact ⟨rfl, Below.refl _ _⟩
    | true =>
      have HSP := hide (hsp rfl)
      clear hsp
      go_wp2_with fail
      go_at_call 7
      refine (build_any _ a n c ds _ (by omega) (unhide HS) (Nat.le_refl _)).mono ?_
      rintro e w1 ⟨⟨bl, bc, c0, lo, hi, rfl, hLed, hEnds⟩, hbel1⟩
      have HB1 := hide hbel1
      have HLed := hide hLed
      have HEnds := hide hEnds
      clear hbel1 hLed hEnds
      go_wp2_with fail
      go_at_call 8
      refine (byDate_any n ds bl lo hi bc c0 _ (by omega) (unhide HL) (unhide HLed) (unhide HEnds) (unhide HSP) (unhide HS).2.2).mono ?_
      rintro e w2 ⟨⟨a2, rfl, hOrd⟩, hbel2⟩
      have HB2 := hide ((unhide HB1).trans (hbel2.mono (unhide HB1).size))
      have HOrd := hide hOrd
      clear hbel2 hOrd HB1 HLed HEnds
      go_wp2_with fail
      go_at_call 7
      have hS2 := (unhide HS).mono (unhide HB2) (unhide HB2).size
      refine (build_any _ a t c (ds.take t) _ (by omega) (hS2.take ht) (Nat.le_refl _)).mono ?_
      rintro e w3 ⟨⟨bl3, bc3, c3, lo3, hi3, rfl, hLed, hEnds⟩, hbel3⟩
      have HB3 := hide hbel3
      have HLed := hide hLed
      have HEnds := hide hEnds
      have HS2 := hide hS2
      clear hbel3 hLed hEnds hS2
      go_wp2_with fail
      go_at_call 8
      refine (byDate_any t (ds.take t) bl3 lo3 hi3 bc3 c3 _ (by omega) (by have := unhide HL; simp; omega) (unhide HLed) (unhide HEnds) ((unhide HSP).take t) (fun d hd => (unhide HS).2.2 d (List.mem_of_mem_take hd))).mono ?_
      rintro e w4 ⟨⟨a4, rfl, hOrd4⟩, hbel4⟩
      have HB4 := hide ((unhide HB3).trans (hbel4.mono (unhide HB3).size))
      have HOrd2 := hide ((unhide HOrd).mono (unhide HB4))
      have HB24 := hide ((unhide HB2).trans ((unhide HB4).mono (unhide HB2).size))
      have HOrd4 := hide hOrd4
      have HS4 := hide ((unhide HS2).mono (unhide HB4) (unhide HB4).size)
      clear hbel4 hOrd4 HB3 HLed HEnds HOrd HB2 HB4 HS2
      go_wp2_with fail
      case' inl =>
        go_at_call 7
        refine (build_any _ a (n - t) 0 (ds.drop t) _ (by omega) ((unhide HS4).drop0 (by omega) a) (Nat.le_refl _)).mono ?_
      case' inr =>
        go_at_call 7
        refine (build_any _ (a.map fun x => x.add t) (n - t) (c - t) (ds.drop t) _ (by omega) ((unhide HS4).drop t) (Nat.le_refl _)).mono ?_
      all_goals
        rintro e w5 ⟨⟨bl5, bc5, c5, lo5, hi5, rfl, hLed, hEnds⟩, hbel5⟩
        try generalize (Option.map (fun x : Addr => x.add t) a) = A7
        have HB5 := hide hbel5
        have HLed := hide hLed
        have HEnds := hide hEnds
        clear hbel5 hLed hEnds
        go_wp2_with fail
        go_at_call 8
        refine (byDate_any (n - t) (ds.drop t) bl5 lo5 hi5 bc5 c5 _ (by omega) (by have := unhide HL; simp; omega) (unhide HLed) (unhide HEnds) ((unhide HSP).drop t) (fun d hd => (unhide HS).2.2 d (List.mem_of_mem_drop hd))).mono ?_
        rintro e w6 ⟨⟨a6, rfl, hOrd6⟩, hbel6⟩
        have HB46 := hide ((unhide HB5).trans (hbel6.mono (unhide HB5).size))
        have HB6 := hide ((unhide HB24).trans ((unhide HB46).mono (unhide HB24).size))
        obtain ⟨R, hR, hatR⟩ := (unhide HOrd2).mono (unhide HB46)
        obtain ⟨Rf, hRf, hatF⟩ := (unhide HOrd4).mono (unhide HB46)
        obtain ⟨Rb, hRb, hatB⟩ := hOrd6
        have HR := hide hR
        have HF := hide hRf
        have HRB := hide hRb
        have HAt := hide hatR
        have HAtF := hide hatF
        have HAtB := hide hatB
        clear hbel6 hR hRf hRb hatR hatF hatB HB5 HLed HEnds HOrd2 HOrd4 HB46 HB24
        obtain ⟨C, hC, hmk⟩ := make_row 27 4 (.bool false) 1 Try.underlying27 info4 rfl .i64 (n : Int) n rfl (by omega) (by omega)
        have HC := hide hC
        clear hC
        have hnt : ((n - t : Nat) : Int) = (n : Int) - (t : Int) := by omega
        go_wp2
        clear hnt
        go_loopw [10] (fun i wr => ∃ k : Nat, k ≤ n ∧ i = .int .i64 k ∧ RowP wr w6.heap.size n (seenP R k) ∧ Below w6.heap.size w6 wr) (fun i _ => n - (intOf i).toNat)
        case atStart => exact ⟨0, Nat.zero_le _, rfl, (unhide HC).row 4 w6 (fun j _ => by simp [seenP]), (Below.refl _ _).alloc (Nat.le_refl _) _⟩
        case round =>
          obtain ⟨k, hk, rfl, hrow, hbw⟩ := hrel
          by_cases hlt : k < n
          · rcases unhide HAt with h0 | ⟨br, rfl, hbr, hcell⟩
            · omega
            · have hkR : k < R.length := by rw [(unhide HR).len, unhide HL]; exact hlt
              obtain ⟨r, hr⟩ : ∃ r, R[k]? = some r := ⟨R[k], List.getElem?_eq_getElem hkR⟩
              have hrn : r < n := by have := (unhide HR).lt r (List.mem_of_getElem? hr); rw [unhide HL] at this; exact this
              have hcr : wr.cell? ⟨br, k, none⟩ = some (.int .i32 (r : Int)) := (hbw.cell (p := ⟨br, k, none⟩) hbr).trans (hcell k r hr)
              obtain ⟨v, hv, hvp⟩ := hrow.cell hrn
              have hfz := hrow.frozen hrn
              have hf := fresh (unhide HR).nodup hr
              rw [seenP, decide_eq_false hf] at hvp
              subst hvp
              have HROW := hide hrow
              have HBW := hide hbw
              have HRK := hide hr
              clear hrow hbw hr hcell hkR hf
              have q1 : (r : Int) < (n : Int) := by omega
              have q2 : (k : Int) < (n : Int) := by omega
              go_wp2
              have hr := unhide HRK
              refine ⟨⟨k + 1, by omega, by go_num, (unhide HROW).set _ ?_ ?_, (unhide HBW).setCell (p := ⟨w6.heap.size, r, none⟩) (Nat.le_refl _) _⟩, by simp [intOf]; omega⟩
              · rw [seenP, decide_eq_true ((take_succ_mem hr r).2 (.inr rfl))]
              · intro j u _ hj hu
                rw [seenP] at hu ⊢
                have hiff : j ∈ R.take (k + 1) ↔ j ∈ R.take k := (take_succ_mem hr j).trans ⟨fun h => h.resolve_right hj, .inl⟩
                rw [hu, decide_eq_decide.2 hiff]
          · have HBW := hide hbw
            clear hrow hbw
            go_wp2
            go_loopw [12, 13, 14] (fun f b i wx => ∃ j : Nat, j ≤ n ∧ f = .int .i64 (cutF R t j : Int) ∧ b = .int .i64 (cutB R t j : Int) ∧ i = .int .i64 j ∧ Below w6.heap.size w6 wx) (fun _ _ i _ => n - (intOf i).toNat)
            case atStart => exact ⟨0, Nat.zero_le _, by simp [cutF], by simp [cutB], rfl, unhide HBW⟩
            case round =>
              obtain ⟨j, hj, rfl, rfl, rfl, hbx⟩ := hrel
              by_cases hjl : j < n
              · rcases unhide HAt with h0 | ⟨br, rfl, hbr, hcell⟩
                · omega
                · have hl1 : R.length = n := by rw [(unhide HR).len, unhide HL]
                  obtain ⟨r, hr⟩ : ∃ r, R[j]? = some r := ⟨R[j], List.getElem?_eq_getElem (by omega)⟩
                  have hcr : wr.cell? ⟨br, j, none⟩ = some (.int .i32 (r : Int)) := (hbx.cell (p := ⟨br, j, none⟩) hbr).trans (hcell j _ hr)
                  have hrn := (unhide HR).lt _ (List.mem_of_getElem? hr)
                  rw [unhide HL] at hrn
                  have htl : t ≤ ds.length := by rw [unhide HL]; exact ht
                  have q0 : (j : Int) < (n : Int) := by omega
                  by_cases hrt : (r : Int) < (t : Int)
                  · obtain ⟨hf1, hf2⟩ := front_at (unhide HR) (unhide HF) htl hr (by omega)
                    have s1 := cutF_step (k := t) hr
                    have s2 := cutB_step (k := t) hr
                    rw [if_pos (by omega)] at s1 s2
                    rcases unhide HAtF with h0 | ⟨bf, rfl, hbf, hcf⟩
                    · omega
                    · have hcf' : wr.cell? ⟨bf, cutF R t j, none⟩ = some (.int .i32 (r : Int)) := (hbx.cell (p := ⟨bf, _, none⟩) hbf).trans (hcf _ _ hf1)
                      have q1 : (cutF R t j : Int) < (t : Int) := by omega
                      have HBX := hide hbx
                      have S1 := hide s1
                      have S2 := hide s2
                      clear s1 s2 hbx hcf hcell hr hf1 hl1 htl
                      go_wp2
                      all_goals exact ⟨⟨j + 1, by omega, by rw [unhide S1]; rfl, by rw [unhide S2]; rfl, by go_num, unhide HBX⟩, by simp [intOf]; omega⟩
                  · obtain ⟨s, hs1, hs2, hs3⟩ := back_at (unhide HR) (unhide HRB) htl hr (by omega)
                    have s1 := cutF_step (k := t) hr
                    have s2 := cutB_step (k := t) hr
                    rw [if_neg (by omega)] at s1 s2
                    rcases unhide HAtB with h0 | ⟨bb, rfl, hbb, hcb⟩
                    · omega
                    · have hcb' : wr.cell? ⟨bb, cutB R t j, none⟩ = some (.int .i32 (s : Int)) := (hbx.cell (p := ⟨bb, _, none⟩) hbb).trans (hcb _ _ hs1)
                      rw [unhide HL] at hs3
                      have q1 : (cutB R t j : Int) < ((n - t : Nat) : Int) := by omega
                      have hbd : cutB R t j < n - t := hs3
                      subst hs2
                      have HBX := hide hbx
                      have S1 := hide s1
                      have S2 := hide s2
                      clear s1 s2 hbx hcb hcell hr hs1 hl1 htl hs3
                      go_wp2
                      all_goals exact ⟨⟨j + 1, by omega, by rw [unhide S1]; rfl, by rw [unhide S2]; rfl, by go_num, unhide HBX⟩, by simp [intOf]; omega⟩
              · go_wp2
                go_ret
                exact ⟨rfl, (unhide HB6).trans (hbx.mono (unhide HB6).size)⟩
end Go.Proofs.Qxb6628495a
