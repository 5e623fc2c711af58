/-
  THE WALK OF ByDate.
-/
import Derived.Test.Qxb6628495aNext
import Derived.Test.Qxb6628495aLast
import Derived.BigRegion
import Derived.Deep.CutRange
namespace Go.Proofs.Qxb6628495a
open Go.RowKit Go.Shelf
attribute [local go_sem] Oper.semAt_some

set_option maxRecDepth 100000 in
set_option maxHeartbeats 4000000 in
theorem byDate_some (B bl n : Nat) (lo hi : Int) (bc c0 : Nat) (ds : List Int) (hn : n ≤ 262144) (hp : 0 < n) (hlen : ds.length = n) (w : World) (hB : B ≤ w.heap.size)
    (hL : Led w B bl n lo hi bc c0 ds) (hbd : ∀ d ∈ ds, lo ≤ d ∧ d ≤ hi) (hi1 : lo ≤ hi) (hi2 : hi - lo ≤ 65536) (hi3 : I32 lo) (hi4 : I32 hi) :
    Calls Try.prog 8 #[.pointer (some ⟨bl, 0, none⟩)] w fun e w' => Sorted n ds e w' ∧ Below w.heap.size w w' := by
  have HL := hide hlen
  obtain ⟨⟨b1, b2, b3⟩, ⟨l1, l2, l3, l4⟩, -, -⟩ := id hL
  have hblw : bl < w.heap.size := by omega
  obtain ⟨hi3a, hi3b⟩ := hi3
  obtain ⟨hi4a, hi4b⟩ := hi4
  obtain ⟨M, hM⟩ : ∃ M : Nat, (M : Int) = hi - lo + 2 := ⟨(hi - lo + 2).toNat, by omega⟩
  obtain ⟨C, hC, hmk⟩ := make_row 22 21 (.int .i32 0) 4 Try.underlying22 info21 rfl .i32 (hi - lo + 2) M hM.symm (by omega) (by omega)
  have HM := hide hM
  clear hlen hM
  have hw1 : IntKind.i32.wrap (hi - lo) = hi - lo := wrap32_id (by omega) (by omega)
  have hw2 : IntKind.i32.wrap (hi - lo + 2) = hi - lo + 2 := wrap32_id (by omega) (by omega)
  refine (callsIn_wide (n := 5)).1 ?_
  refine callsIn_of_wp_marks Try.func8 rfl trivial ?_ rfl
  simp only [Try.ntmps8, List.size_toArray, List.length_cons, List.length_nil, Nat.reduceAdd, Nat.reduceSub, Array.replicate_succ, Array.replicate_zero, List.push_toArray, List.append_toArray, List.nil_append, List.cons_append]
  have hne : ((n : Int) == 0) = false := by simp; omega
  refine wpIn_wide.2 ?_
  go_wp2
  go_cut [3] from 16 to 26 (fun s3 wx => ∃ bp bn : Nat, s3 = .pointer (some ⟨bp, 0, none⟩) ∧ NextIs w bl M bp bn wx (fun j v => v = .int .i32 (cnt1 ds lo 0 j : Int)))
  case first =>
    go_region
    · go_wp2
      go_meet
      case rel => exact ⟨_, _, rfl, next_start1 w bl M C hC ds lo⟩
    · go_wp2
      go_meet
      case rel => exact ⟨_, _, rfl, next_start2 w bl M C hC ds lo⟩
  case rest =>
    obtain ⟨bp, bn, rfl, hnx⟩ := hcut
    clear hmk
    obtain ⟨hcl, hcp, hrow, hne', hbp, hbn, hbel⟩ := id hnx
    have hbn0 := hbn
    have HB := hide hne'
    go_wp2_with (go_at_call 13; refine (callsIn_wide.1 (all_in Fence.wide 5 trivial rfl bl _)).mono ?_; rintro e w' ⟨rfl, rfl⟩)
    have hown := nextIs_own (w := w) (bl := bl) (M := M) (bp := bp) (bn := bn) (Bw := (wc.alloc (Obj.cells #[Value.pointer (some ⟨bl, 0, none⟩)] 24)).heap.size) (fun k j v => v = .int .i32 (cnt1 ds lo k j : Int)) (by have := hbel.size; simp; omega)
    have hLw := hL.mono (unhide HL) (Below.refl _ _) hB
    have hL1 := hLw.mono (unhide HL) (hbel.alloc hbel.size (Obj.cells #[Value.pointer (some ⟨bl, 0, none⟩)] 24)) (Nat.le_refl _)
    refine (wpIn_wide (n := 5)).1 (wpIn_rangeFunc_up (F := Fence.wide) (n := 5) rfl (by omega) (gf := 14) (lb := #[.pointer (some ⟨wc.heap.size, 0, none⟩)]) rfl trivial (enters_of Try.func14 (by kernel_rfl) rfl)
      (all_up Fence.wide 4 trivial rfl (by omega) wc.heap.size w.heap.size bl n lo hi bc c0 ds hn (unhide HL) _ (by simp) (by have := hbel.size; simp; omega) (by simp) hL1)
      Kept.trans (Kept.putObj (by have := hbel.size; simp; omega) (by simp)) (Below.refl _ _) (fun _ => rfl)
      (fun k W => NextIs w bl M bp bn W (fun j v => v = .int .i32 (cnt1 ds lo k j : Int))) hown ?h0 (fun k => { tmps := #[Value.pointer (some ⟨bl, 0, none⟩), Value.pointer (some ⟨w.heap.size, 0, none⟩), Value.slice none 0 0, Value.pointer (some ⟨bp, 0, none⟩), undef, Value.pointer (some ⟨c0 + k / 16384, 16385 + k % 16384 * 3, none⟩), undef, undef, undef, undef, undef, Value.pointer (some ⟨bl, 0, none⟩), Value.pointer (some ⟨bl, 0, none⟩), Value.pointer (some ⟨bl, 1, none⟩), Value.int .i64 n, Value.bool false, u16, u17, u18, u19, u20, u21, u22, u23, u24, u25, u26, Value.pointer (some ⟨bl, 0, none⟩), Value.func (Fn.func 14) #[] #[Value.pointer (some ⟨wc.heap.size, 0, none⟩)], Value.int .i64 k, Value.pointer (some ⟨c0 + k / 16384, 16385 + k % 16384 * 3, none⟩), undef, undef, undef, undef, undef, undef, undef, undef, undef, undef, undef, undef, undef, undef, undef, undef, undef, undef, undef, undef, undef, undef, undef, undef, undef, undef, undef, undef, undef, undef, undef, undef, undef, undef, undef, undef, undef, undef, undef, undef, undef, undef, undef, undef, undef, undef, undef, undef, undef, undef, undef, undef, undef, undef, undef, undef, undef, undef, undef, undef, undef, undef, undef, undef, undef], defers := [] }) ?assign ?body ?done)
    case h0 => exact hnx.mono ((Below.refl _ _).alloc (Nat.le_refl _) _)
    case assign =>
      intro l k W K hK
      unfold rowArgs
      gi_wp2
      exact hK
    case body =>
      intro l k W hk hI
      obtain ⟨hcl, hcp, hrow, hne', hbp, hbn, hbel⟩ := id hI
      have hLW := hL.mono (unhide HL) (hbel.mono hB) (Nat.le_refl _)
      have hk' : k < ds.length := by rw [unhide HL]; exact hk
      obtain ⟨d, hd⟩ : ∃ d, ds[k]? = some d := ⟨ds[k], List.getElem?_eq_getElem hk'⟩
      have hc := hLW.2.2.2 k d hd
      obtain ⟨hld, hdh⟩ := hbd d (List.mem_of_getElem? hd)
      have hlo : W.cell? ⟨bl, 2, none⟩ = some (.int .i32 lo) := (hbel.cell (p := ⟨bl, 2, none⟩) hblw).trans l2
      obtain ⟨x, hx⟩ : ∃ x : Nat, (x : Int) = d - lo + 1 := ⟨(d - lo + 1).toNat, by omega⟩
      have hMx := unhide HM
      have hxM : x < M := by omega
      obtain ⟨v, hv, hvp⟩ := hrow.cell hxM
      have hfz := hrow.frozen hxM
      subst hvp
      have hcl1 := cnt1_le ds lo k x
      have q1 : IntKind.i32.wrap (d - lo) = d - lo := wrap32_id (by omega) (by omega)
      have q2 : IntKind.i32.wrap (d - lo + 1) = d - lo + 1 := wrap32_id (by omega) (by omega)
      have q3 : IntKind.i32.wrap ((cnt1 ds lo k x : Int) + 1) = (cnt1 ds lo k x : Int) + 1 := wrap32_id (by omega) (by omega)
      have q4 : (d - lo + 1).toNat = x := by omega
      have q5 : 0 ≤ d - lo + 1 := by omega
      have q6 : d - lo + 1 < (M : Int) := by omega
      have HX := hide hx
      have HI := hide hI
      have HD := hide hd
      have HB2 := hide hbn0
      clear hbn0
      clear hx hMx hw1 hw2 hI hown hLw hL1 hL hLW hnx hrow hbel hC HL HM hcl1 hd hld hdh hne l1 l2 l3 l4 hi1 hi2 hi3a hi3b hi4a hi4b hn hp hB b1 b2 b3 hblw hbp hbn hne' hbd hk'
      gi_wp2
      refine wpIn_region_last (by repeat (first | exact Snoc.nil _ | apply Snoc.cons)) (by kernel_rfl) (by kernel_rfl) (by kernel_rfl) (by kernel_rfl) ?_
      repeat (go_big_quiet_step (fail))
      refine wpQuiet_nil ?_
      rintro _ ⟨nq, rfl⟩ K hK
      gi_big_op
      refine hK _ _ ?_
      clear hK K
      gi_wp2
      have hx := unhide HX
      have hd := unhide HD
      have hne' := unhide HB
      have hbn0 := unhide HB2
      refine ⟨keeps_set _, kept_set _ (by omega) (by omega), ((unhide HI).drewN nq).set _ ?_ ?_⟩
      · show _ = _
        rw [cnt1_step hd x, if_pos hx.symm]
        rfl
      · intro j u hj hjx hu
        show _ = _
        rw [hu, cnt1_step hd j, if_neg (by omega), Nat.add_zero]
    case done =>
      intro D W hD hI hK
      clear hw1 hw2 hown hL1 hnx hcl hcp hrow hbp hbn hbel
      obtain ⟨hcl, hcp, hrow, -, hbp, hbn, hbel⟩ := id hI
      have HI := hide hI
      have HK := hide hK
      have hM2 : 2 ≤ M := by have := unhide HM; omega
      have hMle : M ≤ 65538 := by have := unhide HM; omega
      have HC := hide hC
      clear hI hK hcl hcp hrow hbel hC
      go_wp2
      go_loopw [6] (fun i wr => ∃ x : Nat, x + 1 ≤ M ∧ i = .int .i64 ((x : Int) + 1) ∧ NextIs w bl M bp bn wr (fun j v => v = .int .i32 ((if j ≤ x then start ds lo j else cnt1 ds lo n j : Nat) : Int)) ∧ wr.heap[D]? = some (.deferred (some [])))
        (fun i _ => M - (intOf i).toNat)
      case atStart =>
        refine ⟨0, by omega, rfl, (unhide HI).weaken fun j v hj hv => ?_, unhide HK⟩
        rw [hv]
        by_cases h0 : j ≤ 0
        · obtain rfl : j = 0 := by omega
          rw [if_pos h0, start_zero ds lo (fun d hd => (hbd d hd).1), unhide HL]
        · rw [if_neg h0]
      case round =>
        obtain ⟨x, hx, rfl, hN, hD2⟩ := hrel
        by_cases hlt : x + 1 < M
        · obtain ⟨hcl, hcp, hrow, -, hbp, hbn, hbel⟩ := id hN
          obtain ⟨v0, hv0, hp0⟩ := hrow.cell hlt
          obtain ⟨v1, hv1, hp1⟩ := hrow.cell (show x < M by omega)
          have hfz := hrow.frozen hlt
          simp only [Nat.le_refl, if_true] at hp1
          rw [if_neg (by omega)] at hp0
          subst hp0 hp1
          have g1 := start_le ds lo x
          have g2 := cnt1_le ds lo n (x + 1)
          have g3 := unhide HL
          have q1 : IntKind.i32.wrap ((cnt1 ds lo n (x + 1) : Int) + (start ds lo x : Int)) = (cnt1 ds lo n (x + 1) : Int) + (start ds lo x : Int) := wrap32_id (by omega) (by omega)
          have q2 : ((x : Int) + 1).toNat = x + 1 := by omega
          have q3 : (x : Int) + 1 < (M : Int) := by omega
          have q4 : (x : Int) < (M : Int) := by omega
          have q6 : (0 : Int) ≤ (x : Int) + 1 := by omega
          have hne0 := unhide HB
          clear g1 g2 g3
          have HN := hide hN
          have HD2 := hide hD2
          clear hN hD2 hrow hbel
          go_wp2
          go_region
          go_wp2
          have hbn1 : D ≠ bn := by have : bn < (wc.alloc (Obj.cells #[Value.pointer (some ⟨bl, 0, none⟩)] 24)).heap.size := by simp; omega
                                   omega
          refine ⟨⟨x + 1, by omega, ?_, ((unhide HN).set _ ?_ ?_).drew, ?_⟩, ?_⟩
          · rfl
          · show _ = _
            rw [if_pos (Nat.le_refl _), start_succ, unhide HL]
            rfl
          · intro j u hj hjx hu
            show _ = _
            rw [hu]
            by_cases hjl : j ≤ x
            · rw [if_pos hjl, if_pos (by omega)]
            · rw [if_neg hjl, if_neg (by omega)]
          · exact (heap_other hbn1).trans (unhide HD2)
          · simp only [intOf]
            omega
        · have hN2 : NextIs w bl M bp bn wr (fun j v => v = .int .i32 (start ds lo j : Int)) := hN.weaken fun j v hj hv => by rw [hv, if_pos (by omega)]
          obtain ⟨C2, hC2, hmk⟩ := make_row 22 21 (.int .i32 0) 4 Try.underlying22 info21 rfl .i64 (n : Int) n rfl (by omega) (by omega)
          obtain ⟨hcl, hcp, -, -, hbp, hbn, hbel⟩ := id hN2
          have hl1 : wr.cell? ⟨bl, 1, none⟩ = some (.int .i64 n) := (hbel.cell (p := ⟨bl, 1, none⟩) hblw).trans l1
          have HN := hide hN2
          have HD2 := hide hD2
          have HC2 := hide hC2
          have HBel := hide hbel
          have hws : w.heap.size < wr.heap.size := by omega
          have hws2 : w.heap.size < wr.heap.size + 1 := by omega
          clear hN hN2 hD2 hC2 hbel
          go_wp2_with (go_at_call 13; refine (callsIn_wide.1 (all_in Fence.wide 5 trivial rfl bl _)).mono ?_; rintro e w' ⟨rfl, rfl⟩)
          have hbnw : bn < wr.heap.size := hbn
          have hDb : D < wr.heap.size := (Array.getElem?_eq_some_iff.1 (unhide HD2)).1
          have hDn : D ≠ bn := by
            have : bn < (wc.alloc (Obj.cells #[Value.pointer (some ⟨bl, 0, none⟩)] 24)).heap.size := by simp; omega
            omega
          obtain ⟨W2, hW2⟩ : ∃ W2, ((wr.alloc (Obj.cells C2 21)).alloc (Obj.cells #[Value.slice (some ⟨wr.heap.size, 0, none⟩) n n] 22)).alloc (Obj.cells #[Value.pointer (some ⟨bl, 0, none⟩)] 24) = W2 := ⟨_, rfl⟩
          have hst : RowsIs w bl M bp bn n (wr.heap.size + 1) wr.heap.size D W2 (fun j v => v = .int .i32 ((start ds lo j + cnt2 ds lo 0 j : Nat) : Int)) (placed ds 0) := by
            rw [← hW2]
            refine rows_start (unhide HC2) (unhide HN) (fun j v _ hv => ?_) (unhide HD2) hDn
            rw [hv]
            simp [cnt2]
          have hs2 : W2.heap.size = wr.heap.size + 1 + 1 + 1 := by rw [← hW2]; simp
          have hb2 : Below w.heap.size w W2 := by
            rw [← hW2]
            exact (((unhide HBel).alloc (by omega) _).alloc (by simp; omega) _).alloc (by simp; omega) _
          have hc2 : W2.cell? ⟨wr.heap.size + 1 + 1, 0, none⟩ = some (.pointer (some ⟨bl, 0, none⟩)) := by
            rw [← hW2, show (⟨wr.heap.size + 1 + 1, 0, none⟩ : Addr) = ⟨((wr.alloc (Obj.cells C2 21)).alloc (Obj.cells #[Value.slice (some ⟨wr.heap.size, 0, none⟩) n n] 22)).heap.size, 0, none⟩ by simp, World.cell?_alloc_new]
            rfl
          have hL2 := hLw.mono (unhide HL) hb2 (Nat.le_refl _)
          have hown := rowsIs_own (w := w) (bl := bl) (M := M) (bp := bp) (bn := bn) (n := n) (bq := wr.heap.size + 1) (br := wr.heap.size) (D := D) (Bw := W2.heap.size) (fun k j v => v = .int .i32 ((start ds lo j + cnt2 ds lo k j : Nat) : Int)) (fun k => placed ds k) hb2.size (by omega)
          rw [hW2]
          refine (wpIn_wide (n := 5)).1 (wpIn_rangeFunc_up (F := Fence.wide) (n := 5) rfl (by omega) (gf := 14) (lb := #[.pointer (some ⟨wr.heap.size + 1 + 1, 0, none⟩)]) rfl trivial (enters_of Try.func14 (by kernel_rfl) rfl)
            (all_up Fence.wide 4 trivial rfl (by omega) (wr.heap.size + 1 + 1) w.heap.size bl n lo hi bc c0 ds hn (unhide HL) W2 (by omega) hb2.size hc2 hL2)
            Kept.trans (Kept.putObj hb2.size (by omega)) (Below.refl _ _) (fun _ => rfl)
            (fun k W => RowsIs w bl M bp bn n (wr.heap.size + 1) wr.heap.size D W (fun j v => v = .int .i32 ((start ds lo j + cnt2 ds lo k j : Nat) : Int)) (placed ds k)) hown hst (fun k => { tmps := #[Value.pointer (some ⟨bl, 0, none⟩), Value.pointer (some ⟨w.heap.size, 0, none⟩), Value.slice none 0 0, Value.pointer (some ⟨bp, 0, none⟩), undef, undef, Value.int .i64 ((x : Int) + 1), Value.pointer (some ⟨wr.heap.size + 1, 0, none⟩), Value.int .i64 k, Value.pointer (some ⟨c0 + k / 16384, 16385 + k % 16384 * 3, none⟩), undef, Value.pointer (some ⟨bl, 0, none⟩), Value.pointer (some ⟨bl, 0, none⟩), Value.pointer (some ⟨bl, 1, none⟩), Value.int .i64 n, Value.bool false, u16, u17, u18, u19, u20, u21, u22, u23, u24, u25, u26, Value.pointer (some ⟨bl, 0, none⟩), Value.func (Fn.func 14) #[] #[Value.pointer (some ⟨wc.heap.size, 0, none⟩)], undef, undef, undef, undef, undef, undef, undef, undef, undef, undef, undef, undef, undef, undef, undef, undef, undef, Value.int .i64 ((x : Int) + 1), Value.slice (some ⟨bn, 0, none⟩) M M, Value.int .i64 M, Value.bool (decide ((x : Int) + 1 < (M : Int))), u50, u51, u52, u53, u54, u55, u56, u57, u58, u59, u60, u61, u62, Value.pointer (some ⟨bl, 0, none⟩), Value.pointer (some ⟨bl, 0, none⟩), Value.pointer (some ⟨bl, 1, none⟩), Value.int .i64 n, Value.slice (some ⟨wr.heap.size, 0, none⟩) n n, Value.pointer (some ⟨bl, 0, none⟩), Value.func (Fn.func 14) #[] #[Value.pointer (some ⟨wr.heap.size + 1 + 1, 0, none⟩)], Value.int .i64 k, Value.pointer (some ⟨c0 + k / 16384, 16385 + k % 16384 * 3, none⟩), undef, undef, undef, undef, undef, undef, undef, undef, undef, undef, undef, undef, undef, undef, undef, undef, undef, undef, undef, undef, undef, undef, undef, undef], defers := [] }) ?assign ?body ?done)
          case assign =>
            intro l k W K hK
            unfold rowArgs
            gi_wp2
            exact hK
          case body =>
            intro l k W hk hI
            obtain ⟨⟨hcl, hcp, hrow, hne1, hbp, hbn, hbel⟩, hcq, hrr, hD3, ⟨e1, e2, e3, e4, e5, e6, e7⟩, hbq, hbr⟩ := id hI
            have hLW := hL.mono (unhide HL) (hbel.mono hB) (Nat.le_refl _)
            have hk' : k < ds.length := by rw [unhide HL]; exact hk
            obtain ⟨d, hd⟩ : ∃ d, ds[k]? = some d := ⟨ds[k], List.getElem?_eq_getElem hk'⟩
            have hc := hLW.2.2.2 k d hd
            obtain ⟨hld, hdh⟩ := hbd d (List.mem_of_getElem? hd)
            have hlo : W.cell? ⟨bl, 2, none⟩ = some (.int .i32 lo) := (hbel.cell (p := ⟨bl, 2, none⟩) hblw).trans l2
            obtain ⟨y, hy⟩ : ∃ y : Nat, (y : Int) = d - lo := ⟨(d - lo).toNat, by omega⟩
            have hMx := unhide HM
            have hyM : y < M := by omega
            obtain ⟨v, hv, hvp⟩ := hrow.cell hyM
            have hfz := hrow.frozen hyM
            rw [place hy] at hvp
            subst hvp
            have hPn : pos ds k d < n := by have := pos_lt hd; rw [unhide HL] at this; exact this
            obtain ⟨P, hP⟩ : ∃ P, pos ds k d = P := ⟨_, rfl⟩
            rw [hP] at hv hPn
            obtain ⟨v2, hv2, -⟩ := hrr.cell hPn
            have hfz2 := hrr.frozen hPn
            have q1 : IntKind.i32.wrap (d - lo) = d - lo := wrap32_id (by omega) (by omega)
            have q2 : IntKind.i32.wrap (k : Int) = (k : Int) := wrap32_id (by omega) (by omega)
            have q3 : IntKind.i32.wrap ((P : Int) + 1) = (P : Int) + 1 := wrap32_id (by omega) (by omega)
            have q4 : (d - lo).toNat = y := by omega
            have q5 : 0 ≤ d - lo := by omega
            have q6 : d - lo < (M : Int) := by omega
            have q7 : (P : Int) < (n : Int) := by omega
            have HX := hide hy
            have HI := hide hI
            have HD := hide hd
            have HP := hide hP
            have HE := hide (show wr.heap.size ≠ bn from e3)
            have HW := hide (show w.heap.size < bn from hne1.2.2)
            have HS := hide hs2
            have HWS := hide hws
            have HBN := hide hbnw
            clear hbnw
            clear hy hI hown hst hL2 hLW hLw hL hrow hrr hbel hd hld hdh hne l1 l2 l3 l4 hi1 hi2 hi3a hi3b hi4a hi4b hn hp hB b1 b2 b3 hblw hbp hbn hne' hbd hk' hMx hyM hP hPn hne1 e1 e2 e3 e4 e5 e6 e7 hbq hbr hD3 hmk hl1 hws hws2 hDb hDn hs2 hb2 hc2 HC2 HBel HN HD2 HL HM hbn0 hM2 hMle HC hW2
            gi_wp2
            refine wpIn_region_quiet (by kernel_rfl) (by kernel_rfl) (by kernel_rfl) ?_
            repeat (go_big_quiet_step (fail))
            refine wpQuiet_nil ?_
            rintro _ ⟨nq, rfl⟩
            gi_wp2
            refine wpIn_region_last (by repeat (first | exact Snoc.nil _ | apply Snoc.cons)) (by kernel_rfl) (by kernel_rfl) (by kernel_rfl) (by kernel_rfl) ?_
            repeat (go_big_quiet_step (fail))
            refine wpQuiet_nil ?_
            rintro _ ⟨nq2, rfl⟩ K hK
            gi_big_op
            refine hK _ _ ?_
            clear hK K
            gi_wp2
            have hy := unhide HX
            have hd := unhide HD
            have hP := unhide HP
            have e3 := unhide HE
            have hWn := unhide HW
            have hws := unhide HWS
            have hbnw := unhide HBN
            refine ⟨?_, ?_, ?_⟩
            · exact (((keeps_drewN W _).trans (KeepsOthers.setCell _ _ _)).trans (KeepsOthers.setCell _ _ _)).from _
            · exact ⟨((below_drewN _ W _).setCell (p := ⟨wr.heap.size, P, none⟩) (by simp only; omega) _).setCell (p := ⟨bn, y, none⟩) (by simp only; omega) _, (heap_other (by omega)).trans (heap_other (by omega))⟩
            · refine (((unhide HI).drewN _).setRow (q' := placed ds (k + 1)) _ ?_ ?_).setNext _ ?_ ?_
              · intro i d' hi hdi hpi
                by_cases hik : i = k
                · rw [hik]
                · exact absurd (pos_inj hdi hd (hpi.trans hP.symm)) hik
              · intro j u _ hj hu i d' hi hdi hpi
                by_cases hik : i = k
                · subst hik
                  obtain rfl : d = d' := Option.some.inj (hd.symm.trans hdi)
                  exact absurd (hpi.symm.trans hP) hj
                · exact hu i d' (by omega) hdi hpi
              · show _ = _
                rw [cnt2_step hd y, if_pos hy.symm, ← Nat.add_assoc, place hy, hP]
                rfl
              · intro j u _ hj hu
                show _ = _
                rw [hu, cnt2_step hd j, if_neg (by omega), Nat.add_zero]
          case done =>
            intro D' W hD' hI hK
            obtain ⟨-, hcq, -, hD3, ⟨-, -, -, -, -, -, e7⟩, hbq, hbr⟩ := id hI
            have HI := hide hI
            have HK := hide hK
            have HD3 := hide hD3
            clear hI hK hD3
            go_wp2
            have hDD : D ≠ D' := by omega
            have hrD' : wr.heap.size ≠ D' := by omega
            refine ⟨by simp, .inl ⟨_, _, rfl, run_takeDeferred (unhide HK), ?_⟩⟩
            refine ⟨by simp, .inl ⟨_, _, rfl, run_takeDeferred ((World.putObj_heap_other hDD).trans (unhide HD3)), ?_⟩⟩
            have hb := (unhide HI).1.2.2.2.2.2.2
            have hDw : w.heap.size ≤ D := by
              have h1 : (wc.alloc (Obj.cells #[Value.pointer (some ⟨bl, 0, none⟩)] 24)).heap.size = wc.heap.size + 1 := by simp
              omega
            have hb1 : Below w.heap.size w (W.putObj D' (.deferred none)) := hb.grown (grownBy_putObj' _ _ _) hb.size (fun k e => by cases e; omega)
            have hb2' : Below w.heap.size w ((W.putObj D' (.deferred none)).putObj D (.deferred none)) := hb1.grown (grownBy_putObj' _ _ _) hb1.size (fun k e => by cases e; omega)
            exact ⟨_, results_tmp rfl _ _ _, ⟨_, rfl, ord_put (ord_put (sorted_of (unhide HL) (unhide HI)) hrD') (Ne.symm e7)⟩, hb2'⟩

/-- The empty ledger. -/
theorem byDate_none (B bl : Nat) (lo hi : Int) (bc c0 : Nat) (w : World) (hB : B ≤ w.heap.size) (hL : Led w B bl 0 lo hi bc c0 []) :
    Calls Try.prog 8 #[.pointer (some ⟨bl, 0, none⟩)] w fun e w' => Sorted 0 [] e w' ∧ Below w.heap.size w w' := by
  obtain ⟨⟨b1, b2, b3⟩, ⟨l1, l2, l3, l4⟩, -, -⟩ := id hL
  have hblw : bl < w.heap.size := by omega
  refine (callsIn_wide (n := 5)).1 ?_
  refine callsIn_of_wp_marks Try.func8 rfl trivial ?_ rfl
  simp only [Try.ntmps8, List.size_toArray, List.length_cons, List.length_nil, Nat.reduceAdd, Nat.reduceSub, Array.replicate_succ, Array.replicate_zero, List.push_toArray, List.append_toArray, List.nil_append, List.cons_append]
  refine wpIn_wide.2 ?_
  go_wp2
  exact ⟨_, results_tmp rfl _ _ _, ⟨none, rfl, [], ⟨rfl, fun _ h => (nomatch h), List.Pairwise.nil, fun _ h => (nomatch h)⟩, .inl rfl⟩, (Below.refl _ _).alloc (Nat.le_refl _) _⟩

theorem byDate_any (n : Nat) (ds : List Int) (bl : Nat) (lo hi : Int) (bc c0 : Nat) (w : World) (hn : n ≤ 262144) (hlen : ds.length = n) (hL : Led w w.heap.size bl n lo hi bc c0 ds) (he : 0 < n → Ends ds n lo hi) (hsp : Span ds) (hi32 : ∀ d ∈ ds, I32 d) :
    Calls Try.prog 8 #[.pointer (some ⟨bl, 0, none⟩)] w fun e w' => Sorted n ds e w' ∧ Below w.heap.size w w' := by
  by_cases hp : 0 < n
  · obtain ⟨hb, hl, hh⟩ := he hp
    have hle := lo_le_hi (he hp) hp
    exact byDate_some w.heap.size bl n lo hi bc c0 ds hn hp hlen w (Nat.le_refl _) hL (fun d hd => hb d (by rw [← hlen, List.take_length]; exact hd)) hle (hsp hi hh lo hl) (hi32 lo hl) (hi32 hi hh)
  · obtain rfl : n = 0 := by omega
    obtain rfl : ds = [] := List.eq_nil_of_length_eq_zero hlen
    exact byDate_none w.heap.size bl lo hi bc c0 w (Nat.le_refl _) hL
end Go.Proofs.Qxb6628495a
