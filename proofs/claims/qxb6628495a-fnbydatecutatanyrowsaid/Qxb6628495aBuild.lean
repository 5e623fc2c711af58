/-
  THE WALK OF buildLedger: the ledger that it lays in memory.
-/
import Derived.Test.Qxb6628495aGuards
import Derived.Test.Qxb6628495aChunk
import Derived.Test.Qxb6628495aMake
import Derived.Deep.RegionWith
namespace Go.Proofs.Qxb6628495a
open Go.RowKit

/-- How many chunks n rows take. -/
def nch (n : Nat) : Nat := (n + 16383) / 16384

/-- The ledger at block bl: n rows, the dates between lo and hi; its chunks' row at block bc, chunk c at block c0 + c; the dates ds. All of it below block B. -/
def Led (w : World) (B bl n : Nat) (lo hi : Int) (bc c0 : Nat) (ds : List Int) : Prop :=
  (bl < B ∧ bc < B ∧ c0 + nch n ≤ B) ∧
  (w.cell? ⟨bl, 1, none⟩ = some (.int .i64 n) ∧ w.cell? ⟨bl, 2, none⟩ = some (.int .i32 lo) ∧ w.cell? ⟨bl, 3, none⟩ = some (.int .i32 hi) ∧ w.cell? ⟨bl, 4, none⟩ = some (.slice (some ⟨bc, 0, none⟩) (nch n) (nch n))) ∧
  (∀ c, c < nch n → w.cell? ⟨bc, c, none⟩ = some (.pointer (some ⟨c0 + c, 0, none⟩))) ∧
  (∀ i d, ds[i]? = some d → w.cell? ⟨c0 + i / 16384, 16385 + i % 16384 * 3 + 1, none⟩ = some (.int .i32 d))

theorem nch_div {n i : Nat} (h : i < n) : i / 16384 < nch n := by unfold nch; omega

theorem Led.mono {w w' : World} {B B' bl n : Nat} {lo hi : Int} {bc c0 : Nat} {ds : List Int} (h : Led w B bl n lo hi bc c0 ds) (hl : ds.length = n) (hw : Below B w w') (hB : B ≤ B') : Led w' B' bl n lo hi bc c0 ds := by
  obtain ⟨⟨b1, b2, b3⟩, ⟨h1, h2, h3, h4⟩, h5, h6⟩ := h
  refine ⟨⟨by omega, by omega, by omega⟩, ⟨(hw.cell (p := ⟨bl, _, none⟩) b1).trans h1, (hw.cell (p := ⟨bl, _, none⟩) b1).trans h2, (hw.cell (p := ⟨bl, _, none⟩) b1).trans h3, (hw.cell (p := ⟨bl, _, none⟩) b1).trans h4⟩,
    fun c hc => (hw.cell (p := ⟨bc, _, none⟩) b2).trans (h5 c hc), fun i d hd => ?_⟩
  have hi : i < n := by have := (List.getElem?_eq_some_iff.1 hd).1; omega
  have := nch_div hi
  exact (hw.cell (p := ⟨c0 + i / 16384, _, none⟩) (by simp only; omega)).trans (h6 i d hd)

/-- l and h are dates of ds and bound the first k of them. -/
def Ends (ds : List Int) (k : Nat) (l h : Int) : Prop := Bounds ds k l h ∧ l ∈ ds ∧ h ∈ ds

theorem lo_le_hi {ds : List Int} {k : Nat} {l h : Int} (he : Ends ds k l h) (hk : 1 ≤ k) : l ≤ h := by
  obtain ⟨hb, hl, -⟩ := he
  match ds, hl with
  | d :: ds, _ =>
    have := hb d (by rw [show k = (k - 1) + 1 by omega, List.take_succ_cons]; exact List.mem_cons_self)
    omega

/-- The row of the chunks' pointers behind k rounds. -/
def ptrP (c0 k j : Nat) (v : Value) : Prop := j < k → v = .pointer (some ⟨c0 + j, 0, none⟩)

theorem setRowDate_at (b : Nat) (x : Int) (j : Nat) (d : Int) (w : World) (hx : x = j) (h : IsChunk w b) (hj : j < 16384) :
    Calls Try.prog 11 #[.pointer (some ⟨b, 0, none⟩), .int .i64 x, .int .i32 d] w fun e w' => e = .returned (.tuple #[]) ∧ w' = w.setCell ⟨b, 16385 + j * 3 + 1, none⟩ (.int .i32 d) := by
  subst hx
  exact setRowDate_any b j d w h hj

/-- The dates of the first r rows lie in their chunks. -/
def Laid (w : World) (c0 : Nat) (ds : List Int) (r : Nat) : Prop := ∀ i d, i < r → ds[i]? = some d → w.cell? ⟨c0 + i / 16384, 16385 + i % 16384 * 3 + 1, none⟩ = some (.int .i32 d)

theorem Laid.step {w : World} {c0 : Nat} {ds : List Int} {r : Nat} (h : Laid w c0 ds r) {d : Int} (hd : ds[r]? = some d) (hc : IsChunk w (c0 + r / 16384)) :
    Laid (w.setCell ⟨c0 + r / 16384, 16385 + r % 16384 * 3 + 1, none⟩ (.int .i32 d)) c0 ds (r + 1) := by
  intro i d' hi hd'
  by_cases e : i = r
  · subst e
    obtain rfl : d = d' := Option.some.inj (hd.symm.trans hd')
    obtain ⟨v, hv⟩ := hc.cell (o := 16385 + i % 16384 * 3 + 1) (by omega)
    exact World.cell?_setCell_same' _ _ _ (by rw [hv]; rfl)
  · rw [World.cell?_setCell_other _ _ _ _ (by
      intro h
      simp only [Addr.mk.injEq, and_true] at h
      omega)]
    exact h i d' (by omega) hd'

/-- What buildLedger gives. -/
def Built (n : Nat) (ds : List Int) (e : Ending) (w' : World) : Prop :=
  ∃ bl bc c0 lo hi, e = .returned (.pointer (some ⟨bl, 0, none⟩)) ∧ Led w' w'.heap.size bl n lo hi bc c0 ds ∧ (0 < n → Ends ds n lo hi)

set_option maxRecDepth 100000 in
set_option maxHeartbeats 2000000 in
theorem build_some (B : Nat) (a : Option Addr) (n c : Nat) (ds : List Int) (w : World) (hn : n ≤ 262144) (h0 : 0 < n) (h : Dates w B a n ds) (hB : B ≤ w.heap.size) :
    Calls Try.prog 7 #[.slice a n c] w fun e w' => Built n ds e w' ∧ Below w.heap.size w w' := by
  have hlen := hide h.1
  have hp : (0 : Int) < (n : Int) := by omega
  obtain ⟨b, off, d0, ha, hb, hd0, hc0, hi0a, hi0b⟩ := h.at (k := 0) (by omega)
  subst ha
  have H0 := hide hd0
  rw [Nat.add_zero] at hc0
  clear hd0
  obtain ⟨C, hC, hmk⟩ := make_row 29 30 (.pointer none) 8 Try.underlying29 info30 rfl .i64 (((n : Int) + 16384 - 1) / 16384) (nch n) (by unfold nch; omega) (by omega) (by unfold nch; omega)
  go_enter Try.func7, Try.ntmps7
  go_wp2
  go_loop [4, 5, 6] (fun lo hi i => ∃ (k : Nat) (l h : Int), 1 ≤ k ∧ k ≤ n ∧ i = .int .i64 k ∧ lo = .int .i32 l ∧ hi = .int .i32 h ∧ Hid (Ends ds k l h)) (fun _ _ i => n - (intOf i).toNat)
  case atStart => exact ⟨1, d0, d0, by omega, by omega, rfl, rfl, rfl, Bounds.step (k := 0) (l := d0) (h := d0) (fun x hx => by simp at hx) (unhide H0) (by omega) (by omega) (by omega) (by omega), List.mem_of_getElem? (unhide H0), List.mem_of_getElem? (unhide H0)⟩
  case round =>
    obtain ⟨k, l, hh, hk1, hk, rfl, rfl, rfl, hbd⟩ := hrel
    by_cases hlt : k < n
    · obtain ⟨b', off', d, ha, _, hd, hc, hia, hib⟩ := h.at hlt
      simp only [Option.some.injEq, Addr.mk.injEq, and_true] at ha
      obtain ⟨rfl, rfl⟩ := ha
      have HD := hide hd
      clear hd h hc0 hmk
      go_wp2
      · have t1 : d < l := by assumption
        have t2 : hh < d := by assumption
        have hlh := lo_le_hi (unhide hbd) hk1
        go_round
        case rel => exact ⟨k + 1, d, d, by omega, by omega, by go_num, rfl, rfl, (unhide hbd).1.step (unhide HD) (by omega) (by omega) (by omega) (by omega), List.mem_of_getElem? (unhide HD), List.mem_of_getElem? (unhide HD)⟩
        case measure => simp [intOf]; omega
      · have t1 : d < l := by assumption
        have t2 : d ≤ hh := by assumption
        have hlh := lo_le_hi (unhide hbd) hk1
        go_round
        case rel => exact ⟨k + 1, d, hh, by omega, by omega, by go_num, rfl, rfl, (unhide hbd).1.step (unhide HD) (by omega) (by omega) (by omega) (by omega), List.mem_of_getElem? (unhide HD), (unhide hbd).2.2⟩
        case measure => simp [intOf]; omega
      · have t1 : l ≤ d := by assumption
        have t2 : hh < d := by assumption
        have hlh := lo_le_hi (unhide hbd) hk1
        go_round
        case rel => exact ⟨k + 1, l, d, by omega, by omega, by go_num, rfl, rfl, (unhide hbd).1.step (unhide HD) (by omega) (by omega) (by omega) (by omega), (unhide hbd).2.1, List.mem_of_getElem? (unhide HD)⟩
        case measure => simp [intOf]; omega
      · have t1 : l ≤ d := by assumption
        have t2 : d ≤ hh := by assumption
        have hlh := lo_le_hi (unhide hbd) hk1
        go_round
        case rel => exact ⟨k + 1, l, hh, by omega, by omega, by go_num, rfl, rfl, (unhide hbd).1.step (unhide HD) (by omega) (by omega) (by omega) (by omega), (unhide hbd).2.1, (unhide hbd).2.2⟩
        case measure => simp [intOf]; omega
    · clear hc0
      go_wp2
      have hX : ((n : Int) + 16384 - 1) / 16384 = ((nch n : Nat) : Int) := by unfold nch; omega
      rw [hX]
      clear hX hmk
      have hN : nch n ≤ 16 := by unfold nch; omega
      have hrow0 : RowP (w.alloc (.cells C 30)) w.heap.size (nch n) (ptrP (w.heap.size + 1) 0) := hC.row 30 w (fun j _ hj => by omega)
      have hbel0 : Below w.heap.size w (w.alloc (.cells C 30)) := (Below.refl _ _).alloc (Nat.le_refl _) _
      have hsz0 : (w.alloc (.cells C 30)).heap.size = w.heap.size + 1 + 0 := by simp
      have HE := hide (show Ends ds n l hh from by obtain rfl : k = n := (by omega); exact unhide hbd)
      clear hbd
      go_loopw [10] (fun i wr => ∃ q : Nat, q ≤ nch n ∧ i = .int .i64 q ∧ wr.heap.size = w.heap.size + 1 + q ∧ RowP wr w.heap.size (nch n) (ptrP (w.heap.size + 1) q) ∧ (∀ j, j < q → IsChunk wr (w.heap.size + 1 + j)) ∧ Below w.heap.size w wr) (fun i _ => nch n - (intOf i).toNat)
      case atStart => exact ⟨0, Nat.zero_le _, rfl, hsz0, hrow0, fun j hj => by omega, hbel0⟩
      case round =>
        clear hrow0 hbel0 hsz0
        obtain ⟨q, hq, rfl, hsz, hrow, hch, hbel⟩ := hrel
        by_cases hql : q < nch n
        · obtain ⟨v, hv, -⟩ := hrow.cell hql
          have hz := hrow.frozen hql
          have hi1 : (q : Int) < ((nch n : Nat) : Int) := by omega
          have HS := hide hsz
          clear hsz h
          go_wp2_with fail
          refine (newChunk_any wr).mono ?_
          rintro e w2 ⟨rfl, hnew, hb2, hs2⟩
          have hlt2 : w.heap.size < wr.heap.size := by have := unhide HS; omega
          have hv2 := (hb2.cell (p := ⟨w.heap.size, q, none⟩) hlt2).trans hv
          have hz2 := (hb2.frozen (p := ⟨w.heap.size, q, none⟩) hlt2).trans hz
          have R1 : RowP (w2.setCell ⟨w.heap.size, q, none⟩ (.pointer (some ⟨wr.heap.size, 0, none⟩))) w.heap.size (nch n) (ptrP (w.heap.size + 1) (q + 1)) :=
            (hrow.mono hlt2 hb2).set _ (fun _ => by rw [unhide HS]) (fun j v hj hne hp hjq => hp (by omega))
          have R2 : ∀ j, j < q + 1 → IsChunk (w2.setCell ⟨w.heap.size, q, none⟩ (.pointer (some ⟨wr.heap.size, 0, none⟩))) (w.heap.size + 1 + j) := fun j hj => by
            have hs := unhide HS
            by_cases hjq : j < q
            · exact ((hch j hjq).mono (B := wr.heap.size) (by omega) hb2).set _ _ _
            · have e : w.heap.size + 1 + j = wr.heap.size := by omega
              rw [e]
              exact hnew.set _ _ _
          have R3 : Below w.heap.size w (w2.setCell ⟨w.heap.size, q, none⟩ (.pointer (some ⟨wr.heap.size, 0, none⟩))) := (hbel.trans (hb2.mono hbel.size)).setCell (p := ⟨w.heap.size, q, none⟩) (Nat.le_refl _) _
          have R4 : (w2.setCell ⟨w.heap.size, q, none⟩ (.pointer (some ⟨wr.heap.size, 0, none⟩))).heap.size = w.heap.size + 1 + (q + 1) := by
            have hs := unhide HS
            rw [World.size_setCell, hs2]; omega
          have H4 := hide R4
          clear hv hz hrow hch hbel hb2 hs2 hnew R4
          go_wp2
          go_roundw
          case rel => exact ⟨q + 1, by omega, by go_num, unhide H4, R1, R2, R3⟩
          case measure => simp [intOf]; omega
        · have hqn : Hid (nch n = q) := show nch n = q by omega
          have hi1 : ¬ (q : Int) < ((nch n : Nat) : Int) := by omega
          have HS := hide (show wr.heap.size = w.heap.size + 1 + nch n by rw [unhide hqn]; exact hsz)
          have hrow' : RowP wr w.heap.size (nch n) (ptrP (w.heap.size + 1) (nch n)) := by rw [unhide hqn] at hrow ⊢; exact hrow
          have hch' : ∀ j, j < nch n → IsChunk wr (w.heap.size + 1 + j) := by rw [unhide hqn]; exact hch
          clear hsz hrow hch
          go_wp2
          generalize ((n : Int) + 16384 - 1) = z1
          generalize ((n : Int) + 16384) = z2
          go_loopw [11] (fun i wr => ∃ r : Nat, r ≤ n ∧ i = .int .i64 r ∧ Hid (wr.heap.size = w.heap.size + 1 + nch n) ∧ RowP wr w.heap.size (nch n) (ptrP (w.heap.size + 1) (nch n)) ∧ (∀ j, j < nch n → IsChunk wr (w.heap.size + 1 + j)) ∧
              Laid wr (w.heap.size + 1) ds r ∧ Below w.heap.size w wr) (fun i _ => n - (intOf i).toNat)
          case atStart => exact ⟨0, Nat.zero_le _, rfl, HS, hrow', hch', fun i d hi => by omega, hbel⟩
          case round =>
            clear hrow' hch' hbel HS
            obtain ⟨r, hr, rfl, HS, hrow, hch, hds, hbel⟩ := hrel
            by_cases hrl : r < n
            · obtain ⟨b', off', d, ha, hbB, hd, hc, hia, hib⟩ := h.at hrl
              simp only [Option.some.injEq, Addr.mk.injEq, and_true] at ha
              obtain ⟨rfl, rfl⟩ := ha
              have hcr := (hbel.cell (p := ⟨b, off + r, none⟩) (by simp only; omega)).trans hc
              have hdiv := nch_div hrl
              obtain ⟨v, hv, hvp⟩ := hrow.cell hdiv
              have hvp := hvp hdiv
              subst hvp
              have hw1 : IntKind.i64.wrap ((r : Int) / 16384) = (r : Int) / 16384 := by rw [IntKind.wrap_i64]; omega
              have hw2 : IntKind.i64.wrap ((r : Int) % 16384) = (r : Int) % 16384 := by rw [IntKind.wrap_i64]; omega
              have hq0 : 0 ≤ (r : Int) / 16384 := by omega
              have hq1 : ((r : Int) / 16384).toNat = r / 16384 := by omega
              have hq2 : (r : Int) / 16384 < ((nch n : Nat) : Int) := by omega
              have hi1 : (r : Int) < (n : Int) := by omega
              have HI := hide (setRowDate_at (w.heap.size + 1 + r / 16384) ((r : Int) % 16384) (r % 16384) d wr.drew (by omega) (hch _ hdiv) (by omega))
              have HD := hide hd
              clear hd hc h
              go_wp2
              go_region_with (go_at_call 11; go_must (refine (unhide HI).mono ?_; rintro e w2 ⟨rfl, rfl⟩))
              all_goals
                have R1 : Hid ((wr.setCell ⟨w.heap.size + 1 + r / 16384, 16385 + r % 16384 * 3 + 1, none⟩ (.int .i32 d)).drew.heap.size = w.heap.size + 1 + nch n) := by
                  show (wr.setCell _ _).heap.size = _
                  rw [World.size_setCell]; exact unhide HS
                have R2 : RowP (wr.setCell ⟨w.heap.size + 1 + r / 16384, 16385 + r % 16384 * 3 + 1, none⟩ (.int .i32 d)).drew w.heap.size (nch n) (ptrP (w.heap.size + 1) (nch n)) := hrow.other (by omega) _
                have R3 : ∀ j, j < nch n → IsChunk (wr.setCell ⟨w.heap.size + 1 + r / 16384, 16385 + r % 16384 * 3 + 1, none⟩ (.int .i32 d)).drew (w.heap.size + 1 + j) := fun j hj => (hch j hj).set _ _ _
                have R4 : Laid (wr.setCell ⟨w.heap.size + 1 + r / 16384, 16385 + r % 16384 * 3 + 1, none⟩ (.int .i32 d)).drew (w.heap.size + 1) ds (r + 1) := hds.step (unhide HD) (hch _ hdiv)
                have R5 : Below w.heap.size w (wr.setCell ⟨w.heap.size + 1 + r / 16384, 16385 + r % 16384 * 3 + 1, none⟩ (.int .i32 d)).drew := (hbel.setCell (p := ⟨w.heap.size + 1 + r / 16384, 16385 + r % 16384 * 3 + 1, none⟩) (by simp only; omega) _).drew
                clear hrow hch hds hbel hcr hv hq0 hq1 hq2 hw1 hw2 HI
                go_wp2
                go_roundw
                case rel => exact ⟨r + 1, by omega, by go_num, R1, R2, R3, R4, R5⟩
                case measure => simp [intOf]; omega
            · have hi1 : ¬ (r : Int) < (n : Int) := by omega
              have hLd : Laid wr (w.heap.size + 1) ds n := fun i d hi hd => hds i d (by omega) hd
              clear h hds
              go_wp2_with fail
              obtain ⟨W2, hW2⟩ : ∃ W2, W2 = (wr.alloc (Obj.cells #[Value.string { data := #[] }] 9)).alloc (Obj.cells #[Value.string { data := #[] }] 9) := ⟨_, rfl⟩
              rw [← hW2]
              have hb2 : Below wr.heap.size wr W2 := by rw [hW2]; exact ((Below.refl _ _).alloc (Nat.le_refl _) _).alloc (by simp) _
              clear hW2
              refine (newLedger_any _ _ _ _ _ _ _ _ _ _ _ _ _ W2).mono ?_
              rintro e w3 ⟨rfl, rfl⟩
              have hs := unhide HS
              have hb3 : Below wr.heap.size wr (W2.alloc (.cells #[.string { data := #[] }, .int .i64 n, .int .i32 l, .int .i32 hh, .slice (some ⟨w.heap.size, 0, none⟩) (nch n) (nch n), .slice (some ⟨wr.heap.size, 0, none⟩) 1 1, .slice (some ⟨wr.heap.size + 1, 0, none⟩) 1 1] 37)) := hb2.alloc hb2.size _
              have hsz2 := hb2.size
              have L1 : Led (W2.alloc (.cells #[.string { data := #[] }, .int .i64 n, .int .i32 l, .int .i32 hh, .slice (some ⟨w.heap.size, 0, none⟩) (nch n) (nch n), .slice (some ⟨wr.heap.size, 0, none⟩) 1 1, .slice (some ⟨wr.heap.size + 1, 0, none⟩) 1 1] 37)) (W2.heap.size + 1) W2.heap.size n l hh w.heap.size (w.heap.size + 1) ds := by
                refine ⟨⟨by omega, by omega, by omega⟩, ⟨by simp, by simp, by simp, by simp⟩, fun c hc => ?_, fun i d hd => ?_⟩
                · obtain ⟨v, hv, hp⟩ := hrow.cell hc
                  have hp := hp hc
                  subst hp
                  exact (hb3.cell (p := ⟨w.heap.size, c, none⟩) (by simp only; omega)).trans hv
                · have hin : i < n := by have := (List.getElem?_eq_some_iff.1 hd).1; have := unhide hlen; omega
                  have := nch_div hin
                  exact (hb3.cell (p := ⟨w.heap.size + 1 + i / 16384, _, none⟩) (by simp only; omega)).trans (hLd i d hin hd)
              have L2 := hbel.trans (hb3.mono hbel.size)
              have hsz3 : W2.heap.size + 1 = (W2.alloc (.cells #[.string { data := #[] }, .int .i64 n, .int .i32 l, .int .i32 hh, .slice (some ⟨w.heap.size, 0, none⟩) (nch n) (nch n), .slice (some ⟨wr.heap.size, 0, none⟩) 1 1, .slice (some ⟨wr.heap.size + 1, 0, none⟩) 1 1] 37)).heap.size := by simp
              rw [hsz3] at L1
              clear hrow hch hLd hbel hb3 hb2 hs hsz3
              go_wp2
              go_ret
              exact ⟨⟨_, _, _, l, hh, rfl, L1, fun _ => unhide HE⟩, L2⟩

set_option maxRecDepth 100000 in
set_option maxHeartbeats 2000000 in
theorem build_none (a : Option Addr) (c : Nat) (w : World) : Calls Try.prog 7 #[.slice a 0 c] w fun e w' => Built 0 [] e w' ∧ Below w.heap.size w w' := by
  obtain ⟨C, hC, hmk⟩ := make_row 29 30 (.pointer none) 8 Try.underlying29 info30 rfl .i64 0 0 rfl (by omega) (by omega)
  go_enter Try.func7, Try.ntmps7
  go_wp2
  refine wp_loop_rounds 1 ?_
  rw [rounds_succ]
  go_wp2
  refine wp_loop_rounds 1 ?_
  rw [rounds_succ]
  go_wp2
  refine wp_loop_rounds 1 ?_
  rw [rounds_succ]
  go_wp2_with fail
  obtain ⟨W2, hW2⟩ : ∃ W2, W2 = ((w.alloc (Obj.cells C 30)).alloc (Obj.cells #[Value.string { data := #[] }] 9)).alloc (Obj.cells #[Value.string { data := #[] }] 9) := ⟨_, rfl⟩
  rw [← hW2]
  have hb2 : Below w.heap.size w W2 := by rw [hW2]; exact (((Below.refl _ _).alloc (Nat.le_refl _) _).alloc (by simp) _).alloc (by simp; omega) _
  have hs2 : W2.heap.size = w.heap.size + 1 + 1 + 1 := by rw [hW2]; simp
  have HS := hide hs2
  clear hW2 hs2
  refine (newLedger_any _ _ _ _ _ _ _ _ _ _ _ _ _ W2).mono ?_
  rintro e w3 ⟨rfl, rfl⟩
  have hb3 := hb2.alloc hb2.size (.cells #[.string { data := #[] }, .int .i64 0, .int .i32 0, .int .i32 0, .slice (some ⟨w.heap.size, 0, none⟩) 0 0, .slice (some ⟨w.heap.size + 1, 0, none⟩) 1 1, .slice (some ⟨w.heap.size + 1 + 1, 0, none⟩) 1 1] 37)
  have L1 : Led (W2.alloc (.cells #[.string { data := #[] }, .int .i64 0, .int .i32 0, .int .i32 0, .slice (some ⟨w.heap.size, 0, none⟩) 0 0, .slice (some ⟨w.heap.size + 1, 0, none⟩) 1 1, .slice (some ⟨w.heap.size + 1 + 1, 0, none⟩) 1 1] 37)) (W2.heap.size + 1) W2.heap.size 0 0 0 w.heap.size (w.heap.size + 1) [] := by
    have := unhide HS
    exact ⟨⟨by omega, by omega, by simp [nch]; omega⟩, ⟨by simp, by simp, by simp, by simp [nch]⟩, fun c hc => by simp [nch] at hc, fun i d hd => by simp at hd⟩
  have hsz3 : W2.heap.size + 1 = (W2.alloc (.cells #[.string { data := #[] }, .int .i64 0, .int .i32 0, .int .i32 0, .slice (some ⟨w.heap.size, 0, none⟩) 0 0, .slice (some ⟨w.heap.size + 1, 0, none⟩) 1 1, .slice (some ⟨w.heap.size + 1 + 1, 0, none⟩) 1 1] 37)).heap.size := by simp
  rw [hsz3] at L1
  clear hsz3
  go_wp2
  go_ret
  exact ⟨⟨_, _, _, 0, 0, rfl, L1, fun h => by omega⟩, hb3⟩

/-- buildLedger at every slice of dates. -/
theorem build_any (B : Nat) (a : Option Addr) (n c : Nat) (ds : List Int) (w : World) (hn : n ≤ 262144) (h : Dates w B a n ds) (hB : B ≤ w.heap.size) :
    Calls Try.prog 7 #[.slice a n c] w fun e w' => Built n ds e w' ∧ Below w.heap.size w w' := by
  by_cases h0 : 0 < n
  · exact build_some B a n c ds w hn h0 h hB
  · obtain rfl : n = 0 := by omega
    obtain rfl : ds = [] := List.eq_nil_of_length_eq_zero h.1
    exact build_none a c w
end Go.Proofs.Qxb6628495a
