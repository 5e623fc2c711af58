/-
  THE WALK OF labelLowerB1: at a valid wire form it gives the same as Canonical does.
-/
import Derived.Test.Qxb6629014aCanon
import Derived.OwnWalk
namespace Go.Proofs.Qxb6629014a
open Go.RowKit

theorem info5 : (Try.prog.info? 5).map (fun i => (i.zero, i.size, i.bytes)) = some (some (.int .u8 0), 1, 1) := by kernel_rfl

/-- The first k octets are written. -/
def doneP (s : ByteArray) (k j : Nat) (v : Value) : Prop := ∀ (h : j < s.size), j < k → v = .int .u8 ((lowerB s[j]).toNat : Int)

theorem row_made {w : World} {base g n : Nat} {xs : List Value} (s : ByteArray) (hn : n = s.size) (h : w.ownsRow base 5 1 (.slice (some ⟨g, 0, none⟩) n n) n xs) : RowP w g s.size (doneP s 0) := by
  subst hn
  intro j hj
  have hl : xs.length = s.size := by have := h.1; omega
  refine ⟨⟨xs[j]'(by omega), ?_, fun _ h0 => by omega⟩, h.frozenAt j⟩
  rw [h.cellAt j (by omega), List.getElem?_eq_getElem (by omega)]

theorem done_set {w : World} {g : Nat} {s : ByteArray} {k : Nat} (h : RowP w g s.size (doneP s k)) (hlt : k < s.size) :
    RowP (w.setCell ⟨g, k, none⟩ (.int .u8 ((lowerB s[k]).toNat : Int))) g s.size (doneP s (k + 1)) :=
  h.set _ (fun _ _ => rfl) (fun j v hj hne hp hj' hjk => hp hj' (by omega))

theorem done_mid {w : World} {g : Nat} {s : ByteArray} {k : Nat} (h : RowP w g s.size (doneP s k)) (hk : s.size ≤ k) : RowP w g s.size (midP s s.size) :=
  h.weaken (fun j v hj hp hj' => by rw [hp hj' (by omega), if_pos hj'])

set_option maxHeartbeats 1000000 in
theorem label_any (s : ByteArray) (w : World) (hv : validW s = true) : Calls Try.prog 9 #[.string s] w fun e w' => e = .returned (.string (canon s)) ∧ Below w.heap.size w w' := by
  have hv2 := hv
  simp only [validW, Bool.and_eq_true, decide_eq_true_eq] at hv2
  obtain ⟨hs, hv0⟩ := hv2
  have HV0 := hide hv0
  clear hv0
  obtain ⟨i0, hi, hz0, hz1, hz2⟩ := info_parts info5
  go_enter Try.func9, Try.ntmps9
  go_wp2_with fail
  refine (valid_any s w (by unfold maxLen; omega)).mono ?_
  rintro e w1 ⟨rfl, rfl⟩
  rw [hv]
  clear hv
  go_wp2_with (at_make; refine wpList_make_full _ rfl _ _ 31 rfl w1.heap.size 5 i0 _ 1 Try.underlying31 hi hz0 hz1 .i64 .i64 _ _ s.size rfl rfl rfl rfl (by rw [hz2]; omega) (by unfold maxLen; omega) (by simp) ?_; intro w2 hown hgrow; have hrow := row_made s rfl hown; have hbel := (Below.refl w1.heap.size w1).grown hgrow (by simp) (by simp); clear hown hgrow)
  clear hi hz0 hz1 hz2 i0
  go_loopw [4] (fun i wr => ∃ k f : Nat, k ≤ s.size ∧ i = .int .i64 k ∧ Hid (s.size ≤ k + f ∧ validFrom s f k = true) ∧ RowP wr w1.heap.size s.size (doneP s k) ∧ Below w1.heap.size w1 wr) (fun i _ => s.size - (intOf i).toNat)
  case atStart => exact ⟨0, 254, Nat.zero_le _, rfl, ⟨by omega, unhide HV0⟩, hrow, hbel⟩
  case round =>
    clear hrow hbel w2
    obtain ⟨k, f, hk, rfl, hvf, hrow, hbel⟩ := hrel
    by_cases hlt : k < s.size
    · obtain ⟨v, hvc, -⟩ := hrow.cell hlt
      have hz := hrow.frozen hlt
      have hub := u8_bd s[k]
      obtain ⟨f, rfl⟩ : ∃ f', f = f' + 1 := ⟨f - 1, by have := (unhide hvf).1; omega⟩
      obtain ⟨h0, h63, hnext, hle⟩ := validFrom_next s f k hlt (unhide hvf).2
      have hlow : lowerB s[k] = s[k] := lowerB_no (by omega)
      have hrow1 : RowP (wr.setCell ⟨w1.heap.size, k, none⟩ (.int .u8 (s[k].toNat : Int))) w1.heap.size s.size (doneP s (k + 1)) := by
        have := done_set hrow hlt
        rwa [hlow] at this
      have hbel1 := hbel.setCell (p := ⟨w1.heap.size, k, none⟩) (Nat.le_refl _) (.int .u8 (s[k].toNat : Int))
      have HN := hide (And.intro (show s.size ≤ k + 1 + s[k].toNat + f by have := (unhide hvf).1; omega) hnext)
      clear hlow hnext hrow hbel hvf h0
      go_wp2
      generalize s[k].toNat = L at h63 hle HN hub hrow1 hbel1 ⊢
      clear hvc hz
      go_loopw [6] (fun i wx => ∃ t : Nat, 1 ≤ t ∧ t ≤ L + 1 ∧ i = .int .i64 t ∧ RowP wx w1.heap.size s.size (doneP s (k + t)) ∧ Below w1.heap.size w1 wx) (fun i _ => L + 1 - (intOf i).toNat)
      case atStart => exact ⟨1, by omega, by omega, rfl, hrow1, hbel1⟩
      case round =>
        clear hrow1 hbel1
        obtain ⟨t, ht1, ht2, rfl, hrow, hbel⟩ := hrel
        by_cases htl : t ≤ L
        · have hkt : k + t < s.size := by omega
          have hi1 : (k : Int) + (t : Int) < (s.size : Int) := by omega
          have hi2 : ((k : Int) + (t : Int)).toNat = k + t := by omega
          have R1 := done_set hrow hkt
          have R2 := hbel.setCell (p := ⟨w1.heap.size, k + t, none⟩) (Nat.le_refl _) (.int .u8 ((lowerB s[k + t]).toNat : Int))
          obtain ⟨v, hvc, -⟩ := hrow.cell hkt
          have hz := hrow.frozen hkt
          go_wp2_with fail
          refine (lower_any s[k + t] _).mono ?_
          rintro e w3 ⟨rfl, rfl⟩
          go_wp2
          go_roundw
          case rel => exact ⟨t + 1, by omega, by omega, by go_num, R1, R2⟩
          case measure => simp [intOf]; omega
        · have ht : t = L + 1 := by omega
          subst ht
          go_wp2
          go_roundw
          case rel => exact ⟨k + 1 + L, f, by omega, by go_num, unhide HN, by rw [show k + 1 + L = k + (L + 1) by omega]; exact hrow, hbel⟩
          case measure => simp [intOf]; omega
    · have hback := mid_back wr w1.heap.size s s.size (done_mid hrow (by omega))
      go_wp2
      go_ret
      exact ⟨rfl, hbel⟩
end Go.Proofs.Qxb6629014a
