/-
  THE WALK OF FnKeyColumnsSplitsAtAnyCutAndPicksFirstNamed: it returns true and writes nothing that was there.
-/
import Derived.Test.Qxb6628450aReads
import Derived.Test.Qxb6628450aGuards
import Derived.Test.Qxb6628450aKey
import Derived.Test.Qxb6628450aCols
import Derived.Test.Qxb6628450aFirsts
import Derived.WalkSmall
namespace Go.Proofs.Qxb6628450a
open Go.RowKit

set_option maxHeartbeats 1000000 in
theorem walk3 (nm : ByteArray) (a : Option Addr) (n c : Nat) (cs : List Co) (a' : Option Addr) (n' c' : Nat) (ks : List ByteArray) (cut : Int) (w : World)
    (hn : n ≤ maxLen) (h : Cols w w.heap.size a n cs) (hnil : a = none → n = 0 ∧ c = 0) (hn' : n' ≤ maxLen) (h' : Strs w w.heap.size a' n' ks) (hnil' : a' = none → n' = 0 ∧ c' = 0) (hc' : n' ≤ c') :
    Calls Try.prog 3 #[.string nm, .slice a n c, .slice a' n' c', .int .i64 cut] w fun e w' => e = .returned (.bool true) ∧ Below w.heap.size w w' := by
  go_enter Try.func3, Try.ntmps3
  go_wp2_with fail
  refine (bytes3_any nm _ a n c cs _ a' n' c' ks cut w hn h hn' h').mono ?_
  rintro e w1 ⟨⟨r, rfl⟩, rfl⟩
  cases r with
  | false =>
    go_wp2
    go_ret
    exact ⟨rfl, Below.refl _ _⟩
  | true =>
    go_wp2_with fail
    refine (tooBig_any nm _ a n c cs _ a' n' c' ks 0 _ h h').mono ?_
    rintro e w2 ⟨⟨r, rfl, hr⟩, m, hw2⟩
    have hb2 : Below w1.heap.size w1 w2 := by rw [hw2]; exact below_drewN (Below.refl _ _) m
    have hz2 : w1.heap.size ≤ w2.heap.size := hb2.size
    clear hw2
    cases r with
    | true =>
      go_wp2
      go_ret
      exact ⟨rfl, hb2⟩
    | false =>
      obtain ⟨hle, hle'⟩ := hr rfl
      clear hr
      by_cases hcut : cut < 0
      · go_wp2
        go_ret
        exact ⟨rfl, hb2⟩
      by_cases hcut' : (n' : Int) < cut
      · go_wp2
        go_ret
        exact ⟨rfl, hb2⟩
      obtain ⟨t, rfl⟩ : ∃ t : Nat, cut = t := ⟨cut.toNat, by omega⟩
      have ht : t ≤ n' := by omega
      clear hcut hcut'
      go_wp2_with fail
      refine (allNamed_any _ a n c cs _ a' n' c' ks w2 hn (h.mono hb2 (Nat.le_refl _)) hn' (h'.mono hb2 (Nat.le_refl _))).mono ?_
      rintro e w3 ⟨rfl, rfl⟩
      cases hall : ks.all (hasN cs) with
      | false =>
        go_wp2
        go_ret
        exact ⟨rfl, hb2⟩
      | true =>
        have HA := hide hall
        clear hall
        go_wp2_with fail
        refine (toColumns_any w1.heap.size a n c cs w3 (h.mono hb2 (Nat.le_refl _)) hz2 (by omega) hnil).mono ?_
        rintro e w4 ⟨⟨a4, c4, rfl, hc4⟩, hb4⟩
        have hb4' : Below w1.heap.size w1 w4 := hb2.trans (hb4.mono hz2)
        have hz4 : w1.heap.size ≤ w4.heap.size := hb4'.size
        have hcs := h.mono hb4' (Nat.le_refl _)
        have hks := h'.mono hb4' (Nat.le_refl _)
        clear h h' hb2 hb4 hz2
        go_wp2_with fail
        refine (keyColumns_any nm _ a4 n c4 cs _ a' n' c' ks w4 hc4 hks (Nat.le_refl _) hz4 (by omega) (by omega) (ks.map (firstN cs)) (by simpa using hks.1) (firsts (unhide HA))).mono ?_
        rintro e w5 ⟨g5, rfl, hc5, hb5⟩
        have hz5 := hb5.size
        go_wp2_with fail
        refine (keyColumns_any nm _ a4 n c4 cs _ a' t c' (ks.take t) w5 (hc4.mono hb5 hz5) ((hks.mono (hb5.mono hz4) (Nat.le_refl _)).take t ht) (Nat.le_refl _) (by omega) (by omega) (by omega) ((ks.take t).map (firstN cs)) (by have := hks.1; simp; omega) (firsts (all_take (unhide HA) t))).mono ?_
        rintro e w6 ⟨g6, rfl, hc6, hb6⟩
        have hz6 := hb6.size
        have hks6 := (hks.mono (hb5.mono hz4) (Nat.le_refl _)).mono (hb6.mono (by omega)) (Nat.le_refl _)
        have hc4' := (hc4.mono hb5 hz5).mono hb6 hz6
        have hcs6 := (hcs.mono (hb5.mono hz4) (Nat.le_refl _)).mono (hb6.mono (by omega)) (Nat.le_refl _)
        have hb6' := hb4'.trans ((hb5.mono hz4).trans (hb6.mono (by omega)))
        have hc5' := hc5.mono hb6 hz6
        clear hks hc4 hcs hc5
        go_wp2_with fail
        case' inl => refine (keyColumns_any nm _ a4 n c4 cs _ a' (n' - t) 0 (ks.drop t) w6 hc4' (hks6.drop0 t (by omega) _) (Nat.le_refl _) (by omega) (by omega) (by omega) ((ks.drop t).map (firstN cs)) (by have := hks6.1; simp; omega) (firsts (all_drop (unhide HA) t))).mono ?_
        case' inr => refine (keyColumns_any nm _ a4 n c4 cs _ (a'.map fun x => x.add t) (n' - t) (c' - t) (ks.drop t) w6 hc4' (hks6.drop t) (Nat.le_refl _) (by omega) (by omega) (by omega) ((ks.drop t).map (firstN cs)) (by have := hks6.1; simp; omega) (firsts (all_drop (unhide HA) t))).mono ?_
        all_goals
          rintro e w7 ⟨g7, rfl, hc7, hb7⟩
          have hz7 := hb7.size
          try generalize (Option.map (fun x : Addr => x.add t) a') = A7
          have hW := hc5'.mono hb7 hz7
          have hL := hc6.mono hb7 (Nat.le_refl _)
          have hcs7 := hcs6.mono (hb7.mono (by omega)) (Nat.le_refl _)
          have hks7 := hks6.mono (hb7.mono (by omega)) (Nat.le_refl _)
          have hbel7 := hb6'.trans (hb7.mono (by omega))
          have hz : w1.heap.size ≤ w7.heap.size := by omega
          clear hc5' hc6 hcs6 hks6 hb7 hb6' hb6 hb5 hb4' hc4' hz4 hz5 hz6 hz7
          go_wp2
          generalize (decide ((t : Int) < 0)) = z1
          generalize (((n' - t : Nat) : Int) != (n' : Int) - (t : Int)) = z2
          generalize ((n' : Int) - (t : Int)) = z3
          go_loopw [13] (fun i wr => ∃ k m : Nat, k ≤ t ∧ i = .int .i64 k ∧ wr = w7.drewN m) (fun i _ => t - (intOf i).toNat)
          case atStart => exact ⟨0, 0, Nat.zero_le _, rfl, rfl⟩
          case round =>
            obtain ⟨k, m, hk, rfl, rfl⟩ := hrel
            by_cases hlt : k < t
            · obtain ⟨x, hx, x0, x1, x2, x3, x4⟩ := hW.at0 (show k < n' by omega)
              obtain ⟨y, hy, y0, y1, y2, y3, y4⟩ := hL.at0 hlt
              obtain rfl : y = x := by rw [take_same _ _ _ _ hlt, hx] at hy; exact (Option.some.inj hy).symm
              clear hx hy hW hL hc7 hcs7 hks7
              have hi1 : (k : Int) < (t : Int) := by omega
              have hi2 : (k : Int) < (n' : Int) := by omega
              have hE := fun w => run_neqC w y
              go_wp2
              go_quiet (fail)
              go_wp2
              go_roundw
              case rel => exact ⟨k + 1, _, by omega, by go_num, rfl⟩
              case measure => simp [intOf]; omega
            · go_wp2
              clear hL hlt hk
              go_loopw [14] (fun i wr => ∃ k m : Nat, k ≤ n' - t ∧ i = .int .i64 k ∧ wr = w7.drewN m) (fun i _ => n' - t - (intOf i).toNat)
              case atStart => exact ⟨0, m, Nat.zero_le _, rfl, rfl⟩
              case round =>
                obtain ⟨k, m, hk, rfl, rfl⟩ := hrel
                by_cases hlt : k < n' - t
                · obtain ⟨x, hx, x0, x1, x2, x3, x4⟩ := hW.at0 (show t + k < n' by omega)
                  obtain ⟨y, hy, y0, y1, y2, y3, y4⟩ := hc7.at0 hlt
                  obtain rfl : y = x := by rw [drop_same, hx] at hy; exact (Option.some.inj hy).symm
                  clear hx hy hW hc7 hcs7 hks7
                  have hi1 : (k : Int) < ((n' - t : Nat) : Int) := by omega
                  have hi2 : (t : Int) + (k : Int) < (n' : Int) := by omega
                  have hi3 : ((t : Int) + (k : Int)).toNat = t + k := by omega
                  have hE := fun w => run_neqC w y
                  go_wp2
                  go_quiet (fail)
                  go_wp2
                  go_roundw
                  case rel => exact ⟨k + 1, _, by omega, by go_num, rfl⟩
                  case measure => simp [intOf]; omega
                · go_wp2
                  clear hc7 hlt hk
                  go_loopw [15] (fun i wr => ∃ k : Nat, k ≤ n' ∧ i = .int .i64 k ∧ Below w7.heap.size w7 wr) (fun i _ => n' - (intOf i).toNat)
                  case atStart => exact ⟨0, Nat.zero_le _, rfl, below_drewN (Below.refl _ _) m⟩
                  case round =>
                    obtain ⟨k, hk, rfl, hbw⟩ := hrel
                    have hbw1 := hbel7.trans (hbw.mono hz)
                    by_cases hlt : k < n'
                    · obtain ⟨x, hx, x0, x1, x2, x3, x4⟩ := (hW.mono hbw (Nat.le_refl _)).at0 hlt
                      have hks8 := hks7.mono (hbw.mono hz) (Nat.le_refl _)
                      have hcs8 := hcs7.mono (hbw.mono hz) (Nat.le_refl _)
                      obtain ⟨b, off, s, rfl, hb, hs, hsc⟩ := hks8.at hlt
                      have hf : cs.find? (fun c => sameS c.name s) = some x := by
                        obtain ⟨c0, h1, h2⟩ := firsts (unhide HA) k s hs
                        rw [hx] at h1
                        obtain rfl := Option.some.inj h1
                        exact h2
                      have hzw : w1.heap.size ≤ wr.heap.size := by have := hbw.size; omega
                      have HI := hide (isFirst_any w1.heap.size a n c s cs x wr.drew hn hcs8 hzw hf)
                      have hi2 : (k : Int) < (n' : Int) := by omega
                      clear hx hs hf hks8 hcs8 hW hks7 hcs7
                      go_wp2
                      go_region_with (go_at_call 10; go_must (refine (unhide HI).mono ?_; rintro e w8 ⟨rfl, hb8⟩))
                      all_goals
                        have hb9 : Below w7.heap.size w7 w8 := hbw.trans ((Below.refl _ _).drew.trans (hb8.mono hbw.size))
                        go_wp2
                        go_roundw
                        case rel => exact ⟨k + 1, by omega, by go_num, hb9⟩
                        case measure => simp [intOf]; omega
                    · go_wp2
                      go_ret
                      exact ⟨rfl, hbw1⟩
end Go.Proofs.Qxb6628450a
