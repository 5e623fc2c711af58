/-
  THE WALK OF FnKeyColumnsIgnoresColumnsNotNamedInTheKey: it returns true and writes nothing that was there.
-/
import Derived.Test.Qxb6628450aReads
import Derived.Test.Qxb6628450aGuards
import Derived.Test.Qxb6628450aKey
import Derived.Test.Qxb6628450aCols
import Derived.Test.Qxb6628450aGrown
import Derived.WalkSmall
namespace Go.Proofs.Qxb6628450a
open Go.RowKit

set_option maxRecDepth 100000 in
set_option maxHeartbeats 1000000 in
theorem walk4 (nm : ByteArray) (a : Option Addr) (n c : Nat) (cs : List Co) (a' : Option Addr) (n' c' : Nat) (ks : List ByteArray) (x : Co) (at_ : Int) (w : World)
    (hn : n ≤ maxLen) (h : Cols w w.heap.size a n cs) (hnil : a = none → n = 0 ∧ c = 0) (hn' : n' ≤ maxLen) (h' : Strs w w.heap.size a' n' ks) :
    Calls Try.prog 4 #[.string nm, .slice a n c, .slice a' n' c', .agg #[.string x.name, .string x.kind, .int .i64 x.prec, .int .i64 x.scale, .bool x.nul], .int .i64 at_] w fun e w' => e = .returned (.bool true) ∧ Below w.heap.size w w' := by
  go_enter Try.func4, Try.ntmps4
  go_wp2_with fail
  obtain ⟨W1, hW1⟩ : ∃ W1, W1 = w.alloc (.cells #[.string x.name, .string x.kind, .int .i64 x.prec, .int .i64 x.scale, .bool x.nul] 38) := ⟨_, rfl⟩
  rw [← hW1]
  have hb1 : Below w.heap.size w W1 := by rw [hW1]; exact (Below.refl _ _).alloc (Nat.le_refl _) _
  have hs1 : w.heap.size < W1.heap.size := by rw [hW1]; simp
  have g1 : colAt W1 w.heap.size 0 x := by rw [hW1]; exact ⟨by simp, by simp, by simp, by simp, by simp⟩
  clear hW1
  refine (bytes4_any nm _ a n c cs _ a' n' c' ks _ _ _ _ _ ⟨_, rfl⟩ ⟨_, rfl⟩ at_ W1 hn (h.mono hb1 (Nat.le_refl _)) hn' (h'.mono hb1 (Nat.le_refl _)) (by omega) (by omega)).mono ?_
  rintro e w1 ⟨⟨r, rfl⟩, hb⟩
  have hb2 : Below w.heap.size w w1 := hb1.trans (hb.mono (by omega))
  have g2 := g1.mono hs1 hb
  have hs2 : w.heap.size < w1.heap.size := by have := hb.size; omega
  clear hb hb1 g1 hs1
  cases r with
  | false =>
    go_wp2
    go_ret
    exact ⟨rfl, hb2⟩
  | true =>
    have G2 := hide g2
    obtain ⟨x0, x1, x2, x3, x4⟩ := g2
    by_cases e1 : (1048576 : Int) < x.name.size
    · go_wp2
      go_ret
      exact ⟨rfl, hb2⟩
    by_cases e2 : (1048576 : Int) < x.kind.size
    · go_wp2
      go_ret
      exact ⟨rfl, hb2⟩
    go_wp2_with fail
    refine (tooBig_any nm _ a n c cs _ a' n' c' ks _ w1 (h.mono hb2 (Nat.le_refl _)) (h'.mono hb2 (Nat.le_refl _))).mono ?_
    rintro e w2 ⟨⟨r, rfl, hr⟩, m, hw2⟩
    have hbd : Below w1.heap.size w1 w2 := by rw [hw2]; exact below_drewN (Below.refl _ _) m
    have hb3 : Below w.heap.size w w2 := hb2.trans (hbd.mono (by omega))
    have hs3 : w.heap.size < w2.heap.size := by have := hbd.size; omega
    have g3 := (unhide G2).mono hs2 hbd
    clear hw2 hbd hb2 hs2 G2 x0 x1 x2 x3 x4
    cases r with
    | true =>
      go_wp2
      go_ret
      exact ⟨rfl, hb3⟩
    | false =>
      obtain ⟨hle, hle'⟩ := hr rfl
      clear hr
      by_cases hcut : at_ < 0
      · go_wp2
        go_ret
        exact ⟨rfl, hb3⟩
      by_cases hcut' : (n : Int) < at_
      · go_wp2
        go_ret
        exact ⟨rfl, hb3⟩
      obtain ⟨t, rfl⟩ : ∃ t : Nat, at_ = t := ⟨at_.toNat, by omega⟩
      have ht : t ≤ n := by omega
      clear hcut hcut'
      go_wp2_with fail
      clear e1 e2
      refine (allNamed_any _ a n c cs _ a' n' c' ks w2 hn (h.mono hb3 (Nat.le_refl _)) hn' (h'.mono hb3 (Nat.le_refl _))).mono ?_
      rintro e w3 ⟨rfl, rfl⟩
      cases hall : ks.all (hasN cs) with
      | false =>
        go_wp2
        go_ret
        exact ⟨rfl, hb3⟩
      | true =>
        have HA := hide hall
        clear hall
        have hcond : Hid (t = n ∨ inN ks x.name = false) ∨ (t ≠ n ∧ inN ks x.name = true) := by
          by_cases e : t = n
          · exact .inl (.inl e)
          · cases e' : inN ks x.name with
            | false => exact .inl (.inr rfl)
            | true => exact .inr ⟨e, rfl⟩
        rcases hcond with HT | ⟨htn, hin⟩
        · have G3 := hide g3
          obtain ⟨x0, -⟩ := g3
          have key : ((t : Int) != (n : Int)) = false ∨ (((t : Int) != (n : Int)) = true ∧ Hid (inN ks x.name = false)) := by
            by_cases e : t = n
            · left; simp [e]
            · right
              refine ⟨by simp; omega, ?_⟩
              rcases unhide HT with h | h
              · exact absurd h e
              · exact h
          rcases key with htn | ⟨htn, hin⟩
          case' inl => go_wp2_with fail
          case' inr =>
            go_wp2_with fail
            refine (in_any _ a' n' c' x.name ks w3 hn' (h'.mono hb3 (Nat.le_refl _))).mono ?_
            rintro e w4 ⟨rfl, hw4⟩
            rw [hw4, unhide hin]
            clear hin hw4 w4
            go_wp2_with fail
          all_goals
            clear htn x0
            refine (toColumns_any w.heap.size a n c cs w3 (h.mono hb3 (Nat.le_refl _)) (Nat.le_of_lt hs3) (by omega) hnil).mono ?_
            rintro e w4 ⟨⟨a4, c4, rfl, hc4⟩, hb4⟩
            have hb4' : Below w.heap.size w w4 := hb3.trans (hb4.mono (Nat.le_of_lt hs3))
            have hs4 : w.heap.size < w4.heap.size := Nat.lt_of_lt_of_le hs3 hb4.size
            have g4 := (unhide G3).mono hs3 hb4
            have hcs4 := h.mono hb4' (Nat.le_refl _)
            have hks4 := h'.mono hb4' (Nat.le_refl _)
            have hlen : cs.length = n := h.1
            clear hb4 G3
            obtain ⟨i0, hi, hz0, hz1, hz2⟩ := info_parts info35
            go_wp2_with (at_make; refine wpList_make_full _ rfl _ _ 26 rfl w4.heap.size 35 i0 _ 5 Try.underlying26 hi hz0 hz1 .i64 .i64 _ _ (n + 1) rfl rfl (by omega) (by omega) (by rw [hz2]; omega) (by unfold maxLen; omega) (by simp) ?_; intro w5 hown hgrow)
            clear hi hz0 hz1 hz2 i0
            generalize (decide ((1048576 : Int) < (x.name.size : Int))) = y1
            generalize (decide ((1048576 : Int) < (x.kind.size : Int))) = y2
            generalize (decide ((t : Int) < 0)) = y3
            generalize ((56 : Int) + (x.name.size : Int) + (x.kind.size : Int)) = y4
            generalize ((56 : Int) + (x.name.size : Int)) = y5
            have hrow5 := row_made (grownL cs t x) (fun i => i < 0) (fun i hi => by omega) hown
            have hbel5 := (Below.refl w4.heap.size w4).grown hgrow (by simp) (by simp)
            clear hown hgrow
            have htl : t ≤ cs.length := by omega
            go_loopw [13] (fun i wr => ∃ k : Nat, k ≤ t ∧ i = .int .i64 k ∧ Row wr w4.heap.size (n + 1) (grownL cs t x) (fun i => i < k) ∧ Below w4.heap.size w4 wr) (fun i _ => t - (intOf i).toNat)
            case atStart => exact ⟨0, Nat.zero_le _, rfl, hrow5, hbel5⟩
            case round =>
              clear hrow5 hbel5
              obtain ⟨k, hk, rfl, hrow, hbel⟩ := hrel
              by_cases hlt : k < t
              · obtain ⟨b, off, c0, rfl, hb, hck, hc⟩ := hc4.at (show k < n by omega)
                obtain ⟨d0, d1, d2, d3, d4⟩ := hc.mono hb hbel
                have hi1 : (k : Int) < (n : Int) := by omega
                have hi2 : (k : Int) < ((n + 1 : Nat) : Int) := by omega
                have R1 := Row.put (S' := fun i => i < k + 1) hrow (show k < n + 1 by omega) (by rw [grownL_lt cs t x htl k hlt]; exact hck) (fun i hi => by omega)
                have R2 := put5_below hbel (g := w4.heap.size) (Nat.le_refl _) (k * 5) c0
                unfold put5 at R1 R2
                obtain ⟨v0, r0⟩ := hrow.cells (k * 5) (by omega); obtain ⟨v1, r1⟩ := hrow.cells (k * 5 + 1) (by omega); obtain ⟨v2, r2⟩ := hrow.cells (k * 5 + 1 + 1) (by omega); obtain ⟨v3, r3⟩ := hrow.cells (k * 5 + 1 + 1 + 1) (by omega); obtain ⟨v4, r4⟩ := hrow.cells (k * 5 + 1 + 1 + 1 + 1) (by omega); have z0 := hrow.frozen (k * 5); have z1 := hrow.frozen (k * 5 + 1); have z2 := hrow.frozen (k * 5 + 1 + 1); have z3 := hrow.frozen (k * 5 + 1 + 1 + 1); have z4 := hrow.frozen (k * 5 + 1 + 1 + 1 + 1)
                clear hck hc hc4 hcs4 hks4
                go_wp2
                go_roundw
                case rel => exact ⟨k + 1, by omega, by go_num, R1, R2⟩
                case measure => simp [intOf]; omega
              · have hk' : t = k := by omega
                subst hk'
                have hg4 := g4.mono hs4 hbel
                obtain ⟨e0, e1, e2, e3, e4⟩ := hg4
                go_wp2_with fail
                refine (toColumn_any x _).mono ?_
                rintro e w6 ⟨rfl, hb6⟩
                have hrow6 := hrow.mono hrow.lt hb6
                have hbel6 := hbel.trans (hb6.mono hbel.size)
                clear hrow hbel hb6 e0 e1 e2 e3 e4
                have hi2 : (t : Int) < ((n + 1 : Nat) : Int) := by omega
                have R1 := Row.put (S' := fun i => i < t + 1) hrow6 (show t < n + 1 by omega) (grownL_at cs t x htl) (fun i hi => by omega)
                have R2 := put5_below hbel6 (g := w4.heap.size) (Nat.le_refl _) (t * 5) x
                unfold put5 at R1 R2
                obtain ⟨v0, r0⟩ := hrow6.cells (t * 5) (by omega); obtain ⟨v1, r1⟩ := hrow6.cells (t * 5 + 1) (by omega); obtain ⟨v2, r2⟩ := hrow6.cells (t * 5 + 1 + 1) (by omega); obtain ⟨v3, r3⟩ := hrow6.cells (t * 5 + 1 + 1 + 1) (by omega); obtain ⟨v4, r4⟩ := hrow6.cells (t * 5 + 1 + 1 + 1 + 1) (by omega); have z0 := hrow6.frozen (t * 5); have z1 := hrow6.frozen (t * 5 + 1); have z2 := hrow6.frozen (t * 5 + 1 + 1); have z3 := hrow6.frozen (t * 5 + 1 + 1 + 1); have z4 := hrow6.frozen (t * 5 + 1 + 1 + 1 + 1)
                go_wp2
                clear r0 r1 r2 r3 r4 z0 z1 z2 z3 z4 hrow6 hbel6
                go_loopw [14] (fun i wr => ∃ k : Nat, t ≤ k ∧ k ≤ n ∧ i = .int .i64 k ∧ Row wr w4.heap.size (n + 1) (grownL cs t x) (fun i => i < k + 1) ∧ Below w4.heap.size w4 wr) (fun i _ => n - (intOf i).toNat)
                case atStart => exact ⟨t, Nat.le_refl _, ht, rfl, R1, R2⟩
                case round =>
                  clear R1 R2
                  obtain ⟨k, hk0, hk, rfl, hrow, hbel⟩ := hrel
                  by_cases hlt : k < n
                  · obtain ⟨b, off, c0, rfl, hb, hck, hc⟩ := hc4.at hlt
                    obtain ⟨d0, d1, d2, d3, d4⟩ := hc.mono hb hbel
                    have hi1 : (k : Int) < (n : Int) := by omega
                    have hi2 : (k : Int) + 1 < ((n + 1 : Nat) : Int) := by omega
                    have hi3 : ((k : Int) + 1).toNat = k + 1 := by omega
                    have R1 := Row.put (S' := fun i => i < k + 1 + 1) hrow (show k + 1 < n + 1 by omega) (by rw [grownL_gt cs t x htl k hk0]; exact hck) (fun i hi => by omega)
                    have R2 := put5_below hbel (g := w4.heap.size) (Nat.le_refl _) ((k + 1) * 5) c0
                    unfold put5 at R1 R2
                    obtain ⟨v0, r0⟩ := hrow.cells ((k + 1) * 5) (by omega); obtain ⟨v1, r1⟩ := hrow.cells ((k + 1) * 5 + 1) (by omega); obtain ⟨v2, r2⟩ := hrow.cells ((k + 1) * 5 + 1 + 1) (by omega); obtain ⟨v3, r3⟩ := hrow.cells ((k + 1) * 5 + 1 + 1 + 1) (by omega); obtain ⟨v4, r4⟩ := hrow.cells ((k + 1) * 5 + 1 + 1 + 1 + 1) (by omega); have z0 := hrow.frozen ((k + 1) * 5); have z1 := hrow.frozen ((k + 1) * 5 + 1); have z2 := hrow.frozen ((k + 1) * 5 + 1 + 1); have z3 := hrow.frozen ((k + 1) * 5 + 1 + 1 + 1); have z4 := hrow.frozen ((k + 1) * 5 + 1 + 1 + 1 + 1)
                    clear hck hc hc4 hcs4 hks4
                    go_wp2
                    go_roundw
                    case rel => exact ⟨k + 1, by omega, by omega, by go_num, R1, R2⟩
                    case measure => simp [intOf]; omega
                  · have hG := hrow.cols (by rw [grownL_length cs t x htl, hlen]) (fun i hi => by omega)
                    have hC := hc4.mono hbel hbel.size
                    have hz : w.heap.size ≤ w4.heap.size := Nat.le_of_lt hs4
                    have hK := hks4.mono (hbel.mono hz) (Nat.le_refl _)
                    have hS := hcs4.mono (hbel.mono hz) (Nat.le_refl _)
                    have hB := hb4'.trans (hbel.mono hz)
                    have hzr : w.heap.size ≤ wr.heap.size := hB.size
                    clear hrow hbel hc4 hks4 hcs4 hb4' g4
                    go_wp2_with fail
                    refine (keyColumns_any nm _ a4 n c4 cs _ a' n' c' ks wr hC hK (Nat.le_refl _) hzr (by omega) (by omega) (ks.map (firstN cs)) (by simpa using hK.1) (firsts (unhide HA))).mono ?_
                    rintro e w7 ⟨g7, rfl, hc7, hb7⟩
                    have hz7 := hb7.size
                    have hG7 := hG.mono hb7 hz7
                    have hK7 := hK.mono (hb7.mono hzr) (Nat.le_refl _)
                    have hS7 := hS.mono (hb7.mono hzr) (Nat.le_refl _)
                    have hB7 := hB.trans (hb7.mono hzr)
                    have hzr7 : w.heap.size ≤ w7.heap.size := hB7.size
                    clear hG hK hS hB hb7 hC
                    go_wp2_with fail
                    refine (keyColumns_any nm _ (some ⟨w4.heap.size, 0, none⟩) (n + 1) (n + 1) (grownL cs t x) _ a' n' c' ks w7 hG7 hK7 (Nat.le_refl _) hzr7 (by omega) (by omega) (ks.map (firstN cs)) (by simpa using hK7.1) (firsts_grown t x (unhide HA) (by rw [hlen]; exact unhide HT))).mono ?_
                    rintro e w8 ⟨g8, rfl, hc8, hb8⟩
                    have hz8 := hb8.size
                    have hc7' := hc7.mono hb8 hz8
                    have hK8 := hK7.mono (hb8.mono hzr7) (Nat.le_refl _)
                    have hS8 := hS7.mono (hb8.mono hzr7) (Nat.le_refl _)
                    have hB8 := hB7.trans (hb8.mono hzr7)
                    have hzr8 : w.heap.size ≤ w8.heap.size := hB8.size
                    clear hG7 hK7 hS7 hB7 hb8 hc7
                    go_wp2
                    go_loopw [17] (fun i wr => ∃ k : Nat, k ≤ n' ∧ i = .int .i64 k ∧ Below w8.heap.size w8 wr) (fun i _ => n' - (intOf i).toNat)
                    case atStart => exact ⟨0, Nat.zero_le _, rfl, Below.refl _ _⟩
                    case round =>
                      obtain ⟨q, hq, rfl, hbw⟩ := hrel
                      by_cases hltq : q < n'
                      · obtain ⟨y, hy, y0, y1, y2, y3, y4⟩ := (hc7'.mono hbw (Nat.le_refl _)).at0 hltq
                        obtain ⟨u, hu, u0, u1, u2, u3, u4⟩ := (hc8.mono hbw (Nat.le_refl _)).at0 hltq
                        obtain rfl : u = y := Option.some.inj (hu.symm.trans hy)
                        obtain ⟨b, off, s, rfl, hb, hs, hsc⟩ := (hK8.mono (hbw.mono hzr8) (Nat.le_refl _)).at hltq
                        have hf : cs.find? (fun c => sameS c.name s) = some u := by
                          obtain ⟨c0, q1, q2⟩ := firsts (unhide HA) q s hs
                          rw [hy] at q1
                          obtain rfl := Option.some.inj q1
                          exact q2
                        have hname : (u.name.toList == s.toList) = true := List.find?_some (p := fun c : Co => sameS c.name s) hf
                        have hname' : (u.name.toList != s.toList) = false := by simpa using hname
                        have hmem : u ∈ cs := List.mem_of_find?_eq_some hf
                        have hzw : w.heap.size ≤ wr.heap.size := Nat.le_trans hzr8 hbw.size
                        have hcs9 := hS8.mono (hbw.mono hzr8) (Nat.le_refl _)
                        have hi1 : (q : Int) < (n' : Int) := by omega
                        have hE := fun w => run_neqC w u
                        have HM := hide hmem
                        clear hmem hf hs hu hy hc7' hc8 hK8 hS8
                        go_wp2
                        go_quiet (fail)
                        go_wp2
                        go_quiet (fail)
                        go_wp2_with fail
                        refine (isColumnOf_any w.heap.size a n c cs u _ hn (hcs9.mono (below_drewN (Below.refl _ _) _) (Nat.le_refl _)) hzw (unhide HM)).mono ?_
                        rintro e w9 ⟨rfl, hb9⟩
                        have hb10 : Below w8.heap.size w8 w9 := hbw.trans ((below_drewN (Below.refl _ _) _).trans (hb9.mono hbw.size))
                        go_wp2
                        go_roundw
                        case rel => exact ⟨q + 1, by omega, by go_num, hb10⟩
                        case measure => simp [intOf]; omega
                      · go_wp2
                        go_ret
                        exact ⟨rfl, hB8.trans (hbw.mono hzr8)⟩
        · have htn' : ((t : Int) != (n : Int)) = true := by simp; omega
          have G3 := hide g3
          obtain ⟨x0, -⟩ := g3
          go_wp2_with fail
          refine (in_any _ a' n' c' x.name ks w3 hn' (h'.mono hb3 (Nat.le_refl _))).mono ?_
          rintro e w4 ⟨rfl, rfl⟩
          rw [hin]
          go_wp2
          go_ret
          exact ⟨rfl, hb3⟩
end Go.Proofs.Qxb6628450a
