/-
  THE ITERATOR: (*Ledger).all AND ITS CLOSURE: row k, k = 0, 1, .., handed over by its number and the address of its cells.
-/
import Derived.Test.Qxb6628495aBuild
import Derived.Test.Qxb6628495aUp
namespace Go.Proofs.Qxb6628495a
open Go.RowKit Go.Shelf

attribute [local go_sem] Oper.semAt_some

/-- What yield is handed at row k. -/
def rowArgs (c0 k : Nat) : Array Value := #[.int .i64 (k : Int), .pointer (some ⟨c0 + k / 16384, 16385 + k % 16384 * 3, none⟩)]

/-- What a round keeps: all below block n₀, and block bx. -/
def Kept (n₀ bx : Nat) (W W' : World) : Prop := Below n₀ W W' ∧ W'.heap[bx]? = W.heap[bx]?

theorem Kept.refl (n₀ bx : Nat) (W : World) : Kept n₀ bx W W := ⟨Below.refl _ _, rfl⟩
theorem Kept.trans {n₀ bx : Nat} {A B C : World} (h : Kept n₀ bx A B) (k : Kept n₀ bx B C) : Kept n₀ bx A C := ⟨h.1.trans k.1, k.2.trans h.2⟩
theorem Kept.putObj {n₀ bx : Nat} {w : World} (hn : n₀ ≤ w.heap.size) (hx : bx < w.heap.size) (W : World) (l : Nat) (o o' : Obj) (hl : w.heap.size ≤ l) (h : W.heap[l]? = some o) (h1 : o.isCells = false) (h2 : o.isWalk = false) : Kept n₀ bx W (W.putObj l o') :=
  ⟨belowK_b hn W l o o' hl h h1 h2, World.putObj_heap_other (by omega)⟩

set_option maxHeartbeats 1000000 in
theorem all_in (F : Fence) (m : Nat) (h13 : F.fn 13) (hro : F.round = none) (bl : Nat) (w : World) :
    CallsIn F m Try.prog 13 #[.pointer (some ⟨bl, 0, none⟩)] w fun e w' => e = .returned (.func (.func 14) #[] #[.pointer (some ⟨w.heap.size, 0, none⟩)]) ∧ w' = w.alloc (.cells #[.pointer (some ⟨bl, 0, none⟩)] 24) := by
  refine callsIn_of_wp Try.func13 rfl h13 ?_ hro
  simp only [Try.ntmps13, List.size_toArray, List.length_cons, List.length_nil, Nat.reduceAdd, Nat.reduceSub, Array.replicate_succ, Array.replicate_zero, List.push_toArray, List.append_toArray, List.nil_append, List.cons_append]
  gi_wp2
  go_ret
  exact ⟨rfl, rfl⟩

set_option maxRecDepth 100000 in
set_option maxHeartbeats 2000000 in
theorem all1_in (F : Fence) (m : Nat) (h14 : F.fn 14) (hro : F.round = none) (hm : 1 ≤ m) (l bx n₀ bl n : Nat) (lo hi : Int) (bc c0 : Nat) (ds : List Int) (hn : n ≤ 262144) (hlen : ds.length = n) (J : Nat → World → Prop)
    (hY : ∀ k W1, k < n → J k W1 → YieldAt F (m - 1) Try.prog l (rowArgs c0 k) W1 fun e W' => e = .returned (.bool true) ∧ J (k + 1) W' ∧ Kept n₀ bx W1 W')
    (W : World) (hbx : W.cell? ⟨bx, 0, none⟩ = some (.pointer (some ⟨bl, 0, none⟩))) (hL : Led W n₀ bl n lo hi bc c0 ds) (h0 : J 0 W) :
    CallsIn F m Try.prog 14 #[.func (.yield l) #[] #[], .pointer (some ⟨bx, 0, none⟩)] W fun e W' => (∃ v, e = .returned v) ∧ J n W' := by
  have HL := hide hlen
  clear hlen
  have hN : nch n ≤ 16 := by unfold nch; omega
  obtain ⟨⟨b1, b2, b3⟩, ⟨l1, l2, l3, l4⟩, l5, -⟩ := id hL
  refine callsIn_of_wp Try.func14 rfl h14 ?_ hro
  simp only [Try.ntmps14, List.size_toArray, List.length_cons, List.length_nil, Nat.reduceAdd, Nat.reduceSub, Array.replicate_succ, Array.replicate_zero, List.push_toArray, List.append_toArray, List.nil_append, List.cons_append]
  gi_wp2
  gi_loopw [11] (fun i wr => ∃ q : Nat, q ≤ nch n ∧ i = .int .i64 q ∧ J (min (q * 16384) n) wr ∧ Kept n₀ bx W wr)
    (fun i _ => nch n - (intOf i).toNat)
  case atStart => exact ⟨0, Nat.zero_le _, rfl, by simpa using h0, Kept.refl _ _ _⟩
  case round =>
    obtain ⟨q, hq, rfl, hJ, hk⟩ := hrel
    by_cases hql : q < nch n
    · have hbx' := (World.cell?_of_block (a := ⟨bx, 0, none⟩) hk.2).trans hbx
      have l1' := (hk.1.cell (p := ⟨bl, 1, none⟩) b1).trans l1
      have l5' := (hk.1.cell (p := ⟨bc, q, none⟩) b2).trans (l5 q hql)
      have hqn : q * 16384 < n := by unfold nch at hql; omega
      have hi1 : (q : Int) < ((nch n : Nat) : Int) := by omega
      have HJ := hide hJ
      have HQ := hide (show min (q * 16384) n = q * 16384 by omega)
      clear hJ
      by_cases hfull : (n : Int) - (q : Int) * 16384 < 16384
      · have hcast : (n : Int) - (q : Int) * 16384 = ((n - q * 16384 : Nat) : Int) := by omega
        have HC := hide hcast
        clear hcast
        have hM2 : q * 16384 + (n - q * 16384) ≤ n := by omega
        have hM3 : min ((q + 1) * 16384) n = q * 16384 + (n - q * 16384) := by omega
        have HM3 := hide hM3
        clear hM3
        gi_wp2
        gi_loopw [24] (fun i wx => ∃ j : Nat, j ≤ (n - q * 16384) ∧ i = .int .i64 j ∧ J (q * 16384 + j) wx ∧ Kept n₀ bx W wx) (fun i _ => (n - q * 16384) - (intOf i).toNat)
        case atStart => exact ⟨0, Nat.zero_le _, rfl, by rw [Nat.add_zero, ← unhide HQ]; exact unhide HJ, hk⟩
        case round =>
          obtain ⟨j, hj, rfl, hJ, hk⟩ := hrel
          by_cases hjl : j < (n - q * 16384)
          · obtain ⟨fn, tmps, assign, body, hy, hR⟩ := hY (q * 16384 + j) wr (by omega) hJ
            have e1 : rowArgs c0 (q * 16384 + j) = #[.int .i64 ((q : Int) * 16384 + (j : Int)), .pointer (some ⟨c0 + q, 16385 + j * 3, none⟩)] := by
              unfold rowArgs
              rw [show (q * 16384 + j) / 16384 = q by omega, show (q * 16384 + j) % 16384 = j by omega, show ((q * 16384 + j : Nat) : Int) = (q : Int) * 16384 + (j : Int) by omega]
            rw [e1] at hy
            clear e1
            have hi2 : (j : Int) < 16384 := by omega
            gi_wp2
            refine hR.mono ?_
            rintro e W3 ⟨rfl, hJ3, hk3⟩
            gi_wp2
            go_roundw
            case rel => exact ⟨j + 1, by omega, by go_num, by rw [← Nat.add_assoc]; exact hJ3, hk.trans hk3⟩
            case measure => simp [intOf]; omega
          · have hJ' : J (min ((q + 1) * 16384) n) wr := by
              rw [unhide HM3]
              have e2 : j = (n - q * 16384) := by omega
              rw [e2] at hJ
              exact hJ
            clear hJ
            gi_wp2
            go_roundw
            case rel => exact ⟨q + 1, by omega, by go_num, hJ', hk⟩
            case measure => simp [intOf]; omega
      · have hge : 16384 ≤ (n : Int) - (q : Int) * 16384 := by omega
        have hM2 : q * 16384 + 16384 ≤ n := by omega
        have hM3 : min ((q + 1) * 16384) n = q * 16384 + 16384 := by omega
        have HM3 := hide hM3
        clear hM3
        gi_wp2
        gi_loopw [24] (fun i wx => ∃ j : Nat, j ≤ 16384 ∧ i = .int .i64 j ∧ J (q * 16384 + j) wx ∧ Kept n₀ bx W wx) (fun i _ => 16384 - (intOf i).toNat)
        case atStart => exact ⟨0, Nat.zero_le _, rfl, by rw [Nat.add_zero, ← unhide HQ]; exact unhide HJ, hk⟩
        case round =>
          obtain ⟨j, hj, rfl, hJ, hk⟩ := hrel
          by_cases hjl : j < 16384
          · obtain ⟨fn, tmps, assign, body, hy, hR⟩ := hY (q * 16384 + j) wr (by omega) hJ
            have e1 : rowArgs c0 (q * 16384 + j) = #[.int .i64 ((q : Int) * 16384 + (j : Int)), .pointer (some ⟨c0 + q, 16385 + j * 3, none⟩)] := by
              unfold rowArgs
              rw [show (q * 16384 + j) / 16384 = q by omega, show (q * 16384 + j) % 16384 = j by omega, show ((q * 16384 + j : Nat) : Int) = (q : Int) * 16384 + (j : Int) by omega]
            rw [e1] at hy
            clear e1
            have hi2 : (j : Int) < 16384 := by omega
            gi_wp2
            refine hR.mono ?_
            rintro e W3 ⟨rfl, hJ3, hk3⟩
            gi_wp2
            go_roundw
            case rel => exact ⟨j + 1, by omega, by go_num, by rw [← Nat.add_assoc]; exact hJ3, hk.trans hk3⟩
            case measure => simp [intOf]; omega
          · have hJ' : J (min ((q + 1) * 16384) n) wr := by
              rw [unhide HM3]
              have e2 : j = 16384 := by omega
              rw [e2] at hJ
              exact hJ
            clear hJ
            gi_wp2
            go_roundw
            case rel => exact ⟨q + 1, by omega, by go_num, hJ', hk⟩
            case measure => simp [intOf]; omega
    · have HQ : min (q * 16384) n = n := by unfold nch at hql hq; omega
      rw [HQ] at hJ
      clear HQ
      gi_wp2
      go_end0
      exact ⟨⟨_, rfl⟩, hJ⟩

/-- l.all() handed on: row after row. -/
theorem all_up (F : Fence) (m : Nat) (h14 : F.fn 14) (hro : F.round = none) (hm : 1 ≤ m) (bx n₀ bl n : Nat) (lo hi : Int) (bc c0 : Nat) (ds : List Int) (hn : n ≤ 262144) (hlen : ds.length = n) (w : World) (hbx : bx < w.heap.size) (hn₀ : n₀ ≤ w.heap.size)
    (hc : w.cell? ⟨bx, 0, none⟩ = some (.pointer (some ⟨bl, 0, none⟩))) (hL : Led w n₀ bl n lo hi bc c0 ds) :
    SeqUp F m Try.prog 14 #[.pointer (some ⟨bx, 0, none⟩)] (rowArgs c0) (Kept n₀ bx) n w := fun l J W hW hY h0 =>
  all1_in F m h14 hro hm l bx n₀ bl n lo hi bc c0 ds hn hlen J hY W ((hW.cell (p := ⟨bx, 0, none⟩) hbx).trans hc) (hL.mono hlen (hW.mono hn₀) (Nat.le_refl _)) h0

end Go.Proofs.Qxb6628495a
