/-
  THE WALKS OF THE FUNCTIONS THAT ONLY READ: zzHasName, zzAllKeysNamed, zzIn.
-/
import Derived.Test.Qxb6628450aBase
namespace Go.Proofs.Qxb6628450a
open Go.RowKit

set_option maxHeartbeats 400000 in
theorem hasName_any (B : Nat) (a : Option Addr) (n c : Nat) (nm : ByteArray) (cs : List Co) (w : World) (hn : n ≤ maxLen) (h : Cols w B a n cs) :
    Calls Try.prog 15 #[.slice a n c, .string nm] w fun e w' => e = .returned (.bool (hasN cs nm)) ∧ w' = w := by
  unfold maxLen at hn
  have hlen : Hid (cs.length = n) := h.1
  go_enter Try.func15, Try.ntmps15
  go_wp2
  go_loop [5] (fun i => ∃ k : Nat, k ≤ n ∧ i = .int .i64 k ∧ Hid ((cs.take k).any (fun c => sameS c.name nm) = false)) (fun i => n - (intOf i).toNat)
  case atStart => exact ⟨0, Nat.zero_le _, rfl, rfl⟩
  case round =>
    obtain ⟨k, hk, rfl, hs⟩ := hrel
    by_cases hlt : k < n
    · obtain ⟨b, off, c0, rfl, hb, hck, hc, -⟩ := h.at hlt
      have HC : Hid (cs[k]? = some c0) := hck
      clear hck h
      go_wp2
      · have ht : (c0.name.toList == nm.toList) = true := by assumption
        go_ret
        exact ⟨ret_bool (any_at _ _ k c0 HC.out ht).symm, rfl⟩
      · have ht : (c0.name.toList == nm.toList) = false := by assumption
        go_round
        case rel => exact ⟨k + 1, by omega, by go_num, any_step _ _ k c0 HC.out hs.out ht⟩
        case measure => simp [intOf]; omega
    · clear h
      go_wp2
      go_ret
      exact ⟨ret_bool (any_end _ _ k (by have := hlen.out; omega) hs.out).symm, rfl⟩

set_option maxHeartbeats 400000 in
theorem in_any (B : Nat) (a : Option Addr) (n c : Nat) (nm : ByteArray) (ks : List ByteArray) (w : World) (hn : n ≤ maxLen) (h : Strs w B a n ks) :
    Calls Try.prog 12 #[.slice a n c, .string nm] w fun e w' => e = .returned (.bool (inN ks nm)) ∧ w' = w := by
  unfold maxLen at hn
  have hlen : Hid (ks.length = n) := h.1
  go_enter Try.func12, Try.ntmps12
  go_wp2
  go_loop [5] (fun i => ∃ k : Nat, k ≤ n ∧ i = .int .i64 k ∧ Hid ((ks.take k).any (fun c => sameS c nm) = false)) (fun i => n - (intOf i).toNat)
  case atStart => exact ⟨0, Nat.zero_le _, rfl, rfl⟩
  case round =>
    obtain ⟨k, hk, rfl, hs⟩ := hrel
    by_cases hlt : k < n
    · obtain ⟨b, off, c0, rfl, hb, hck, hc⟩ := h.at hlt
      have HC : Hid (ks[k]? = some c0) := hck
      clear hck h
      go_wp2
      · have ht : (c0.toList == nm.toList) = true := by assumption
        go_ret
        exact ⟨ret_bool (any_at _ _ k c0 HC.out ht).symm, rfl⟩
      · have ht : (c0.toList == nm.toList) = false := by assumption
        go_round
        case rel => exact ⟨k + 1, by omega, by go_num, any_step _ _ k c0 HC.out hs.out ht⟩
        case measure => simp [intOf]; omega
    · clear h
      go_wp2
      go_ret
      exact ⟨ret_bool (any_end _ _ k (by have := hlen.out; omega) hs.out).symm, rfl⟩

set_option maxHeartbeats 400000 in
theorem allNamed_any (B : Nat) (a : Option Addr) (n c : Nat) (cs : List Co) (B' : Nat) (a' : Option Addr) (n' c' : Nat) (ks : List ByteArray) (w : World) (hn : n ≤ maxLen) (h : Cols w B a n cs)
    (hn' : n' ≤ maxLen) (h' : Strs w B' a' n' ks) :
    Calls Try.prog 7 #[.slice a n c, .slice a' n' c'] w fun e w' => e = .returned (.bool (ks.all (hasN cs))) ∧ w' = w := by
  have hm := hn
  have hm' := hn'
  unfold maxLen at hn'
  have hlen : Hid (ks.length = n') := h'.1
  go_enter Try.func7, Try.ntmps7
  go_wp2
  go_loop [5] (fun i => ∃ k : Nat, k ≤ n' ∧ i = .int .i64 k ∧ Hid ((ks.take k).all (hasN cs) = true)) (fun i => n' - (intOf i).toNat)
  case atStart => exact ⟨0, Nat.zero_le _, rfl, rfl⟩
  case round =>
    obtain ⟨k, hk, rfl, hs⟩ := hrel
    by_cases hlt : k < n'
    · obtain ⟨b, off, s, rfl, hb, hck, hc⟩ := h'.at hlt
      have HC : Hid (ks[k]? = some s) := hck
      clear hck h'
      go_wp2_with (go_at_call 15; refine (hasName_any B a n c s cs w hm h).mono ?_; rintro e w' ⟨rfl, rfl⟩)
      · have ht0 : (!hasN cs s) = true := by assumption
        have ht : hasN cs s = false := by simpa using ht0
        go_ret
        exact ⟨ret_bool (all_at _ _ k s HC.out ht).symm, rfl⟩
      · have ht0 : (!hasN cs s) = false := by assumption
        have ht : hasN cs s = true := by simpa using ht0
        go_round
        case rel => exact ⟨k + 1, by omega, by go_num, all_step _ _ k s HC.out hs.out ht⟩
        case measure => simp [intOf]; omega
    · clear h'
      go_wp2
      go_ret
      exact ⟨ret_bool (all_end _ _ k (by have := hlen.out; omega) hs.out).symm, rfl⟩
end Go.Proofs.Qxb6628450a
