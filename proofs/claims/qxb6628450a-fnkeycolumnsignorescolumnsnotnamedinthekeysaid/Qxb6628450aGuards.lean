/-
  THE WALKS OF THE TWO GUARDS: zzBytes (whatever it answers, it returns and touches nothing), zzTooBig (where it answers false the two lengths are at most 4096).
-/
import Derived.Test.Qxb6628450aBase
import Derived.Deep.QuietTactic
import Derived.BigQuiet
namespace Go.Proofs.Qxb6628450a
open Go.RowKit

set_option maxHeartbeats 1000000 in
theorem bytes3_any (nm : ByteArray) (B : Nat) (a : Option Addr) (n c : Nat) (cs : List Co) (B' : Nat) (a' : Option Addr) (n' c' : Nat) (ks : List ByteArray) (cut : Int) (w : World) (hn : n ≤ maxLen) (h : Cols w B a n cs)
    (hn' : n' ≤ maxLen) (h' : Strs w B' a' n' ks) :
    Calls Try.prog 5 #[.string nm, .slice a n c, .slice a' n' c', .int .i64 cut] w fun e w' => IsBool e ∧ w' = w := by
  unfold maxLen at hn hn'
  go_enter Try.func5, Try.ntmps5
  go_wp2
  all_goals (try (go_ret; exact ⟨isBool _, rfl⟩))
  go_loop [9, 10] (fun t i => ∃ (k : Nat) (z : Int), k ≤ n ∧ i = .int .i64 k ∧ t = .int .i64 z) (fun _ i => n - (intOf i).toNat)
  case atStart => exact ⟨0, _, Nat.zero_le _, rfl, rfl⟩
  case round =>
    obtain ⟨k, z, hk, rfl, rfl⟩ := hrel
    by_cases hlt : k < n
    · obtain ⟨b, off, c0, rfl, hb, hck, hc0, hc1, -⟩ := h.at hlt
      clear hck h h'
      go_wp2
      all_goals (try (go_ret; exact ⟨isBool _, rfl⟩))
      go_round
      case rel => exact ⟨k + 1, _, by omega, by go_num, rfl⟩
      case measure => simp [intOf]; omega
    · clear h
      go_wp2
      all_goals (try (go_ret; exact ⟨isBool _, rfl⟩))
      go_loop [9, 11] (fun t i => ∃ (k : Nat) (z : Int), k ≤ n' ∧ i = .int .i64 k ∧ t = .int .i64 z) (fun _ i => n' - (intOf i).toNat)
      case atStart => exact ⟨0, _, Nat.zero_le _, rfl, rfl⟩
      case round =>
        clear hlt hk
        obtain ⟨k, z, hk, rfl, rfl⟩ := hrel
        by_cases hlt : k < n'
        · obtain ⟨b, off, c0, rfl, hb, hck, hc0⟩ := h'.at hlt
          clear hck h'
          go_wp2
          all_goals (try (go_ret; exact ⟨isBool _, rfl⟩))
          go_round
          case rel => exact ⟨k + 1, _, by omega, by go_num, rfl⟩
          case measure => simp [intOf]; omega
        · clear h'
          go_wp2
          go_ret
          exact ⟨isBool _, rfl⟩
set_option maxHeartbeats 1000000 in
theorem bytes4_any (nm : ByteArray) (B : Nat) (a : Option Addr) (n c : Nat) (cs : List Co) (B' : Nat) (a' : Option Addr) (n' c' : Nat) (ks : List ByteArray) (x0 x1 x2 x3 x4 : Value) (hx0 : ∃ s, x0 = .string s) (hx1 : ∃ s, x1 = .string s) (cut : Int) (w : World) (hn : n ≤ maxLen) (h : Cols w B a n cs)
    (hn' : n' ≤ maxLen) (h' : Strs w B' a' n' ks) (hB : B ≤ w.heap.size) (hB' : B' ≤ w.heap.size) :
    Calls Try.prog 11 #[.string nm, .slice a n c, .slice a' n' c', .agg #[x0, x1, x2, x3, x4], .int .i64 cut] w fun e w' => IsBool e ∧ Below w.heap.size w w' := by
  unfold maxLen at hn hn'
  obtain ⟨s0, rfl⟩ := hx0
  obtain ⟨s1, rfl⟩ := hx1
  go_enter Try.func11, Try.ntmps11
  go_wp2
  all_goals (try (go_ret; exact ⟨isBool _, (Below.refl _ _).alloc (Nat.le_refl _) _⟩))
  go_loop [11, 12] (fun t i => ∃ (k : Nat) (z : Int), k ≤ n ∧ i = .int .i64 k ∧ t = .int .i64 z) (fun _ i => n - (intOf i).toNat)
  case atStart => exact ⟨0, _, Nat.zero_le _, rfl, rfl⟩
  case round =>
    obtain ⟨k, z, hk, rfl, rfl⟩ := hrel
    by_cases hlt : k < n
    · obtain ⟨b, off, c0, rfl, hb, hck, hc0, hc1, -⟩ := h.at hlt
      have hb1 : b < w.heap.size := by omega
      clear hck h h'
      go_wp2
      all_goals (try (go_ret; exact ⟨isBool _, (Below.refl _ _).alloc (Nat.le_refl _) _⟩))
      go_round
      case rel => exact ⟨k + 1, _, by omega, by go_num, rfl⟩
      case measure => simp [intOf]; omega
    · clear h
      go_wp2
      all_goals (try (go_ret; exact ⟨isBool _, (Below.refl _ _).alloc (Nat.le_refl _) _⟩))
      go_loop [11, 13] (fun t i => ∃ (k : Nat) (z : Int), k ≤ n' ∧ i = .int .i64 k ∧ t = .int .i64 z) (fun _ i => n' - (intOf i).toNat)
      case atStart => exact ⟨0, _, Nat.zero_le _, rfl, rfl⟩
      case round =>
        clear hlt hk
        obtain ⟨k, z, hk, rfl, rfl⟩ := hrel
        by_cases hlt : k < n'
        · obtain ⟨b, off, c0, rfl, hb, hck, hc0⟩ := h'.at hlt
          have hb1 : b < w.heap.size := by omega
          clear hck h'
          go_wp2
          all_goals (try (go_ret; exact ⟨isBool _, (Below.refl _ _).alloc (Nat.le_refl _) _⟩))
          go_round
          case rel => exact ⟨k + 1, _, by omega, by go_num, rfl⟩
          case measure => simp [intOf]; omega
        · clear h'
          go_wp2
          all_goals go_ret
          all_goals exact ⟨isBool _, (Below.refl _ _).alloc (Nat.le_refl _) _⟩
/-- What zzTooBig's answer tells. -/
def TooBig (n n' : Nat) (e : Ending) : Prop := ∃ r, e = .returned (.bool r) ∧ (r = false → n ≤ 4096 ∧ n' ≤ 4096)
theorem tooBig_true (n n' : Nat) : TooBig n n' (.returned (.bool true)) := ⟨true, rfl, fun h => by cases h⟩
theorem tooBig_false (n n' : Nat) (h : (n : Int) ≤ 4096) (h' : (n' : Int) ≤ 4096) : TooBig n n' (.returned (.bool false)) := ⟨false, rfl, fun _ => ⟨by omega, by omega⟩⟩

set_option maxHeartbeats 1000000 in
theorem tooBig_any (nm : ByteArray) (B : Nat) (a : Option Addr) (n c : Nat) (cs : List Co) (B' : Nat) (a' : Option Addr) (n' c' : Nat) (ks : List ByteArray) (x : Int) (w : World) (h : Cols w B a n cs)
    (h' : Strs w B' a' n' ks) :
    Calls Try.prog 6 #[.string nm, .slice a n c, .slice a' n' c', .int .i64 x] w fun e w' => TooBig n n' e ∧ ∃ m, w' = w.drewN m := by
  by_cases hn : (4096 : Int) < n
  · go_enter Try.func6, Try.ntmps6
    go_wp2
    go_ret
    exact ⟨tooBig_true _ _, 0, rfl⟩
  by_cases hn' : (4096 : Int) < n'
  · go_enter Try.func6, Try.ntmps6
    go_wp2
    go_ret
    exact ⟨tooBig_true _ _, 0, rfl⟩
  have hm : (n : Int) ≤ 4096 := by omega
  have hm' : (n' : Int) ≤ 4096 := by omega
  clear hn hn'
  go_enter Try.func6, Try.ntmps6
  go_wp2
  all_goals (try (go_ret; exact ⟨tooBig_true _ _, 0, rfl⟩))
  go_loopw [9, 10] (fun t i wr => ∃ (k : Nat) (z : Int) (m : Nat), k ≤ n ∧ i = .int .i64 k ∧ t = .int .i64 z ∧ wr = w.drewN m) (fun _ i _ => n - (intOf i).toNat)
  case atStart => exact ⟨0, _, 0, Nat.zero_le _, rfl, rfl, rfl⟩
  case round =>
    obtain ⟨k, z, m, hk, rfl, rfl, rfl⟩ := hrel
    by_cases hlt : k < n
    · obtain ⟨b, off, c0, rfl, hb, hck, hc0, hc1, -⟩ := h.at hlt
      clear hck h h'
      have hi : (k : Int) < n := by omega
      go_wp2
      go_quiet (fail)
      go_wp2
      · go_ret
        exact ⟨tooBig_true _ _, _, rfl⟩
      · go_roundw
        case rel => exact ⟨k + 1, _, _, by omega, by go_num, rfl, rfl⟩
        case measure => simp [intOf]; omega
    · clear h
      go_wp2
      go_loop [9, 11] (fun t i => ∃ (k : Nat) (z : Int), k ≤ n' ∧ i = .int .i64 k ∧ t = .int .i64 z) (fun _ i => n' - (intOf i).toNat)
      case atStart => exact ⟨0, _, Nat.zero_le _, rfl, rfl⟩
      case round =>
        clear hlt hk
        obtain ⟨k, z, hk, rfl, rfl⟩ := hrel
        by_cases hlt : k < n'
        · obtain ⟨b, off, c0, rfl, hb, hck, hc0⟩ := h'.at hlt
          clear hck h'
          go_wp2
          · go_ret
            exact ⟨tooBig_true _ _, _, rfl⟩
          · go_round
            case rel => exact ⟨k + 1, _, by omega, by go_num, rfl⟩
            case measure => simp [intOf]; omega
        · clear h'
          go_wp2
          go_ret
          exact ⟨tooBig_false _ _ hm hm', _, rfl⟩

end Go.Proofs.Qxb6628450a
