/-
  THE WALK OF FnResetNameIsPrefixFreeToken: the three names; fmt is never come to.
-/
import Derived.Test.Qxb6628762aFmtProg
import Derived.WalkKit
import Derived.WalkSpells
namespace Go.Proofs.Qxb6628762aFmt
open Go.RowKit

/-- 'none', 'received', 'sent'. -/
def nm0 : ByteArray := ⟨#[110, 111, 110, 101]⟩
def nm1 : ByteArray := ⟨#[114, 101, 99, 101, 105, 118, 101, 100]⟩
def nm2 : ByteArray := ⟨#[115, 101, 110, 116]⟩

theorem name0 (w : World) : Calls Tryf.prog 5 #[.int .i64 0] w fun e w' => e = .returned (.string nm0) ∧ w' = w := by
  go_enter Tryf.func5, Tryf.ntmps5
  go_wp2
  go_ret
  exact ⟨rfl, rfl⟩
theorem name1 (w : World) : Calls Tryf.prog 5 #[.int .i64 1] w fun e w' => e = .returned (.string nm1) ∧ w' = w := by
  go_enter Tryf.func5, Tryf.ntmps5
  go_wp2
  go_ret
  exact ⟨rfl, rfl⟩
theorem name2 (w : World) : Calls Tryf.prog 5 #[.int .i64 2] w fun e w' => e = .returned (.string nm2) ∧ w' = w := by
  go_enter Tryf.func5, Tryf.ntmps5
  go_wp2
  go_ret
  exact ⟨rfl, rfl⟩

/-- isLowerToken says yes of a word that is not empty and has lower-case letters alone. -/
theorem lower_any (s : ByteArray) (w : World) (h0 : ((s.size : Int) == 0) = false) (hm : s.size ≤ 100) (hs : ∀ (k : Nat) (h : k < s.size), 97 ≤ s[k].toNat ∧ s[k].toNat ≤ 122) :
    Calls Tryf.prog 6 #[.string s] w fun e w' => e = .returned (.bool true) ∧ w' = w := by
  have HS : Hid (∀ (k : Nat) (h : k < s.size), 97 ≤ s[k].toNat ∧ s[k].toNat ≤ 122) := hs
  clear hs
  go_enter Tryf.func6, Tryf.ntmps6
  go_wp2
  go_loop [3] (fun i => ∃ k : Nat, k ≤ s.size ∧ i = .int .i64 k) (fun i => s.size - (intOf i).toNat)
  case atStart => exact ⟨0, Nat.zero_le _, rfl⟩
  case round =>
    obtain ⟨k, hk, rfl⟩ := hrel
    by_cases hlt : k < s.size
    · go_wp2
      · have := HS.out k hlt
        have h1 : (s[k].toNat : Int) < 97 ∨ (122 : Int) < s[k].toNat := by assumption
        omega
      · go_round
        case rel => exact ⟨k + 1, by omega, by go_num⟩
        case measure => simp [intOf]; omega
      · have := HS.out k hlt
        have h1 : (s[k].toNat : Int) < 97 := by assumption
        omega
    · go_wp2
      go_ret
      exact ⟨rfl, rfl⟩

/-- startsWith says no where the prefix is longer or parts. -/
theorem starts_no (s p : ByteArray) (w : World) (hp : p.size ≤ 100) (h : s.size < p.size ∨ ((s.extract 0 p.size).toList == p.toList) = false) :
    Calls Tryf.prog 7 #[.string s, .string p] w fun e w' => e = .returned (.bool false) ∧ w' = w := by
  by_cases hl : s.size < p.size
  · go_enter Tryf.func7, Tryf.ntmps7
    go_wp2
    go_ret
    exact ⟨rfl, rfl⟩
  · have he : ((s.extract 0 p.size).toList == p.toList) = false := by
      rcases h with h | h
      · exact absurd h hl
      · exact h
    clear h
    go_enter Tryf.func7, Tryf.ntmps7
    go_wp2
    go_ret
    exact ⟨rfl, rfl⟩

theorem lower0 (w : World) : Calls Tryf.prog 6 #[.string nm0] w fun e w' => e = .returned (.bool true) ∧ w' = w := lower_any nm0 w (by decide) (by decide) (by decide)
theorem lower1 (w : World) : Calls Tryf.prog 6 #[.string nm1] w fun e w' => e = .returned (.bool true) ∧ w' = w := lower_any nm1 w (by decide) (by decide) (by decide)
theorem lower2 (w : World) : Calls Tryf.prog 6 #[.string nm2] w fun e w' => e = .returned (.bool true) ∧ w' = w := lower_any nm2 w (by decide) (by decide) (by decide)

/-- The walk at two values whose names are x and y. -/
theorem walk_at (a b : Int) (x y : ByteArray) (w : World) (ha : 0 ≤ a ∧ a ≤ 2) (hb : 0 ≤ b ∧ b ≤ 2)
    (na : ∀ w, Calls Tryf.prog 5 #[.int .i64 a] w fun e w' => e = .returned (.string x) ∧ w' = w) (nb : ∀ w, Calls Tryf.prog 5 #[.int .i64 b] w fun e w' => e = .returned (.string y) ∧ w' = w)
    (la : ∀ w, Calls Tryf.prog 6 #[.string x] w fun e w' => e = .returned (.bool true) ∧ w' = w) (lb : ∀ w, Calls Tryf.prog 6 #[.string y] w fun e w' => e = .returned (.bool true) ∧ w' = w)
    (h : (a = b ∧ x = y) ∨ (a ≠ b ∧ (∀ w, Calls Tryf.prog 7 #[.string x, .string y] w fun e w' => e = .returned (.bool false) ∧ w' = w) ∧ (∀ w, Calls Tryf.prog 7 #[.string y, .string x] w fun e w' => e = .returned (.bool false) ∧ w' = w))) :
    Calls Tryf.prog 3 #[.int .i64 a, .int .i64 b] w fun e w' => e = .returned (.bool true) ∧ w' = w := by
  obtain ⟨ha0, ha2⟩ := ha
  obtain ⟨hb0, hb2⟩ := hb
  have NA : Hid (∀ w, Calls Tryf.prog 5 #[.int .i64 a] w fun e w' => e = .returned (.string x) ∧ w' = w) := na
  have NB : Hid (∀ w, Calls Tryf.prog 5 #[.int .i64 b] w fun e w' => e = .returned (.string y) ∧ w' = w) := nb
  have LA : Hid (∀ w, Calls Tryf.prog 6 #[.string x] w fun e w' => e = .returned (.bool true) ∧ w' = w) := la
  have LB : Hid (∀ w, Calls Tryf.prog 6 #[.string y] w fun e w' => e = .returned (.bool true) ∧ w' = w) := lb
  clear na nb la lb
  go_enter Tryf.func3, Tryf.ntmps3
  go_wp2_with fail
  refine (NA.out w).mono ?_
  rintro e w1 ⟨rfl, rfl⟩
  go_wp2_with fail
  refine (NB.out _).mono ?_
  rintro e w2 ⟨rfl, rfl⟩
  go_wp2_with fail
  refine (LA.out _).mono ?_
  rintro e w3 ⟨rfl, rfl⟩
  go_wp2_with fail
  refine (LB.out _).mono ?_
  rintro e w4 ⟨rfl, rfl⟩
  rcases h with ⟨rfl, rfl⟩ | ⟨hne, s1, s2⟩
  · go_wp2
    go_ret
    exact ⟨rfl, rfl⟩
  · have S1 : Hid (∀ w, Calls Tryf.prog 7 #[.string x, .string y] w fun e w' => e = .returned (.bool false) ∧ w' = w) := s1
    have S2 : Hid (∀ w, Calls Tryf.prog 7 #[.string y, .string x] w fun e w' => e = .returned (.bool false) ∧ w' = w) := s2
    have hn : (a != b) = true := by simpa using hne
    clear s1 s2 hne
    go_wp2_with fail
    refine (S1.out _).mono ?_
    rintro e w5 ⟨rfl, rfl⟩
    go_wp2_with fail
    refine (S2.out _).mono ?_
    rintro e w6 ⟨rfl, rfl⟩
    go_wp2
    go_ret
    exact ⟨rfl, rfl⟩

theorem out_of_range (a b : Int) (w : World) (h : a < 0 ∨ 2 < a ∨ b < 0 ∨ 2 < b) :
    Calls Tryf.prog 3 #[.int .i64 a, .int .i64 b] w fun e w' => e = .returned (.bool true) ∧ w' = w := by
  by_cases h1 : a < 0
  · go_enter Tryf.func3, Tryf.ntmps3
    go_wp2
    go_ret
    exact ⟨rfl, rfl⟩
  by_cases h2 : 2 < a
  · go_enter Tryf.func3, Tryf.ntmps3
    go_wp2
    go_ret
    exact ⟨rfl, rfl⟩
  by_cases h3 : b < 0
  · go_enter Tryf.func3, Tryf.ntmps3
    go_wp2
    go_ret
    exact ⟨rfl, rfl⟩
  have h4 : 2 < b := by omega
  go_enter Tryf.func3, Tryf.ntmps3
  go_wp2
  go_ret
  exact ⟨rfl, rfl⟩

theorem walk (a b : Int) (w : World) : Calls Tryf.prog 3 #[.int .i64 a, .int .i64 b] w fun e w' => e = .returned (.bool true) ∧ w' = w := by
  by_cases h : a < 0 ∨ 2 < a ∨ b < 0 ∨ 2 < b
  · exact out_of_range a b w h
  obtain rfl | rfl | rfl : a = 0 ∨ a = 1 ∨ a = 2 := by omega
  · obtain rfl | rfl | rfl : b = 0 ∨ b = 1 ∨ b = 2 := by omega
    · exact walk_at 0 0 nm0 nm0 w (by omega) (by omega) name0 name0 lower0 lower0 (.inl ⟨rfl, rfl⟩)
    · exact walk_at 0 1 nm0 nm1 w (by omega) (by omega) name0 name1 lower0 lower1 (.inr ⟨by omega, fun w => starts_no _ _ w (by decide) (by decide +kernel), fun w => starts_no _ _ w (by decide) (by decide +kernel)⟩)
    · exact walk_at 0 2 nm0 nm2 w (by omega) (by omega) name0 name2 lower0 lower2 (.inr ⟨by omega, fun w => starts_no _ _ w (by decide) (by decide +kernel), fun w => starts_no _ _ w (by decide) (by decide +kernel)⟩)
  · obtain rfl | rfl | rfl : b = 0 ∨ b = 1 ∨ b = 2 := by omega
    · exact walk_at 1 0 nm1 nm0 w (by omega) (by omega) name1 name0 lower1 lower0 (.inr ⟨by omega, fun w => starts_no _ _ w (by decide) (by decide +kernel), fun w => starts_no _ _ w (by decide) (by decide +kernel)⟩)
    · exact walk_at 1 1 nm1 nm1 w (by omega) (by omega) name1 name1 lower1 lower1 (.inl ⟨rfl, rfl⟩)
    · exact walk_at 1 2 nm1 nm2 w (by omega) (by omega) name1 name2 lower1 lower2 (.inr ⟨by omega, fun w => starts_no _ _ w (by decide) (by decide +kernel), fun w => starts_no _ _ w (by decide) (by decide +kernel)⟩)
  · obtain rfl | rfl | rfl : b = 0 ∨ b = 1 ∨ b = 2 := by omega
    · exact walk_at 2 0 nm2 nm0 w (by omega) (by omega) name2 name0 lower2 lower0 (.inr ⟨by omega, fun w => starts_no _ _ w (by decide) (by decide +kernel), fun w => starts_no _ _ w (by decide) (by decide +kernel)⟩)
    · exact walk_at 2 1 nm2 nm1 w (by omega) (by omega) name2 name1 lower2 lower1 (.inr ⟨by omega, fun w => starts_no _ _ w (by decide) (by decide +kernel), fun w => starts_no _ _ w (by decide) (by decide +kernel)⟩)
    · exact walk_at 2 2 nm2 nm2 w (by omega) (by omega) name2 name2 lower2 lower2 (.inl ⟨rfl, rfl⟩)
end Go.Proofs.Qxb6628762aFmt
