/-
  THE WALKS OF THE TWO LAWS, out of the contracts.
-/
import Derived.Test.Qxb6629014aLabel
import Derived.Laws.Concat
namespace Go.Proofs.Qxb6629014a
open Go.RowKit

/-- It returned some bool. -/
def IsBool (e : Ending) : Prop := ∃ r, e = .returned (.bool r)
theorem isBool (r : Bool) : IsBool (.returned (.bool r)) := ⟨r, rfl⟩

theorem bytes3_any (a b : ByteArray) (w : World) (ha : a.size ≤ maxLen) (hb : b.size ≤ maxLen) : Calls Try.prog 5 #[.string a, .string b] w fun e w' => IsBool e ∧ w' = w := by
  unfold maxLen at ha hb
  go_enter Try.func5, Try.ntmps5
  go_wp2
  all_goals (go_ret; exact ⟨isBool _, rfl⟩)
theorem bytes4_any (a b : ByteArray) (w : World) (ha : a.size ≤ maxLen) (hb : b.size ≤ maxLen) : Calls Try.prog 10 #[.string a, .string b] w fun e w' => IsBool e ∧ w' = w := by
  unfold maxLen at ha hb
  go_enter Try.func10, Try.ntmps10
  go_wp2
  all_goals (go_ret; exact ⟨isBool _, rfl⟩)

set_option maxHeartbeats 1000000 in
theorem walk3 (a b : ByteArray) (w : World) (ha : a.size ≤ maxLen) (hb : b.size ≤ maxLen) :
    Calls Try.prog 3 #[.string a, .string b] w fun e w' => e = .returned (.bool true) ∧ Below w.heap.size w w' := by
  go_enter Try.func3, Try.ntmps3
  go_wp2_with fail
  refine (bytes3_any a b w ha hb).mono ?_
  rintro e w1 ⟨⟨r, rfl⟩, rfl⟩
  cases r with
  | false =>
    go_wp2
    go_ret
    exact ⟨rfl, Below.refl _ _⟩
  | true =>
    by_cases h1 : (1048576 : Int) < a.size
    · go_wp2
      go_ret
      exact ⟨rfl, Below.refl _ _⟩
    by_cases h2 : (1048576 : Int) < b.size
    · go_wp2
      go_ret
      exact ⟨rfl, Below.refl _ _⟩
    go_wp2_with fail
    refine (valid_any a w1 ha).mono ?_
    rintro e w2 ⟨rfl, rfl⟩
    cases hva : validW a with
    | false =>
      go_wp2
      go_ret
      exact ⟨rfl, Below.refl _ _⟩
    | true =>
      go_wp2_with fail
      refine (valid_any b w2 hb).mono ?_
      rintro e w3 ⟨rfl, rfl⟩
      cases hvb : validW b with
      | false =>
        go_wp2
        go_ret
        exact ⟨rfl, Below.refl _ _⟩
      | true =>
        have hA := hide hva
        have hB := hide hvb
        have ha' : a.size ≤ 254 := by simp only [validW, Bool.and_eq_true, decide_eq_true_eq] at hva; exact hva.1
        have hb' : b.size ≤ 254 := by simp only [validW, Bool.and_eq_true, decide_eq_true_eq] at hvb; exact hvb.1
        clear hva hvb h1 h2
        go_wp2_with fail
        refine (canonB1_any a w3 ha').mono ?_
        rintro e w4 ⟨rfl, b4⟩
        go_wp2_with fail
        refine (canonB1_any b w4 hb').mono ?_
        rintro e w5 ⟨rfl, b5⟩
        have b5' := b4.trans (b5.mono b4.size)
        clear b4 b5
        go_wp2_with fail
        refine (fold_any a b w5 ha').mono ?_
        rintro e w6 ⟨rfl, b6⟩
        have b6' := b5'.trans (b6.mono b5'.size)
        clear b5' b6
        unfold foldEq
        have hn : (((canon a).toList == (canon b).toList) != ((canon a).toList == (canon b).toList)) = false := by simp
        go_wp2_with fail
        refine (label_any a w6 (unhide hA)).mono ?_
        rintro e w7 ⟨rfl, b7⟩
        have b7' := b6'.trans (b7.mono b6'.size)
        clear b6' b7
        go_wp2_with fail
        refine (label_any b w7 (unhide hB)).mono ?_
        rintro e w8 ⟨rfl, b8⟩
        have b8' := b7'.trans (b8.mono b7'.size)
        clear b7' b8
        go_wp2
        go_ret
        exact ⟨rfl, b8'⟩

set_option maxHeartbeats 1000000 in
theorem walk4 (a b : ByteArray) (w : World) (ha : a.size ≤ maxLen) (hb : b.size ≤ maxLen) :
    Calls Try.prog 4 #[.string a, .string b] w fun e w' => e = .returned (.bool true) ∧ Below w.heap.size w w' := by
  go_enter Try.func4, Try.ntmps4
  go_wp2_with fail
  refine (bytes4_any a b w ha hb).mono ?_
  rintro e w1 ⟨⟨r, rfl⟩, rfl⟩
  cases r with
  | false =>
    go_wp2
    go_ret
    exact ⟨rfl, Below.refl _ _⟩
  | true =>
    by_cases h1 : (1048576 : Int) < a.size
    · go_wp2
      go_ret
      exact ⟨rfl, Below.refl _ _⟩
    by_cases h2 : (1048576 : Int) < b.size
    · go_wp2
      go_ret
      exact ⟨rfl, Below.refl _ _⟩
    go_wp2_with fail
    refine (valid_any a w1 ha).mono ?_
    rintro e w2 ⟨rfl, rfl⟩
    cases hva : validW a with
    | false =>
      go_wp2
      go_ret
      exact ⟨rfl, Below.refl _ _⟩
    | true =>
      go_wp2_with fail
      refine (valid_any b w2 hb).mono ?_
      rintro e w3 ⟨rfl, rfl⟩
      cases hvb : validW b with
      | false =>
        go_wp2
        go_ret
        exact ⟨rfl, Below.refl _ _⟩
      | true =>
        by_cases hsum : (254 : Int) < (a.size : Int) + (b.size : Int)
        · go_wp2
          go_ret
          exact ⟨rfl, Below.refl _ _⟩
        have hA := hide hva
        have hB := hide hvb
        have ha' : a.size ≤ 254 := by simp only [validW, Bool.and_eq_true, decide_eq_true_eq] at hva; exact hva.1
        have hb' : b.size ≤ 254 := by simp only [validW, Bool.and_eq_true, decide_eq_true_eq] at hvb; exact hvb.1
        have hab : (a ++ b).size ≤ 254 := by rw [ByteArray.size_append]; omega
        clear hva hvb h1 h2
        go_wp2_with fail
        refine (newName_any a w3).mono ?_
        rintro e w4 ⟨rfl, b4⟩
        go_wp2_with fail
        refine (canonical_any a w4 ha').mono ?_
        rintro e w5 ⟨rfl, b5⟩
        have b5' := b4.trans (b5.mono b4.size)
        clear b4 b5
        go_wp2_with fail
        obtain ⟨W5, hW5⟩ : ∃ W5, W5 = w5.alloc (.cells #[.string (canon a)] 26) := ⟨_, rfl⟩
        rw [← hW5]
        have c5 : W5.cell? ⟨w5.heap.size, 0, none⟩ = some (.string (canon a)) := by rw [hW5]; simp
        have s5 : w5.heap.size < W5.heap.size := by rw [hW5]; simp
        have b6 : Below w3.heap.size w3 W5 := by rw [hW5]; exact b5'.alloc b5'.size _
        clear hW5 b5'
        refine (wire_any (canon a) W5).mono ?_
        rintro e w6 ⟨rfl, b7⟩
        have c6 := (b7.cell (p := ⟨w5.heap.size, 0, none⟩) s5).trans c5
        have s6 : w5.heap.size < w6.heap.size := Nat.lt_of_lt_of_le s5 b7.size
        have b7' := b6.trans (b7.mono b6.size)
        clear b6 b7 c5 s5
        go_wp2_with fail
        refine (canonB1_any b w6 hb').mono ?_
        rintro e w7 ⟨rfl, b8⟩
        have c7 := (b8.cell (p := ⟨w5.heap.size, 0, none⟩) s6).trans c6
        have s7 : w5.heap.size < w7.heap.size := Nat.lt_of_lt_of_le s6 b8.size
        have b8' := b7'.trans (b8.mono b7'.size)
        clear b7' b8 c6 s6
        go_wp2_with fail
        refine (canonB1_any (a ++ b) w7 hab).mono ?_
        rintro e w8 ⟨rfl, b9⟩
        have c8 := (b9.cell (p := ⟨w5.heap.size, 0, none⟩) s7).trans c7
        have s8 : w5.heap.size < w8.heap.size := Nat.lt_of_lt_of_le s7 b9.size
        have b9' := b8'.trans (b9.mono b8'.size)
        clear b8' b9 c7 s7
        rw [canon_append]
        have z1 : (canon a).size ≤ 254 := by rw [canon_size]; exact ha'
        have z2 : (canon b).size ≤ 254 := by rw [canon_size]; exact hb'
        go_wp2_with fail
        refine (canonical_any (canon a) w8 z1).mono ?_
        rintro e w9 ⟨rfl, b10⟩
        have b10' := b9'.trans (b10.mono b9'.size)
        clear b9' b10
        go_wp2_with fail
        refine (wire_any _ w9).mono ?_
        rintro e w10 ⟨rfl, b11⟩
        have b11' := b10'.trans (b11.mono b10'.size)
        clear b10' b11
        rw [canon_idem]
        go_wp2_with fail
        refine (label_any a w10 (unhide hA)).mono ?_
        rintro e w11 ⟨rfl, b12⟩
        have b12' := b11'.trans (b12.mono b11'.size)
        clear b11' b12
        go_wp2_with fail
        refine (label_any b w11 (unhide hB)).mono ?_
        rintro e w12 ⟨rfl, b13⟩
        have b13' := b12'.trans (b13.mono b12'.size)
        clear b12' b13
        go_wp2
        go_ret
        exact ⟨rfl, b13'⟩
end Go.Proofs.Qxb6629014a
