/-
  THE WALKS OF THE SMALL FUNCTIONS: lowerByteB1, ZZnewName, ZZwire, validWireB1, foldEqualB1.
-/
import Derived.Test.Qxb6629014aBase
import Derived.WalkSpells
import Derived.WalkSmall
import Derived.Deep.QuietTactic
import Derived.BigQuiet
namespace Go.Proofs.Qxb6629014a
open Go.RowKit

theorem u8_bd (c : UInt8) : 0 ≤ (c.toNat : Int) ∧ (c.toNat : Int) ≤ 255 := by
  have := c.toNat_lt
  omega

theorem lower_any (c : UInt8) (w : World) : Calls Try.prog 14 #[.int .u8 c.toNat] w fun e w' => e = .returned (.int .u8 (lowerB c).toNat) ∧ w' = w := by
  have hb := u8_bd c
  by_cases h : 65 ≤ c.toNat ∧ c.toNat ≤ 90
  · have h1 : (65 : Int) ≤ c.toNat := by omega
    have h2 : (c.toNat : Int) ≤ 90 := by omega
    have e := lowerB_yes h
    have HE := hide e
    clear e h
    go_enter Try.func14, Try.ntmps14
    go_wp2
    go_ret
    rw [unhide HE]
    exact ⟨rfl, rfl⟩
  · have e := lowerB_no h
    rw [e]
    clear e
    by_cases h1 : (65 : Int) ≤ c.toNat
    · have h2 : ¬ (c.toNat : Int) ≤ 90 := by omega
      clear h
      go_enter Try.func14, Try.ntmps14
      go_wp2
      go_ret
      exact ⟨rfl, rfl⟩
    · clear h
      go_enter Try.func14, Try.ntmps14
      go_wp2
      go_ret
      exact ⟨rfl, rfl⟩

theorem newName_any (s : ByteArray) (w : World) : Calls Try.prog 11 #[.string s] w fun e w' => e = .returned (.agg #[.string s]) ∧ Below w.heap.size w w' := by
  go_enter Try.func11, Try.ntmps11
  go_wp2
  exact bodyPost_ret (v := .agg #[.string s]) (by simp [results, Try.results11, go_sem]) rfl ⟨rfl, (Below.refl _ _).alloc (Nat.le_refl _) _⟩

theorem wire_any (s : ByteArray) (w : World) : Calls Try.prog 13 #[.agg #[.string s]] w fun e w' => e = .returned (.string s) ∧ Below w.heap.size w w' := by
  go_enter Try.func13, Try.ntmps13
  go_wp2
  go_ret
  exact ⟨rfl, (Below.refl _ _).alloc (Nat.le_refl _) _⟩

theorem ret_bool {a b : Bool} (h : a = b) : Ending.returned (.bool a) = .returned (.bool b) := by rw [h]

theorem valid_bad (s : ByteArray) (f k : Nat) (hlt : k < s.size) (h0 : s.size ≤ k + f) (h : s[k].toNat = 0 ∨ 63 < s[k].toNat) : validFrom s f k = false := by
  obtain ⟨f, rfl⟩ : ∃ f', f = f' + 1 := ⟨f - 1, by omega⟩
  rw [validFrom_step s f k hlt]
  rcases h with h | h
  · simp [h]
  · have : ¬ s[k].toNat ≤ 63 := by omega
    simp [this]
theorem valid_good (s : ByteArray) (f k : Nat) (hlt : k < s.size) (h0 : s.size ≤ k + f) (h1 : s[k].toNat ≠ 0) (h2 : s[k].toNat ≤ 63) :
    ∃ f', s.size ≤ k + 1 + s[k].toNat + f' ∧ validFrom s f' (k + 1 + s[k].toNat) = validFrom s f k := by
  obtain ⟨f, rfl⟩ : ∃ f', f = f' + 1 := ⟨f - 1, by omega⟩
  refine ⟨f, by omega, ?_⟩
  rw [validFrom_step s f k hlt]
  simp [h1, h2]

theorem valid_any (s : ByteArray) (w : World) (hs : s.size ≤ maxLen) : Calls Try.prog 6 #[.string s] w fun e w' => e = .returned (.bool (validW s)) ∧ w' = w := by
  unfold maxLen at hs
  by_cases hl : s.size ≤ 254
  · have hl' : (s.size : Int) ≤ 254 := by omega
    have hv : validW s = validFrom s 254 0 := by simp [validW, hl]
    rw [hv]
    clear hv
    go_enter Try.func6, Try.ntmps6
    go_wp2
    go_loop [3] (fun i => ∃ k f : Nat, k ≤ 254 + 64 ∧ i = .int .i64 k ∧ Hid (s.size ≤ k + f ∧ validFrom s f k = validFrom s 254 0)) (fun i => s.size - (intOf i).toNat)
    case atStart => exact ⟨0, 254, by omega, rfl, by omega, rfl⟩
    case round =>
      obtain ⟨k, f, hk, rfl, hv⟩ := hrel
      by_cases hlt : k < s.size
      · have hub := u8_bd s[k]
        go_wp2
        · have h1 : s[k].toNat = 0 := by assumption
          go_ret
          exact ⟨ret_bool (by rw [← (unhide hv).2, valid_bad s f k hlt (unhide hv).1 (.inl h1)]), rfl⟩
        · have h1 : ((s[k].toNat : Int) == 0) = true ∨ (63 : Int) < s[k].toNat := by assumption
          have h2 : s[k].toNat = 0 ∨ 63 < s[k].toNat := by
            rcases h1 with h1 | h1
            · left; simpa using h1
            · right; omega
          go_ret
          exact ⟨ret_bool (by rw [← (unhide hv).2, valid_bad s f k hlt (unhide hv).1 h2]), rfl⟩
        · have h1 : ¬ s[k].toNat = 0 := by assumption
          have h2 : ((s[k].toNat : Int) == 0) = false ∧ (s[k].toNat : Int) ≤ 63 := by assumption
          obtain ⟨f', a1, a2⟩ := valid_good s f k hlt (unhide hv).1 h1 (by omega)
          go_round
          case rel => exact ⟨k + 1 + s[k].toNat, f', by omega, by go_num, a1, a2.trans (unhide hv).2⟩
          case measure => simp [intOf]; omega
      · go_wp2
        go_ret
        refine ⟨ret_bool ?_, rfl⟩
        rw [← (unhide hv).2, validFrom_end s f k hlt, Bool.eq_iff_iff]
        simp
        omega
  · have hl' : ¬ (s.size : Int) ≤ 254 := by omega
    have hv : validW s = false := by simp [validW, hl]
    rw [hv]
    go_enter Try.func6, Try.ntmps6
    go_wp2
    go_ret
    exact ⟨rfl, rfl⟩

theorem canon_at (s : ByteArray) (k : Nat) (h : k < s.size) : (canon s).data.toList[k]? = some (lowerB s[k]) := by
  rw [canon_data]
  have hk : k < s.data.toList.length := by simpa using h
  rw [List.getElem?_map, List.getElem?_eq_getElem hk]
  rfl

/-- Two lists of octets that agree in lower case as far as k. -/
def agree (a b : ByteArray) (k : Nat) : Prop := ∀ j, j < k → (canon a).data.toList[j]? = (canon b).data.toList[j]?
theorem agree_step {a b : ByteArray} {k : Nat} (h : agree a b k) (ha : k < a.size) (hb : k < b.size) (e : (lowerB a[k]).toNat = (lowerB b[k]).toNat) : agree a b (k + 1) := by
  intro j hj
  by_cases hk : j < k
  · exact h j hk
  · obtain rfl : j = k := by omega
    rw [canon_at a j ha, canon_at b j hb, UInt8.toNat_inj.1 e]
theorem agree_all {a b : ByteArray} (hl : a.size = b.size) (h : agree a b a.size) : canon a = canon b := by
  apply ByteArray.ext
  apply Array.toList_inj.1
  apply List.ext_getElem?
  intro j
  by_cases hj : j < a.size
  · exact h j hj
  · have h1 : (canon a).data.toList.length ≤ j := by
      have := canon_size a
      simp only [ByteArray.size] at this hj
      rw [Array.length_toList]; omega
    have h2 : (canon b).data.toList.length ≤ j := by
      have := canon_size b
      simp only [ByteArray.size] at this hj hl
      rw [Array.length_toList]; omega
    rw [List.getElem?_eq_none h1, List.getElem?_eq_none h2]

/-- a and b are the same octets but for the case of ASCII letters. -/
def foldEq (a b : ByteArray) : Bool := (canon a).toList == (canon b).toList

theorem foldEq_no {a b : ByteArray} {k : Nat} (ha : k < a.size) (hb : k < b.size) (e : (lowerB a[k]).toNat ≠ (lowerB b[k]).toNat) : foldEq a b = false := by
  unfold foldEq
  rw [ByteArray.toList_eq, ByteArray.toList_eq]
  simp only [beq_eq_false_iff_ne, ne_eq]
  intro h
  have := congrArg (fun l => l[k]?) h
  simp only [canon_at a k ha, canon_at b k hb, Option.some.injEq] at this
  exact e (by rw [this])
theorem foldEq_len {a b : ByteArray} (h : a.size ≠ b.size) : foldEq a b = false := by
  unfold foldEq
  rw [ByteArray.toList_eq, ByteArray.toList_eq]
  simp only [beq_eq_false_iff_ne, ne_eq]
  intro e
  have := congrArg List.length e
  rw [canon_data, canon_data] at this
  simp at this
  exact h this
theorem foldEq_yes {a b : ByteArray} (h : canon a = canon b) : foldEq a b = true := by simp [foldEq, h]

theorem fold_any (a b : ByteArray) (w : World) (ha : a.size ≤ 254) : Calls Try.prog 8 #[.string a, .string b] w fun e w' => e = .returned (.bool (foldEq a b)) ∧ Below w.heap.size w w' := by
  by_cases hl : a.size = b.size
  · have hl' : ((a.size : Int) == (b.size : Int)) = true := by simp [hl]
    have HL := hide hl
    clear hl
    go_enter Try.func8, Try.ntmps8
    go_wp2
    go_loopw [5] (fun i wr => ∃ k : Nat, k ≤ a.size ∧ i = .int .i64 k ∧ Hid (agree a b k) ∧ Below w.heap.size w wr) (fun i _ => a.size - (intOf i).toNat)
    case atStart => exact ⟨0, Nat.zero_le _, rfl, fun j hj => by omega, Below.refl _ _⟩
    case round =>
      obtain ⟨k, hk, rfl, hag, hbw⟩ := hrel
      by_cases hlt : k < a.size
      · have hltb : k < b.size := by have := unhide HL; omega
        have hi : (k : Int) < (a.size : Int) := by omega
        have hib : (k : Int) < (b.size : Int) := by omega
        go_wp2
        go_quiet ((go_at_call 14; exact Calls.quiet_of_same (lower_any _ _)))
        go_wp2
        · have h1 : (((lowerB a[k]).toNat : Int) != ((lowerB b[k]).toNat : Int)) = true := by assumption
          go_ret
          exact ⟨ret_bool (foldEq_no hlt hltb (by simp at h1; omega)).symm, below_drewN hbw _⟩
        · have h1 : (((lowerB a[k]).toNat : Int) != ((lowerB b[k]).toNat : Int)) = false := by assumption
          go_roundw
          case rel => exact ⟨k + 1, by omega, by go_num, agree_step (unhide hag) hlt hltb (by simp at h1; omega), below_drewN hbw _⟩
          case measure => simp [intOf]; omega
      · go_wp2
        go_ret
        exact ⟨ret_bool (foldEq_yes (agree_all (unhide HL) (by obtain rfl : k = a.size := (by omega); exact unhide hag))).symm, hbw⟩
  · have hl' : ((a.size : Int) == (b.size : Int)) = false := by simp; omega
    go_enter Try.func8, Try.ntmps8
    go_wp2
    go_ret
    exact ⟨ret_bool (foldEq_len hl).symm, Below.refl _ _⟩
end Go.Proofs.Qxb6629014a
