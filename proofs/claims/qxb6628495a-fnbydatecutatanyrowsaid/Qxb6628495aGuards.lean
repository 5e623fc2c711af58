/-
  THE WALKS OF zzBytes (twice) AND spanFits.
-/
import Derived.Test.Qxb6628495aBase
import Derived.WalkSpells
namespace Go.Proofs.Qxb6628495a
open Go.RowKit

theorem bytes3_any (a : Option Addr) (n c : Nat) (w : World) (hn : n ≤ maxLen) : Calls Try.prog 5 #[.slice a n c] w fun e w' => IsBool e ∧ w' = w := by
  unfold maxLen at hn
  go_enter Try.func5, Try.ntmps5
  go_wp2
  all_goals (go_ret; exact ⟨isBool _, rfl⟩)
theorem bytes4_any (a : Option Addr) (n c : Nat) (k : Int) (w : World) (hn : n ≤ maxLen) : Calls Try.prog 9 #[.slice a n c, .int .i64 k] w fun e w' => IsBool e ∧ w' = w := by
  unfold maxLen at hn
  go_enter Try.func9, Try.ntmps9
  go_wp2
  all_goals (go_ret; exact ⟨isBool _, rfl⟩)

/-- All dates lie within 65536 days of each other. -/
def Span (ds : List Int) : Prop := ∀ x ∈ ds, ∀ y ∈ ds, x - y ≤ 65536
/-- What spanFits tells. -/
def SpanSaid (ds : List Int) (e : Ending) : Prop := ∃ r, e = .returned (.bool r) ∧ (r = true → Span ds)
/-- l and h bound the first k dates. -/
def Bounds (ds : List Int) (k : Nat) (l h : Int) : Prop := ∀ x ∈ ds.take k, l ≤ x ∧ x ≤ h

theorem Bounds.step {ds : List Int} {k : Nat} {l h d l' h' : Int} (hb : Bounds ds k l h) (hd : ds[k]? = some d) (h1 : l' ≤ l) (h2 : h ≤ h') (h3 : l' ≤ d) (h4 : d ≤ h') : Bounds ds (k + 1) l' h' := by
  intro x hx
  rw [List.take_add_one, hd] at hx
  simp only [Option.toList_some, List.mem_append, List.mem_singleton] at hx
  rcases hx with hx | rfl
  · have := hb x hx; omega
  · exact ⟨h3, h4⟩

set_option maxHeartbeats 1000000 in
theorem span_any (B : Nat) (a : Option Addr) (n c : Nat) (ds : List Int) (w : World) (hn : n ≤ maxLen) (h : Dates w B a n ds) : Calls Try.prog 6 #[.slice a n c] w fun e w' => SpanSaid ds e ∧ w' = w := by
  unfold maxLen at hn
  have hlen := hide h.1
  by_cases h0 : n = 0
  · subst h0
    go_enter Try.func6, Try.ntmps6
    go_wp2
    go_ret
    refine ⟨⟨_, rfl, fun _ x hx => ?_⟩, rfl⟩
    have : ds = [] := List.eq_nil_of_length_eq_zero (unhide hlen)
    simp [this] at hx
  · have hne : ((n : Int) == 0) = false := by simp; omega
    obtain ⟨b, off, d0, ha, hb, hd0, hc0, hi0⟩ := h.at (k := 0) (by omega)
    subst ha
    have H0 := hide hd0
    have hp : (0 : Int) < (n : Int) := by omega
    obtain ⟨hi0a, hi0b⟩ := hi0
    rw [Nat.add_zero] at hc0
    clear hd0 h0
    go_enter Try.func6, Try.ntmps6
    go_wp2
    go_loop [3, 4, 5] (fun lo hi i => ∃ (k : Nat) (l h : Int), 1 ≤ k ∧ k ≤ n ∧ i = .int .i64 k ∧ lo = .int .i64 l ∧ hi = .int .i64 h ∧ -2147483648 ≤ l ∧ l ≤ 2147483647 ∧ -2147483648 ≤ h ∧ h ≤ 2147483647 ∧ Hid (Bounds ds k l h)) (fun _ _ i => n - (intOf i).toNat)
    case atStart => exact ⟨1, d0, d0, by omega, by omega, rfl, rfl, rfl, hi0a, hi0b, hi0a, hi0b, Bounds.step (k := 0) (l := d0) (h := d0) (fun x hx => by simp at hx) (unhide H0) (by omega) (by omega) (by omega) (by omega)⟩
    case round =>
      obtain ⟨k, l, hh, hk1, hk, rfl, rfl, rfl, b1, b2, b3, b4, hbd⟩ := hrel
      by_cases hlt : k < n
      · obtain ⟨b', off', d, ha, _, hd, hc, hia, hib⟩ := h.at hlt
        simp only [Option.some.injEq, Addr.mk.injEq, and_true] at ha
        obtain ⟨rfl, rfl⟩ := ha
        have HD := hide hd
        clear hd h hc0
        go_wp2
        · have t1 : d < l := by assumption
          have t2 : hh < d := by assumption
          go_round
          case rel => exact ⟨k + 1, d, d, by omega, by omega, by go_num, rfl, rfl, by omega, by omega, by omega, by omega, (unhide hbd).step (unhide HD) (by omega) (by omega) (by omega) (by omega)⟩
          case measure => simp [intOf]; omega
        · have t1 : d < l := by assumption
          have t2 : d ≤ hh := by assumption
          go_round
          case rel => exact ⟨k + 1, d, hh, by omega, by omega, by go_num, rfl, rfl, by omega, by omega, by omega, by omega, (unhide hbd).step (unhide HD) (by omega) (by omega) (by omega) (by omega)⟩
          case measure => simp [intOf]; omega
        · have t1 : l ≤ d := by assumption
          have t2 : hh < d := by assumption
          go_round
          case rel => exact ⟨k + 1, l, d, by omega, by omega, by go_num, rfl, rfl, by omega, by omega, by omega, by omega, (unhide hbd).step (unhide HD) (by omega) (by omega) (by omega) (by omega)⟩
          case measure => simp [intOf]; omega
        · have t1 : l ≤ d := by assumption
          have t2 : d ≤ hh := by assumption
          go_round
          case rel => exact ⟨k + 1, l, hh, by omega, by omega, by go_num, rfl, rfl, by omega, by omega, by omega, by omega, (unhide hbd).step (unhide HD) (by omega) (by omega) (by omega) (by omega)⟩
          case measure => simp [intOf]; omega
      · clear h
        go_wp2
        go_ret
        refine ⟨⟨_, rfl, fun hr x hx y hy => ?_⟩, rfl⟩
        have hr' := of_decide_eq_true hr
        have e : ds.take k = ds := List.take_of_length_le (by have := unhide hlen; omega)
        have q := unhide hbd
        unfold Bounds at q
        rw [e] at q
        have := q x hx
        have := q y hy
        omega
end Go.Proofs.Qxb6628495a
