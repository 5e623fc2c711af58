/-
  THE WALKS OF THE FUNCTIONS THAT MAKE MEMORY: zzToColumn, the closure, slices.IndexFunc.
-/
import Derived.Test.Qxb6628450aBase
import Derived.Deep.RegionWith
namespace Go.Proofs.Qxb6628450a
open Go.RowKit


set_option maxHeartbeats 400000 in
theorem toColumn_any (c : Co) (w : World) :
    Calls Try.prog 13 #[.agg #[.string c.name, .string c.kind, .int .i64 c.prec, .int .i64 c.scale, .bool c.nul]] w fun e w' => e = .returned (.agg #[.string c.name, .string c.kind, .int .i64 c.prec, .int .i64 c.scale, .bool c.nul]) ∧ Below w.heap.size w w' := by
  go_enter Try.func13, Try.ntmps13
  go_wp2
  exact bodyPost_ret (v := .agg #[.string c.name, .string c.kind, .int .i64 c.prec, .int .i64 c.scale, .bool c.nul]) (by simp [results, Try.results13, go_sem]) rfl ⟨rfl, ((Below.refl _ _).alloc (Nat.le_refl _) _).alloc (by simp) _⟩

set_option maxHeartbeats 400000 in
theorem closure_any (c : Co) (bn : Nat) (nm : ByteArray) (w : World) (hb : bn < w.heap.size) (hn : w.cell? ⟨bn, 0, none⟩ = some (.string nm)) :
    Calls Try.prog 17 #[.agg #[.string c.name, .string c.kind, .int .i64 c.prec, .int .i64 c.scale, .bool c.nul], .pointer (some ⟨bn, 0, none⟩)] w fun e w' => e = .returned (.bool (sameS c.name nm)) ∧ Below w.heap.size w w' := by
  go_enter Try.func17, Try.ntmps17
  go_wp2
  go_ret
  exact ⟨rfl, (Below.refl _ _).alloc (Nat.le_refl _) _⟩

theorem find_at (cs : List Co) (nm : ByteArray) (k : Nat) (c : Co) (h : cs[k]? = some c) (h0 : (cs.take k).any (fun c => sameS c.name nm) = false) (hp : sameS c.name nm = true) :
    cs.find? (fun c => sameS c.name nm) = some c := by
  have hk : k < cs.length := (List.getElem?_eq_some_iff.1 h).1
  have e : cs = cs.take k ++ c :: cs.drop (k + 1) := by
    obtain ⟨_, hc⟩ := List.getElem?_eq_some_iff.1 h
    rw [← hc, ← List.drop_eq_getElem_cons hk, List.take_append_drop]
  rw [e, List.find?_append]
  have : (cs.take k).find? (fun c => sameS c.name nm) = none := by
    rw [List.find?_eq_none]; intro x hx hp; rw [List.any_eq_false] at h0; exact h0 x hx hp
  rw [this]; simp [hp]

/-- What slices.IndexFunc gives: the place of the first column of that name. -/
def Found (cs : List Co) (nm : ByteArray) (e : Ending) : Prop :=
  ∃ (k : Nat) (c : Co), e = .returned (.int .i64 k) ∧ cs[k]? = some c ∧ cs.find? (fun c => sameS c.name nm) = some c

set_option maxHeartbeats 1000000 in
theorem indexFunc_any (B : Nat) (a : Option Addr) (n c : Nat) (cs : List Co) (bn : Nat) (nm : ByteArray) (w : World) (hn : n ≤ maxLen) (h : Cols w B a n cs) (hB : B ≤ w.heap.size)
    (hbn : bn < w.heap.size) (hnm : w.cell? ⟨bn, 0, none⟩ = some (.string nm)) (hhas : hasN cs nm = true) :
    Calls Try.prog 16 #[.slice a n c, .func (.func 17) #[] #[.pointer (some ⟨bn, 0, none⟩)]] w fun e w' => Found cs nm e ∧ Below w.heap.size w w' := by
  unfold maxLen at hn
  have hlen : Hid (cs.length = n) := h.1
  have HH : Hid (hasN cs nm = true) := hhas
  clear hhas
  go_enter Try.func16, Try.ntmps16
  go_wp2
  go_loopw [8] (fun i wr => ∃ k : Nat, k ≤ n ∧ i = .int .i64 k ∧ Hid ((cs.take k).any (fun c => sameS c.name nm) = false) ∧ Below w.heap.size w wr) (fun i _ => n - (intOf i).toNat)
  case atStart => exact ⟨0, Nat.zero_le _, rfl, rfl, Below.refl _ _⟩
  case round =>
    obtain ⟨k, hk, rfl, hs, hw⟩ := hrel
    by_cases hlt : k < n
    · obtain ⟨b, off, c0, rfl, hb, hck, hc⟩ := h.at hlt
      obtain ⟨hc0, hc1, hc2, hc3, hc4⟩ := hc.mono (B := w.heap.size) (by omega) hw
      have HC : Hid (cs[k]? = some c0) := hck
      have hnm' := (hw.cell (p := ⟨bn, 0, none⟩) hbn).trans hnm
      have hbn' : bn < wr.heap.size := by have := hw.size; omega
      clear hck h hnm hc
      go_wp2_with (go_at_call 17; refine (closure_any c0 bn nm wr hbn' hnm').mono ?_; rintro e w' ⟨rfl, hw'⟩)
      · have ht : sameS c0.name nm = true := by assumption
        go_ret
        exact ⟨⟨k, c0, rfl, HC.out, find_at _ _ k c0 HC.out hs.out ht⟩, hw.trans (hw'.mono hw.size)⟩
      · have ht : sameS c0.name nm = false := by assumption
        go_roundw
        case rel => exact ⟨k + 1, by omega, by go_num, any_step _ _ k c0 HC.out hs.out ht, hw.trans (hw'.mono hw.size)⟩
        case measure => simp [intOf]; omega
    · have hf : hasN cs nm = false := any_end _ _ k (by have := hlen.out; omega) hs.out
      have := HH.out
      simp [hf] at this

end Go.Proofs.Qxb6628450a
