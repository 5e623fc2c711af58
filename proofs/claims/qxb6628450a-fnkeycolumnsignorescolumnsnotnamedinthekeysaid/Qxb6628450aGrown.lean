/-
  PLAIN LAWS: one more column put in at a place: what lies where; that the first column of a key's name stays.
-/
import Derived.Test.Qxb6628450aFirsts
namespace Go.Proofs.Qxb6628450a
open Go.RowKit

/-- The columns with x put in at place t. -/
def grownL (cs : List Co) (t : Nat) (x : Co) : List Co := cs.take t ++ x :: cs.drop t
theorem grownL_length (cs : List Co) (t : Nat) (x : Co) (ht : t ≤ cs.length) : (grownL cs t x).length = cs.length + 1 := by
  simp [grownL]; omega
theorem grownL_lt (cs : List Co) (t : Nat) (x : Co) (ht : t ≤ cs.length) (i : Nat) (hi : i < t) : (grownL cs t x)[i]? = cs[i]? := by
  unfold grownL
  rw [List.getElem?_append_left (by simp; omega), List.getElem?_take, if_pos hi]
theorem grownL_at (cs : List Co) (t : Nat) (x : Co) (ht : t ≤ cs.length) : (grownL cs t x)[t]? = some x := by
  unfold grownL
  rw [List.getElem?_append_right (by simp; omega)]
  simp [Nat.min_eq_left ht]
theorem grownL_gt (cs : List Co) (t : Nat) (x : Co) (ht : t ≤ cs.length) (i : Nat) (hi : t ≤ i) : (grownL cs t x)[i + 1]? = cs[i]? := by
  unfold grownL
  rw [List.getElem?_append_right (by simp; omega)]
  simp only [List.length_take, Nat.min_eq_left ht]
  rw [show i + 1 - t = (i - t) + 1 by omega, List.getElem?_cons_succ, List.getElem?_drop, show t + (i - t) = i by omega]
theorem sameS_comm (x y : ByteArray) : sameS x y = sameS y x := by unfold sameS; exact Bool.beq_comm
theorem grownL_find (cs : List Co) (t : Nat) (x : Co) (ks : List ByteArray) (s : ByteArray) (hs : s ∈ ks) (hhas : hasN cs s = true) (h : t = cs.length ∨ inN ks x.name = false) :
    (grownL cs t x).find? (fun c => sameS c.name s) = some (firstN cs s) := by
  rw [← firstN_find hhas]
  have e : cs.find? (fun c => sameS c.name s) = ((cs.take t).find? (fun c => sameS c.name s)).or ((cs.drop t).find? (fun c => sameS c.name s)) := by
    rw [← List.find?_append, List.take_append_drop]
  unfold grownL
  rw [List.find?_append]
  rcases h with h | h
  · have e2 : cs.take t = cs := by rw [h]; exact List.take_of_length_le (Nat.le_refl _)
    rw [e2, firstN_find hhas]
    rfl
  · have hx : sameS x.name s = false := by
      unfold inN at h
      rw [List.any_eq_false] at h
      have := h s hs
      rw [sameS_comm]
      simpa using this
    rw [e, List.find?_cons_of_neg (by simp [hx])]
theorem firsts_grown {cs : List Co} {ks : List ByteArray} (t : Nat) (x : Co) (ha : ks.all (hasN cs) = true) (h : t = cs.length ∨ inN ks x.name = false) :
    ∀ (k : Nat) s, ks[k]? = some s → ∃ c, (ks.map (firstN cs))[k]? = some c ∧ (grownL cs t x).find? (fun c => sameS c.name s) = some c := by
  intro k s hk
  rw [List.all_eq_true] at ha
  have hm := List.mem_of_getElem? hk
  exact ⟨firstN cs s, by simp [hk], grownL_find cs t x ks s hm (ha s hm) h⟩
end Go.Proofs.Qxb6628450a
