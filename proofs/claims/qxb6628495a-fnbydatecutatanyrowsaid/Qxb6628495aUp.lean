/-
  A RANGE OVER AN ITERATOR WHOSE ROUNDS COME IN A KNOWN ORDER: round k hands over 'encs k', k = 0, 1, .., N - 1. The body is asked at THAT value alone (the library's laws ask it at every value of a type: a body that is safe only because the rows come one after the other, each once, cannot be walked by them). No round leaves the loop. After the library's own law, out of its lemmas on the loop's record.
-/
import Derived.RangeFuncNested
import Derived.RangeFuncBound
import Derived.RangeFuncCalls
import Derived.RangeFuncLeaves
import Derived.Shelf.Abstract
import Derived.WalkKit
import Derived.OwnWalkIn
import Derived.TacticsInMore
import Derived.LoopNIn
import Derived.LoopIn
namespace Go.Proofs.Qxb6628495a
open Go.RowKit Go.Shelf

section
variable {F : Fence} {n : Nat} {P : Program}

/-- The iterator calls yield N times, the k-th time with 'encs k', and returns, if every round goes on and keeps 'Kp'. -/
def SeqUp (F : Fence) (m : Nat) (P : Program) (g : Nat) (lb : Array Value) (encs : Nat → Array Value) (Kp : World → World → Prop) (N : Nat) (w : World) : Prop :=
  ∀ (l : Nat) (J : Nat → World → Prop) (W : World), Below w.heap.size w W →
    (∀ k W1, k < N → J k W1 → YieldAt F (m - 1) P l (encs k) W1 fun e W' => e = .returned (.bool true) ∧ J (k + 1) W' ∧ Kp W1 W') →
    J 0 W → CallsIn F m P g (#[.func (.yield l) #[] #[]] ++ lb) W fun e W' => (∃ v, e = .returned v) ∧ J N W'

/-- How a round's body is left: at its end. -/
def upPost (B : Nat) (Kp : World → World → Prop) (I : World → Prop) (W : World) : Exit → Act → World → Prop
  | .normal, _, W' => KeepsFrom B W W' ∧ Kp W W' ∧ I W'
  | _, _, _ => False

theorem wpIn_rangeFunc_up {g : Operand} {ps : Array Tmp} {assign body : Code} {Q : Exit → Act → World → Prop} {a : Act} {w : World}
    (hro : F.round = none) (h1 : 1 ≤ n) {gf : Nat} {lb : Array Value} (hg : a.eval g = .func (.func gf) #[] lb) (hFg : F.fn gf) (eg : ∀ args w, (callFunc gf args).run P w = .ok (.enter gf args) w)
    {encs : Nat → Array Value} {Kp : World → World → Prop} {N : Nat} {w0 : World} (hseq : SeqUp F (n - 1) P gf lb encs Kp N w0)
    (hKt : ∀ {A B C : World}, Kp A B → Kp B C → Kp A C) (hKb : ∀ (W : World) (l : Nat) (o o' : Obj), w.heap.size ≤ l → W.heap[l]? = some o → o.isCells = false → o.isWalk = false → Kp W (W.putObj l o')) (hb0 : Below w0.heap.size w0 w) (hps : ∀ k, (encs k).size = ps.size)
    (I : Nat → World → Prop) (hI : OwnFrom w.heap.size I) (h0 : I 0 w) (a₁ : Nat → Act)
    (hassign : ∀ (l k : Nat) (W : World) (K : Act → World → Prop), K (a₁ k) W →
      assign.wpIn (F.inRound l) (n - 1 - 1) P (Exit.then K (fun _ _ _ => False)) { tmps := (ps.zip (encs k)).foldl (fun t (p, v) => t.setIfInBounds p v) a.tmps, defers := [] } W)
    (hbody : ∀ (l k : Nat) (W : World), k < N → I k W → body.wpIn (F.inRound l) (n - 1 - 1) P (upPost w.heap.size Kp (I (k + 1)) W) (a₁ k) W)
    (hdone : ∀ (D : Nat) (W : World), w.heap.size ≤ D → I N W → W.heap[D]? = some (.deferred (some [])) → Q .normal { a with defers := { target := .collected D, args := #[] } :: a.defers } W) :
    (Code.rangeFunc g ps assign body).wpIn F n P Q a w := by
  refine wpIn_rangeFunc ?_
  intro fn hfn
  rw [hro]
  -- the loop's record, in each of its states
  obtain ⟨rec, hrec⟩ : ∃ rec : LoopState → Loop, rec = fun st => { state := st, pending := none, fn, tmps := a.tmps, params := ps, assign, body, defers := w.heap.size } := ⟨_, rfl⟩
  obtain ⟨W1, hW1⟩ : ∃ W1, (w.alloc (.deferred (some []))).alloc (.loop (rec .ready)) = W1 := ⟨_, rfl⟩
  have rL : W1.heap[w.heap.size + 1]? = some (.loop (rec .ready)) := by
    rw [← hW1]
    have := World.alloc_heap_new (w.alloc (.deferred (some []))) (.loop (rec .ready))
    rwa [World.size_alloc] at this
  have rD : W1.heap[w.heap.size]? = some (.deferred (some [])) := by
    rw [← hW1]
    exact (Below.heap_alloc _ _ _ (by simp)).trans (World.alloc_heap_new w _)
  have i1 : I 0 W1 := by
    rw [← hW1]
    exact hI.alloc _ (hI.alloc _ h0)
  have b1 : Below w0.heap.size w0 W1 := by
    rw [← hW1]
    exact hb0.trans ((((Below.refl _ w).alloc (Nat.le_refl _) _).alloc (by simp) _).mono hb0.size)
  refine ⟨w.heap.size + 1, [{ target := .collected w.heap.size, args := #[] }], W1, { target := .fn (.func gf) lb, args := #[.func (.yield (w.heap.size + 1)) #[] #[]] }, W1, gf,
    #[.func (.yield (w.heap.size + 1)) #[] #[]] ++ lb, W1, ?_, ?_, ?_, ?_, fun _ => h1, ?_⟩
  · rw [← hW1, hrec]
    exact run_enterLoop_outer _ _ _ _ _
  · simp only [resolve, hg]
    simp [go_sem]
  · intro f' hf'
    simp [Target.leads] at hf'
    subst hf'
    exact hFg
  · simp [invoke, go_sem, eg]
  · refine (hseq (w.heap.size + 1) (fun k W => I k W ∧ W.heap[w.heap.size + 1]? = some (.loop (rec .ready)) ∧ W.heap[w.heap.size]? = some (.deferred (some []))) W1 b1 ?_ ⟨i1, rL, rD⟩).mono ?_
    · -- one round
      rintro k W hk ⟨hi, hl, hd⟩
      have hlt : w.heap.size + 1 < W.heap.size := (Array.getElem?_eq_some_iff.1 hl).1
      have hy := run_yield (P := P) (args := encs k) hl (by rw [hrec]; exact hps k)
      rw [hrec] at hy
      refine ⟨fn, _, assign, body, hy, roundIn_of_wpIn hfn (hassign _ k W _ ⟨_, run_beginRound hl (by rw [hrec]), ?_⟩)⟩
      have hl2 : (W.putObj (w.heap.size + 1) (.loop { rec .ready with state := .busy })).heap[w.heap.size + 1]? = some (.loop { rec .ready with state := .busy }) := World.putObj_heap_same hlt
      have hd2 : (W.putObj (w.heap.size + 1) (.loop { rec .ready with state := .busy })).heap[w.heap.size]? = some (.deferred (some [])) := (World.putObj_heap_other (by omega)).trans hd
      refine wpIn_mono (hbody _ k _ hk (hI.putObj _ hi (by omega) hl rfl)) ?_
      rintro e a3 W3 hp
      cases e with
      | normal =>
        obtain ⟨k3, b3, i3⟩ := hp
        have hl3 := k3.same _ _ (by omega) hl2 rfl
        have he := run_endRound (P := P) none hl3
        have hlt3 : w.heap.size + 1 < W3.heap.size := (Array.getElem?_eq_some_iff.1 hl3).1
        have hd3 := k3.same _ _ (Nat.le_refl _) hd2 rfl
        refine ⟨_, _, he, rfl, ⟨hI.putObj _ i3 (by omega) hl3 rfl, ?_, (World.putObj_heap_other (by omega)).trans hd3⟩, ?_⟩
        · rw [World.putObj_heap_same hlt3, hrec]
          rfl
        · exact hKt (hKt (hKb W _ _ _ (by omega) hl rfl rfl) b3) (hKb W3 _ _ _ (by omega) hl3 rfl rfl)
      | ret => exact hp.elim
      | exit id => exact hp.elim
      | goto t => exact hp.elim
      | panic ch => exact hp.elim
      | outgrown => exact hp.elim
    · -- behind the iterator
      rintro e W2 ⟨⟨v, rfl⟩, hi, hl, hd⟩
      have he := run_endLoop (P := P) hl (by rw [hrec]; simp)
      have hp : (rec .ready).pending = none := by rw [hrec]
      rw [hp] at he
      exact ⟨none, _, he, hdone _ _ (Nat.le_refl _) (hI.putObj _ hi (by omega) hl rfl) ((World.putObj_heap_other (by omega)).trans hd)⟩
end
end Go.Proofs.Qxb6628495a
