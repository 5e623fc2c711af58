/-
  A REGION INSIDE A ROUND OF A RANGE OVER AN ITERATOR, WALKED ONCE, IN THE ORDER OF THE TEXT: its operations only read, but for the last one (a store), for which all others wait. After the library's law on quiet regions, out of its lemmas.
-/
import Derived.BigQuiet
import Derived.BigRegionIn
namespace Go.Proofs.Qxb6628495a

/-- The operation defers nothing and is carried out whatever the others yield. -/
def plainOp (o : Oper) : Bool := (match o.op with | .defer _ => false | _ => true) && o.guard.isNone

theorem plainOp_defer {o : Oper} (h : plainOp o = true) : ∀ c, o.op ≠ .defer c := by
  intro c e
  unfold plainOp at h
  rw [e] at h
  simp at h
theorem plainOp_wanted {o : Oper} (h : plainOp o = true) (f : Nat → Option Bool) : Region.wanted o f = true := by
  unfold plainOp at h
  simp only [Bool.and_eq_true, Option.isNone_iff_eq_none] at h
  unfold Region.wanted
  rw [h.2]

section
variable {P : Program} {C : World → Prop} {n r : Nat}

theorem oper_round {F : Fence} {o : Oper} (hd : ∀ c, o.op ≠ .defer c) {a : Act} {w : World} {K : Act → World → Prop} {Q : Exit → Act → World → Prop} (h : o.wpIn F n P a w K Q) : o.wpIn (F.inRound r) n P a w K Q := by
  unfold Oper.wpIn at *
  rw [Oper.semAt_eq _ _ _ hd] at *
  exact h

theorem oper_quiet {o : Oper} (hd : ∀ c, o.op ≠ .defer c) {a : Act} {w : World} {K : Act → Prop} {K' : Act → World → Prop} {Q : Exit → Act → World → Prop} (hw : C w) (h : ∀ a w', C w' → K a → K' a w')
    (hh : o.quiet P a C K) : o.wpIn (Fence.wide.inRound r) n P a w K' Q := by
  refine oper_round hd ?_
  obtain ⟨v, h1, h2⟩ := hh
  have h3 := h1 w hw
  unfold Oper.quietAt at h3
  unfold Oper.wpIn
  refine ⟨fun _ _ => trivial, ?_⟩
  rw [Oper.semAt_eq _ _ _ hd]
  generalize (execOp a.eval o).run P w = x at *
  cases x with
  | ok x w' =>
    cases x <;> simp only [Oper.quietUpon] at h3 <;> simp only [Oper.uponIn]
    case enter f args =>
      obtain ⟨rfl, hc⟩ := h3
      refine ⟨fun hh => by simp [Fence.wide] at hh, callsIn_wide.2 (hc.mono ?_)⟩
      rintro e w'' ⟨rfl, hw⟩
      exact h _ _ hw h2
    all_goals (obtain ⟨rfl, rfl⟩ := h3; exact h _ _ hw h2)
  | halt x w' => simp only [Oper.quietUpon] at h3

/-- A quiet region in a round. -/
theorem anyIn_quiet {ops : Array Oper} {md : Region.Mode} (hp : ∀ o ∈ ops.toList, plainOp o = true) {Q : Act → Prop} {Q' : Exit → Act → World → Prop} (hQ : ∀ a w, C w → Q a → Q' .normal a w) :
    ∀ (fuel : Nat) (listed : Array Bool) (a : Act) (w : World), C w → wpAnyQ P md ops C Q fuel listed a → wpAnyIn (Fence.wide.inRound r) n P md ops Q' fuel listed a w
  | 0, _, _, _, hw, h => ⟨h.1, hQ _ _ hw h.2⟩
  | fuel + 1, listed, a, w, hw, h => by
    refine ⟨fun h0 => hQ _ _ hw (h.1 h0), fun i hi => ?_⟩
    have h2 := h.2 i hi
    unfold qOp at h2
    unfold wpOpIn
    cases ho : ops[i]? with
    | none =>
      simp only [ho] at h2 ⊢
      exact anyIn_quiet hp hQ fuel _ _ _ hw h2
    | some o =>
      simp only [ho] at h2 ⊢
      have hpo : plainOp o = true := hp o (by
        have := Array.mem_of_getElem? ho
        simpa using this)
      rw [if_pos (plainOp_wanted hpo _)] at h2 ⊢
      exact oper_quiet (plainOp_defer hpo) hw (fun a' w' hw' hk => anyIn_quiet hp hQ fuel _ a' w' hw' hk) h2

theorem wpIn_region_quiet {id : Nat} {Q : Exit → Act → World → Prop} {a : Act} {w : World} {l : List Oper} (hm : P.follows .mixedOrders = true) (hB : Region.lexB .any l.toArray = true) (hp : l.all plainOp = true)
    (h : wpQuiet P l.toArray (fun w' => ∃ n, w' = w.drewN n) (fun a' => ∀ w', (∃ n, w' = w.drewN n) → Q .normal a' w') l a) : (Code.region id l.toArray true).wpIn (Fence.wide.inRound r) n P Q a w := by
  simp only [Region.lexB, Bool.and_eq_true] at hB
  refine wpIn_region_any hm (anyIn_quiet (C := fun w' => ∃ n, w' = w.drewN n) (by simpa using hp) (Q := fun a' => ∀ w', (∃ n, w' = w.drewN n) → Q .normal a' w') (fun _ w' hw' h => h w' hw') _ _ _ _ ⟨1, rfl⟩ ?_)
  have := wpAnyQ_lex (C := fun w' => ∃ n, w' = w.drewN n) (md := .any) hB.1 l 0 (Array.replicate l.toArray.size false) a (by simp) (by simpa using hB.2) h
  simpa using this

/-! ### All wait for, but the last -/
/-- Every operation but the last is waited for by a later one; all wait for earlier ones alone. -/
def coverB (ops : List Oper) : Bool :=
  (List.range (ops.length - 1)).all (fun j => (List.range ops.length).any fun i => decide (j < i) && ((ops[i]?).map fun o => o.after.any fun e => Region.binds .any e && decide (e.on = j)).getD false) &&
  (List.range ops.length).all (fun i => ((ops[i]?).map fun o => o.after.all fun e => !Region.binds .any e || decide (e.on < i)).getD false)

variable {front : List Oper} {z : Oper}

theorem cover_waits (h : coverB (front ++ [z]) = true) {j : Nat} (hj : j < front.length) : ∃ i o e, j < i ∧ (front ++ [z])[i]? = some o ∧ e ∈ o.after ∧ Region.binds .any e = true ∧ e.on = j := by
  unfold coverB at h
  simp only [Bool.and_eq_true, List.all_eq_true, List.any_eq_true, List.mem_range, decide_eq_true_eq] at h
  obtain ⟨i, hi, hji, hx⟩ := h.1 j (by simp; omega)
  cases ho : (front ++ [z])[i]? with
  | none => rw [ho] at hx; simp at hx
  | some o =>
    rw [ho] at hx
    simp only [Option.map_some, Option.getD_some, Array.any_eq_true', Bool.and_eq_true, decide_eq_true_eq] at hx
    obtain ⟨e, he, hb, hon⟩ := hx
    exact ⟨i, o, e, hji, ho, he, hb, hon⟩

theorem cover_back (h : coverB (front ++ [z]) = true) {i : Nat} {o : Oper} (ho : (front ++ [z])[i]? = some o) {e : Edge} (he : e ∈ o.after) (hb : Region.binds .any e = true) : e.on < i := by
  unfold coverB at h
  simp only [Bool.and_eq_true, List.all_eq_true, List.mem_range] at h
  have hi : i < (front ++ [z]).length := (List.getElem?_eq_some_iff.1 ho).1
  have hx := h.2 i hi
  rw [ho] at hx
  simp only [Option.map_some, Option.getD_some, Array.all_eq_true', Bool.or_eq_true, Bool.not_eq_true', decide_eq_true_eq] at hx
  rcases hx e he with q | q
  · rw [hb] at q; cases q
  · exact q

/-- What the two walks have listed: the same, but for the last operation, which is to come; and whatever an operation that has come up waits for has come up. -/
structure Tied (front : List Oper) (L' L : Array Bool) : Prop where
  size' : L'.size = front.length
  size : L.size = front.length + 1
  same : ∀ i : Nat, i < front.length → L'[i]? = L[i]?
  last : L[front.length]? = some false
  closed : ∀ (i : Nat) (o : Oper), front[i]? = some o → L[i]? = some true → ∀ e ∈ o.after, Region.binds .any e = true → L[e.on]? = some true

theorem Tied.set {L' L : Array Bool} (h : Tied front L' L) {i : Nat} {o : Oper} (hi : i < front.length) (ho : front[i]? = some o) (hr : ∀ e ∈ o.after, Region.binds .any e = true → L[e.on]? = some true) : Tied front (L'.setIfInBounds i true) (L.setIfInBounds i true) := by
  have h1 := h.size'
  have h2 := h.size
  refine ⟨by simpa using h1, by simpa using h2, fun j hj => ?_, ?_, fun j oj hj hl e he hb => ?_⟩
  · rw [Array.getElem?_setIfInBounds, Array.getElem?_setIfInBounds]
    have := h.same j hj
    split
    · rw [if_pos (by omega), if_pos (by omega)]
    · exact this
  · rw [Array.getElem?_setIfInBounds, if_neg (by omega)]
    exact h.last
  · rw [Array.getElem?_setIfInBounds]
    split
    · rename_i q
      rw [if_pos (by omega)]
    · by_cases hji : j = i
      · subst hji
        rw [ho] at hj
        cases hj
        exact hr e he hb
      · rw [Array.getElem?_setIfInBounds, if_neg (by omega)] at hl
        exact h.closed j oj hj hl e he hb

theorem getD_some {L : Array Bool} {i : Nat} {d : Bool} {x : Bool} (h : L[i]? = some x) : L.getD i d = x := by
  simp [Array.getD_eq_getD_getElem?, h]

theorem Tied.lt {L' L : Array Bool} (_h : Tied front L' L) {i : Nat} (hi : i ∈ Region.ready .any (front ++ [z]).toArray L) : i = front.length ∨ i < front.length := by
  obtain ⟨h1, o, ho, _⟩ := mem_ready.1 hi
  have : i < (front ++ [z]).toArray.size := (Array.getElem?_eq_some_iff.1 ho).1
  simp at this
  omega

/-- What a front operation waits for, listed. -/
theorem Tied.waits {L' L : Array Bool} (_h : Tied front L' L) {o : Oper} (hall : ∀ e ∈ o.after, Region.binds .any e = true → L.getD e.on false = true) : ∀ e ∈ o.after, Region.binds .any e = true → L[e.on]? = some true := by
  intro e he hb
  have := hall e he hb
  rw [Array.getD_eq_getD_getElem?] at this
  cases hx : L[e.on]? with
  | none => rw [hx] at this; cases this
  | some b => rw [hx] at this; simpa using this

theorem Tied.ready {L' L : Array Bool} (hc : coverB (front ++ [z]) = true) (h : Tied front L' L) {i : Nat} (hi : i ∈ Region.ready .any (front ++ [z]).toArray L) (hl : i < front.length) : i ∈ Region.ready .any front.toArray L' := by
  obtain ⟨h1, o, ho, hall⟩ := mem_ready.1 hi
  have ho' : (front ++ [z])[i]? = some o := by simpa using ho
  have hof : front[i]? = some o := by rwa [List.getElem?_append_left hl] at ho'
  have hs := h.same i hl
  refine mem_ready.2 ⟨?_, o, by simpa using hof, fun e he hb => ?_⟩
  · rw [Array.getD_eq_getD_getElem?, hs, ← Array.getD_eq_getD_getElem?]; exact h1
  · have := cover_back hc ho' he hb
    rw [Array.getD_eq_getD_getElem?, h.same e.on (by omega), ← Array.getD_eq_getD_getElem?]
    exact hall e he hb

/-- The last comes up when all have come up. -/
theorem Tied.full {L' L : Array Bool} (hc : coverB (front ++ [z]) = true) (h : Tied front L' L) (hi : front.length ∈ Region.ready .any (front ++ [z]).toArray L) : ∀ j, j < front.length → L[j]? = some true := by
  obtain ⟨h1, o, ho, hall⟩ := mem_ready.1 hi
  have hw := h.waits hall
  have : ∀ d j, j + d = front.length → 0 < d → L[j]? = some true := by
    intro d
    induction d using Nat.strongRecOn with
    | ind d ih =>
      intro j hj hd
      obtain ⟨i, oi, e, hji, hoi, he, hb, hon⟩ := cover_waits hc (j := j) (by omega)
      have hil : i < (front ++ [z]).length := (List.getElem?_eq_some_iff.1 hoi).1
      simp at hil
      by_cases hm : i = front.length
      · subst hm
        have : oi = o := by
          have ho' : (front ++ [z])[front.length]? = some o := by simpa using ho
          rw [hoi] at ho'
          exact Option.some.inj ho'
        subst this
        rw [← hon]
        exact hw e he hb
      · have hl := ih (front.length - i) (by omega) i (by omega) (by omega)
        rw [List.getElem?_append_left (by omega)] at hoi
        rw [← hon]
        exact h.closed i oi hoi hl e he hb
  intro j hj
  exact this (front.length - j) j (by omega) (by omega)

/-- If no front operation may come up, all have. -/
theorem Tied.none {L' L : Array Bool} (hc : coverB (front ++ [z]) = true) (h : Tied front L' L) (hr : Region.ready .any front.toArray L' = []) : ∀ j, j < front.length → L[j]? = some true := by
  intro j
  induction j using Nat.strongRecOn with
  | ind j ih =>
    intro hj
    have hjL : j < L.size := by have := h.size; omega
    cases hb : L[j] with
    | true => rw [Array.getElem?_eq_getElem hjL, hb]
    | false =>
      have hL : L[j]? = some false := by rw [Array.getElem?_eq_getElem hjL, hb]
      have : j ∈ Region.ready .any front.toArray L' := by
        refine mem_ready.2 ⟨getD_some ((h.same j hj).trans hL), front[j], by simp, fun e he hb' => ?_⟩
        have hlt := cover_back (z := z) hc (i := j) (o := front[j]) (by rw [List.getElem?_append_left hj]; simp) he hb'
        exact getD_some ((h.same e.on (by omega)).trans (ih e.on hlt (by omega)))
      rw [hr] at this
      cases this

theorem full_ready {L' L : Array Bool} (hc : coverB (front ++ [z]) = true) (h : Tied front L' L) (hf : ∀ j, j < front.length → L[j]? = some true) : Region.ready .any (front ++ [z]).toArray L ≠ [] ∧ (∀ i ∈ Region.ready .any (front ++ [z]).toArray L, i = front.length) ∧
    Region.ready .any (front ++ [z]).toArray (L.setIfInBounds front.length true) = [] ∧ Region.ready .any front.toArray L' = [] := by
  have hz : (front ++ [z]).toArray[front.length]? = some z := by simp
  have hm : front.length ∈ Region.ready .any (front ++ [z]).toArray L := by
    refine mem_ready.2 ⟨getD_some h.last, z, hz, fun e he hb => getD_some (hf _ (cover_back hc (by simp) he hb))⟩
  refine ⟨fun e => (by rw [e] at hm; cases hm), fun i hi => ?_, ?_, ?_⟩
  · rcases h.lt hi with q | q
    · exact q
    · have := (mem_ready.1 hi).1
      rw [getD_some (hf i q)] at this
      cases this
  · apply List.eq_nil_iff_forall_not_mem.2
    intro i hi
    obtain ⟨h1, o, ho, _⟩ := mem_ready.1 hi
    have hlt : i < (front ++ [z]).toArray.size := (Array.getElem?_eq_some_iff.1 ho).1
    simp at hlt
    have : (L.setIfInBounds front.length true)[i]? = some true := by
      rw [Array.getElem?_setIfInBounds]
      by_cases q : front.length = i
      · rw [if_pos q, if_pos (by have := h.size; omega)]
      · rw [if_neg q]
        exact hf i (by omega)
    rw [getD_some this] at h1
    cases h1
  · apply List.eq_nil_iff_forall_not_mem.2
    intro i hi
    obtain ⟨h1, o, ho, _⟩ := mem_ready.1 hi
    have hlt : i < front.toArray.size := (Array.getElem?_eq_some_iff.1 ho).1
    simp at hlt
    rw [getD_some ((h.same i hlt).trans (hf i hlt))] at h1
    cases h1

theorem last_full {Q : Exit → Act → World → Prop} (hc : coverB (front ++ [z]) = true) (hz : plainOp z = true) {L' L : Array Bool} (h : Tied front L' L) (hf : ∀ j, j < front.length → L[j]? = some true) {a : Act} {w : World} {F : Fence}
    (hl : z.wpIn F n P a w (fun a w => Q .normal a w) Q) (fuel : Nat) : wpAnyIn F n P .any (front ++ [z]).toArray Q (fuel + 1) L a w := by
  obtain ⟨h1, h2, h3, _⟩ := full_ready hc h hf
  refine ⟨fun e => absurd e h1, fun i hi => ?_⟩
  have := h2 i hi
  subst this
  unfold wpOpIn
  have hz' : (front ++ [z]).toArray[front.length]? = some z := by simp
  simp only [hz']
  rw [if_pos (plainOp_wanted hz _)]
  exact Oper.wpIn_mono (fun a w hq => wpAnyIn_done h3 hq _) hl

theorem last_any {Q : Exit → Act → World → Prop} {Qz : Act → Prop} (hc : coverB (front ++ [z]) = true) (hz : plainOp z = true) (hp : ∀ o ∈ front, plainOp o = true)
    (hQ : ∀ a w, C w → Qz a → z.wpIn (Fence.wide.inRound r) n P a w (fun a w => Q .normal a w) Q) :
    ∀ (fuel : Nat) (L' L : Array Bool) (a : Act) (w : World), Tied front L' L → C w → wpAnyQ P .any front.toArray C Qz fuel L' a → wpAnyIn (Fence.wide.inRound r) n P .any (front ++ [z]).toArray Q (fuel + 1) L a w
  | 0, L', L, a, w, ht, hw, h => last_full hc hz ht (ht.none hc h.1) (hQ _ _ hw h.2) 0
  | fuel + 1, L', L, a, w, ht, hw, h => by
    by_cases hn : Region.ready .any front.toArray L' = []
    · exact last_full hc hz ht (ht.none hc hn) (hQ _ _ hw (h.1 hn)) _
    · refine ⟨fun e => ?_, fun i hi => ?_⟩
      · exfalso
        apply hn
        apply List.eq_nil_iff_forall_not_mem.2
        intro i hi
        obtain ⟨h1, o, ho, hall⟩ := mem_ready.1 hi
        have hlt : i < front.toArray.size := (Array.getElem?_eq_some_iff.1 ho).1
        simp at hlt
        have hof : front[i]? = some o := by simpa using ho
        have hoa : (front ++ [z])[i]? = some o := by rw [List.getElem?_append_left hlt]; exact hof
        have : i ∈ Region.ready .any (front ++ [z]).toArray L := by
          refine mem_ready.2 ⟨?_, o, by simpa using hoa, fun e he hb => ?_⟩
          · rw [Array.getD_eq_getD_getElem?, ← ht.same i hlt, ← Array.getD_eq_getD_getElem?]; exact h1
          · have := cover_back hc hoa he hb
            rw [Array.getD_eq_getD_getElem?, ← ht.same e.on (by omega), ← Array.getD_eq_getD_getElem?]
            exact hall e he hb
        rw [e] at this
        cases this
      · rcases ht.lt hi with q | q
        · subst q
          exact absurd (full_ready hc ht (ht.full hc hi)).2.2.2 hn
        · have hr := ht.ready hc hi q
          have h2 := h.2 i hr
          obtain ⟨_, o, ho, hall⟩ := mem_ready.1 hi
          have hoa : (front ++ [z])[i]? = some o := by simpa using ho
          have hof : front[i]? = some o := by rwa [List.getElem?_append_left q] at hoa
          have hpo : plainOp o = true := hp o (List.mem_of_getElem? hof)
          have hof' : front.toArray[i]? = some o := by simpa using hof
          unfold qOp at h2
          unfold wpOpIn
          simp only [hof'] at h2
          simp only [ho]
          rw [if_pos (plainOp_wanted hpo _)] at h2 ⊢
          exact oper_quiet (plainOp_defer hpo) hw (fun a' w' hw' hk => last_any hc hz hp hQ fuel _ _ a' w' (ht.set q hof (ht.waits hall)) hw' hk) h2

/-- The list l is 'front', and z behind it. -/
inductive Snoc : List Oper → List Oper → Oper → Prop
  | nil (z : Oper) : Snoc [z] [] z
  | cons (o : Oper) {l front : List Oper} {z : Oper} (h : Snoc l front z) : Snoc (o :: l) (o :: front) z

theorem Snoc.eq {l front : List Oper} {z : Oper} (h : Snoc l front z) : l = front ++ [z] := by
  induction h with
  | nil z => rfl
  | cons o _ ih => rw [ih]; rfl

/-- **ONE WALK, IN THE ORDER OF THE TEXT, OF A REGION IN A ROUND WHOSE LAST OPERATION ALONE MAY WRITE.** -/
theorem wpIn_region_last {id : Nat} {Q : Exit → Act → World → Prop} {a : Act} {w : World} {l front : List Oper} {z : Oper} (hl : Snoc l front z) (hm : P.follows .mixedOrders = true) (hB : Region.lexB .any front.toArray = true)
    (hp : l.all plainOp = true) (hc : coverB l = true)
    (h : wpQuiet P front.toArray (fun w' => ∃ n, w' = w.drewN n) (fun a' => ∀ w', (∃ n, w' = w.drewN n) → ∀ K : Act → World → Prop, (∀ a w, Q .normal a w → K a w) → z.wpIn Fence.wide n P a' w' K Q) front a) :
    (Code.region id l.toArray true).wpIn (Fence.wide.inRound r) n P Q a w := by
  have hl := hl.eq
  subst hl
  simp only [Region.lexB, Bool.and_eq_true] at hB
  simp only [List.all_append, List.all_cons, List.all_nil, Bool.and_true, Bool.and_eq_true, List.all_eq_true] at hp
  have hq := wpAnyQ_lex (C := fun w' => ∃ n, w' = w.drewN n) (md := .any) hB.1 front 0 (Array.replicate front.length false) a (by simp) (by simpa using hB.2) h
  refine wpIn_region_any hm ?_
  have hs : (front ++ [z]).toArray.size = front.length + 1 := by simp
  rw [hs]
  refine last_any (C := fun w' => ∃ n, w' = w.drewN n) hc hp.2 hp.1 (fun a' w' hw' hk => oper_round (plainOp_defer hp.2) (hk w' hw' _ (fun _ _ h => h))) _ _ _ _ _ ⟨by simp, by simp, fun i hi => ?_, ?_, fun i o ho hl => ?_⟩ ⟨1, rfl⟩ hq
  · simp [hi, Nat.lt_succ_of_lt hi]
  · simp
  · exfalso
    have hi : i < front.length := (List.getElem?_eq_some_iff.1 ho).1
    simp [Nat.lt_succ_of_lt hi] at hl
end
end Go.Proofs.Qxb6628495a
