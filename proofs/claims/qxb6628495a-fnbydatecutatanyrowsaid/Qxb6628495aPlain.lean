/-
  THE PLAIN LAW, no Go in sight: the place of a row in date order; that it is a bijection; the one list that is strictly ascending in (date, row); such a list cut in two.
-/
namespace Go.Proofs.Qxb6628495a

/-- How many dates are smaller than d, and how many of the first i are d: the place of row i if its date is d. -/
def pos (ds : List Int) (i : Nat) (d : Int) : Nat := ds.countP (fun x => decide (x < d)) + (ds.take i).countP (fun x => decide (x = d))

theorem split_at {ds : List Int} {i : Nat} {d : Int} (h : ds[i]? = some d) : ds = ds.take i ++ d :: ds.drop (i + 1) := by
  obtain ⟨hi, hd⟩ := List.getElem?_eq_some_iff.1 h
  rw [← hd, ← List.drop_eq_getElem_cons hi, List.take_append_drop]

theorem take_lt_all {ds : List Int} {i : Nat} {d : Int} (h : ds[i]? = some d) : (ds.take i).countP (fun x => decide (x = d)) + 1 ≤ ds.countP (fun x => decide (x = d)) := by
  have e := congrArg (List.countP (fun x => decide (x = d))) (split_at h)
  rw [List.countP_append, List.countP_cons] at e
  simp only [decide_true, if_true] at e
  omega

theorem countP_two (l : List Int) (p q r : Int → Bool) (h : ∀ x, p x = true → r x = true) (h' : ∀ x, q x = true → r x = true) (hd : ∀ x, p x = true → q x = true → False) : l.countP p + l.countP q ≤ l.countP r := by
  induction l with
  | nil => simp
  | cons a l ih =>
    rw [List.countP_cons, List.countP_cons, List.countP_cons]
    cases hp : p a <;> cases hq : q a
    · simp; omega
    · simp [h' a hq]; omega
    · simp [h a hp]; omega
    · exact (hd a hp hq).elim

theorem pos_lt {ds : List Int} {i : Nat} {d : Int} (h : ds[i]? = some d) : pos ds i d < ds.length := by
  have h1 := take_lt_all h
  have h2 := countP_two ds (fun x => decide (x < d)) (fun x => decide (x = d)) (fun _ => true) (fun _ _ => rfl) (fun _ _ => rfl) (fun x a b => by simp at a b; omega)
  rw [List.countP_true] at h2
  unfold pos
  omega

/-- Row i comes ahead of row j: by date, then by number. -/
def ahead (ds : List Int) (i j : Nat) : Prop := ∃ d d', ds[i]? = some d ∧ ds[j]? = some d' ∧ (d < d' ∨ (d = d' ∧ i < j))

theorem take_mono {ds : List Int} {i j : Nat} {d : Int} (h : ds[i]? = some d) (hij : i < j) : (ds.take i).countP (fun x => decide (x = d)) + 1 ≤ (ds.take j).countP (fun x => decide (x = d)) := by
  have h1 : (ds.take j)[i]? = some d := by rw [List.getElem?_take, if_pos hij]; exact h
  have h2 := take_lt_all h1
  rwa [List.take_take, Nat.min_eq_left (by omega)] at h2

theorem pos_mono {ds : List Int} {i j : Nat} {d d' : Int} (hi : ds[i]? = some d) (hj : ds[j]? = some d') (h : d < d' ∨ (d = d' ∧ i < j)) : pos ds i d < pos ds j d' := by
  unfold pos
  rcases h with h | ⟨rfl, h⟩
  · have h1 := take_lt_all hi
    have h2 := countP_two ds (fun x => decide (x < d)) (fun x => decide (x = d)) (fun x => decide (x < d')) (fun x a => by simp at a ⊢; omega) (fun x a => by simp at a ⊢; omega) (fun x a b => by simp at a b; omega)
    omega
  · have := take_mono hi h
    omega

theorem ahead_total {ds : List Int} {i j : Nat} {d d' : Int} (_hi : ds[i]? = some d) (_hj : ds[j]? = some d') (hne : i ≠ j) : (d < d' ∨ (d = d' ∧ i < j)) ∨ (d' < d ∨ (d' = d ∧ j < i)) := by omega

theorem pos_inj {ds : List Int} {i j : Nat} {d d' : Int} (hi : ds[i]? = some d) (hj : ds[j]? = some d') (h : pos ds i d = pos ds j d') : i = j := by
  apply Classical.byContradiction
  intro hne
  rcases ahead_total hi hj hne with a | a
  · have := pos_mono hi hj a; omega
  · have := pos_mono hj hi a; omega

/-! ### Pigeonhole -/
theorem nodup_le : ∀ (n : Nat) (l : List Nat), l.Nodup → (∀ x ∈ l, x < n) → l.length ≤ n
  | 0, l, _, h => by
    match l with
    | [] => simp
    | a :: l => exact absurd (h a List.mem_cons_self) (by omega)
  | n + 1, l, hn, h => by
    by_cases hm : n ∈ l
    · have h1 := nodup_le n (l.erase n) (hn.erase n) (fun x hx => by
        have hx' := (hn.mem_erase_iff).1 hx
        have := h x hx'.2
        omega)
      rw [List.length_erase_of_mem hm] at h1
      omega
    · have := nodup_le n l hn (fun x hx => by
        have := h x hx
        have : x ≠ n := fun e => hm (e ▸ hx)
        omega)
      omega

theorem nodup_all : ∀ (n : Nat) (l : List Nat), l.Nodup → (∀ x ∈ l, x < n) → l.length = n → ∀ k, k < n → k ∈ l
  | 0, _, _, _, _, k, hk => by omega
  | n + 1, l, hn, h, hl, k, hk => by
    by_cases hm : n ∈ l
    · by_cases e : k = n
      · exact e ▸ hm
      · have h1 := nodup_all n (l.erase n) (hn.erase n) (fun x hx => by
          have hx' := (hn.mem_erase_iff).1 hx
          have := h x hx'.2
          omega) (by rw [List.length_erase_of_mem hm]; omega) k (by omega)
        exact ((hn.mem_erase_iff).1 h1).2
    · have := nodup_le n l hn (fun x hx => by
        have := h x hx
        have : x ≠ n := fun e => hm (e ▸ hx)
        omega)
      omega

theorem pos_onto (ds : List Int) (k : Nat) (hk : k < ds.length) : ∃ i d, ds[i]? = some d ∧ pos ds i d = k := by
  have hg : ∀ i, i < ds.length → ds[i]? = some (ds.getD i 0) := fun i hi => by simp [List.getD, List.getElem?_eq_getElem hi]
  have h := nodup_all ds.length ((List.range ds.length).map fun i => pos ds i (ds.getD i 0)) ?_ ?_ (by simp) k hk
  · simp only [List.mem_map, List.mem_range] at h
    obtain ⟨i, hi, e⟩ := h
    exact ⟨i, _, hg i hi, e⟩
  · rw [List.nodup_iff_pairwise_ne, List.pairwise_map]
    refine List.Pairwise.imp_of_mem (R := fun a b => a < b) ?_ List.pairwise_lt_range
    intro a b ha hb hab e
    simp only [List.mem_range] at ha hb
    have := pos_inj (hg a ha) (hg b hb) e
    omega
  · intro x hx
    simp only [List.mem_map, List.mem_range] at hx
    obtain ⟨i, hi, rfl⟩ := hx
    exact pos_lt (hg i hi)

/-! ### The list in date order -/
/-- R lists the rows of ds, each once, strictly ascending in (date, row). -/
structure IsOrd (ds : List Int) (R : List Nat) : Prop where
  len : R.length = ds.length
  lt : ∀ i ∈ R, i < ds.length
  sorted : R.Pairwise (ahead ds)
  all : ∀ i, i < ds.length → i ∈ R

/-- The list that has row i at its place. -/
theorem order_of (ds : List Int) : ∃ R : List Nat, IsOrd ds R ∧ ∀ k i, R[k]? = some i → ∃ d, ds[i]? = some d ∧ pos ds i d = k := by
  have hch : ∀ k, ∃ i, k < ds.length → ∃ d, ds[i]? = some d ∧ pos ds i d = k := fun k => by
    by_cases hk : k < ds.length
    · obtain ⟨i, d, h1, h2⟩ := pos_onto ds k hk
      exact ⟨i, fun _ => ⟨d, h1, h2⟩⟩
    · exact ⟨0, fun h => absurd h hk⟩
  obtain ⟨f, hf⟩ : ∃ f : Nat → Nat, ∀ k, k < ds.length → ∃ d, ds[f k]? = some d ∧ pos ds (f k) d = k := ⟨fun k => (hch k).choose, fun k hk => (hch k).choose_spec hk⟩
  have hget : ∀ k i, ((List.range ds.length).map f)[k]? = some i → ∃ d, ds[i]? = some d ∧ pos ds i d = k := by
    intro k i h
    simp only [List.getElem?_map, Option.map_eq_some_iff] at h
    obtain ⟨k', hk', rfl⟩ := h
    obtain ⟨hl, rfl⟩ := List.getElem?_eq_some_iff.1 hk'
    simp only [List.length_range] at hl
    simp only [List.getElem_range]
    exact hf k hl
  refine ⟨(List.range ds.length).map f, ⟨by simp, ?_, ?_, ?_⟩, hget⟩
  · intro i hi
    simp only [List.mem_map, List.mem_range] at hi
    obtain ⟨k, hk, rfl⟩ := hi
    obtain ⟨d, h1, _⟩ := hf k hk
    exact (List.getElem?_eq_some_iff.1 h1).1
  · rw [List.pairwise_map]
    refine List.Pairwise.imp_of_mem (R := fun a b => a < b) ?_ List.pairwise_lt_range
    intro a b ha hb hab
    simp only [List.mem_range] at ha hb
    obtain ⟨d, h1, h2⟩ := hf a ha
    obtain ⟨d', h1', h2'⟩ := hf b hb
    refine ⟨d, d', h1, h1', ?_⟩
    have hne : f a ≠ f b := fun e => by
      rw [e] at h1 h2
      have : d = d' := Option.some.inj (h1.symm.trans h1')
      subst this
      omega
    rcases ahead_total h1 h1' hne with q | q
    · exact q
    · have := pos_mono h1' h1 q; omega
  · intro i hi
    have hg : ds[i]? = some ds[i] := List.getElem?_eq_getElem hi
    have hp := pos_lt hg
    obtain ⟨d, h1, h2⟩ := hf _ hp
    have := pos_inj h1 hg h2
    simp only [List.mem_map, List.mem_range]
    exact ⟨_, hp, this⟩

theorem ahead_irrefl (ds : List Int) (i : Nat) : ¬ ahead ds i i := by
  rintro ⟨d, d', h1, h2, h⟩
  have : d = d' := Option.some.inj (h1.symm.trans h2)
  omega
theorem ahead_asymm {ds : List Int} {i j : Nat} (h : ahead ds i j) (h' : ahead ds j i) : False := by
  obtain ⟨d, d', h1, h2, q⟩ := h
  obtain ⟨e, e', g1, g2, r⟩ := h'
  have : d = e' := Option.some.inj (h1.symm.trans g2)
  have : d' = e := Option.some.inj (h2.symm.trans g1)
  omega

/-- Two lists strictly ascending in one order with the same members are one. -/
theorem sorted_unique {r : Nat → Nat → Prop} (hi : ∀ a, ¬ r a a) (has : ∀ a b, r a b → r b a → False) : ∀ (l l' : List Nat), l.Pairwise r → l'.Pairwise r → (∀ x, x ∈ l ↔ x ∈ l') → l = l'
  | [], [], _, _, _ => rfl
  | [], b :: l', _, _, h => absurd ((h b).2 List.mem_cons_self) (by simp)
  | a :: l, [], _, _, h => absurd ((h a).1 List.mem_cons_self) (by simp)
  | a :: l, b :: l', h1, h2, h => by
    rw [List.pairwise_cons] at h1 h2
    have hab : a = b := by
      rcases List.mem_cons.1 ((h a).1 List.mem_cons_self) with e | hin
      · exact e
      · rcases List.mem_cons.1 ((h b).2 List.mem_cons_self) with e | hin'
        · exact e.symm
        · exact (has a b (h1.1 b hin') (h2.1 a hin)).elim
    subst hab
    have := sorted_unique hi has l l' h1.2 h2.2 (fun x => by
      have hx := h x
      simp only [List.mem_cons] at hx
      constructor
      · intro hxl
        rcases hx.1 (.inr hxl) with e | e
        · subst e; exact absurd (h1.1 x hxl) (hi x)
        · exact e
      · intro hxl
        rcases hx.2 (.inr hxl) with e | e
        · subst e; exact absurd (h2.1 x hxl) (hi x)
        · exact e)
    rw [this]

/-- The rows ahead of the cut, in date order, are the order of the first k dates. -/
theorem front_order {ds : List Int} {R Rf : List Nat} {k : Nat} (hR : IsOrd ds R) (hF : IsOrd (ds.take k) Rf) (hk : k ≤ ds.length) : R.filter (fun i => decide (i < k)) = Rf := by
  have hlen : (ds.take k).length = k := by simp; omega
  refine sorted_unique (r := ahead ds) (ahead_irrefl ds) (fun _ _ => ahead_asymm) _ _ (hR.sorted.filter _) ?_ (fun x => ?_)
  · refine hF.sorted.imp fun {a b} h => ?_
    obtain ⟨d, d', h1, h2, q⟩ := h
    rw [List.getElem?_take] at h1 h2
    split at h1
    · split at h2
      · exact ⟨d, d', h1, h2, q⟩
      · cases h2
    · cases h1
  · simp only [List.mem_filter, decide_eq_true_eq]
    constructor
    · intro ⟨_, h⟩
      exact hF.all x (by omega)
    · intro h
      have := hF.lt x h
      exact ⟨hR.all x (by omega), by omega⟩

/-- The rows from the cut on, in date order, are the order of the other dates, k further on. -/
theorem back_order {ds : List Int} {R Rb : List Nat} {k : Nat} (hR : IsOrd ds R) (hB : IsOrd (ds.drop k) Rb) (hk : k ≤ ds.length) : R.filter (fun i => decide (¬ i < k)) = Rb.map (· + k) := by
  have hlen : (ds.drop k).length = ds.length - k := by simp
  refine sorted_unique (r := ahead ds) (ahead_irrefl ds) (fun _ _ => ahead_asymm) _ _ (hR.sorted.filter _) ?_ (fun x => ?_)
  · rw [List.pairwise_map]
    refine hB.sorted.imp fun {a b} h => ?_
    obtain ⟨d, d', h1, h2, q⟩ := h
    rw [List.getElem?_drop] at h1 h2
    refine ⟨d, d', by rw [Nat.add_comm a k]; exact h1, by rw [Nat.add_comm b k]; exact h2, by omega⟩
  · simp only [List.mem_filter, decide_eq_true_eq, List.mem_map]
    constructor
    · intro ⟨h1, h2⟩
      have := hR.lt x h1
      exact ⟨x - k, hB.all _ (by omega), by omega⟩
    · rintro ⟨y, hy, rfl⟩
      have := hB.lt y hy
      exact ⟨hR.all _ (by omega), by omega⟩

/-- Where an element that is kept lies in the filtered list. -/
theorem filter_at (p : Nat → Bool) : ∀ (l : List Nat) (i r : Nat), l[i]? = some r → p r = true → (l.filter p)[((l.take i).filter p).length]? = some r
  | [], i, r, h, _ => by simp at h
  | a :: l, 0, r, h, hp => by
    simp at h
    subst h
    simp [hp]
  | a :: l, i + 1, r, h, hp => by
    have ih := filter_at p l i r (by simpa using h) hp
    cases ha : p a
    · simpa [List.filter_cons, ha] using ih
    · simpa [List.filter_cons, ha] using ih

theorem IsOrd.nodup {ds : List Int} {R : List Nat} (h : IsOrd ds R) : R.Nodup := by
  rw [List.nodup_iff_pairwise_ne]
  exact h.sorted.imp fun {a b} hab e => by subst e; exact ahead_irrefl ds _ hab

/-! ### Counting, as ByDate does -/
/-- How many of the first k dates fall on the day ahead of place j. -/
def cnt1 (ds : List Int) (lo : Int) (k j : Nat) : Nat := (ds.take k).countP (fun d => decide (d - lo + 1 = (j : Int)))

theorem cnt1_step {ds : List Int} {lo : Int} {k : Nat} {d : Int} (hd : ds[k]? = some d) (j : Nat) : cnt1 ds lo (k + 1) j = cnt1 ds lo k j + (if d - lo + 1 = (j : Int) then 1 else 0) := by
  unfold cnt1
  rw [List.take_add_one, hd]
  simp only [Option.toList_some, List.countP_append, List.countP_cons, List.countP_nil, decide_eq_true_eq, Nat.zero_add]
theorem cnt1_le (ds : List Int) (lo : Int) (k j : Nat) : cnt1 ds lo k j ≤ k := by
  unfold cnt1
  exact Nat.le_trans List.countP_le_length (by simp; omega)

/-- How many dates lie ahead of day j. -/
def start (ds : List Int) (lo : Int) (j : Nat) : Nat := ds.countP (fun d => decide (d - lo + 1 ≤ (j : Int)))

theorem start_le (ds : List Int) (lo : Int) (j : Nat) : start ds lo j ≤ ds.length := List.countP_le_length
theorem start_zero (ds : List Int) (lo : Int) (h : ∀ d ∈ ds, lo ≤ d) : start ds lo 0 = cnt1 ds lo ds.length 0 := by
  unfold start cnt1
  rw [List.take_length]
  rw [List.countP_eq_zero.2 (fun d hd => by have := h d hd; simp; omega), List.countP_eq_zero.2 (fun d hd => by have := h d hd; simp; omega)]
theorem start_succ (ds : List Int) (lo : Int) (j : Nat) : start ds lo (j + 1) = cnt1 ds lo ds.length (j + 1) + start ds lo j := by
  unfold start cnt1
  rw [List.take_length]
  induction ds with
  | nil => simp
  | cons d ds ih =>
    rw [List.countP_cons, List.countP_cons, List.countP_cons, ih]
    simp only [decide_eq_true_eq]
    split <;> split <;> split <;> omega
theorem start_pos {ds : List Int} {lo d : Int} {j : Nat} (hj : (j : Int) = d - lo) : start ds lo j = ds.countP (fun x => decide (x < d)) := by
  unfold start
  congr 1
  funext x
  simp only [decide_eq_decide]
  omega

/-- How many of the first k dates fall on day j. -/
def cnt2 (ds : List Int) (lo : Int) (k j : Nat) : Nat := (ds.take k).countP (fun d => decide (d - lo = (j : Int)))
theorem cnt2_step {ds : List Int} {lo : Int} {k : Nat} {d : Int} (hd : ds[k]? = some d) (j : Nat) : cnt2 ds lo (k + 1) j = cnt2 ds lo k j + (if d - lo = (j : Int) then 1 else 0) := by
  unfold cnt2
  rw [List.take_add_one, hd]
  simp only [Option.toList_some, List.countP_append, List.countP_cons, List.countP_nil, decide_eq_true_eq, Nat.zero_add]
theorem cnt2_pos {ds : List Int} {lo d : Int} {k j : Nat} (hj : (j : Int) = d - lo) : cnt2 ds lo k j = (ds.take k).countP (fun x => decide (x = d)) := by
  unfold cnt2
  congr 1
  funext x
  simp only [decide_eq_decide]
  omega
/-- The place that ByDate reckons for row k. -/
theorem place {ds : List Int} {lo d : Int} {k j : Nat} (hj : (j : Int) = d - lo) : start ds lo j + cnt2 ds lo k j = pos ds k d := by
  rw [start_pos hj, cnt2_pos hj]
  rfl
end Go.Proofs.Qxb6628495a
