/-
  THE WALKS OF zzToColumns, zzIsFirstNamed, zzIsColumnOf.
-/
import Derived.Test.Qxb6628450aMakes
import Derived.Test.Qxb6628450aRow
import Derived.WalkSpells
import Derived.Lib.SliceRun
import Derived.Laws.StructEq
namespace Go.Proofs.Qxb6628450a
open Go.RowKit

/-- It returned a slice that holds the columns cs. -/
def GivesCols (n : Nat) (cs : List Co) (e : Ending) (w' : World) : Prop := ∃ a' c', e = .returned (.slice a' n c') ∧ Cols w' w'.heap.size a' n cs

set_option maxHeartbeats 1000000 in
theorem toColumns_any (B : Nat) (a : Option Addr) (n c : Nat) (cs : List Co) (w : World) (h : Cols w B a n cs) (hB : B ≤ w.heap.size) (hn : n ≤ 5000) (hnil : a = none → n = 0 ∧ c = 0) :
    Calls Try.prog 8 #[.slice a n c] w fun e w' => GivesCols n cs e w' ∧ Below w.heap.size w w' := by
  obtain ⟨i0, hi, hz0, hz1, hz2⟩ := info_parts info35
  have q22 : ∀ (w : World) (a : Option Addr) (n c n' c' : Nat), (binOp .eql 22 (.slice a n c) (.slice none n' c')).run Try.prog w = .ok (.bool a.isNone) w := fun w a n c n' c' => Lib.run_eql_slice_nil w _ _ a n c n' c' Try.underlying22
  cases a with
  | none =>
    obtain ⟨rfl, rfl⟩ := hnil rfl
    go_enter Try.func8, Try.ntmps8
    go_wp2
    go_ret
    exact ⟨⟨_, _, rfl, h.mono (Below.refl _ _) hB⟩, Below.refl _ _⟩
  | some a =>
    clear hnil
    go_enter Try.func8, Try.ntmps8
    go_wp2_with (at_make; refine wpList_make_full _ rfl _ _ 26 rfl w.heap.size 35 i0 _ 5 Try.underlying26 hi hz0 hz1 .i64 .i64 _ _ n rfl rfl rfl rfl (by rw [hz2]; omega) (by unfold maxLen; omega) (by simp) ?_; intro w1 hown hgrow; have hrow := row_made cs (fun i => i < 0) (fun i hi => by omega) hown; have hbel := (Below.refl w.heap.size w).grown hgrow (by simp) (by simp); clear hown hgrow)
    clear hi hz0 hz1 hz2 i0
    go_loopw [4] (fun i wr => ∃ k : Nat, k ≤ n ∧ i = .int .i64 k ∧ Row wr w.heap.size n cs (fun i => i < k) ∧ Below w.heap.size w wr) (fun i _ => n - (intOf i).toNat)
    case atStart => exact ⟨0, Nat.zero_le _, rfl, hrow, hbel⟩
    case round =>
      clear hrow hbel w1
      obtain ⟨k, hk, rfl, hrow, hbel⟩ := hrel
      by_cases hlt : k < n
      · obtain ⟨b, off, c0, ha, hb, hck, hc⟩ := h.at hlt
        obtain rfl : a = ⟨b, off, none⟩ := Option.some.inj ha
        obtain ⟨d0, d1, d2, d3, d4⟩ := hc.mono (B := w.heap.size) (by omega) hbel
        have HC := hide hck
        clear hc hck h ha
        go_wp2_with (go_at_call 13; refine (toColumn_any c0 wr).mono ?_; rintro e w2 ⟨rfl, hb2⟩; have hrow2 := hrow.mono hrow.lt hb2; obtain ⟨v0, r0⟩ := hrow2.cells (k * 5) (by omega); obtain ⟨v1, r1⟩ := hrow2.cells (k * 5 + 1) (by omega); obtain ⟨v2, r2⟩ := hrow2.cells (k * 5 + 1 + 1) (by omega); obtain ⟨v3, r3⟩ := hrow2.cells (k * 5 + 1 + 1 + 1) (by omega); obtain ⟨v4, r4⟩ := hrow2.cells (k * 5 + 1 + 1 + 1 + 1) (by omega); have z0 := hrow2.frozen (k * 5); have z1 := hrow2.frozen (k * 5 + 1); have z2 := hrow2.frozen (k * 5 + 1 + 1); have z3 := hrow2.frozen (k * 5 + 1 + 1 + 1); have z4 := hrow2.frozen (k * 5 + 1 + 1 + 1 + 1))
        have hbel2 : Below w.heap.size w w2 := hbel.trans (hb2.mono hbel.size)
        have R1 := Row.put (S' := fun i => i < k + 1) hrow2 hlt (unhide HC) (fun i hi => by omega)
        have R2 := put5_below hbel2 (g := w.heap.size) (Nat.le_refl _) (k * 5) c0
        unfold put5 at R1 R2
        go_roundw
        case rel => exact ⟨k + 1, by omega, by go_num, R1, R2⟩
        case measure => simp [intOf]; omega
      · have hl := h.1
        clear h
        have hk' : k = n := by omega
        subst hk'
        go_wp2
        go_ret
        exact ⟨⟨_, _, rfl, hrow.cols hl (fun i hi => hi)⟩, hbel⟩

/-- Two columns with the same five fields, as Go compares them. -/
def sameC (x y : Co) : Bool := sameS x.name y.name && (sameS x.kind y.kind && ((x.prec == y.prec) && ((x.scale == y.scale) && (x.nul == y.nul))))

set_option maxHeartbeats 1000000 in
theorem isFirst_any (B : Nat) (a : Option Addr) (n c : Nat) (nm : ByteArray) (cs : List Co) (g : Co) (w : World) (hn : n ≤ maxLen) (h : Cols w B a n cs) (hB : B ≤ w.heap.size) (hf : cs.find? (fun c => sameS c.name nm) = some g) :
    Calls Try.prog 10 #[.slice a n c, .string nm, .agg #[.string g.name, .string g.kind, .int .i64 g.prec, .int .i64 g.scale, .bool g.nul]] w fun e w' => e = .returned (.bool true) ∧ Below w.heap.size w w' := by
  unfold maxLen at hn
  have HF := hide hf
  clear hf
  have hlen : Hid (cs.length = n) := h.1
  go_enter Try.func10, Try.ntmps10
  go_wp2
  go_loop [7] (fun i => ∃ k : Nat, k ≤ n ∧ i = .int .i64 k ∧ Hid ((cs.take k).any (fun c => sameS c.name nm) = false)) (fun i => n - (intOf i).toNat)
  case atStart => exact ⟨0, Nat.zero_le _, rfl, rfl⟩
  case round =>
    obtain ⟨k, hk, rfl, hs⟩ := hrel
    by_cases hlt : k < n
    · obtain ⟨b, off, c0, rfl, hb, hck, hc⟩ := h.at hlt
      have hbw : b < w.heap.size := by omega
      have hk5 : (k : Int) < (n : Int) := by omega
      have HC := hide hck
      have HK := hide hc
      obtain ⟨hc0, -⟩ := hc
      clear hck h
      go_wp2
      · have ht : (c0.name.toList == nm.toList) = true := by assumption
        obtain rfl : c0 = g := Option.some.inj ((find_at cs nm k c0 (unhide HC) hs.out ht).symm.trans (unhide HF))
        obtain ⟨-, hc1, hc2, hc3, hc4⟩ := unhide HK
        obtain ⟨W1, hW1⟩ : ∃ W1, W1 = w.alloc (.cells #[.string c0.name, .string c0.kind, .int .i64 c0.prec, .int .i64 c0.scale, .bool c0.nul] 35) := ⟨_, rfl⟩
        rw [← hW1]
        have hb1 : Below w.heap.size w W1 := by rw [hW1]; exact (Below.refl _ _).alloc (Nat.le_refl _) _
        have hs1 : w.heap.size < W1.heap.size := by rw [hW1]; simp
        have g1 : colAt W1 w.heap.size 0 c0 := by rw [hW1]; exact ⟨by simp, by simp, by simp, by simp, by simp⟩
        obtain ⟨d0, d1, d2, d3, d4⟩ := (unhide HK).mono hbw hb1
        have hst : ∀ {w2 : World}, Below W1.heap.size W1.drew w2 → colAt w2 w.heap.size 0 c0 ∧ Below w.heap.size w w2 := fun {w2} hb2 => ⟨g1.mono hs1 ((Below.refl _ W1).drew.trans hb2), hb1.trans ((Below.refl _ W1).drew.trans (hb2.mono (by show _ ≤ W1.heap.size; omega)))⟩
        obtain ⟨g10, g11, g12, g13, g14⟩ := g1
        clear hW1 hc0 hc1 hc2 hc3 hc4
        go_region_with (go_at_call 13; go_must (refine (toColumn_any c0 W1.drew).mono ?_; rintro e w2 ⟨rfl, hb2⟩; obtain ⟨⟨e0, e1, e2, e3, e4⟩, hb3⟩ := hst hb2))
        all_goals (go_wp2; go_ret; exact ⟨rfl, hb3⟩)
      · have ht : (c0.name.toList == nm.toList) = false := by assumption
        go_round
        case rel => exact ⟨k + 1, by omega, by go_num, any_step _ _ k c0 HC.out hs.out ht⟩
        case measure => simp [intOf]; omega
    · have hf : hasN cs nm = false := any_end _ _ k (by have := hlen.out; omega) hs.out
      have := find_has (unhide HF)
      simp [hf] at this

theorem sameC_refl (c : Co) : sameC c c = true := by simp [sameC, sameS]

theorem run_eqC (w : World) (x y : Co) : (binOp .eql 35 (.agg #[.string x.name, .string x.kind, .int .i64 x.prec, .int .i64 x.scale, .bool x.nul]) (.agg #[.string y.name, .string y.kind, .int .i64 y.prec, .int .i64 y.scale, .bool y.nul])).run Try.prog w = .ok (.bool (sameC x y)) w := by
  go_simp
  simp only [sameC, sameS]
  by_cases h1 : x.name.toList = y.name.toList <;> by_cases h2 : x.kind.toList = y.kind.toList <;> by_cases h3 : x.prec = y.prec <;> by_cases h4 : x.scale = y.scale <;> by_cases h5 : x.nul = y.nul <;> simp [h1, h2, h3, h4, h5]

set_option maxHeartbeats 1000000 in
theorem isColumnOf_any (B : Nat) (a : Option Addr) (n c : Nat) (cs : List Co) (g : Co) (w : World) (hn : n ≤ maxLen) (h : Cols w B a n cs) (hB : B ≤ w.heap.size) (hf : g ∈ cs) :
    Calls Try.prog 14 #[.slice a n c, .agg #[.string g.name, .string g.kind, .int .i64 g.prec, .int .i64 g.scale, .bool g.nul]] w fun e w' => e = .returned (.bool true) ∧ Below w.heap.size w w' := by
  unfold maxLen at hn
  have HF := hide hf
  clear hf
  have hlen : Hid (cs.length = n) := h.1
  go_enter Try.func14, Try.ntmps14
  go_wp2
  obtain ⟨W1, hW1⟩ : ∃ W1, W1 = w.alloc (.cells #[.string g.name, .string g.kind, .int .i64 g.prec, .int .i64 g.scale, .bool g.nul] 35) := ⟨_, rfl⟩
  rw [← hW1]
  have hb1 : Below w.heap.size w W1 := by rw [hW1]; exact (Below.refl _ _).alloc (Nat.le_refl _) _
  have hs1 : w.heap.size < W1.heap.size := by rw [hW1]; simp
  have g1 : colAt W1 w.heap.size 0 g := by rw [hW1]; exact ⟨by simp, by simp, by simp, by simp, by simp⟩
  clear hW1
  go_loopw [5] (fun i wr => ∃ k : Nat, k ≤ n ∧ i = .int .i64 k ∧ Hid ((cs.take k).any (fun c => sameC c g) = false) ∧ Below w.heap.size w wr ∧ colAt wr w.heap.size 0 g ∧ w.heap.size < wr.heap.size) (fun i _ => n - (intOf i).toNat)
  case atStart => exact ⟨0, Nat.zero_le _, rfl, rfl, hb1, g1, hs1⟩
  case round =>
    clear hb1 hs1 g1 W1
    obtain ⟨k, hk, rfl, hs, hb1, g1, hs1⟩ := hrel
    by_cases hlt : k < n
    · obtain ⟨b, off, c0, rfl, hb, hck, hc⟩ := h.at hlt
      have hk5 : (k : Int) < (n : Int) := by omega
      have HC := hide hck
      obtain ⟨d0, d1, d2, d3, d4⟩ := hc.mono (B := w.heap.size) (by omega) hb1
      clear hck h hc
      have hst : ∀ {w2 : World}, Below wr.heap.size wr.drew w2 → colAt w2 w.heap.size 0 g ∧ Below w.heap.size w w2 := fun {w2} hb2 => ⟨g1.mono hs1 ((Below.refl _ wr).drew.trans hb2), hb1.trans ((Below.refl _ wr).drew.trans (hb2.mono (by show _ ≤ wr.heap.size; omega)))⟩
      have G1 := hide g1
      have hE := fun w => run_eqC w c0 g
      obtain ⟨g10, g11, g12, g13, g14⟩ := g1
      go_wp2
      go_region_with (go_at_call 13; go_must (refine (toColumn_any c0 wr.drew).mono ?_; rintro e w2 ⟨rfl, hb2⟩; obtain ⟨hg2, hb3⟩ := hst hb2; obtain ⟨e0, e1, e2, e3, e4⟩ := id hg2; have hg3 := hide hg2; clear hg2))
      all_goals
        have hs2 : w.heap.size < w2.heap.size := by have := hb2.size; simp only [World.size_drew] at this; omega
        go_wp2
        · go_ret
          exact ⟨rfl, hb3⟩
        · have ht : sameC c0 g = false := by assumption
          go_roundw
          case rel => exact ⟨k + 1, by omega, by go_num, any_step _ _ k c0 HC.out hs.out ht, hb3, unhide hg3, hs2⟩
          case measure => simp [intOf]; omega
    · have hf : cs.any (fun c => sameC c g) = false := any_end _ _ k (by have := hlen.out; omega) hs.out
      rw [List.any_eq_false] at hf
      exact absurd (sameC_refl g) (hf g (unhide HF))
end Go.Proofs.Qxb6628450a
