/-
  'Rows.FnKeyColumnsIgnoresColumnsNotNamedInTheKeySaid', PROVED. The frame is the guide's own way (a law over slices); the walk lies in Qxb6628450aIgnore.lean.
-/
import Derived.Test.Qxb6628450aRows
import Derived.Test.Qxb6628450aIgnore
import Derived.Test.Qxb6628450aOpen
import Derived.WalkKit
import Derived.ProofKit
import Derived.OpenShut
import Derived.ShutString
import Derived.ChangeOld
import Derived.Below
namespace Go.Proofs.Qxb6628450a.fnKeyColumnsIgnores
open Go.ChangeShapes Go.WideShapes Go.ChangeAt Go.RowKit
open Go.ChangeMaps (open_string shut_string)
set_option linter.unusedVariables false

theorem own : ownKnob Try.prog.godebug = none := by kernel_rfl
theorem laidOut : laidOutB Try.prog = true := by kernel_rfl

set_option maxRecDepth 100000 in
theorem lifted (os : Os) (started : os.Started) (H : Type) (enc : TypeId × Value → H) :
    ReturnsInHanded {} Try.checked os 4 .any (Rows.fnKeyColumnsIgnoresColumnsNotNamedInTheKeySpec.pre6 enc Try.prog Try.f4 Rows.fnKeyColumnsIgnoresColumnsNotNamedInTheKeyRow.domain false) (Rows.fnKeyColumnsIgnoresColumnsNotNamedInTheKeySpec.post enc Try.prog Try.f4 false true false false) := by
  refine returnsInHanded_of_change (C := Try.checked) own started (by kernel_rfl) Try.func4
    (ChangeSpec.witness6 (enc := enc) (C := Try.checked) false ⟨#[], #[.string ByteArray.empty, .slice none 0 0, .slice none 0 0, .agg #[.string ByteArray.empty, .string ByteArray.empty, .int .i64 0, .int .i64 0, .bool false], .int .i64 0], []⟩ 8 (by kernel_rfl) (by kernel_rfl) (by kernel_rfl) (by kernel_rfl)) ?_
  intro W base args ds gs before hval0 hW hcnd _
  have hval : ∀ (j : Nat) t v, Try.f4.params[j]? = some t → args[j]? = some v → Value.okWide Try.prog W .any base t v := hval0
  have hW' := hW
  obtain ⟨p, q, hA0, hV, rfl, hfz, hnd⟩ := hW
  have hA : DataW.TrodAll enc Try.prog W 0 (fun _ => true) true Try.f4.params.toList args.toList ds p := hA0
  rw [Try.params4] at hA hval
  obtain ⟨v0, vs0, d0, ds0, p0, q0, hargs, rfl, rfl, h0, r0⟩ := trodAll_cons hA
  obtain ⟨v1, vs1, d1, ds1, p1, q1, rfl, rfl, rfl, h1, r1⟩ := trodAll_cons r0
  obtain ⟨v2, vs2, d2, ds2, p2, q2, rfl, rfl, rfl, h2, r2⟩ := trodAll_cons r1
  obtain ⟨v3, vs3, d3, ds3, p3, q3, rfl, rfl, rfl, h3, r3⟩ := trodAll_cons r2
  obtain ⟨v4, vs4, d4, ds4, p4, q4, rfl, rfl, rfl, h4, r4⟩ := trodAll_cons r3
  obtain ⟨rfl, rfl, rfl⟩ := trodAll_nil r4
  obtain rfl : args = #[v0, v1, v2, v3, v4] := by cases args; simp_all
  obtain ⟨rfl, rfl⟩ := trodVars_none hV
  obtain ⟨a0, rfl, rfl, rfl, w0⟩ := open_string Try.underlying9 (hval 0 9 v0 rfl rfl) h0
  obtain ⟨a1, len1, cap1, rfl⟩ := okWide_slice Try.underlying22 (hval 1 22 v1 rfl rfl)
  obtain ⟨a2, len2, cap2, rfl⟩ := okWide_slice Try.underlying23 (hval 2 23 v2 rfl rfl)
  have k1 := h1
  have k2 := h2
  have lt1 : ∀ x ∈ p1, x.block < W.heap.size := by obtain ⟨m, hm⟩ := k1; exact DataW.trod_lt m _ _ _ hm
  have lt2 : ∀ x ∈ p2, x.block < W.heap.size := by obtain ⟨m, hm⟩ := k2; exact DataW.trod_lt m _ _ _ hm
  obtain ⟨nil1, le1, max1, cs, hcs⟩ := (show (a1 = none → len1 = 0 ∧ cap1 = 0) ∧ len1 ≤ cap1 ∧ cap1 ≤ maxLen ∧ ∃ cs, Cols W W.heap.size a1 len1 cs by obtain ⟨m, hm⟩ := h1; exact open_cols hm)
  obtain ⟨nil2, le2, max2, ks, hks⟩ := (show (a2 = none → len2 = 0 ∧ cap2 = 0) ∧ len2 ≤ cap2 ∧ cap2 ≤ maxLen ∧ ∃ ks, Strs W W.heap.size a2 len2 ks by obtain ⟨m, hm⟩ := h2; exact open_keys hm)
  have k3 := h3
  have lt3 : ∀ x ∈ p3, x.block < W.heap.size := by obtain ⟨m, hm⟩ := k3; exact DataW.trod_lt m _ _ _ hm
  obtain ⟨x, hx⟩ : ∃ x : Co, v3 = .agg #[.string x.name, .string x.kind, .int .i64 x.prec, .int .i64 x.scale, .bool x.nul] := by
    obtain ⟨cv, rfl, _⟩ := okWide_struct Try.underlying38 (hval 3 38 v3 rfl rfl)
    obtain ⟨m, hm⟩ := h3
    obtain ⟨x, hx⟩ := col_of_trod hm
    refine ⟨x, congrArg Value.agg ?_⟩
    apply Array.toList_inj.1
    exact hx
  subst hx
  obtain ⟨a4, rfl, rfl, rfl, w4⟩ := open_int Try.underlying3 (hval 4 3 v4 rfl rfl) h4
  clear hA0 hval0
  refine (walk4 a0 a1 len1 cap1 cs a2 len2 cap2 ks x a4 W (Nat.le_trans le1 max1) hcs nil1 (Nat.le_trans le2 max2) hks).mono fun e W' ⟨he, bel⟩ => ?_
  subst he
  exact ⟨_, rfl, _, _, _, [], _, [], hW', trodAll_mk1 (shut_bool Try.underlying4 _), (trodAll_cons_mk (shut_string Try.underlying9 w0) (trodAll_cons_mk (Below.trod laidOut (by kernel_rfl) (of_decide_eq_true (by kernel_rfl)) k1 bel lt1) (trodAll_cons_mk (Below.trod laidOut (by kernel_rfl) (of_decide_eq_true (by kernel_rfl)) k2 bel lt2) (trodAll_cons_mk (Below.trod laidOut (by kernel_rfl) (of_decide_eq_true (by kernel_rfl)) k3 bel lt3) (trodAll_cons_mk (shut_int Try.underlying3 w4) trodAll_mk0))))), rfl, bel.frame _, fun h => by cases h⟩

theorem over : Rows.fnKeyColumnsIgnoresColumnsNotNamedInTheKeyRow.holds Try.pinned (OpenSpec.ofChange Rows.fnKeyColumnsIgnoresColumnsNotNamedInTheKeySpec) :=
  OpenClaim.holds_of_wide 4 Try.f4 rfl rfl rfl rfl rfl rfl rfl ⟨rfl, rfl, rfl, rfl, rfl⟩ rfl rfl rfl rfl rfl (by kernel_rfl) Try.func4 (by kernel_rfl)
    (of_decide_eq_true (by kernel_rfl)) (by unfold Func.isWrapper; first | (rw [if_pos (by decide +kernel)]; kernel_rfl) | (rw [if_neg (by decide +kernel)]; exact ⟨rfl, rfl⟩))
    (fun os started H enc _ => lifted os started H enc)

/-- THE STATEMENT. -/
theorem proved : Rows.FnKeyColumnsIgnoresColumnsNotNamedInTheKeySaid := over
end Go.Proofs.Qxb6628450a.fnKeyColumnsIgnores
