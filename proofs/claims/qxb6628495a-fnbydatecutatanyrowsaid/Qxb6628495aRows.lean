/-
  No cell of these rows narrows 'for every input' (looked for: loops, veiled, ifaces, maps, wideKeys, modest, calm, conditions, laid).
  DERIVED. THE GIVEN ROWS OF THIS SEAT. 2 by the template 'for every input the law returns true; each argument reads behind the call as it read before'; 0 by the template 'total and deterministic' (their statements: Qxb6628495aTotals.lean).
  GIVEN WITH THE SEED: the statements are not yours to turn. If you find one false, say at which input.
  Laid BY PROGRAM, IN A SANDBOX (cutbox-rows.mjs): the forced cells as the released guide's own fill.sh prints them over the translation 90150fb5989e0db5… (all of the seat's roots in one cut). By AI agents, Wed Nov 11 2026. No macro, syntax, notation, axiom, sorry.
-/
import Derived.Test.Qxb6628495aChecked
import GoSem.Claim
import GoSem.ClaimJoined
import GoSem.ClaimMapViews
import Derived.JoinedTies
import Derived.KernelRfl
namespace Go.Proofs.Qxb6628495a
/- THE CELL 'sum', in the pinned program and in every row, IS THE sha256 OF THE DUMP (.gsa) THAT Qxb6628495aProg.lean LOADS. Nothing in Lean hashes anything: it is a label: what it is worth is what the hold of that sum in a sandbox is worth. -/
noncomputable def Try.pinned : Pinned := { name := "qxb6628495a", sum := "90150fb5989e0db5760b88cf6611ab458ccf3ea83c0656455ba70a7e961855ad", checked := Try.checked }
namespace Rows
def none {H : Type} : Left H := { results := [], args := [] }

/-- 'zzlaws_records_b1.FnByDateIsStableDateOrder': WHATEVER THE INPUT: true; the input reads as it did. -/
def fnByDateIsStableDateOrderSpec : ChangeSpec := { name := "fnByDateIsStableDateOrder", fn := fun _ => fun
  | [d] => { results := [.lit (.bool true)], args := [d] }
  | _ => none }
def fnByDateIsStableDateOrderRow : OpenClaim := { program := "qxb6628495a", sum := "90150fb5989e0db5760b88cf6611ab458ccf3ea83c0656455ba70a7e961855ad", func := "example.com/armslength/armslength/zzlaws_records_b1.FnByDateIsStableDateOrder", spec := "fnByDateIsStableDateOrder", unfollowed := true, recurses := true, apart := false }
def FnByDateIsStableDateOrderSaid : Prop := fnByDateIsStableDateOrderRow.holds Try.pinned (OpenSpec.ofChange fnByDateIsStableDateOrderSpec)

/-- ITS FALSE NEIGHBOUR: 'it returns false'. Refute it at one input. -/
def fnByDateIsStableDateOrderWrong : ChangeSpec := { name := "fnByDateIsStableDateOrder", fn := fun _ => fun
  | [d] => { results := [.lit (.bool false)], args := [d] }
  | _ => none }
def FnByDateIsStableDateOrderWrongFalsely : Prop := fnByDateIsStableDateOrderRow.holds Try.pinned (OpenSpec.ofChange fnByDateIsStableDateOrderWrong)

/-- 'zzlaws_records_b1.FnByDateCutAtAnyRow': WHATEVER THE INPUT: true; the input reads as it did. -/
def fnByDateCutAtAnyRowSpec : ChangeSpec := { name := "fnByDateCutAtAnyRow", fn := fun _ => fun
  | [d1, d2] => { results := [.lit (.bool true)], args := [d1, d2] }
  | _ => none }
def fnByDateCutAtAnyRowRow : OpenClaim := { program := "qxb6628495a", sum := "90150fb5989e0db5760b88cf6611ab458ccf3ea83c0656455ba70a7e961855ad", func := "example.com/armslength/armslength/zzlaws_records_b1.FnByDateCutAtAnyRow", spec := "fnByDateCutAtAnyRow", unfollowed := true, recurses := true, apart := false }
def FnByDateCutAtAnyRowSaid : Prop := fnByDateCutAtAnyRowRow.holds Try.pinned (OpenSpec.ofChange fnByDateCutAtAnyRowSpec)

/-- ITS FALSE NEIGHBOUR: 'it returns false'. Refute it at one input. -/
def fnByDateCutAtAnyRowWrong : ChangeSpec := { name := "fnByDateCutAtAnyRow", fn := fun _ => fun
  | [d1, d2] => { results := [.lit (.bool false)], args := [d1, d2] }
  | _ => none }
def FnByDateCutAtAnyRowWrongFalsely : Prop := fnByDateCutAtAnyRowRow.holds Try.pinned (OpenSpec.ofChange fnByDateCutAtAnyRowWrong)

end Rows
end Go.Proofs.Qxb6628495a
