/-
  No cell of these rows narrows 'for every input' (looked for: loops, veiled, ifaces, maps, wideKeys, modest, calm, conditions, laid).
  DERIVED. THE GIVEN ROWS OF THIS SEAT. 2 by the template 'for every input the law returns true; each argument reads behind the call as it read before'; 0 by the template 'total and deterministic' (their statements: Qxb6628450aTotals.lean).
  GIVEN WITH THE SEED: the statements are not yours to turn. If you find one false, say at which input.
  Laid BY PROGRAM, IN A SANDBOX (cutbox-rows.mjs): the forced cells as the released guide's own fill.sh prints them over the translation bf0ca448b4d66885… (all of the seat's roots in one cut). By AI agents, Wed Nov 11 2026. No macro, syntax, notation, axiom, sorry.
-/
import Derived.Test.Qxb6628450aChecked
import GoSem.Claim
import GoSem.ClaimJoined
import GoSem.ClaimMapViews
import Derived.JoinedTies
import Derived.KernelRfl
namespace Go.Proofs.Qxb6628450a
/- THE CELL 'sum', in the pinned program and in every row, IS THE sha256 OF THE DUMP (.gsa) THAT Qxb6628450aProg.lean LOADS. Nothing in Lean hashes anything: it is a label: what it is worth is what the hold of that sum in a sandbox is worth. -/
noncomputable def Try.pinned : Pinned := { name := "qxb6628450a", sum := "bf0ca448b4d668850d94163dd44906d46e450bfbb82484d694034f09f1837f9d", checked := Try.checked }
namespace Rows
def none {H : Type} : Left H := { results := [], args := [] }

/-- 'zzlaws_root_b1.FnKeyColumnsSplitsAtAnyCutAndPicksFirstNamed': WHATEVER THE INPUT: true; the input reads as it did. -/
def fnKeyColumnsSplitsAtAnyCutAndPicksFirstNamedSpec : ChangeSpec := { name := "fnKeyColumnsSplitsAtAnyCutAndPicksFirstNamed", fn := fun _ => fun
  | [d1, d2, d3, d4] => { results := [.lit (.bool true)], args := [d1, d2, d3, d4] }
  | _ => none }
def fnKeyColumnsSplitsAtAnyCutAndPicksFirstNamedRow : OpenClaim := { program := "qxb6628450a", sum := "bf0ca448b4d668850d94163dd44906d46e450bfbb82484d694034f09f1837f9d", func := "example.com/kasane/kasane/zzlaws_root_b1.FnKeyColumnsSplitsAtAnyCutAndPicksFirstNamed", spec := "fnKeyColumnsSplitsAtAnyCutAndPicksFirstNamed", unfollowed := true, recurses := true, apart := false }
def FnKeyColumnsSplitsAtAnyCutAndPicksFirstNamedSaid : Prop := fnKeyColumnsSplitsAtAnyCutAndPicksFirstNamedRow.holds Try.pinned (OpenSpec.ofChange fnKeyColumnsSplitsAtAnyCutAndPicksFirstNamedSpec)

/-- ITS FALSE NEIGHBOUR: 'it returns false'. Refute it at one input. -/
def fnKeyColumnsSplitsAtAnyCutAndPicksFirstNamedWrong : ChangeSpec := { name := "fnKeyColumnsSplitsAtAnyCutAndPicksFirstNamed", fn := fun _ => fun
  | [d1, d2, d3, d4] => { results := [.lit (.bool false)], args := [d1, d2, d3, d4] }
  | _ => none }
def FnKeyColumnsSplitsAtAnyCutAndPicksFirstNamedWrongFalsely : Prop := fnKeyColumnsSplitsAtAnyCutAndPicksFirstNamedRow.holds Try.pinned (OpenSpec.ofChange fnKeyColumnsSplitsAtAnyCutAndPicksFirstNamedWrong)

/-- 'zzlaws_root_b1.FnKeyColumnsIgnoresColumnsNotNamedInTheKey': WHATEVER THE INPUT: true; the input reads as it did. -/
def fnKeyColumnsIgnoresColumnsNotNamedInTheKeySpec : ChangeSpec := { name := "fnKeyColumnsIgnoresColumnsNotNamedInTheKey", fn := fun _ => fun
  | [d1, d2, d3, d4, d5] => { results := [.lit (.bool true)], args := [d1, d2, d3, d4, d5] }
  | _ => none }
def fnKeyColumnsIgnoresColumnsNotNamedInTheKeyRow : OpenClaim := { program := "qxb6628450a", sum := "bf0ca448b4d668850d94163dd44906d46e450bfbb82484d694034f09f1837f9d", func := "example.com/kasane/kasane/zzlaws_root_b1.FnKeyColumnsIgnoresColumnsNotNamedInTheKey", spec := "fnKeyColumnsIgnoresColumnsNotNamedInTheKey", unfollowed := true, recurses := true, apart := false }
def FnKeyColumnsIgnoresColumnsNotNamedInTheKeySaid : Prop := fnKeyColumnsIgnoresColumnsNotNamedInTheKeyRow.holds Try.pinned (OpenSpec.ofChange fnKeyColumnsIgnoresColumnsNotNamedInTheKeySpec)

/-- ITS FALSE NEIGHBOUR: 'it returns false'. Refute it at one input. -/
def fnKeyColumnsIgnoresColumnsNotNamedInTheKeyWrong : ChangeSpec := { name := "fnKeyColumnsIgnoresColumnsNotNamedInTheKey", fn := fun _ => fun
  | [d1, d2, d3, d4, d5] => { results := [.lit (.bool false)], args := [d1, d2, d3, d4, d5] }
  | _ => none }
def FnKeyColumnsIgnoresColumnsNotNamedInTheKeyWrongFalsely : Prop := fnKeyColumnsIgnoresColumnsNotNamedInTheKeyRow.holds Try.pinned (OpenSpec.ofChange fnKeyColumnsIgnoresColumnsNotNamedInTheKeyWrong)

end Rows
end Go.Proofs.Qxb6628450a
