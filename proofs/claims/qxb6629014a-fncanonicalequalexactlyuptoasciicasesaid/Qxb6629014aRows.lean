/-
  No cell of these rows narrows 'for every input' (looked for: loops, veiled, ifaces, maps, wideKeys, modest, calm, conditions, laid).
  DERIVED. THE GIVEN ROWS OF THIS SEAT. 2 by the template 'for every input the law returns true; each argument reads behind the call as it read before'; 0 by the template 'total and deterministic' (their statements: Qxb6629014aTotals.lean).
  GIVEN WITH THE SEED: the statements are not yours to turn. If you find one false, say at which input.
  Laid BY PROGRAM, IN A SANDBOX (cutbox-rows.mjs): the forced cells as the released guide's own fill.sh prints them over the translation 8ad078cd8a8ff46e… (all of the seat's roots in one cut). By AI agents, Wed Nov 11 2026. No macro, syntax, notation, axiom, sorry.
-/
import Derived.Test.Qxb6629014aChecked
import GoSem.Claim
import GoSem.ClaimJoined
import GoSem.ClaimMapViews
import Derived.JoinedTies
import Derived.KernelRfl
namespace Go.Proofs.Qxb6629014a
/- THE CELL 'sum', in the pinned program and in every row, IS THE sha256 OF THE DUMP (.gsa) THAT Qxb6629014aProg.lean LOADS. Nothing in Lean hashes anything: it is a label: what it is worth is what the hold of that sum in a sandbox is worth. -/
noncomputable def Try.pinned : Pinned := { name := "qxb6629014a", sum := "8ad078cd8a8ff46ee198e6e4464aea0151576f86c88290b764a98b73e4119e3b", checked := Try.checked }
namespace Rows
def none {H : Type} : Left H := { results := [], args := [] }

/-- 'zzlaws_dnsname_b1.FnCanonicalEqualExactlyUpToASCIICase': WHATEVER THE INPUT: true; the input reads as it did. -/
def fnCanonicalEqualExactlyUpToASCIICaseSpec : ChangeSpec := { name := "fnCanonicalEqualExactlyUpToASCIICase", fn := fun _ => fun
  | [d1, d2] => { results := [.lit (.bool true)], args := [d1, d2] }
  | _ => none }
def fnCanonicalEqualExactlyUpToASCIICaseRow : OpenClaim := { program := "qxb6629014a", sum := "8ad078cd8a8ff46ee198e6e4464aea0151576f86c88290b764a98b73e4119e3b", func := "example.com/resolvent/resolvent/zzlaws_dnsname_b1.FnCanonicalEqualExactlyUpToASCIICase", spec := "fnCanonicalEqualExactlyUpToASCIICase", apart := false }
def FnCanonicalEqualExactlyUpToASCIICaseSaid : Prop := fnCanonicalEqualExactlyUpToASCIICaseRow.holds Try.pinned (OpenSpec.ofChange fnCanonicalEqualExactlyUpToASCIICaseSpec)

/-- ITS FALSE NEIGHBOUR: 'it returns false'. Refute it at one input. -/
def fnCanonicalEqualExactlyUpToASCIICaseWrong : ChangeSpec := { name := "fnCanonicalEqualExactlyUpToASCIICase", fn := fun _ => fun
  | [d1, d2] => { results := [.lit (.bool false)], args := [d1, d2] }
  | _ => none }
def FnCanonicalEqualExactlyUpToASCIICaseWrongFalsely : Prop := fnCanonicalEqualExactlyUpToASCIICaseRow.holds Try.pinned (OpenSpec.ofChange fnCanonicalEqualExactlyUpToASCIICaseWrong)

/-- 'zzlaws_dnsname_b1.FnCanonicalJoinsLabelwiseAndIsIdempotent': WHATEVER THE INPUT: true; the input reads as it did. -/
def fnCanonicalJoinsLabelwiseAndIsIdempotentSpec : ChangeSpec := { name := "fnCanonicalJoinsLabelwiseAndIsIdempotent", fn := fun _ => fun
  | [d1, d2] => { results := [.lit (.bool true)], args := [d1, d2] }
  | _ => none }
def fnCanonicalJoinsLabelwiseAndIsIdempotentRow : OpenClaim := { program := "qxb6629014a", sum := "8ad078cd8a8ff46ee198e6e4464aea0151576f86c88290b764a98b73e4119e3b", func := "example.com/resolvent/resolvent/zzlaws_dnsname_b1.FnCanonicalJoinsLabelwiseAndIsIdempotent", spec := "fnCanonicalJoinsLabelwiseAndIsIdempotent", apart := false }
def FnCanonicalJoinsLabelwiseAndIsIdempotentSaid : Prop := fnCanonicalJoinsLabelwiseAndIsIdempotentRow.holds Try.pinned (OpenSpec.ofChange fnCanonicalJoinsLabelwiseAndIsIdempotentSpec)

/-- ITS FALSE NEIGHBOUR: 'it returns false'. Refute it at one input. -/
def fnCanonicalJoinsLabelwiseAndIsIdempotentWrong : ChangeSpec := { name := "fnCanonicalJoinsLabelwiseAndIsIdempotent", fn := fun _ => fun
  | [d1, d2] => { results := [.lit (.bool false)], args := [d1, d2] }
  | _ => none }
def FnCanonicalJoinsLabelwiseAndIsIdempotentWrongFalsely : Prop := fnCanonicalJoinsLabelwiseAndIsIdempotentRow.holds Try.pinned (OpenSpec.ofChange fnCanonicalJoinsLabelwiseAndIsIdempotentWrong)

end Rows
end Go.Proofs.Qxb6629014a
