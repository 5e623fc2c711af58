/-
  No cell of these rows narrows 'for every input' (looked for: loops, veiled, ifaces, maps, wideKeys, modest, calm, conditions, laid).
  DERIVED. THE GIVEN ROWS OF THIS SEAT. 2 by the template 'for every input the law returns true; each argument reads behind the call as it read before'; 0 by the template 'total and deterministic' (their statements: Qxb6628762aFmtTotals.lean).
  GIVEN WITH THE SEED: the statements are not yours to turn. If you find one false, say at which input.
  Laid BY PROGRAM, IN A SANDBOX (cutbox-rows.mjs): the forced cells as the released guide's own fill.sh prints them over the translation 86468ef2cb6a1690… (all of the seat's roots in one cut). By AI agents, Wed Nov 11 2026. No macro, syntax, notation, axiom, sorry.
-/
import Derived.Test.Qxb6628762aFmtChecked
import GoSem.Claim
import GoSem.ClaimJoined
import GoSem.ClaimMapViews
import Derived.JoinedTies
import Derived.KernelRfl
namespace Go.Proofs.Qxb6628762aFmt
/- THE CELL 'sum', in the pinned program and in every row, IS THE sha256 OF THE DUMP (.gsa) THAT Qxb6628762aFmtProg.lean LOADS. Nothing in Lean hashes anything: it is a label: what it is worth is what the hold of that sum in a sandbox is worth. -/
noncomputable def Tryf.pinned : Pinned := { name := "qxb6628762afmt", sum := "86468ef2cb6a1690bd0e6a14db33320723e06f1d0ce3d19e5673990e2767e136", checked := Tryf.checked }
namespace Rows
def none {H : Type} : Left H := { results := [], args := [] }

/-- 'zzlaws_internal_tcp_b1.FnResetNameIsPrefixFreeToken': WHATEVER THE INPUT: true; the input reads as it did. -/
def fnResetNameIsPrefixFreeTokenSpec : ChangeSpec := { name := "fnResetNameIsPrefixFreeToken", fn := fun _ => fun
  | [d1, d2] => { results := [.lit (.bool true)], args := [d1, d2] }
  | _ => none }
def fnResetNameIsPrefixFreeTokenRow : OpenClaim := { program := "qxb6628762afmt", sum := "86468ef2cb6a1690bd0e6a14db33320723e06f1d0ce3d19e5673990e2767e136", func := "example.com/strandwire/strandwire/zzlaws_internal_tcp_b1.FnResetNameIsPrefixFreeToken", spec := "fnResetNameIsPrefixFreeToken", stops := ["fmt.Sprintf"], inPlace := ["fmt.Sprintf"], apart := false }
/-- NO THEOREM (fmt's text is open here; it may be false): for the released tool's asking of the row's closed facts alone. THE STATEMENT IS 'FnResetNameIsPrefixFreeTokenToldSaid' (Qxb6628762aFmtCards.lean). -/
def FnResetNameIsPrefixFreeTokenFormAsk : Prop := fnResetNameIsPrefixFreeTokenRow.holds Tryf.pinned (OpenSpec.ofChange fnResetNameIsPrefixFreeTokenSpec)

/-- ITS FALSE NEIGHBOUR: 'it returns false'. Refute it at one input. -/
def fnResetNameIsPrefixFreeTokenWrong : ChangeSpec := { name := "fnResetNameIsPrefixFreeToken", fn := fun _ => fun
  | [d1, d2] => { results := [.lit (.bool false)], args := [d1, d2] }
  | _ => none }
def FnResetNameIsPrefixFreeTokenWrongFormAsk : Prop := fnResetNameIsPrefixFreeTokenRow.holds Tryf.pinned (OpenSpec.ofChange fnResetNameIsPrefixFreeTokenWrong)

/-- 'zzlaws_internal_tcp_b1.FnResetNameOrderFollowsValue': WHATEVER THE INPUT: true; the input reads as it did. -/
def fnResetNameOrderFollowsValueSpec : ChangeSpec := { name := "fnResetNameOrderFollowsValue", fn := fun _ => fun
  | [d1, d2] => { results := [.lit (.bool true)], args := [d1, d2] }
  | _ => none }
def fnResetNameOrderFollowsValueRow : OpenClaim := { program := "qxb6628762afmt", sum := "86468ef2cb6a1690bd0e6a14db33320723e06f1d0ce3d19e5673990e2767e136", func := "example.com/strandwire/strandwire/zzlaws_internal_tcp_b1.FnResetNameOrderFollowsValue", spec := "fnResetNameOrderFollowsValue", stops := ["fmt.Sprintf"], inPlace := ["fmt.Sprintf"], apart := false }
/-- NO THEOREM (fmt's text is open here; it may be false): for the released tool's asking of the row's closed facts alone. THE STATEMENT IS 'FnResetNameOrderFollowsValueToldSaid' (Qxb6628762aFmtCards.lean). -/
def FnResetNameOrderFollowsValueFormAsk : Prop := fnResetNameOrderFollowsValueRow.holds Tryf.pinned (OpenSpec.ofChange fnResetNameOrderFollowsValueSpec)

/-- ITS FALSE NEIGHBOUR: 'it returns false'. Refute it at one input. -/
def fnResetNameOrderFollowsValueWrong : ChangeSpec := { name := "fnResetNameOrderFollowsValue", fn := fun _ => fun
  | [d1, d2] => { results := [.lit (.bool false)], args := [d1, d2] }
  | _ => none }
def FnResetNameOrderFollowsValueWrongFormAsk : Prop := fnResetNameOrderFollowsValueRow.holds Tryf.pinned (OpenSpec.ofChange fnResetNameOrderFollowsValueWrong)

end Rows
end Go.Proofs.Qxb6628762aFmt
