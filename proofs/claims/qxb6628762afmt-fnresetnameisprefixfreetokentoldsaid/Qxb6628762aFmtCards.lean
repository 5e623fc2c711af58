/-
  DERIVED. GIVEN WITH THE SEED: THE CARDS: each row of Qxb6628762aFmtRows.lean that lists a variable, with what it lists TIED to the program's text (the seventh form; the later family's looks); each row that meets fmt, with fmt's text TOLD by the authors' own Lean function (tested against real Go, not proved from fmt's source: count such statements apart). THE CARD IS WHAT COUNTS. Prove the row's statement (the work); the ties are given (Qxb6628762aFmtTie.lean); close each card by the builder's one call (the guide's Derived/Test/ToyasCard.lean, 'card_holds'). Laid BY PROGRAM, IN A SANDBOX (cutbox-door.mjs). By AI agents, Wed Nov 11 2026. No macro, syntax, notation, axiom, sorry.
-/
import Derived.Test.Qxb6628762aFmtRows
import GoSem.ClaimSeven
namespace Go.Proofs.Qxb6628762aFmt
namespace Rows

/-- THE TOLD CARD OF 'zzlaws_internal_tcp_b1.FnResetNameIsPrefixFreeToken'. -/
def fnResetNameIsPrefixFreeTokenCard : Claim7 := { stood := { row := fnResetNameIsPrefixFreeTokenRow, standIns := [], harness := (true, "e83e414edee9127c4b9e7da6ee1fe8333b544219b6585408768e6175c73dc4e5"), looks := false }, told := true, goes := false }
def FnResetNameIsPrefixFreeTokenToldSaid : Prop := Claim7.holds Tryf.pinned (.plain (OpenSpec.ofChange fnResetNameIsPrefixFreeTokenSpec)) fnResetNameIsPrefixFreeTokenCard
/-- ITS FALSE NEIGHBOUR. Refute it at one input. -/
def FnResetNameIsPrefixFreeTokenToldWrongFalsely : Prop := Claim7.holds Tryf.pinned (.plain (OpenSpec.ofChange fnResetNameIsPrefixFreeTokenWrong)) fnResetNameIsPrefixFreeTokenCard

/-- THE TOLD CARD OF 'zzlaws_internal_tcp_b1.FnResetNameOrderFollowsValue'. -/
def fnResetNameOrderFollowsValueCard : Claim7 := { stood := { row := fnResetNameOrderFollowsValueRow, standIns := [], harness := (true, "e83e414edee9127c4b9e7da6ee1fe8333b544219b6585408768e6175c73dc4e5"), looks := false }, told := true, goes := false }
def FnResetNameOrderFollowsValueToldSaid : Prop := Claim7.holds Tryf.pinned (.plain (OpenSpec.ofChange fnResetNameOrderFollowsValueSpec)) fnResetNameOrderFollowsValueCard
/-- ITS FALSE NEIGHBOUR. Refute it at one input. -/
def FnResetNameOrderFollowsValueToldWrongFalsely : Prop := Claim7.holds Tryf.pinned (.plain (OpenSpec.ofChange fnResetNameOrderFollowsValueWrong)) fnResetNameOrderFollowsValueCard
end Rows
end Go.Proofs.Qxb6628762aFmt
