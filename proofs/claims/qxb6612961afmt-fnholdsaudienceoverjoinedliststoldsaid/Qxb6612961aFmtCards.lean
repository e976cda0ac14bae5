/-
  DERIVED. GIVEN WITH THE SEED: THE CARDS: each row of Qxb6612961aFmtRows.lean that lists a variable, with what it lists TIED to the program's text (the seventh form; the later family's looks); each row that meets fmt, with fmt's text TOLD by the authors' own Lean function (tested against real Go, not proved from fmt's source: count such statements apart). THE CARD IS WHAT COUNTS. Prove the row's statement (the work); the ties are given (Qxb6612961aFmtTie.lean); close each card by the builder's one call (the guide's Derived/Test/ToyasCard.lean, 'card_holds'). Laid BY PROGRAM, IN A SANDBOX (cutbox-door.mjs). By AI agents, Wed Nov 11 2026. No macro, syntax, notation, axiom, sorry.
-/
import Derived.Test.Qxb6612961aFmtRows
import GoSem.ClaimSeven
namespace Go.Proofs.Qxb6612961aFmt
namespace Rows

/-- THE TOLD CARD OF 'zzlaws_root_b1.FnHoldsAudienceOverJoinedLists'. -/
def fnHoldsAudienceOverJoinedListsCard : Claim7 := { stood := { row := fnHoldsAudienceOverJoinedListsRow, standIns := [], harness := (true, "45f058cd1f745c241ef6576fb23bab2ede233806a6fa8e5b0bf1f732ef03a46c"), looks := true }, told := true, goes := false }
def FnHoldsAudienceOverJoinedListsToldSaid : Prop := Claim7.holds Tryf.pinned (.plain (OpenSpec.ofChange fnHoldsAudienceOverJoinedListsSpec)) fnHoldsAudienceOverJoinedListsCard
/-- ITS FALSE NEIGHBOUR. Refute it at one input. -/
def FnHoldsAudienceOverJoinedListsToldWrongFalsely : Prop := Claim7.holds Tryf.pinned (.plain (OpenSpec.ofChange fnHoldsAudienceOverJoinedListsWrong)) fnHoldsAudienceOverJoinedListsCard

/-- THE TOLD CARD OF 'zzlaws_root_b1.FnRefuseFormatWithoutVerbReadsAsItself'. -/
def fnRefuseFormatWithoutVerbReadsAsItselfCard : Claim7 := { stood := { row := fnRefuseFormatWithoutVerbReadsAsItselfRow, standIns := [], harness := (true, "45f058cd1f745c241ef6576fb23bab2ede233806a6fa8e5b0bf1f732ef03a46c"), looks := true }, told := true, goes := false }
def FnRefuseFormatWithoutVerbReadsAsItselfToldSaid : Prop := Claim7.holds Tryf.pinned (.plain (OpenSpec.ofChange fnRefuseFormatWithoutVerbReadsAsItselfSpec)) fnRefuseFormatWithoutVerbReadsAsItselfCard
/-- ITS FALSE NEIGHBOUR. Refute it at one input. -/
def FnRefuseFormatWithoutVerbReadsAsItselfToldWrongFalsely : Prop := Claim7.holds Tryf.pinned (.plain (OpenSpec.ofChange fnRefuseFormatWithoutVerbReadsAsItselfWrong)) fnRefuseFormatWithoutVerbReadsAsItselfCard
end Rows
end Go.Proofs.Qxb6612961aFmt
