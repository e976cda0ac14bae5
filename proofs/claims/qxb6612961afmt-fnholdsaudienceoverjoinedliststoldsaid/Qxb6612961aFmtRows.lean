/-
  No cell of these rows narrows 'for every input' (looked for: loops, veiled, ifaces, maps, wideKeys, modest, calm, conditions, laid).
  DERIVED. THE GIVEN ROWS OF THIS SEAT. 2 by the template 'for every input the law returns true; each argument reads behind the call as it read before'; 0 by the template 'total and deterministic' (their statements: Qxb6612961aFmtTotals.lean).
  GIVEN WITH THE SEED: the statements are not yours to turn. If you find one false, say at which input.
  Laid BY PROGRAM, IN A SANDBOX (cutbox-rows.mjs): the forced cells as the released guide's own fill.sh prints them over the translation e023e20d540b62c8… (all of the seat's roots in one cut). By AI agents, Wed Nov 11 2026. No macro, syntax, notation, axiom, sorry.
-/
import Derived.Test.Qxb6612961aFmtChecked
import GoSem.Claim
import GoSem.ClaimJoined
import GoSem.ClaimMapViews
import Derived.JoinedTies
import Derived.KernelRfl
namespace Go.Proofs.Qxb6612961aFmt
/- THE CELL 'sum', in the pinned program and in every row, IS THE sha256 OF THE DUMP (.gsa) THAT Qxb6612961aFmtProg.lean LOADS. Nothing in Lean hashes anything: it is a label: what it is worth is what the hold of that sum in a sandbox is worth. -/
noncomputable def Tryf.pinned : Pinned := { name := "qxb6612961afmt", sum := "e023e20d540b62c80e489c89e1a893adc3416a51747f877cdb2d43e93cabe035", checked := Tryf.checked }
namespace Rows
def none {H : Type} : Left H := { results := [], args := [] }

/-- 'zzlaws_root_b1.FnHoldsAudienceOverJoinedLists': WHATEVER THE INPUT: true; the input reads as it did. -/
def fnHoldsAudienceOverJoinedListsSpec : ChangeSpec := { name := "fnHoldsAudienceOverJoinedLists", fn := fun _ => fun
  | [d1, d2, d3] => { results := [.lit (.bool true)], args := [d1, d2, d3] }
  | _ => none }
def fnHoldsAudienceOverJoinedListsRow : OpenClaim := { program := "qxb6612961afmt", sum := "e023e20d540b62c80e489c89e1a893adc3416a51747f877cdb2d43e93cabe035", func := "example.com/prudent-access/prudent-access/zzlaws_root_b1.FnHoldsAudienceOverJoinedLists", spec := "fnHoldsAudienceOverJoinedLists", stops := ["fmt.Sprintf, its operands' methods called", "fmt.errorf"], inPlace := ["fmt.errorf"], apart := false }
/-- NO THEOREM (fmt's text is open here; it may be false): for the released tool's asking of the row's closed facts alone. THE STATEMENT IS 'FnHoldsAudienceOverJoinedListsToldSaid' (Qxb6612961aFmtCards.lean). -/
def FnHoldsAudienceOverJoinedListsFormAsk : Prop := fnHoldsAudienceOverJoinedListsRow.holds Tryf.pinned (OpenSpec.ofChange fnHoldsAudienceOverJoinedListsSpec)

/-- ITS FALSE NEIGHBOUR: 'it returns false'. Refute it at one input. -/
def fnHoldsAudienceOverJoinedListsWrong : ChangeSpec := { name := "fnHoldsAudienceOverJoinedLists", fn := fun _ => fun
  | [d1, d2, d3] => { results := [.lit (.bool false)], args := [d1, d2, d3] }
  | _ => none }
def FnHoldsAudienceOverJoinedListsWrongFormAsk : Prop := fnHoldsAudienceOverJoinedListsRow.holds Tryf.pinned (OpenSpec.ofChange fnHoldsAudienceOverJoinedListsWrong)

/-- 'zzlaws_root_b1.FnRefuseFormatWithoutVerbReadsAsItself': WHATEVER THE INPUT: true; the input reads as it did. -/
def fnRefuseFormatWithoutVerbReadsAsItselfSpec : ChangeSpec := { name := "fnRefuseFormatWithoutVerbReadsAsItself", fn := fun _ => fun
  | [d1, d2] => { results := [.lit (.bool true)], args := [d1, d2] }
  | _ => none }
def fnRefuseFormatWithoutVerbReadsAsItselfRow : OpenClaim := { program := "qxb6612961afmt", sum := "e023e20d540b62c80e489c89e1a893adc3416a51747f877cdb2d43e93cabe035", func := "example.com/prudent-access/prudent-access/zzlaws_root_b1.FnRefuseFormatWithoutVerbReadsAsItself", spec := "fnRefuseFormatWithoutVerbReadsAsItself", stops := ["fmt.Sprintf, its operands' methods called", "fmt.errorf"], inPlace := ["fmt.Sprintf"], unfollowed := true, recurses := true, apart := false }
/-- NO THEOREM (fmt's text is open here; it may be false): for the released tool's asking of the row's closed facts alone. THE STATEMENT IS 'FnRefuseFormatWithoutVerbReadsAsItselfToldSaid' (Qxb6612961aFmtCards.lean). -/
def FnRefuseFormatWithoutVerbReadsAsItselfFormAsk : Prop := fnRefuseFormatWithoutVerbReadsAsItselfRow.holds Tryf.pinned (OpenSpec.ofChange fnRefuseFormatWithoutVerbReadsAsItselfSpec)

/-- ITS FALSE NEIGHBOUR: 'it returns false'. Refute it at one input. -/
def fnRefuseFormatWithoutVerbReadsAsItselfWrong : ChangeSpec := { name := "fnRefuseFormatWithoutVerbReadsAsItself", fn := fun _ => fun
  | [d1, d2] => { results := [.lit (.bool false)], args := [d1, d2] }
  | _ => none }
def FnRefuseFormatWithoutVerbReadsAsItselfWrongFormAsk : Prop := fnRefuseFormatWithoutVerbReadsAsItselfRow.holds Tryf.pinned (OpenSpec.ofChange fnRefuseFormatWithoutVerbReadsAsItselfWrong)

end Rows
end Go.Proofs.Qxb6612961aFmt
