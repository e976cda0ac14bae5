/-
  No cell of these rows narrows 'for every input' (looked for: loops, veiled, ifaces, maps, wideKeys, modest, calm, conditions, laid).
  DERIVED. THE GIVEN ROWS OF THIS SEAT. 4 by the template 'for every input the law returns true; each argument reads behind the call as it read before'; 0 by the template 'total and deterministic' (their statements: Qxb6612833aTotals.lean).
  GIVEN WITH THE SEED: the statements are not yours to turn. If you find one false, say at which input.
  Laid BY PROGRAM, IN A SANDBOX (cutbox-rows.mjs): the forced cells as the released guide's own fill.sh prints them over the translation 3c432c0a472ef9a3… (all of the seat's roots in one cut). By AI agents, Wed Nov 11 2026. No macro, syntax, notation, axiom, sorry.
-/
import Derived.Test.Qxb6612833aChecked
import GoSem.Claim
import GoSem.ClaimJoined
import GoSem.ClaimMapViews
import Derived.JoinedTies
import Derived.KernelRfl
namespace Go.Proofs.Qxb6612833a
/- THE CELL 'sum', in the pinned program and in every row, IS THE sha256 OF THE DUMP (.gsa) THAT Qxb6612833aProg.lean LOADS. Nothing in Lean hashes anything: it is a label: what it is worth is what the hold of that sum in a sandbox is worth. -/
noncomputable def Try.pinned : Pinned := { name := "qxb6612833a", sum := "3c432c0a472ef9a3db61c7a0e12efb15c6ddd8efe61687199a24d8e9d689a4c8", checked := Try.checked }
namespace Rows
def none {H : Type} : Left H := { results := [], args := [] }

/-- 'zzlaws_sim_b1.FnRunEndsAtLastLiveTimer': WHATEVER THE INPUT: true; the input reads as it did. -/
def fnRunEndsAtLastLiveTimerSpec : ChangeSpec := { name := "fnRunEndsAtLastLiveTimer", fn := fun _ => fun
  | [d1, d2, d3, d4] => { results := [.lit (.bool true)], args := [d1, d2, d3, d4] }
  | _ => none }
def fnRunEndsAtLastLiveTimerRow : OpenClaim := { program := "qxb6612833a", sum := "3c432c0a472ef9a3db61c7a0e12efb15c6ddd8efe61687199a24d8e9d689a4c8", func := "example.com/bramblecast/bramblecast/zzlaws_sim_b1.FnRunEndsAtLastLiveTimer", spec := "fnRunEndsAtLastLiveTimer", unfollowed := true, recurses := true, plainKeys := false, apart := false }
def FnRunEndsAtLastLiveTimerSaid : Prop := fnRunEndsAtLastLiveTimerRow.holds Try.pinned (OpenSpec.ofChange fnRunEndsAtLastLiveTimerSpec)

/-- ITS FALSE NEIGHBOUR: 'it returns false'. Refute it at one input. -/
def fnRunEndsAtLastLiveTimerWrong : ChangeSpec := { name := "fnRunEndsAtLastLiveTimer", fn := fun _ => fun
  | [d1, d2, d3, d4] => { results := [.lit (.bool false)], args := [d1, d2, d3, d4] }
  | _ => none }
def FnRunEndsAtLastLiveTimerWrongFalsely : Prop := fnRunEndsAtLastLiveTimerRow.holds Try.pinned (OpenSpec.ofChange fnRunEndsAtLastLiveTimerWrong)

/-- 'zzlaws_sim_b1.FnRunAgreesWithRunForToLastTimer': WHATEVER THE INPUT: true; the input reads as it did. -/
def fnRunAgreesWithRunForToLastTimerSpec : ChangeSpec := { name := "fnRunAgreesWithRunForToLastTimer", fn := fun _ => fun
  | [d1, d2, d3] => { results := [.lit (.bool true)], args := [d1, d2, d3] }
  | _ => none }
def fnRunAgreesWithRunForToLastTimerRow : OpenClaim := { program := "qxb6612833a", sum := "3c432c0a472ef9a3db61c7a0e12efb15c6ddd8efe61687199a24d8e9d689a4c8", func := "example.com/bramblecast/bramblecast/zzlaws_sim_b1.FnRunAgreesWithRunForToLastTimer", spec := "fnRunAgreesWithRunForToLastTimer", unfollowed := true, recurses := true, plainKeys := false, apart := false }
def FnRunAgreesWithRunForToLastTimerSaid : Prop := fnRunAgreesWithRunForToLastTimerRow.holds Try.pinned (OpenSpec.ofChange fnRunAgreesWithRunForToLastTimerSpec)

/-- ITS FALSE NEIGHBOUR: 'it returns false'. Refute it at one input. -/
def fnRunAgreesWithRunForToLastTimerWrong : ChangeSpec := { name := "fnRunAgreesWithRunForToLastTimer", fn := fun _ => fun
  | [d1, d2, d3] => { results := [.lit (.bool false)], args := [d1, d2, d3] }
  | _ => none }
def FnRunAgreesWithRunForToLastTimerWrongFalsely : Prop := fnRunAgreesWithRunForToLastTimerRow.holds Try.pinned (OpenSpec.ofChange fnRunAgreesWithRunForToLastTimerWrong)

/-- 'zzlaws_sim_b1.FnHoldSetsAsideUntagged': WHATEVER THE INPUT: true; the input reads as it did. -/
def fnHoldSetsAsideUntaggedSpec : ChangeSpec := { name := "fnHoldSetsAsideUntagged", fn := fun _ => fun
  | [d1, d2, d3] => { results := [.lit (.bool true)], args := [d1, d2, d3] }
  | _ => none }
def fnHoldSetsAsideUntaggedRow : OpenClaim := { program := "qxb6612833a", sum := "3c432c0a472ef9a3db61c7a0e12efb15c6ddd8efe61687199a24d8e9d689a4c8", func := "example.com/bramblecast/bramblecast/zzlaws_sim_b1.FnHoldSetsAsideUntagged", spec := "fnHoldSetsAsideUntagged", unfollowed := true, recurses := true, plainKeys := false, apart := false }
def FnHoldSetsAsideUntaggedSaid : Prop := fnHoldSetsAsideUntaggedRow.holds Try.pinned (OpenSpec.ofChange fnHoldSetsAsideUntaggedSpec)

/-- ITS FALSE NEIGHBOUR: 'it returns false'. Refute it at one input. -/
def fnHoldSetsAsideUntaggedWrong : ChangeSpec := { name := "fnHoldSetsAsideUntagged", fn := fun _ => fun
  | [d1, d2, d3] => { results := [.lit (.bool false)], args := [d1, d2, d3] }
  | _ => none }
def FnHoldSetsAsideUntaggedWrongFalsely : Prop := fnHoldSetsAsideUntaggedRow.holds Try.pinned (OpenSpec.ofChange fnHoldSetsAsideUntaggedWrong)

/-- 'zzlaws_sim_b1.FnLedgerMessageChargesNewestNamed': WHATEVER THE INPUT: true; the input reads as it did. -/
def fnLedgerMessageChargesNewestNamedSpec : ChangeSpec := { name := "fnLedgerMessageChargesNewestNamed", fn := fun _ => fun
  | [d1, d2, d3, d4, d5, d6, d7, d8, d9, d10] => { results := [.lit (.bool true)], args := [d1, d2, d3, d4, d5, d6, d7, d8, d9, d10] }
  | _ => none }
def fnLedgerMessageChargesNewestNamedRow : OpenClaim := { program := "qxb6612833a", sum := "3c432c0a472ef9a3db61c7a0e12efb15c6ddd8efe61687199a24d8e9d689a4c8", func := "example.com/bramblecast/bramblecast/zzlaws_sim_b1.FnLedgerMessageChargesNewestNamed", spec := "fnLedgerMessageChargesNewestNamed", unfollowed := true, recurses := true, named := ["encoding/binary.BigEndian"], plainKeys := false, apart := false }
def FnLedgerMessageChargesNewestNamedSaid : Prop := fnLedgerMessageChargesNewestNamedRow.holds Try.pinned (OpenSpec.ofChange fnLedgerMessageChargesNewestNamedSpec)

/-- ITS FALSE NEIGHBOUR: 'it returns false'. Refute it at one input. -/
def fnLedgerMessageChargesNewestNamedWrong : ChangeSpec := { name := "fnLedgerMessageChargesNewestNamed", fn := fun _ => fun
  | [d1, d2, d3, d4, d5, d6, d7, d8, d9, d10] => { results := [.lit (.bool false)], args := [d1, d2, d3, d4, d5, d6, d7, d8, d9, d10] }
  | _ => none }
def FnLedgerMessageChargesNewestNamedWrongFalsely : Prop := fnLedgerMessageChargesNewestNamedRow.holds Try.pinned (OpenSpec.ofChange fnLedgerMessageChargesNewestNamedWrong)

end Rows
end Go.Proofs.Qxb6612833a
