/-
  No cell of these rows narrows 'for every input' (looked for: loops, veiled, ifaces, maps, wideKeys, modest, calm, conditions, laid).
  DERIVED. THE GIVEN ROWS OF THIS SEAT. 2 by the template 'for every input the law returns true; each argument reads behind the call as it read before'; 0 by the template 'total and deterministic' (their statements: Qxb6613046aTotals.lean).
  GIVEN WITH THE SEED: the statements are not yours to turn. If you find one false, say at which input.
  Laid BY PROGRAM, IN A SANDBOX (cutbox-rows.mjs): the forced cells as the released guide's own fill.sh prints them over the translation bfe80b5254c69cd5… (all of the seat's roots in one cut). By AI agents, Wed Nov 11 2026. No macro, syntax, notation, axiom, sorry.
-/
import Derived.Test.Qxb6613046aChecked
import GoSem.Claim
import GoSem.ClaimJoined
import GoSem.ClaimMapViews
import Derived.JoinedTies
import Derived.KernelRfl
namespace Go.Proofs.Qxb6613046a
/- THE CELL 'sum', in the pinned program and in every row, IS THE sha256 OF THE DUMP (.gsa) THAT Qxb6613046aProg.lean LOADS. Nothing in Lean hashes anything: it is a label: what it is worth is what the hold of that sum in a sandbox is worth. -/
noncomputable def Try.pinned : Pinned := { name := "qxb6613046a", sum := "bfe80b5254c69cd5107a250c156e6d3ce21efdebdc7245f479c29ee7a840f83a", checked := Try.checked }
namespace Rows
def none {H : Type} : Left H := { results := [], args := [] }

/-- 'zzlaws_root_b1.FnLastMeanWinterSolsticeRoundTripFromItsSolsticeDay': WHATEVER THE INPUT: true; the input reads as it did. -/
def fnLastMeanWinterSolsticeRoundTripFromItsSolsticeDaySpec : ChangeSpec := { name := "fnLastMeanWinterSolsticeRoundTripFromItsSolsticeDay", fn := fun _ => fun
  | [d] => { results := [.lit (.bool true)], args := [d] }
  | _ => none }
def fnLastMeanWinterSolsticeRoundTripFromItsSolsticeDayRow : OpenClaim := { program := "qxb6613046a", sum := "bfe80b5254c69cd5107a250c156e6d3ce21efdebdc7245f479c29ee7a840f83a", func := "example.com/xuanji/xuanji/zzlaws_root_b1.FnLastMeanWinterSolsticeRoundTripFromItsSolsticeDay", spec := "fnLastMeanWinterSolsticeRoundTripFromItsSolsticeDay", inPlace := ["math.archFloor", "math.Float64bits", "math.Float64frombits", "math.archTrunc"], apart := false }
def FnLastMeanWinterSolsticeRoundTripFromItsSolsticeDaySaid : Prop := fnLastMeanWinterSolsticeRoundTripFromItsSolsticeDayRow.holds Try.pinned (OpenSpec.ofChange fnLastMeanWinterSolsticeRoundTripFromItsSolsticeDaySpec)

/-- ITS FALSE NEIGHBOUR: 'it returns false'. Refute it at one input. -/
def fnLastMeanWinterSolsticeRoundTripFromItsSolsticeDayWrong : ChangeSpec := { name := "fnLastMeanWinterSolsticeRoundTripFromItsSolsticeDay", fn := fun _ => fun
  | [d] => { results := [.lit (.bool false)], args := [d] }
  | _ => none }
def FnLastMeanWinterSolsticeRoundTripFromItsSolsticeDayWrongFalsely : Prop := fnLastMeanWinterSolsticeRoundTripFromItsSolsticeDayRow.holds Try.pinned (OpenSpec.ofChange fnLastMeanWinterSolsticeRoundTripFromItsSolsticeDayWrong)

/-- 'zzlaws_root_b1.FnLastMeanWinterSolsticeFallsInTheGregorianDecemberBefore': WHATEVER THE INPUT: true; the input reads as it did. -/
def fnLastMeanWinterSolsticeFallsInTheGregorianDecemberBeforeSpec : ChangeSpec := { name := "fnLastMeanWinterSolsticeFallsInTheGregorianDecemberBefore", fn := fun _ => fun
  | [d] => { results := [.lit (.bool true)], args := [d] }
  | _ => none }
def fnLastMeanWinterSolsticeFallsInTheGregorianDecemberBeforeRow : OpenClaim := { program := "qxb6613046a", sum := "bfe80b5254c69cd5107a250c156e6d3ce21efdebdc7245f479c29ee7a840f83a", func := "example.com/xuanji/xuanji/zzlaws_root_b1.FnLastMeanWinterSolsticeFallsInTheGregorianDecemberBefore", spec := "fnLastMeanWinterSolsticeFallsInTheGregorianDecemberBefore", inPlace := ["math.archFloor", "math.Float64bits", "math.Float64frombits", "math.archTrunc"], apart := false }
def FnLastMeanWinterSolsticeFallsInTheGregorianDecemberBeforeSaid : Prop := fnLastMeanWinterSolsticeFallsInTheGregorianDecemberBeforeRow.holds Try.pinned (OpenSpec.ofChange fnLastMeanWinterSolsticeFallsInTheGregorianDecemberBeforeSpec)

/-- ITS FALSE NEIGHBOUR: 'it returns false'. Refute it at one input. -/
def fnLastMeanWinterSolsticeFallsInTheGregorianDecemberBeforeWrong : ChangeSpec := { name := "fnLastMeanWinterSolsticeFallsInTheGregorianDecemberBefore", fn := fun _ => fun
  | [d] => { results := [.lit (.bool false)], args := [d] }
  | _ => none }
def FnLastMeanWinterSolsticeFallsInTheGregorianDecemberBeforeWrongFalsely : Prop := fnLastMeanWinterSolsticeFallsInTheGregorianDecemberBeforeRow.holds Try.pinned (OpenSpec.ofChange fnLastMeanWinterSolsticeFallsInTheGregorianDecemberBeforeWrong)

end Rows
end Go.Proofs.Qxb6613046a
