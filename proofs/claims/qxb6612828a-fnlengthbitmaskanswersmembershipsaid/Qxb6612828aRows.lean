/-
  No cell of these rows narrows 'for every input' (looked for: loops, veiled, ifaces, maps, wideKeys, modest, calm, conditions, laid).
  DERIVED. THE GIVEN ROWS OF THIS SEAT. 3 by the template 'for every input the law returns true; each argument reads behind the call as it read before'; 0 by the template 'total and deterministic' (their statements: Qxb6612828aTotals.lean).
  GIVEN WITH THE SEED: the statements are not yours to turn. If you find one false, say at which input.
  Laid BY PROGRAM, IN A SANDBOX (cutbox-rows.mjs): the forced cells as the released guide's own fill.sh prints them over the translation a7a5ec3f9753cf63… (all of the seat's roots in one cut). By AI agents, Wed Nov 11 2026. No macro, syntax, notation, axiom, sorry.
-/
import Derived.Test.Qxb6612828aChecked
import GoSem.Claim
import GoSem.ClaimJoined
import GoSem.ClaimMapViews
import Derived.JoinedTies
import Derived.KernelRfl
namespace Go.Proofs.Qxb6612828a
/- THE CELL 'sum', in the pinned program and in every row, IS THE sha256 OF THE DUMP (.gsa) THAT Qxb6612828aProg.lean LOADS. Nothing in Lean hashes anything: it is a label: what it is worth is what the hold of that sum in a sandbox is worth. -/
noncomputable def Try.pinned : Pinned := { name := "qxb6612828a", sum := "a7a5ec3f9753cf63d1c21bab5839bfd37487565d9a39b3b18eb6cea263fd3c1e", checked := Try.checked }
namespace Rows
def none {H : Type} : Left H := { results := [], args := [] }

/-- 'zzlaws_mapping_b1.FnLengthBitOrdersAndSeparatesLengths': WHATEVER THE INPUT: true; the input reads as it did. -/
def fnLengthBitOrdersAndSeparatesLengthsSpec : ChangeSpec := { name := "fnLengthBitOrdersAndSeparatesLengths", fn := fun _ => fun
  | [d1, d2] => { results := [.lit (.bool true)], args := [d1, d2] }
  | _ => none }
def fnLengthBitOrdersAndSeparatesLengthsRow : OpenClaim := { program := "qxb6612828a", sum := "a7a5ec3f9753cf63d1c21bab5839bfd37487565d9a39b3b18eb6cea263fd3c1e", func := "example.com/exposure/exposure/zzlaws_mapping_b1.FnLengthBitOrdersAndSeparatesLengths", spec := "fnLengthBitOrdersAndSeparatesLengths", apart := false }
def FnLengthBitOrdersAndSeparatesLengthsSaid : Prop := fnLengthBitOrdersAndSeparatesLengthsRow.holds Try.pinned (OpenSpec.ofChange fnLengthBitOrdersAndSeparatesLengthsSpec)

/-- ITS FALSE NEIGHBOUR: 'it returns false'. Refute it at one input. -/
def fnLengthBitOrdersAndSeparatesLengthsWrong : ChangeSpec := { name := "fnLengthBitOrdersAndSeparatesLengths", fn := fun _ => fun
  | [d1, d2] => { results := [.lit (.bool false)], args := [d1, d2] }
  | _ => none }
def FnLengthBitOrdersAndSeparatesLengthsWrongFalsely : Prop := fnLengthBitOrdersAndSeparatesLengthsRow.holds Try.pinned (OpenSpec.ofChange fnLengthBitOrdersAndSeparatesLengthsWrong)

/-- 'zzlaws_mapping_b1.FnLengthBitMaskAnswersMembership': WHATEVER THE INPUT: true; the input reads as it did. -/
def fnLengthBitMaskAnswersMembershipSpec : ChangeSpec := { name := "fnLengthBitMaskAnswersMembership", fn := fun _ => fun
  | [d1, d2] => { results := [.lit (.bool true)], args := [d1, d2] }
  | _ => none }
def fnLengthBitMaskAnswersMembershipRow : OpenClaim := { program := "qxb6612828a", sum := "a7a5ec3f9753cf63d1c21bab5839bfd37487565d9a39b3b18eb6cea263fd3c1e", func := "example.com/exposure/exposure/zzlaws_mapping_b1.FnLengthBitMaskAnswersMembership", spec := "fnLengthBitMaskAnswersMembership", apart := false }
def FnLengthBitMaskAnswersMembershipSaid : Prop := fnLengthBitMaskAnswersMembershipRow.holds Try.pinned (OpenSpec.ofChange fnLengthBitMaskAnswersMembershipSpec)

/-- ITS FALSE NEIGHBOUR: 'it returns false'. Refute it at one input. -/
def fnLengthBitMaskAnswersMembershipWrong : ChangeSpec := { name := "fnLengthBitMaskAnswersMembership", fn := fun _ => fun
  | [d1, d2] => { results := [.lit (.bool false)], args := [d1, d2] }
  | _ => none }
def FnLengthBitMaskAnswersMembershipWrongFalsely : Prop := fnLengthBitMaskAnswersMembershipRow.holds Try.pinned (OpenSpec.ofChange fnLengthBitMaskAnswersMembershipWrong)

/-- 'zzlaws_mapping_b1.FnSetTwoPathsReadBack': WHATEVER THE INPUT: true; the input reads as it did. -/
def fnSetTwoPathsReadBackSpec : ChangeSpec := { name := "fnSetTwoPathsReadBack", fn := fun _ => fun
  | [d1, d2, d3, d4] => { results := [.lit (.bool true)], args := [d1, d2, d3, d4] }
  | _ => none }
def fnSetTwoPathsReadBackRow : OpenClaim := { program := "qxb6612828a", sum := "a7a5ec3f9753cf63d1c21bab5839bfd37487565d9a39b3b18eb6cea263fd3c1e", func := "example.com/exposure/exposure/zzlaws_mapping_b1.FnSetTwoPathsReadBack", spec := "fnSetTwoPathsReadBack", inPlace := ["internal/bytealg.IndexByteString", "internal/bytealg.IndexString"], named := ["internal/bytealg.MaxLen"], apart := false }
def FnSetTwoPathsReadBackSaid : Prop := fnSetTwoPathsReadBackRow.holds Try.pinned (OpenSpec.ofChange fnSetTwoPathsReadBackSpec)

/-- ITS FALSE NEIGHBOUR: 'it returns false'. Refute it at one input. -/
def fnSetTwoPathsReadBackWrong : ChangeSpec := { name := "fnSetTwoPathsReadBack", fn := fun _ => fun
  | [d1, d2, d3, d4] => { results := [.lit (.bool false)], args := [d1, d2, d3, d4] }
  | _ => none }
def FnSetTwoPathsReadBackWrongFalsely : Prop := fnSetTwoPathsReadBackRow.holds Try.pinned (OpenSpec.ofChange fnSetTwoPathsReadBackWrong)

end Rows
end Go.Proofs.Qxb6612828a
