/-
  No cell of these rows narrows 'for every input' (looked for: loops, veiled, ifaces, maps, wideKeys, modest, calm, conditions, laid).
  DERIVED. THE GIVEN ROWS OF THIS SEAT. 2 by the template 'for every input the law returns true; each argument reads behind the call as it read before'; 0 by the template 'total and deterministic' (their statements: Qxb6602068aTotals.lean).
  GIVEN WITH THE SEED: the statements are not yours to turn. If you find one false, say at which input.
  Laid BY PROGRAM, IN A SANDBOX (cutbox-rows.mjs): the forced cells as the released guide's own fill.sh prints them over the translation 4bb77c1bc322f68c… (all of the seat's roots in one cut). By AI agents, Wed Nov 11 2026. No macro, syntax, notation, axiom, sorry.
-/
import Derived.Test.Qxb6602068aChecked
import GoSem.Claim
import GoSem.ClaimJoined
import GoSem.ClaimMapViews
import Derived.JoinedTies
import Derived.KernelRfl
namespace Go.Proofs.Qxb6602068a
/- THE CELL 'sum', in the pinned program and in every row, IS THE sha256 OF THE DUMP (.gsa) THAT Qxb6602068aProg.lean LOADS. Nothing in Lean hashes anything: it is a label: what it is worth is what the hold of that sum in a sandbox is worth. -/
noncomputable def Try.pinned : Pinned := { name := "qxb6602068a", sum := "4bb77c1bc322f68c37b82f99451c87d0c5604fff8c601be8713d4ea491239bd6", checked := Try.checked }
namespace Rows
def none {H : Type} : Left H := { results := [], args := [] }

/-- 'zzlaws_internal_funds_b1.FnIsCodeAgreesWithDecimalRoundTrip': WHATEVER THE INPUT: true; the input reads as it did. -/
def fnIsCodeAgreesWithDecimalRoundTripSpec : ChangeSpec := { name := "fnIsCodeAgreesWithDecimalRoundTrip", fn := fun _ => fun
  | [d] => { results := [.lit (.bool true)], args := [d] }
  | _ => none }
def fnIsCodeAgreesWithDecimalRoundTripRow : OpenClaim := { program := "qxb6602068a", sum := "4bb77c1bc322f68c37b82f99451c87d0c5604fff8c601be8713d4ea491239bd6", func := "example.com/tuoguan/tuoguan/zzlaws_internal_funds_b1.FnIsCodeAgreesWithDecimalRoundTrip", spec := "fnIsCodeAgreesWithDecimalRoundTrip", apart := false }
def FnIsCodeAgreesWithDecimalRoundTripSaid : Prop := fnIsCodeAgreesWithDecimalRoundTripRow.holds Try.pinned (OpenSpec.ofChange fnIsCodeAgreesWithDecimalRoundTripSpec)

/-- ITS FALSE NEIGHBOUR: 'it returns false'. Refute it at one input. -/
def fnIsCodeAgreesWithDecimalRoundTripWrong : ChangeSpec := { name := "fnIsCodeAgreesWithDecimalRoundTrip", fn := fun _ => fun
  | [d] => { results := [.lit (.bool false)], args := [d] }
  | _ => none }
def FnIsCodeAgreesWithDecimalRoundTripWrongFalsely : Prop := fnIsCodeAgreesWithDecimalRoundTripRow.holds Try.pinned (OpenSpec.ofChange fnIsCodeAgreesWithDecimalRoundTripWrong)

/-- 'zzlaws_internal_funds_b1.FnIsCodeOnPaddedNumbers': WHATEVER THE INPUT: true; the input reads as it did. -/
def fnIsCodeOnPaddedNumbersSpec : ChangeSpec := { name := "fnIsCodeOnPaddedNumbers", fn := fun _ => fun
  | [d] => { results := [.lit (.bool true)], args := [d] }
  | _ => none }
def fnIsCodeOnPaddedNumbersRow : OpenClaim := { program := "qxb6602068a", sum := "4bb77c1bc322f68c37b82f99451c87d0c5604fff8c601be8713d4ea491239bd6", func := "example.com/tuoguan/tuoguan/zzlaws_internal_funds_b1.FnIsCodeOnPaddedNumbers", spec := "fnIsCodeOnPaddedNumbers", apart := false }
def FnIsCodeOnPaddedNumbersSaid : Prop := fnIsCodeOnPaddedNumbersRow.holds Try.pinned (OpenSpec.ofChange fnIsCodeOnPaddedNumbersSpec)

/-- ITS FALSE NEIGHBOUR: 'it returns false'. Refute it at one input. -/
def fnIsCodeOnPaddedNumbersWrong : ChangeSpec := { name := "fnIsCodeOnPaddedNumbers", fn := fun _ => fun
  | [d] => { results := [.lit (.bool false)], args := [d] }
  | _ => none }
def FnIsCodeOnPaddedNumbersWrongFalsely : Prop := fnIsCodeOnPaddedNumbersRow.holds Try.pinned (OpenSpec.ofChange fnIsCodeOnPaddedNumbersWrong)

end Rows
end Go.Proofs.Qxb6602068a
