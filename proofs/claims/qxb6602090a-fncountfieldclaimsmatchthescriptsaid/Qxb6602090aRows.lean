/-
  No cell of these rows narrows 'for every input' (looked for: loops, veiled, ifaces, maps, wideKeys, modest, calm, conditions, laid).
  DERIVED. THE GIVEN ROWS OF THIS SEAT. 4 by the template 'for every input the law returns true; each argument reads behind the call as it read before'; 0 by the template 'total and deterministic' (their statements: Qxb6602090aTotals.lean).
  GIVEN WITH THE SEED: the statements are not yours to turn. If you find one false, say at which input.
  Laid BY PROGRAM, IN A SANDBOX (cutbox-rows.mjs): the forced cells as the released guide's own fill.sh prints them over the translation c33e37614720a186… (all of the seat's roots in one cut). By AI agents, Wed Nov 11 2026. No macro, syntax, notation, axiom, sorry.
-/
import Derived.Test.Qxb6602090aChecked
import GoSem.Claim
import GoSem.ClaimJoined
import GoSem.ClaimMapViews
import Derived.JoinedTies
import Derived.KernelRfl
namespace Go.Proofs.Qxb6602090a
/- THE CELL 'sum', in the pinned program and in every row, IS THE sha256 OF THE DUMP (.gsa) THAT Qxb6602090aProg.lean LOADS. Nothing in Lean hashes anything: it is a label: what it is worth is what the hold of that sum in a sandbox is worth. -/
noncomputable def Try.pinned : Pinned := { name := "qxb6602090a", sum := "c33e37614720a1860e97d9e81c40fb8adee4bf0e1c4cf1efd34a9032bf38ba76", checked := Try.checked }
namespace Rows
def none {H : Type} : Left H := { results := [], args := [] }

/-- 'zzlaws_internal_policy_b1.FnCountFieldClaimsMatchTheScript': WHATEVER THE INPUT: true; the input reads as it did. -/
def fnCountFieldClaimsMatchTheScriptSpec : ChangeSpec := { name := "fnCountFieldClaimsMatchTheScript", fn := fun _ => fun
  | [d] => { results := [.lit (.bool true)], args := [d] }
  | _ => none }
def fnCountFieldClaimsMatchTheScriptRow : OpenClaim := { program := "qxb6602090a", sum := "c33e37614720a1860e97d9e81c40fb8adee4bf0e1c4cf1efd34a9032bf38ba76", func := "example.com/rules-over-resources/rules-over-resources/zzlaws_internal_policy_b1.FnCountFieldClaimsMatchTheScript", spec := "fnCountFieldClaimsMatchTheScript", apart := false }
def FnCountFieldClaimsMatchTheScriptSaid : Prop := fnCountFieldClaimsMatchTheScriptRow.holds Try.pinned (OpenSpec.ofChange fnCountFieldClaimsMatchTheScriptSpec)

/-- ITS FALSE NEIGHBOUR: 'it returns false'. Refute it at one input. -/
def fnCountFieldClaimsMatchTheScriptWrong : ChangeSpec := { name := "fnCountFieldClaimsMatchTheScript", fn := fun _ => fun
  | [d] => { results := [.lit (.bool false)], args := [d] }
  | _ => none }
def FnCountFieldClaimsMatchTheScriptWrongFalsely : Prop := fnCountFieldClaimsMatchTheScriptRow.holds Try.pinned (OpenSpec.ofChange fnCountFieldClaimsMatchTheScriptWrong)

/-- 'zzlaws_internal_policy_b1.FnCountFieldRecountChangesNothing': WHATEVER THE INPUT: true; the input reads as it did. -/
def fnCountFieldRecountChangesNothingSpec : ChangeSpec := { name := "fnCountFieldRecountChangesNothing", fn := fun _ => fun
  | [d] => { results := [.lit (.bool true)], args := [d] }
  | _ => none }
def fnCountFieldRecountChangesNothingRow : OpenClaim := { program := "qxb6602090a", sum := "c33e37614720a1860e97d9e81c40fb8adee4bf0e1c4cf1efd34a9032bf38ba76", func := "example.com/rules-over-resources/rules-over-resources/zzlaws_internal_policy_b1.FnCountFieldRecountChangesNothing", spec := "fnCountFieldRecountChangesNothing", apart := false }
def FnCountFieldRecountChangesNothingSaid : Prop := fnCountFieldRecountChangesNothingRow.holds Try.pinned (OpenSpec.ofChange fnCountFieldRecountChangesNothingSpec)

/-- ITS FALSE NEIGHBOUR: 'it returns false'. Refute it at one input. -/
def fnCountFieldRecountChangesNothingWrong : ChangeSpec := { name := "fnCountFieldRecountChangesNothing", fn := fun _ => fun
  | [d] => { results := [.lit (.bool false)], args := [d] }
  | _ => none }
def FnCountFieldRecountChangesNothingWrongFalsely : Prop := fnCountFieldRecountChangesNothingRow.holds Try.pinned (OpenSpec.ofChange fnCountFieldRecountChangesNothingWrong)

/-- 'zzlaws_internal_policy_b1.FnDecimalTextReadsBackExactly': WHATEVER THE INPUT: true; the input reads as it did. -/
def fnDecimalTextReadsBackExactlySpec : ChangeSpec := { name := "fnDecimalTextReadsBackExactly", fn := fun _ => fun
  | [d1, d2, d3, d4] => { results := [.lit (.bool true)], args := [d1, d2, d3, d4] }
  | _ => none }
def fnDecimalTextReadsBackExactlyRow : OpenClaim := { program := "qxb6602090a", sum := "c33e37614720a1860e97d9e81c40fb8adee4bf0e1c4cf1efd34a9032bf38ba76", func := "example.com/rules-over-resources/rules-over-resources/zzlaws_internal_policy_b1.FnDecimalTextReadsBackExactly", spec := "fnDecimalTextReadsBackExactly", inPlace := ["internal/abi.NoEscape"], apart := false }
def FnDecimalTextReadsBackExactlySaid : Prop := fnDecimalTextReadsBackExactlyRow.holds Try.pinned (OpenSpec.ofChange fnDecimalTextReadsBackExactlySpec)

/-- ITS FALSE NEIGHBOUR: 'it returns false'. Refute it at one input. -/
def fnDecimalTextReadsBackExactlyWrong : ChangeSpec := { name := "fnDecimalTextReadsBackExactly", fn := fun _ => fun
  | [d1, d2, d3, d4] => { results := [.lit (.bool false)], args := [d1, d2, d3, d4] }
  | _ => none }
def FnDecimalTextReadsBackExactlyWrongFalsely : Prop := fnDecimalTextReadsBackExactlyRow.holds Try.pinned (OpenSpec.ofChange fnDecimalTextReadsBackExactlyWrong)

/-- 'zzlaws_internal_policy_b1.FnDecimalTextHangsOnDigitsAlone': WHATEVER THE INPUT: true; the input reads as it did. -/
def fnDecimalTextHangsOnDigitsAloneSpec : ChangeSpec := { name := "fnDecimalTextHangsOnDigitsAlone", fn := fun _ => fun
  | [d1, d2, d3, d4, d5] => { results := [.lit (.bool true)], args := [d1, d2, d3, d4, d5] }
  | _ => none }
def fnDecimalTextHangsOnDigitsAloneRow : OpenClaim := { program := "qxb6602090a", sum := "c33e37614720a1860e97d9e81c40fb8adee4bf0e1c4cf1efd34a9032bf38ba76", func := "example.com/rules-over-resources/rules-over-resources/zzlaws_internal_policy_b1.FnDecimalTextHangsOnDigitsAlone", spec := "fnDecimalTextHangsOnDigitsAlone", inPlace := ["internal/abi.NoEscape"], apart := false }
def FnDecimalTextHangsOnDigitsAloneSaid : Prop := fnDecimalTextHangsOnDigitsAloneRow.holds Try.pinned (OpenSpec.ofChange fnDecimalTextHangsOnDigitsAloneSpec)

/-- ITS FALSE NEIGHBOUR: 'it returns false'. Refute it at one input. -/
def fnDecimalTextHangsOnDigitsAloneWrong : ChangeSpec := { name := "fnDecimalTextHangsOnDigitsAlone", fn := fun _ => fun
  | [d1, d2, d3, d4, d5] => { results := [.lit (.bool false)], args := [d1, d2, d3, d4, d5] }
  | _ => none }
def FnDecimalTextHangsOnDigitsAloneWrongFalsely : Prop := fnDecimalTextHangsOnDigitsAloneRow.holds Try.pinned (OpenSpec.ofChange fnDecimalTextHangsOnDigitsAloneWrong)

end Rows
end Go.Proofs.Qxb6602090a
