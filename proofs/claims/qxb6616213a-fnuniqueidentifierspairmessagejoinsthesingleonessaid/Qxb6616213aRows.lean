/-
  No cell of these rows narrows 'for every input' (looked for: loops, veiled, ifaces, maps, wideKeys, modest, calm, conditions, laid).
  DERIVED. THE GIVEN ROWS OF THIS SEAT. 4 by the template 'for every input the law returns true; each argument reads behind the call as it read before'; 0 by the template 'total and deterministic' (their statements: Qxb6616213aTotals.lean).
  GIVEN WITH THE SEED: the statements are not yours to turn. If you find one false, say at which input.
  Laid BY PROGRAM, IN A SANDBOX (cutbox-rows.mjs): the forced cells as the released guide's own fill.sh prints them over the translation 80d3e201f923ac03… (all of the seat's roots in one cut). By AI agents, Wed Nov 11 2026. No macro, syntax, notation, axiom, sorry.
-/
import Derived.Test.Qxb6616213aChecked
import GoSem.Claim
import GoSem.ClaimJoined
import GoSem.ClaimMapViews
import Derived.JoinedTies
import Derived.KernelRfl
namespace Go.Proofs.Qxb6616213a
/- THE CELL 'sum', in the pinned program and in every row, IS THE sha256 OF THE DUMP (.gsa) THAT Qxb6616213aProg.lean LOADS. Nothing in Lean hashes anything: it is a label: what it is worth is what the hold of that sum in a sandbox is worth. -/
noncomputable def Try.pinned : Pinned := { name := "qxb6616213a", sum := "80d3e201f923ac03e596cab32cd3eb305e2dee49f0dfe5444bf8c1a4b4c512b6", checked := Try.checked }
namespace Rows
def none {H : Type} : Left H := { results := [], args := [] }

/-- 'zzlaws_root_b1.FnIsNullExactlyTheEmptyNullElement': WHATEVER THE INPUT: true; the input reads as it did. -/
def fnIsNullExactlyTheEmptyNullElementSpec : ChangeSpec := { name := "fnIsNullExactlyTheEmptyNullElement", fn := fun _ => fun
  | [d1, d2] => { results := [.lit (.bool true)], args := [d1, d2] }
  | _ => none }
def fnIsNullExactlyTheEmptyNullElementRow : OpenClaim := { program := "qxb6616213a", sum := "80d3e201f923ac03e596cab32cd3eb305e2dee49f0dfe5444bf8c1a4b4c512b6", func := "example.com/vouchsafe/vouchsafe/zzlaws_root_b1.FnIsNullExactlyTheEmptyNullElement", spec := "fnIsNullExactlyTheEmptyNullElement", inPlace := ["internal/bytealg.MakeNoZero"], plainKeys := false, apart := false }
def FnIsNullExactlyTheEmptyNullElementSaid : Prop := fnIsNullExactlyTheEmptyNullElementRow.holds Try.pinned (OpenSpec.ofChange fnIsNullExactlyTheEmptyNullElementSpec)

/-- ITS FALSE NEIGHBOUR: 'it returns false'. Refute it at one input. -/
def fnIsNullExactlyTheEmptyNullElementWrong : ChangeSpec := { name := "fnIsNullExactlyTheEmptyNullElement", fn := fun _ => fun
  | [d1, d2] => { results := [.lit (.bool false)], args := [d1, d2] }
  | _ => none }
def FnIsNullExactlyTheEmptyNullElementWrongFalsely : Prop := fnIsNullExactlyTheEmptyNullElementRow.holds Try.pinned (OpenSpec.ofChange fnIsNullExactlyTheEmptyNullElementWrong)

/-- 'zzlaws_root_b1.FnUniqueIdentifiersPairMessageJoinsTheSingleOnes': WHATEVER THE INPUT: true; the input reads as it did. -/
def fnUniqueIdentifiersPairMessageJoinsTheSingleOnesSpec : ChangeSpec := { name := "fnUniqueIdentifiersPairMessageJoinsTheSingleOnes", fn := fun _ => fun
  | [d1, d2, d3] => { results := [.lit (.bool true)], args := [d1, d2, d3] }
  | _ => none }
def fnUniqueIdentifiersPairMessageJoinsTheSingleOnesRow : OpenClaim := { program := "qxb6616213a", sum := "80d3e201f923ac03e596cab32cd3eb305e2dee49f0dfe5444bf8c1a4b4c512b6", func := "example.com/vouchsafe/vouchsafe/zzlaws_root_b1.FnUniqueIdentifiersPairMessageJoinsTheSingleOnes", spec := "fnUniqueIdentifiersPairMessageJoinsTheSingleOnes", inPlace := ["internal/abi.NoEscape", "internal/bytealg.MakeNoZero"], plainKeys := false, apart := false }
def FnUniqueIdentifiersPairMessageJoinsTheSingleOnesSaid : Prop := fnUniqueIdentifiersPairMessageJoinsTheSingleOnesRow.holds Try.pinned (OpenSpec.ofChange fnUniqueIdentifiersPairMessageJoinsTheSingleOnesSpec)

/-- ITS FALSE NEIGHBOUR: 'it returns false'. Refute it at one input. -/
def fnUniqueIdentifiersPairMessageJoinsTheSingleOnesWrong : ChangeSpec := { name := "fnUniqueIdentifiersPairMessageJoinsTheSingleOnes", fn := fun _ => fun
  | [d1, d2, d3] => { results := [.lit (.bool false)], args := [d1, d2, d3] }
  | _ => none }
def FnUniqueIdentifiersPairMessageJoinsTheSingleOnesWrongFalsely : Prop := fnUniqueIdentifiersPairMessageJoinsTheSingleOnesRow.holds Try.pinned (OpenSpec.ofChange fnUniqueIdentifiersPairMessageJoinsTheSingleOnesWrong)

/-- 'zzlaws_root_b1.FnTryAcceptsExactlyTheRemainingBudget': WHATEVER THE INPUT: true; the input reads as it did. -/
def fnTryAcceptsExactlyTheRemainingBudgetSpec : ChangeSpec := { name := "fnTryAcceptsExactlyTheRemainingBudget", fn := fun _ => fun
  | [d1, d2, d3, d4, d5] => { results := [.lit (.bool true)], args := [d1, d2, d3, d4, d5] }
  | _ => none }
def fnTryAcceptsExactlyTheRemainingBudgetRow : OpenClaim := { program := "qxb6616213a", sum := "80d3e201f923ac03e596cab32cd3eb305e2dee49f0dfe5444bf8c1a4b4c512b6", func := "example.com/vouchsafe/vouchsafe/zzlaws_root_b1.FnTryAcceptsExactlyTheRemainingBudget", spec := "fnTryAcceptsExactlyTheRemainingBudget", plainKeys := false, apart := false }
def FnTryAcceptsExactlyTheRemainingBudgetSaid : Prop := fnTryAcceptsExactlyTheRemainingBudgetRow.holds Try.pinned (OpenSpec.ofChange fnTryAcceptsExactlyTheRemainingBudgetSpec)

/-- ITS FALSE NEIGHBOUR: 'it returns false'. Refute it at one input. -/
def fnTryAcceptsExactlyTheRemainingBudgetWrong : ChangeSpec := { name := "fnTryAcceptsExactlyTheRemainingBudget", fn := fun _ => fun
  | [d1, d2, d3, d4, d5] => { results := [.lit (.bool false)], args := [d1, d2, d3, d4, d5] }
  | _ => none }
def FnTryAcceptsExactlyTheRemainingBudgetWrongFalsely : Prop := fnTryAcceptsExactlyTheRemainingBudgetRow.holds Try.pinned (OpenSpec.ofChange fnTryAcceptsExactlyTheRemainingBudgetWrong)

/-- 'zzlaws_root_b1.FnTryRefusalIsAbsorbing': WHATEVER THE INPUT: true; the input reads as it did. -/
def fnTryRefusalIsAbsorbingSpec : ChangeSpec := { name := "fnTryRefusalIsAbsorbing", fn := fun _ => fun
  | [d1, d2, d3, d4] => { results := [.lit (.bool true)], args := [d1, d2, d3, d4] }
  | _ => none }
def fnTryRefusalIsAbsorbingRow : OpenClaim := { program := "qxb6616213a", sum := "80d3e201f923ac03e596cab32cd3eb305e2dee49f0dfe5444bf8c1a4b4c512b6", func := "example.com/vouchsafe/vouchsafe/zzlaws_root_b1.FnTryRefusalIsAbsorbing", spec := "fnTryRefusalIsAbsorbing", plainKeys := false, apart := false }
def FnTryRefusalIsAbsorbingSaid : Prop := fnTryRefusalIsAbsorbingRow.holds Try.pinned (OpenSpec.ofChange fnTryRefusalIsAbsorbingSpec)

/-- ITS FALSE NEIGHBOUR: 'it returns false'. Refute it at one input. -/
def fnTryRefusalIsAbsorbingWrong : ChangeSpec := { name := "fnTryRefusalIsAbsorbing", fn := fun _ => fun
  | [d1, d2, d3, d4] => { results := [.lit (.bool false)], args := [d1, d2, d3, d4] }
  | _ => none }
def FnTryRefusalIsAbsorbingWrongFalsely : Prop := fnTryRefusalIsAbsorbingRow.holds Try.pinned (OpenSpec.ofChange fnTryRefusalIsAbsorbingWrong)

end Rows
end Go.Proofs.Qxb6616213a
