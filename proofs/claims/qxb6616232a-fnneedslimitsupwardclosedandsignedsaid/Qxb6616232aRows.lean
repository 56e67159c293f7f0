/-
  No cell of these rows narrows 'for every input' (looked for: loops, veiled, ifaces, maps, wideKeys, modest, calm, conditions, laid).
  DERIVED. THE GIVEN ROWS OF THIS SEAT. 1 by the template 'for every input the law returns true; each argument reads behind the call as it read before'; 0 by the template 'total and deterministic' (their statements: Qxb6616232aTotals.lean).
  GIVEN WITH THE SEED: the statements are not yours to turn. If you find one false, say at which input.
  Laid BY PROGRAM, IN A SANDBOX (cutbox-rows.mjs): the forced cells as the released guide's own fill.sh prints them over the translation ec7ebf7e7ca1a53c… (all of the seat's roots in one cut). By AI agents, Wed Nov 11 2026. No macro, syntax, notation, axiom, sorry.
-/
import Derived.Test.Qxb6616232aChecked
import GoSem.Claim
import GoSem.ClaimJoined
import GoSem.ClaimMapViews
import Derived.JoinedTies
import Derived.KernelRfl
namespace Go.Proofs.Qxb6616232a
/- THE CELL 'sum', in the pinned program and in every row, IS THE sha256 OF THE DUMP (.gsa) THAT Qxb6616232aProg.lean LOADS. Nothing in Lean hashes anything: it is a label: what it is worth is what the hold of that sum in a sandbox is worth. -/
noncomputable def Try.pinned : Pinned := { name := "qxb6616232a", sum := "ec7ebf7e7ca1a53cc69254ad8a1ffaa4cce38c72b4b9573d06a8cfe1c39489a6", checked := Try.checked }
namespace Rows
def none {H : Type} : Left H := { results := [], args := [] }

/-- 'zzlaws_model_b1.FnNeedsLimitsUpwardClosedAndSigned': WHATEVER THE INPUT: true; the input reads as it did. -/
def fnNeedsLimitsUpwardClosedAndSignedSpec : ChangeSpec := { name := "fnNeedsLimitsUpwardClosedAndSigned", fn := fun _ => fun
  | [d1, d2] => { results := [.lit (.bool true)], args := [d1, d2] }
  | _ => none }
def fnNeedsLimitsUpwardClosedAndSignedRow : OpenClaim := { program := "qxb6616232a", sum := "ec7ebf7e7ca1a53cc69254ad8a1ffaa4cce38c72b4b9573d06a8cfe1c39489a6", func := "example.com/cadence-rack/cadence-rack/zzlaws_model_b1.FnNeedsLimitsUpwardClosedAndSigned", spec := "fnNeedsLimitsUpwardClosedAndSigned", apart := false }
def FnNeedsLimitsUpwardClosedAndSignedSaid : Prop := fnNeedsLimitsUpwardClosedAndSignedRow.holds Try.pinned (OpenSpec.ofChange fnNeedsLimitsUpwardClosedAndSignedSpec)

/-- ITS FALSE NEIGHBOUR: 'it returns false'. Refute it at one input. -/
def fnNeedsLimitsUpwardClosedAndSignedWrong : ChangeSpec := { name := "fnNeedsLimitsUpwardClosedAndSigned", fn := fun _ => fun
  | [d1, d2] => { results := [.lit (.bool false)], args := [d1, d2] }
  | _ => none }
def FnNeedsLimitsUpwardClosedAndSignedWrongFalsely : Prop := fnNeedsLimitsUpwardClosedAndSignedRow.holds Try.pinned (OpenSpec.ofChange fnNeedsLimitsUpwardClosedAndSignedWrong)

end Rows
end Go.Proofs.Qxb6616232a
