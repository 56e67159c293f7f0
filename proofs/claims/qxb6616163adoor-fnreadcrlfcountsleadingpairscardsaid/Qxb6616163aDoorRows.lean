/-
  NARROWER THAN 'FOR EVERY INPUT', by the rows' own cells (each row's printed sentence says how): FnReadCRLFCountsLeadingPairs: laid.
  DERIVED. THE GIVEN ROWS OF THIS SEAT. 1 by the template 'for every input the law returns true; each argument reads behind the call as it read before'; 0 by the template 'total and deterministic' (their statements: Qxb6616163aDoorTotals.lean).
  GIVEN WITH THE SEED: the statements are not yours to turn. If you find one false, say at which input.
  Laid BY PROGRAM, IN A SANDBOX (cutbox-rows.mjs): the forced cells as the released guide's own fill.sh prints them over the translation 0fdf9b5d6543a9e3… (all of the seat's roots in one cut). By AI agents, Wed Nov 11 2026. No macro, syntax, notation, axiom, sorry.
-/
import Derived.Test.Qxb6616163aDoorChecked
import GoSem.Claim
import GoSem.ClaimJoined
import GoSem.ClaimMapViews
import Derived.JoinedTies
import Derived.KernelRfl
namespace Go.Proofs.Qxb6616163aDoor
/- THE CELL 'sum', in the pinned program and in every row, IS THE sha256 OF THE DUMP (.gsa) THAT Qxb6616163aDoorProg.lean LOADS. Nothing in Lean hashes anything: it is a label: what it is worth is what the hold of that sum in a sandbox is worth. -/
noncomputable def Tryd.pinned : Pinned := { name := "qxb6616163adoor", sum := "0fdf9b5d6543a9e346ea2999de7d34bf214fe4cf5679fff91e21c52b413d7b5d", checked := Tryd.checked }
namespace Rows
def none {H : Type} : Left H := { results := [], args := [] }

/- WHAT THE LISTED PACKAGE-LEVEL VARIABLES READ AS WHEN THE CALL BEGINS. Each datum BY PROGRAM (the guide's laid-datum.mjs) off the statement by which the dump's own 'gosem.cut.vars' lays the variable. In a bare row this is a premise. The card (Qxb6616163aDoorCards.lean) ties it to the program's text. -/
def laid_io_ErrShortBuffer {H : Type} : DataW H := .iface "*errors.errorString" (.ptr (.agg [.lit (.string [115, 104, 111, 114, 116, 32, 98, 117, 102, 102, 101, 114])]))
def laid_io_EOF {H : Type} : DataW H := .iface "*errors.errorString" (.ptr (.agg [.lit (.string [69, 79, 70])]))
def laid_io_ErrUnexpectedEOF {H : Type} : DataW H := .iface "*errors.errorString" (.ptr (.agg [.lit (.string [117, 110, 101, 120, 112, 101, 99, 116, 101, 100, 32, 69, 79, 70])]))

/-- 'zzlaws_root_b1.FnReadCRLFCountsLeadingPairs': WHATEVER THE INPUT: true; the input reads as it did. -/
def fnReadCRLFCountsLeadingPairsSpec : ChangeSpec := { name := "fnReadCRLFCountsLeadingPairs", fn := fun _ => fun
  | [d] => { results := [.lit (.bool true)], args := [d] }
  | _ => none }
def fnReadCRLFCountsLeadingPairsRow : OpenClaim := { program := "qxb6616163adoor", sum := "0fdf9b5d6543a9e346ea2999de7d34bf214fe4cf5679fff91e21c52b413d7b5d", func := "example.com/countersign/countersign/zzlaws_root_b1.FnReadCRLFCountsLeadingPairs", spec := "fnReadCRLFCountsLeadingPairs", unfollowed := true, recurses := true, named := ["io.ErrShortBuffer", "io.EOF", "io.ErrUnexpectedEOF"], apart := false, laid := [("io.ErrShortBuffer", laid_io_ErrShortBuffer), ("io.EOF", laid_io_EOF), ("io.ErrUnexpectedEOF", laid_io_ErrUnexpectedEOF)] }
def FnReadCRLFCountsLeadingPairsSaid : Prop := fnReadCRLFCountsLeadingPairsRow.holds Tryd.pinned (OpenSpec.ofChange fnReadCRLFCountsLeadingPairsSpec)

/-- ITS FALSE NEIGHBOUR: 'it returns false'. Refute it at one input. -/
def fnReadCRLFCountsLeadingPairsWrong : ChangeSpec := { name := "fnReadCRLFCountsLeadingPairs", fn := fun _ => fun
  | [d] => { results := [.lit (.bool false)], args := [d] }
  | _ => none }
def FnReadCRLFCountsLeadingPairsWrongFalsely : Prop := fnReadCRLFCountsLeadingPairsRow.holds Tryd.pinned (OpenSpec.ofChange fnReadCRLFCountsLeadingPairsWrong)

end Rows
end Go.Proofs.Qxb6616163aDoor
