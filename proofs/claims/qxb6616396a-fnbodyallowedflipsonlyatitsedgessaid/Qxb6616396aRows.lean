/-
  No cell of these rows narrows 'for every input' (looked for: loops, veiled, ifaces, maps, wideKeys, modest, calm, conditions, laid).
  DERIVED. THE GIVEN ROWS OF THIS SEAT. 2 by the template 'for every input the law returns true; each argument reads behind the call as it read before'; 0 by the template 'total and deterministic' (their statements: Qxb6616396aTotals.lean).
  GIVEN WITH THE SEED: the statements are not yours to turn. If you find one false, say at which input.
  Laid BY PROGRAM, IN A SANDBOX (cutbox-rows.mjs): the forced cells as the released guide's own fill.sh prints them over the translation e693d54143e783a4… (all of the seat's roots in one cut). By AI agents, Wed Nov 11 2026. No macro, syntax, notation, axiom, sorry.
-/
import Derived.Test.Qxb6616396aChecked
import GoSem.Claim
import GoSem.ClaimJoined
import GoSem.ClaimMapViews
import Derived.JoinedTies
import Derived.KernelRfl
namespace Go.Proofs.Qxb6616396a
/- THE CELL 'sum', in the pinned program and in every row, IS THE sha256 OF THE DUMP (.gsa) THAT Qxb6616396aProg.lean LOADS. Nothing in Lean hashes anything: it is a label: what it is worth is what the hold of that sum in a sandbox is worth. -/
noncomputable def Try.pinned : Pinned := { name := "qxb6616396a", sum := "e693d54143e783a4ae6c806862b952d8d60f74b24d24f1628869f18e53aafcd6", checked := Try.checked }
namespace Rows
def none {H : Type} : Left H := { results := [], args := [] }

/-- 'zzlaws_internal_server_b1.FnBodyAllowedFlipsOnlyAtItsEdges': WHATEVER THE INPUT: true; the input reads as it did. -/
def fnBodyAllowedFlipsOnlyAtItsEdgesSpec : ChangeSpec := { name := "fnBodyAllowedFlipsOnlyAtItsEdges", fn := fun _ => fun
  | [d] => { results := [.lit (.bool true)], args := [d] }
  | _ => none }
def fnBodyAllowedFlipsOnlyAtItsEdgesRow : OpenClaim := { program := "qxb6616396a", sum := "e693d54143e783a4ae6c806862b952d8d60f74b24d24f1628869f18e53aafcd6", func := "example.com/doorward/doorward/zzlaws_internal_server_b1.FnBodyAllowedFlipsOnlyAtItsEdges", spec := "fnBodyAllowedFlipsOnlyAtItsEdges", apart := false }
def FnBodyAllowedFlipsOnlyAtItsEdgesSaid : Prop := fnBodyAllowedFlipsOnlyAtItsEdgesRow.holds Try.pinned (OpenSpec.ofChange fnBodyAllowedFlipsOnlyAtItsEdgesSpec)

/-- ITS FALSE NEIGHBOUR: 'it returns false'. Refute it at one input. -/
def fnBodyAllowedFlipsOnlyAtItsEdgesWrong : ChangeSpec := { name := "fnBodyAllowedFlipsOnlyAtItsEdges", fn := fun _ => fun
  | [d] => { results := [.lit (.bool false)], args := [d] }
  | _ => none }
def FnBodyAllowedFlipsOnlyAtItsEdgesWrongFalsely : Prop := fnBodyAllowedFlipsOnlyAtItsEdgesRow.holds Try.pinned (OpenSpec.ofChange fnBodyAllowedFlipsOnlyAtItsEdgesWrong)

/-- 'zzlaws_internal_server_b1.FnBodyAllowedRefusesExactlyInformationalAnd204And304': WHATEVER THE INPUT: true; the input reads as it did. -/
def fnBodyAllowedRefusesExactlyInformationalAnd204And304Spec : ChangeSpec := { name := "fnBodyAllowedRefusesExactlyInformationalAnd204And304", fn := fun _ => fun
  | [d1, d2] => { results := [.lit (.bool true)], args := [d1, d2] }
  | _ => none }
def fnBodyAllowedRefusesExactlyInformationalAnd204And304Row : OpenClaim := { program := "qxb6616396a", sum := "e693d54143e783a4ae6c806862b952d8d60f74b24d24f1628869f18e53aafcd6", func := "example.com/doorward/doorward/zzlaws_internal_server_b1.FnBodyAllowedRefusesExactlyInformationalAnd204And304", spec := "fnBodyAllowedRefusesExactlyInformationalAnd204And304", apart := false }
def FnBodyAllowedRefusesExactlyInformationalAnd204And304Said : Prop := fnBodyAllowedRefusesExactlyInformationalAnd204And304Row.holds Try.pinned (OpenSpec.ofChange fnBodyAllowedRefusesExactlyInformationalAnd204And304Spec)

/-- ITS FALSE NEIGHBOUR: 'it returns false'. Refute it at one input. -/
def fnBodyAllowedRefusesExactlyInformationalAnd204And304Wrong : ChangeSpec := { name := "fnBodyAllowedRefusesExactlyInformationalAnd204And304", fn := fun _ => fun
  | [d1, d2] => { results := [.lit (.bool false)], args := [d1, d2] }
  | _ => none }
def FnBodyAllowedRefusesExactlyInformationalAnd204And304WrongFalsely : Prop := fnBodyAllowedRefusesExactlyInformationalAnd204And304Row.holds Try.pinned (OpenSpec.ofChange fnBodyAllowedRefusesExactlyInformationalAnd204And304Wrong)

end Rows
end Go.Proofs.Qxb6616396a
