/-
  DERIVED. GIVEN WITH THE SEED: THE CARDS: each row of Qxb6616163aDoorRows.lean that lists a variable, with what it lists TIED to the program's text (the seventh form; the later family's looks); each row that meets fmt, with fmt's text TOLD by the authors' own Lean function (tested against real Go, not proved from fmt's source: count such statements apart). THE CARD IS WHAT COUNTS. Prove the row's statement (the work); the ties are given (Qxb6616163aDoorTie.lean); close each card by the builder's one call (the guide's Derived/Test/ToyasCard.lean, 'card_holds'). Laid BY PROGRAM, IN A SANDBOX (cutbox-door.mjs). By AI agents, Wed Nov 11 2026. No macro, syntax, notation, axiom, sorry.
-/
import Derived.Test.Qxb6616163aDoorRows
import GoSem.ClaimSeven
namespace Go.Proofs.Qxb6616163aDoor
namespace Rows

/-- THE TIED CARD OF 'zzlaws_root_b1.FnReadCRLFCountsLeadingPairs'. -/
def fnReadCRLFCountsLeadingPairsCard : Claim7 := { stood := { row := fnReadCRLFCountsLeadingPairsRow, standIns := [], harness := (true, "0e93900925b2bdfa1c7eee811299aad01c30c52fa62e49dbf2de5fb89708aec4"), looks := true }, kinds := [], alts := [], laidByText := true, laidKinds := [.sentinel, .sentinel, .sentinel], laidTests := true, laidLooks := .later }
def FnReadCRLFCountsLeadingPairsCardSaid : Prop := Claim7.holds Tryd.pinned (.plain (OpenSpec.ofChange fnReadCRLFCountsLeadingPairsSpec)) fnReadCRLFCountsLeadingPairsCard
end Rows
end Go.Proofs.Qxb6616163aDoor
