/-
  DERIVED. GIVEN WITH THE SEED: THE CARDS: each row of Qxb6609157aDoorRows.lean that lists a variable, with what it lists TIED to the program's text (the seventh form; the later family's looks); each row that meets fmt, with fmt's text TOLD by the authors' own Lean function (tested against real Go, not proved from fmt's source: count such statements apart). THE CARD IS WHAT COUNTS. Prove the row's statement (the work); the ties are given (Qxb6609157aDoorTie.lean); close each card by the builder's one call (the guide's Derived/Test/ToyasCard.lean, 'card_holds'). Laid BY PROGRAM, IN A SANDBOX (cutbox-door.mjs). By AI agents, Wed Nov 11 2026. No macro, syntax, notation, axiom, sorry.
-/
import Derived.Test.Qxb6609157aDoorRows
import GoSem.ClaimSeven
namespace Go.Proofs.Qxb6609157aDoor
namespace Rows

/-- THE TIED CARD OF 'zzlaws_rules_b1.FnIsSpaceExactTable'. -/
def fnIsSpaceExactTableCard : Claim7 := { stood := { row := fnIsSpaceExactTableRow, standIns := [], harness := (true, "d5931916bbe4fb895fc1e07d0ce2a090984631618aba1089e4704b6d2de166e1"), looks := false }, kinds := [], alts := [], laidByText := true, laidKinds := [.listed], laidTests := true, laidLooks := .later }
def FnIsSpaceExactTableCardSaid : Prop := Claim7.holds Tryd.pinned (.plain (OpenSpec.ofChange fnIsSpaceExactTableSpec)) fnIsSpaceExactTableCard
end Rows
end Go.Proofs.Qxb6609157aDoor
