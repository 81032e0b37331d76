/-
  DERIVED. GIVEN WITH THE SEED: THE CARDS: each row of Qxb6612223aFmtRows.lean that lists a variable, with what it lists TIED to the program's text (the seventh form; the later family's looks); each row that meets fmt, with fmt's text TOLD by the authors' own Lean function (tested against real Go, not proved from fmt's source: count such statements apart). THE CARD IS WHAT COUNTS. Prove the row's statement (the work); the ties are given (Qxb6612223aFmtTie.lean); close each card by the builder's one call (the guide's Derived/Test/ToyasCard.lean, 'card_holds'). Laid BY PROGRAM, IN A SANDBOX (cutbox-door.mjs). By AI agents, Wed Nov 11 2026. No macro, syntax, notation, axiom, sorry.
-/
import Derived.Test.Qxb6612223aFmtRows
import GoSem.ClaimSeven
namespace Go.Proofs.Qxb6612223aFmt
namespace Rows

/-- THE TOLD CARD OF 'zzlaws_internal_wire_b1.FnEncodeNodeIDsTwoListsParseBack'. -/
def fnEncodeNodeIDsTwoListsParseBackCard : Claim7 := { stood := { row := fnEncodeNodeIDsTwoListsParseBackRow, standIns := [], harness := (true, "e9605b1afab3969aa3819b238c1754710d5fca1e135fbf7df1c6d997ee3e489a"), looks := false }, told := true, goes := false }
def FnEncodeNodeIDsTwoListsParseBackToldSaid : Prop := Claim7.holds Tryf.pinned (.plain (OpenSpec.ofChange fnEncodeNodeIDsTwoListsParseBackSpec)) fnEncodeNodeIDsTwoListsParseBackCard
/-- ITS FALSE NEIGHBOUR. Refute it at one input. -/
def FnEncodeNodeIDsTwoListsParseBackToldWrongFalsely : Prop := Claim7.holds Tryf.pinned (.plain (OpenSpec.ofChange fnEncodeNodeIDsTwoListsParseBackWrong)) fnEncodeNodeIDsTwoListsParseBackCard

/-- THE TOLD CARD OF 'zzlaws_internal_wire_b1.FnStoredMetaDataEncodeParsesBack'. -/
def fnStoredMetaDataEncodeParsesBackCard : Claim7 := { stood := { row := fnStoredMetaDataEncodeParsesBackRow, standIns := [], harness := (true, "e9605b1afab3969aa3819b238c1754710d5fca1e135fbf7df1c6d997ee3e489a"), looks := false }, told := true, goes := false }
def FnStoredMetaDataEncodeParsesBackToldSaid : Prop := Claim7.holds Tryf.pinned (.plain (OpenSpec.ofChange fnStoredMetaDataEncodeParsesBackSpec)) fnStoredMetaDataEncodeParsesBackCard
/-- ITS FALSE NEIGHBOUR. Refute it at one input. -/
def FnStoredMetaDataEncodeParsesBackToldWrongFalsely : Prop := Claim7.holds Tryf.pinned (.plain (OpenSpec.ofChange fnStoredMetaDataEncodeParsesBackWrong)) fnStoredMetaDataEncodeParsesBackCard
end Rows
end Go.Proofs.Qxb6612223aFmt
