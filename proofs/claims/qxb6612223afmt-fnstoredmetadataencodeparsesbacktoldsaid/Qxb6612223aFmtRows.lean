/-
  No cell of these rows narrows 'for every input' (looked for: loops, veiled, ifaces, maps, wideKeys, modest, calm, conditions, laid).
  DERIVED. THE GIVEN ROWS OF THIS SEAT. 2 by the template 'for every input the law returns true; each argument reads behind the call as it read before'; 0 by the template 'total and deterministic' (their statements: Qxb6612223aFmtTotals.lean).
  GIVEN WITH THE SEED: the statements are not yours to turn. If you find one false, say at which input.
  Laid BY PROGRAM, IN A SANDBOX (cutbox-rows.mjs): the forced cells as the released guide's own fill.sh prints them over the translation 943f53f288b86490… (all of the seat's roots in one cut). By AI agents, Wed Nov 11 2026. No macro, syntax, notation, axiom, sorry.
-/
import Derived.Test.Qxb6612223aFmtChecked
import GoSem.Claim
import GoSem.ClaimJoined
import GoSem.ClaimMapViews
import Derived.JoinedTies
import Derived.KernelRfl
namespace Go.Proofs.Qxb6612223aFmt
/- THE CELL 'sum', in the pinned program and in every row, IS THE sha256 OF THE DUMP (.gsa) THAT Qxb6612223aFmtProg.lean LOADS. Nothing in Lean hashes anything: it is a label: what it is worth is what the hold of that sum in a sandbox is worth. -/
noncomputable def Tryf.pinned : Pinned := { name := "qxb6612223afmt", sum := "943f53f288b864905b4f5c9d3367c8316d26e58fe6090495a30897384e8ad52f", checked := Tryf.checked }
namespace Rows
def none {H : Type} : Left H := { results := [], args := [] }

/-- 'zzlaws_internal_wire_b1.FnEncodeNodeIDsTwoListsParseBack': WHATEVER THE INPUT: true; the input reads as it did. -/
def fnEncodeNodeIDsTwoListsParseBackSpec : ChangeSpec := { name := "fnEncodeNodeIDsTwoListsParseBack", fn := fun _ => fun
  | [d1, d2, d3] => { results := [.lit (.bool true)], args := [d1, d2, d3] }
  | _ => none }
def fnEncodeNodeIDsTwoListsParseBackRow : OpenClaim := { program := "qxb6612223afmt", sum := "943f53f288b864905b4f5c9d3367c8316d26e58fe6090495a30897384e8ad52f", func := "example.com/peerfold/peerfold/zzlaws_internal_wire_b1.FnEncodeNodeIDsTwoListsParseBack", spec := "fnEncodeNodeIDsTwoListsParseBack", stops := ["fmt.errorf"], inPlace := ["fmt.errorf"], unfollowed := true, recurses := true, apart := false }
/-- NO THEOREM (fmt's text is open here; it may be false): for the released tool's asking of the row's closed facts alone. THE STATEMENT IS 'FnEncodeNodeIDsTwoListsParseBackToldSaid' (Qxb6612223aFmtCards.lean). -/
def FnEncodeNodeIDsTwoListsParseBackFormAsk : Prop := fnEncodeNodeIDsTwoListsParseBackRow.holds Tryf.pinned (OpenSpec.ofChange fnEncodeNodeIDsTwoListsParseBackSpec)

/-- ITS FALSE NEIGHBOUR: 'it returns false'. Refute it at one input. -/
def fnEncodeNodeIDsTwoListsParseBackWrong : ChangeSpec := { name := "fnEncodeNodeIDsTwoListsParseBack", fn := fun _ => fun
  | [d1, d2, d3] => { results := [.lit (.bool false)], args := [d1, d2, d3] }
  | _ => none }
def FnEncodeNodeIDsTwoListsParseBackWrongFormAsk : Prop := fnEncodeNodeIDsTwoListsParseBackRow.holds Tryf.pinned (OpenSpec.ofChange fnEncodeNodeIDsTwoListsParseBackWrong)

/-- 'zzlaws_internal_wire_b1.FnStoredMetaDataEncodeParsesBack': WHATEVER THE INPUT: true; the input reads as it did. -/
def fnStoredMetaDataEncodeParsesBackSpec : ChangeSpec := { name := "fnStoredMetaDataEncodeParsesBack", fn := fun _ => fun
  | [d1, d2, d3, d4, d5, d6, d7, d8, d9, d10] => { results := [.lit (.bool true)], args := [d1, d2, d3, d4, d5, d6, d7, d8, d9, d10] }
  | _ => none }
def fnStoredMetaDataEncodeParsesBackRow : OpenClaim := { program := "qxb6612223afmt", sum := "943f53f288b864905b4f5c9d3367c8316d26e58fe6090495a30897384e8ad52f", func := "example.com/peerfold/peerfold/zzlaws_internal_wire_b1.FnStoredMetaDataEncodeParsesBack", spec := "fnStoredMetaDataEncodeParsesBack", stops := ["fmt.errorf"], inPlace := ["fmt.errorf"], unfollowed := true, recurses := true, apart := false }
/-- NO THEOREM (fmt's text is open here; it may be false): for the released tool's asking of the row's closed facts alone. THE STATEMENT IS 'FnStoredMetaDataEncodeParsesBackToldSaid' (Qxb6612223aFmtCards.lean). -/
def FnStoredMetaDataEncodeParsesBackFormAsk : Prop := fnStoredMetaDataEncodeParsesBackRow.holds Tryf.pinned (OpenSpec.ofChange fnStoredMetaDataEncodeParsesBackSpec)

/-- ITS FALSE NEIGHBOUR: 'it returns false'. Refute it at one input. -/
def fnStoredMetaDataEncodeParsesBackWrong : ChangeSpec := { name := "fnStoredMetaDataEncodeParsesBack", fn := fun _ => fun
  | [d1, d2, d3, d4, d5, d6, d7, d8, d9, d10] => { results := [.lit (.bool false)], args := [d1, d2, d3, d4, d5, d6, d7, d8, d9, d10] }
  | _ => none }
def FnStoredMetaDataEncodeParsesBackWrongFormAsk : Prop := fnStoredMetaDataEncodeParsesBackRow.holds Tryf.pinned (OpenSpec.ofChange fnStoredMetaDataEncodeParsesBackWrong)

end Rows
end Go.Proofs.Qxb6612223aFmt
