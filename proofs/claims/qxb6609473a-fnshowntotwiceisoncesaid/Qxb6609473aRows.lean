/-
  No cell of these rows narrows 'for every input' (looked for: loops, veiled, ifaces, maps, wideKeys, modest, calm, conditions, laid).
  DERIVED. THE GIVEN ROWS OF THIS SEAT. 2 by the template 'for every input the law returns true; each argument reads behind the call as it read before'; 0 by the template 'total and deterministic' (their statements: Qxb6609473aTotals.lean).
  GIVEN WITH THE SEED: the statements are not yours to turn. If you find one false, say at which input.
  Laid BY PROGRAM, IN A SANDBOX (cutbox-rows.mjs): the forced cells as the released guide's own fill.sh prints them over the translation afd644da60cfceaa… (all of the seat's roots in one cut). By AI agents, Wed Nov 11 2026. No macro, syntax, notation, axiom, sorry.
-/
import Derived.Test.Qxb6609473aChecked
import GoSem.Claim
import GoSem.ClaimJoined
import GoSem.ClaimMapViews
import Derived.JoinedTies
import Derived.KernelRfl
namespace Go.Proofs.Qxb6609473a
/- THE CELL 'sum', in the pinned program and in every row, IS THE sha256 OF THE DUMP (.gsa) THAT Qxb6609473aProg.lean LOADS. Nothing in Lean hashes anything: it is a label: what it is worth is what the hold of that sum in a sandbox is worth. -/
noncomputable def Try.pinned : Pinned := { name := "qxb6609473a", sum := "afd644da60cfceaa238161df51a3d170d14f9d287e4f05265746e41280e099f6", checked := Try.checked }
namespace Rows
def none {H : Type} : Left H := { results := [], args := [] }

/-- 'zzlaws_engine_b1.FnCollectSidesApartAndUndo': WHATEVER THE INPUT: true; the input reads as it did. -/
def fnCollectSidesApartAndUndoSpec : ChangeSpec := { name := "fnCollectSidesApartAndUndo", fn := fun _ => fun
  | [d] => { results := [.lit (.bool true)], args := [d] }
  | _ => none }
def fnCollectSidesApartAndUndoRow : OpenClaim := { program := "qxb6609473a", sum := "afd644da60cfceaa238161df51a3d170d14f9d287e4f05265746e41280e099f6", func := "example.com/deferra/deferra/zzlaws_engine_b1.FnCollectSidesApartAndUndo", spec := "fnCollectSidesApartAndUndo", inPlace := ["math/bits.Add64"], apart := false }
def FnCollectSidesApartAndUndoSaid : Prop := fnCollectSidesApartAndUndoRow.holds Try.pinned (OpenSpec.ofChange fnCollectSidesApartAndUndoSpec)

/-- ITS FALSE NEIGHBOUR: 'it returns false'. Refute it at one input. -/
def fnCollectSidesApartAndUndoWrong : ChangeSpec := { name := "fnCollectSidesApartAndUndo", fn := fun _ => fun
  | [d] => { results := [.lit (.bool false)], args := [d] }
  | _ => none }
def FnCollectSidesApartAndUndoWrongFalsely : Prop := fnCollectSidesApartAndUndoRow.holds Try.pinned (OpenSpec.ofChange fnCollectSidesApartAndUndoWrong)

/-- 'zzlaws_engine_b1.FnShownToTwiceIsOnce': WHATEVER THE INPUT: true; the input reads as it did. -/
def fnShownToTwiceIsOnceSpec : ChangeSpec := { name := "fnShownToTwiceIsOnce", fn := fun _ => fun
  | [d1, d2, d3, d4, d5] => { results := [.lit (.bool true)], args := [d1, d2, d3, d4, d5] }
  | _ => none }
def fnShownToTwiceIsOnceRow : OpenClaim := { program := "qxb6609473a", sum := "afd644da60cfceaa238161df51a3d170d14f9d287e4f05265746e41280e099f6", func := "example.com/deferra/deferra/zzlaws_engine_b1.FnShownToTwiceIsOnce", spec := "fnShownToTwiceIsOnce", unfollowed := true, recurses := true, apart := false }
def FnShownToTwiceIsOnceSaid : Prop := fnShownToTwiceIsOnceRow.holds Try.pinned (OpenSpec.ofChange fnShownToTwiceIsOnceSpec)

/-- ITS FALSE NEIGHBOUR: 'it returns false'. Refute it at one input. -/
def fnShownToTwiceIsOnceWrong : ChangeSpec := { name := "fnShownToTwiceIsOnce", fn := fun _ => fun
  | [d1, d2, d3, d4, d5] => { results := [.lit (.bool false)], args := [d1, d2, d3, d4, d5] }
  | _ => none }
def FnShownToTwiceIsOnceWrongFalsely : Prop := fnShownToTwiceIsOnceRow.holds Try.pinned (OpenSpec.ofChange fnShownToTwiceIsOnceWrong)

end Rows
end Go.Proofs.Qxb6609473a
