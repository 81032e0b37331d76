/-
  NARROWER THAN 'FOR EVERY INPUT', by the rows' own cells (each row's printed sentence says how): FnIsSpaceExactTable: laid.
  DERIVED. THE GIVEN ROWS OF THIS SEAT. 1 by the template 'for every input the law returns true; each argument reads behind the call as it read before'; 0 by the template 'total and deterministic' (their statements: Qxb6609157aDoorTotals.lean).
  GIVEN WITH THE SEED: the statements are not yours to turn. If you find one false, say at which input.
  Laid BY PROGRAM, IN A SANDBOX (cutbox-rows.mjs): the forced cells as the released guide's own fill.sh prints them over the translation f5a40167ee6d1ab2… (all of the seat's roots in one cut). By AI agents, Wed Nov 11 2026. No macro, syntax, notation, axiom, sorry.
-/
import Derived.Test.Qxb6609157aDoorChecked
import GoSem.Claim
import GoSem.ClaimJoined
import GoSem.ClaimMapViews
import Derived.JoinedTies
import Derived.KernelRfl
namespace Go.Proofs.Qxb6609157aDoor
/- THE CELL 'sum', in the pinned program and in every row, IS THE sha256 OF THE DUMP (.gsa) THAT Qxb6609157aDoorProg.lean LOADS. Nothing in Lean hashes anything: it is a label: what it is worth is what the hold of that sum in a sandbox is worth. -/
noncomputable def Tryd.pinned : Pinned := { name := "qxb6609157adoor", sum := "f5a40167ee6d1ab20decfc7ab16c87348bdc449211740cd18f1caef4efa68856", checked := Tryd.checked }
namespace Rows
def none {H : Type} : Left H := { results := [], args := [] }

/- WHAT THE LISTED PACKAGE-LEVEL VARIABLES READ AS WHEN THE CALL BEGINS. Each datum BY PROGRAM (the guide's laid-datum.mjs) off the statement by which the dump's own 'gosem.cut.vars' lays the variable. In a bare row this is a premise. The card (Qxb6609157aDoorCards.lean) ties it to the program's text. -/
def laid_unicode_White_Space {H : Type} : DataW H := .ptr (.agg [.slice [.agg [.lit (.int .u16 9), .lit (.int .u16 13), .lit (.int .u16 1)], .agg [.lit (.int .u16 32), .lit (.int .u16 133), .lit (.int .u16 101)], .agg [.lit (.int .u16 160), .lit (.int .u16 5760), .lit (.int .u16 5600)], .agg [.lit (.int .u16 8192), .lit (.int .u16 8202), .lit (.int .u16 1)], .agg [.lit (.int .u16 8232), .lit (.int .u16 8233), .lit (.int .u16 1)], .agg [.lit (.int .u16 8239), .lit (.int .u16 8287), .lit (.int .u16 48)], .agg [.lit (.int .u16 12288), .lit (.int .u16 12288), .lit (.int .u16 1)]] [], .nil, .lit (.int .i64 2)])

/-- 'zzlaws_rules_b1.FnIsSpaceExactTable': WHATEVER THE INPUT: true; the input reads as it did. -/
def fnIsSpaceExactTableSpec : ChangeSpec := { name := "fnIsSpaceExactTable", fn := fun _ => fun
  | [d] => { results := [.lit (.bool true)], args := [d] }
  | _ => none }
def fnIsSpaceExactTableRow : OpenClaim := { program := "qxb6609157adoor", sum := "f5a40167ee6d1ab20decfc7ab16c87348bdc449211740cd18f1caef4efa68856", func := "example.com/toggle-set-server/toggle-set-server/zzlaws_rules_b1.FnIsSpaceExactTable", spec := "fnIsSpaceExactTable", named := ["unicode.White_Space"], apart := false, laid := [("unicode.White_Space", laid_unicode_White_Space)] }
def FnIsSpaceExactTableSaid : Prop := fnIsSpaceExactTableRow.holds Tryd.pinned (OpenSpec.ofChange fnIsSpaceExactTableSpec)

/-- ITS FALSE NEIGHBOUR: 'it returns false'. Refute it at one input. -/
def fnIsSpaceExactTableWrong : ChangeSpec := { name := "fnIsSpaceExactTable", fn := fun _ => fun
  | [d] => { results := [.lit (.bool false)], args := [d] }
  | _ => none }
def FnIsSpaceExactTableWrongFalsely : Prop := fnIsSpaceExactTableRow.holds Tryd.pinned (OpenSpec.ofChange fnIsSpaceExactTableWrong)

end Rows
end Go.Proofs.Qxb6609157aDoor
