import Derived.Test.Qxb6612223aFmtFacts
import Derived.WalkKit
import Derived.WalkSpells
import Derived.ProofKit
namespace Go.Proofs.Qxb6612223aFmt
open Go.RowKit Go.Extern.Stop Go.Stop Go.Extern

/-- The format that checkLength hands to fmt. -/
def fmtB : ByteArray := ⟨#[37, 100, 32, 98, 121, 116, 101, 115, 32, 97, 114, 101, 32, 109, 111, 114, 101, 32, 116, 104, 97, 110, 32, 97, 32, 37, 100, 45, 98, 121, 116, 101, 32, 108, 101, 110, 103, 116, 104, 32, 99, 97, 110, 32, 99, 111, 117, 110, 116]⟩

set_option maxHeartbeats 1600000 in
theorem errorf_any (F : Interp) (x y : Int) (blk : Nat) (w : World) (hF : F.answers w.tape)
    (hc0 : w.cell? ⟨blk, 0, none⟩ = some (.iface 3 (.int .i64 x))) (hc1 : w.cell? ⟨blk, 1, none⟩ = some (.iface 3 (.int .i64 y))) :
    Calls Tryf.prog 28 #[.string ⟨#[37, 100, 32, 98, 121, 116, 101, 115, 32, 97, 114, 101, 32, 109, 111, 114, 101, 32, 116, 104, 97, 110, 32, 97, 32, 37, 100, 45, 98, 121, 116, 101, 32, 108, 101, 110, 103, 116, 104, 32, 99, 97, 110, 32, 99, 111, 117, 110, 116]⟩, .slice (some ⟨blk, 0, none⟩) 2 2] w fun e w' =>
      e = .returned (.iface 69 (.pointer (some ⟨w.heap.size, 0, none⟩))) ∧ ∃ t, w' = (w.alloc (.cells #[.string t] 71)).drew := by
  have hF' := hF
  unfold Interp.answers at hF'
  go_enter Tryf.func28, Tryf.ntmps28
  go_wp2
  go_ret
  exact ⟨rfl, _, rfl⟩
end Go.Proofs.Qxb6612223aFmt
