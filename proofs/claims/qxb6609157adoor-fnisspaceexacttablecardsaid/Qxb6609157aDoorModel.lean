import Derived.Test.Qxb6609157aDoorRows
import Derived.WalkKit
namespace Go.Proofs.Qxb6609157aDoor
open Go.RowKit
set_option linter.unusedSimpArgs false

/-- ecmaSpaceModel, as a plain function of the rune. -/
def ecma (r : Int) : Bool :=
  decide (r = 9 ∨ r = 11 ∨ r = 12 ∨ r = 65279 ∨ r = 10 ∨ r = 13 ∨ r = 8232 ∨ r = 8233 ∨ r = 32 ∨ r = 160 ∨ r = 5760 ∨ r = 8239 ∨ r = 8287 ∨ r = 12288 ∨ (8192 ≤ r ∧ r ≤ 8202))

theorem ecma_true {r : Int} (h : r = 9 ∨ r = 11 ∨ r = 12 ∨ r = 65279 ∨ r = 10 ∨ r = 13 ∨ r = 8232 ∨ r = 8233 ∨ r = 32 ∨ r = 160 ∨ r = 5760 ∨ r = 8239 ∨ r = 8287 ∨ r = 12288 ∨ (8192 ≤ r ∧ r ≤ 8202)) : ecma r = true := by
  unfold ecma; exact decide_eq_true h
theorem ecma_false {r : Int} (h : ¬ (r = 9 ∨ r = 11 ∨ r = 12 ∨ r = 65279 ∨ r = 10 ∨ r = 13 ∨ r = 8232 ∨ r = 8233 ∨ r = 32 ∨ r = 160 ∨ r = 5760 ∨ r = 8239 ∨ r = 8287 ∨ r = 12288 ∨ (8192 ≤ r ∧ r ≤ 8202))) : ecma r = false := by
  unfold ecma; exact decide_eq_false h
theorem ret_bool {a b : Bool} (h : b = a) : Ending.returned (.bool a) = .returned (.bool b) := by rw [h]

set_option maxHeartbeats 1000000 in
theorem model_any (r : Int) (w : World) : Calls Tryd.prog 5 #[.int .i32 r] w fun e w' => e = .returned (.bool (ecma r)) ∧ w' = w := by
  go_enter Tryd.func5, Tryd.ntmps5
  go_wp2
  all_goals
    go_ret
    refine ⟨ret_bool ?_, rfl⟩
    first
    | (refine ecma_true ?_; simp only [beq_iff_eq, beq_eq_false_iff_ne, ne_eq, decide_eq_true_eq, decide_eq_false_iff_not] at *; omega)
    | (refine ecma_false ?_; simp only [beq_iff_eq, beq_eq_false_iff_ne, ne_eq, decide_eq_true_eq, decide_eq_false_iff_not] at *; omega)
end Go.Proofs.Qxb6609157aDoor
