import Derived.Test.Qxb6609157aDoorModel
import Derived.Test.Qxb6609157aDoorShelf
import Derived.Below
namespace Go.Proofs.Qxb6609157aDoor
open Go.RowKit

/-- The plain law: Go's White_Space without U+0085, plus U+FEFF, is the model's set. -/
theorem space_ecma (r : Int) (h1 : ¬ r = 65279) (h2 : ¬ r = 133) : Lib.isSpaceZ r = ecma r := by
  unfold Lib.isSpaceZ
  split
  · rename_i h0
    obtain ⟨z, rfl⟩ := Int.eq_ofNat_of_zero_le h0
    rw [Int.toNat_natCast]
    by_cases hp : Lib.IsSpaceP z
    · rw [Lib.isSpaceR_true hp]
      symm
      refine ecma_true ?_
      unfold Lib.IsSpaceP at hp
      omega
    · rw [Lib.isSpaceR_false hp]
      symm
      refine ecma_false ?_
      unfold Lib.IsSpaceP at hp
      omega
  · symm
    refine ecma_false ?_
    omega

set_option maxHeartbeats 400000 in
theorem isSpace_any (r : Int) (w : World) (hlo : -2147483648 ≤ r) (hhi : r ≤ 2147483647) (hW : Lib.WhiteTab 0 w) :
    Calls Tryd.prog 6 #[.int .i32 r] w fun e w' => e = .returned (.bool (ecma r)) ∧ Below w.heap.size w w' := by
  by_cases h1 : r = 65279
  · subst h1
    rw [ecma_true (r := 65279) (by omega)]
    go_enter Tryd.func6, Tryd.ntmps6
    go_wp2
    go_ret
    exact ⟨rfl, Below.refl _ _⟩
  · by_cases h2 : r = 133
    · subst h2
      rw [ecma_false (r := 133) (by omega)]
      go_enter Tryd.func6, Tryd.ntmps6
      go_wp2
      go_ret
      exact ⟨rfl, Below.refl _ _⟩
    · have c := Tryd.unicode_IsSpace_any r w hlo hhi hW
      rw [space_ecma r h1 h2] at c
      have b1 : (r == 65279) = false := beq_eq_false_iff_ne.2 h1
      have b2 : (r != 133) = true := bne_iff_ne.2 h2
      clear h1 h2 hW
      go_enter Tryd.func6, Tryd.ntmps6
      go_wp2_with (go_at_call 7; refine c.mono ?_; rintro e w' ⟨rfl, hb⟩)
      go_ret
      exact ⟨rfl, hb⟩

set_option maxHeartbeats 400000 in
theorem zz_any (r : Int) (w : World) (hlo : -2147483648 ≤ r) (hhi : r ≤ 2147483647) (hW : Lib.WhiteTab 0 w) :
    Calls Tryd.prog 4 #[.int .i32 r] w fun e w' => e = .returned (.bool (ecma r)) ∧ Below w.heap.size w w' := by
  have c := isSpace_any r w hlo hhi hW
  clear hW
  go_enter Tryd.func4, Tryd.ntmps4
  go_wp2_with (go_at_call 6; refine c.mono ?_; rintro e w' ⟨rfl, hb⟩)
  go_ret
  exact ⟨rfl, hb⟩

set_option maxHeartbeats 400000 in
theorem law_walk (r : Int) (w : World) (hlo : -2147483648 ≤ r) (hhi : r ≤ 2147483647) (hW : Lib.WhiteTab 0 w) :
    Calls Tryd.prog 3 #[.int .i32 r] w fun e w' => e = .returned (.bool true) ∧ Below w.heap.size w w' := by
  have c := zz_any r w hlo hhi hW
  clear hW
  go_enter Tryd.func3, Tryd.ntmps3
  go_wp2_with (first | (go_at_call 4; refine c.mono ?_; rintro e w' ⟨rfl, hb⟩) | (go_at_call 5; refine (model_any r _).mono ?_; rintro e w' ⟨rfl, rfl⟩))
  go_ret
  exact ⟨by simp, hb⟩
end Go.Proofs.Qxb6609157aDoor
