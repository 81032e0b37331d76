import Derived.Test.Qxb6612223aFmtCheck
namespace Go.Proofs.Qxb6612223aFmt
open Go.RowKit

/-- The writer's bytes while the length in front is being laid: k of its bytes are there. -/
def mid (bs ns : List Nat) (width n k : Nat) : List Nat := bs ++ ((be width n).take k ++ ((be width 0).drop k ++ ns))
theorem mid_zero (bs ns : List Nat) (width n : Nat) : mid bs ns width n 0 = bs ++ (be width 0 ++ ns) := by simp [mid]
theorem mid_full (bs ns : List Nat) (width n : Nat) : mid bs ns width n width = bs ++ (be width n ++ ns) := by
  unfold mid
  rw [List.take_of_length_le (by rw [be_length]; omega), List.drop_of_length_le (by rw [be_length]; omega), List.nil_append]
theorem mid_length (bs ns : List Nat) (width n k : Nat) (hk : k ≤ width) : (mid bs ns width n k).length = bs.length + width + ns.length := by
  simp [mid, be_length]; omega
theorem mid_set (bs ns : List Nat) (width n k : Nat) (hk : k < width) : (mid bs ns width n k).set (bs.length + k) (n / 2 ^ (8 * (width - 1 - k)) % 256) = mid bs ns width n (k + 1) := by
  unfold mid
  rw [List.set_append_right _ _ (by omega), Nat.add_sub_cancel_left, List.set_append_right _ _ (by rw [List.length_take, be_length]; omega)]
  have e : k - ((be width n).take k).length = 0 := by rw [List.length_take, be_length]; omega
  have hd : (be width 0).drop k = ((be width 0)[k]'(by rw [be_length]; exact hk)) :: (be width 0).drop (k + 1) := List.drop_eq_getElem_cons _
  rw [e, hd, be_take hk, List.cons_append, List.set_cons_zero, List.append_assoc]
  rfl

theorem asBytes_set (bs : List Nat) (i y : Nat) : (asBytes bs).set i (.int .u8 (y : Int)) = asBytes (bs.set i y) := by
  simp [asBytes, List.map_set]
/-- A byte of the writer's row is stored. -/
theorem byte_done {W : World} {base B g cap : Nat} {L : List Nat} {ev : Value} (hB : W.heap[B]? = some (.cells #[.slice (some ⟨g, 0, none⟩) L.length cap, ev] 51 (0, 0))) (ho : W.ownsRow base 5 1 (.slice (some ⟨g, 0, none⟩) L.length cap) L.length (asBytes L)) (hb : base ≤ B) (i y : Nat) :
    Wrt base B (L.set i y) ev (W.setCell ⟨g, i, none⟩ (.int .u8 (y : Int))) ∧ Steps base W (W.setCell ⟨g, i, none⟩ (.int .u8 (y : Int))) := by
  have st := ho.stored i (.int .u8 (y : Int))
  rw [asBytes_set] at st
  rcases ho.2 with ⟨h0, _⟩ | ⟨g1, cap1, cur, hv, hb1, hg1, rest⟩
  · cases h0
  · cases hv
    refine ⟨⟨.slice (some ⟨g, 0, none⟩) L.length cap, ?_, by rw [List.length_set]; exact st.1, hb⟩, (Steps.refl _ _).set hg1 (.inl rfl) hb1⟩
    rw [heap_setCell_other W ⟨g, i, none⟩ B _ ?_]
    · exact hB
    · intro hh
      change B = g at hh
      rw [hh, hg1] at hB
      cases hB
end Go.Proofs.Qxb6612223aFmt
