import Derived.Test.Qxb6609473aGrow
namespace Go.Proofs.Qxb6609473a.Shown
open Go.RowKit
set_option linter.unusedSimpArgs false

/-- A party's account. -/
def accOf (p : Value × Value) : ByteArray :=
  match p.1 with
  | .string s => s
  | _ => ⟨#[]⟩
/-- Is the party the member's? -/
def mineP (ms : List ByteArray) (p : Value × Value) : Bool := isIn ms (accOf p)
def ours (ms : List ByteArray) (ps : List (Value × Value)) : List (Value × Value) := ps.filter (mineP ms)
def theirs (ms : List ByteArray) (ps : List (Value × Value)) : List (Value × Value) := ps.filter fun p => !mineP ms p

theorem ours_yes {ms : List ByteArray} {ps : List (Value × Value)} {k : Nat} (h : k < ps.length) (hm : mineP ms (ps[k]'h) = true) : ours ms (ps.take (k + 1)) = ours ms (ps.take k) ++ [ps[k]'h] ∧ theirs ms (ps.take (k + 1)) = theirs ms (ps.take k) := by
  unfold ours theirs
  rw [List.take_succ_eq_append_getElem h]
  simp only [List.filter_append, List.filter_cons, List.filter_nil, hm, Bool.not_true, Bool.not_false, if_true, if_false, Bool.false_eq_true, List.append_nil, and_self]
theorem ours_no {ms : List ByteArray} {ps : List (Value × Value)} {k : Nat} (h : k < ps.length) (hm : mineP ms (ps[k]'h) = false) : ours ms (ps.take (k + 1)) = ours ms (ps.take k) ∧ theirs ms (ps.take (k + 1)) = theirs ms (ps.take k) ++ [ps[k]'h] := by
  unfold ours theirs
  rw [List.take_succ_eq_append_getElem h]
  simp only [List.filter_append, List.filter_cons, List.filter_nil, hm, Bool.not_true, Bool.not_false, if_true, if_false, Bool.false_eq_true, List.append_nil, and_self]
theorem ours_le (ms : List ByteArray) (ps : List (Value × Value)) (k : Nat) : (ours ms (ps.take k)).length ≤ k ∧ (theirs ms (ps.take k)).length ≤ k :=
  ⟨Nat.le_trans (List.length_filter_le _ _) (List.length_take_le _ _), Nat.le_trans (List.length_filter_le _ _) (List.length_take_le _ _)⟩
theorem ours_ok {w : World} {ms : List ByteArray} {ps : List (Value × Value)} (h : PartiesOk w ps) : PartiesOk w (ours ms ps) ∧ PartiesOk w (theirs ms ps) := by
  have key : ∀ q : List (Value × Value), (∀ p ∈ q, p ∈ ps) → PartiesOk w q := fun q hq i hi => by
    obtain ⟨j, hj, e⟩ := List.getElem_of_mem (hq _ (List.getElem_mem hi))
    rw [← e]
    exact h j hj
  exact ⟨key _ fun p hp => (List.mem_filter.1 hp).1, key _ fun p hp => (List.mem_filter.1 hp).1⟩
theorem any_ours (ms : List ByteArray) (ps : List (Value × Value)) : ps.any (mineP ms) = decide (0 < (ours ms ps).length) := by
  apply Bool.eq_iff_iff.2
  rw [List.any_eq_true, decide_eq_true_eq, List.length_pos_iff_exists_mem]
  exact ⟨fun ⟨p, h1, h2⟩ => ⟨p, List.mem_filter.2 ⟨h1, h2⟩⟩, fun ⟨p, h⟩ => ⟨p, (List.mem_filter.1 h).1, (List.mem_filter.1 h).2⟩⟩
theorem all_ours {ms : List ByteArray} {ps : List (Value × Value)} : ∀ p ∈ ours ms ps, mineP ms p = true := fun _ hp => (List.mem_filter.1 hp).2
theorem theirs_nil {ms : List ByteArray} {ps : List (Value × Value)} (h : (theirs ms ps).length = 0) : ∀ p ∈ ps, mineP ms p = true := fun p hp => by
  have hn : theirs ms ps = [] := List.eq_nil_of_length_eq_zero h
  cases hm : mineP ms p
  · have : p ∈ theirs ms ps := List.mem_filter.2 ⟨hp, by simp [hm]⟩
    rw [hn] at this
    cases this
  · rfl
theorem theirs_of_all {ms : List ByteArray} {ps : List (Value × Value)} (h : ∀ p ∈ ps, mineP ms p = true) : (theirs ms ps).length = 0 := by
  unfold theirs
  rw [List.length_eq_zero_iff, List.filter_eq_nil_iff]
  intro p hp
  simp [h p hp]

/-- What ShownTo's first loop keeps. -/
structure Rel (w W0 : World) (ms : List ByteArray) (t : List (Value × Value)) (v6 v7 : Value) (wr : World) : Prop where
  o : wr.ownsRow (w.heap.size + 2) 53 2 v6 (ours ms t).length (flat (ours ms t))
  th : wr.ownsRow (w.heap.size + 2) 53 2 v7 (theirs ms t).length (flat (theirs ms t))
  apart : ∀ g, v6.ownBlock = some g → v7.ownBlock ≠ some g
  below : Below (w.heap.size + 2) W0 wr
  z : w.heap.size + 2 ≤ W0.heap.size

theorem Rel.start (w W0 : World) (ms : List ByteArray) (hz : w.heap.size + 2 ≤ W0.heap.size) : Rel w W0 ms [] (.slice none 0 0) (.slice none 0 0) W0 :=
  ⟨World.ownsRow_nil _ _ _ _, World.ownsRow_nil _ _ _ _, (fun g h => by cases h), Below.refl _ _, hz⟩
theorem flat_snoc (l : List (Value × Value)) (p : Value × Value) : flat (l ++ [p]) = flat l ++ [p.1, p.2] := by rw [flat_append]; rfl

theorem Rel.yes {w W0 wr w1 : World} {ms : List ByteArray} {ps : List (Value × Value)} {k : Nat} {v6 v7 v' : Value} {o1 o2 : Obj} (R : Rel w W0 ms (ps.take k) v6 v7 wr) (hk : k < ps.length) (hm : mineP ms (ps[k]'hk) = true)
    (ho : w1.ownsRow (w.heap.size + 2) 53 2 v' ((ours ms (ps.take k)).length + 1) (flat (ours ms (ps.take k)) ++ [(ps[k]'hk).1, (ps[k]'hk).2])) (hg : ((wr.alloc o1).alloc o2).grownBy w1 v6.ownBlock)
    (hb : v'.ownBlock = v6.ownBlock ∨ v'.ownBlock = some ((wr.alloc o1).alloc o2).heap.size) : Rel w W0 ms (ps.take (k + 1)) v' v7 w1 := by
  obtain ⟨e1, e2⟩ := ours_yes hk hm
  have hz := R.below.size
  have hz0 := R.z
  have h7 : ∀ g, v7.ownBlock = some g → g < wr.heap.size := fun g h => (R.th.lt g h).2
  refine ⟨?_, ?_, ?_, ?_, R.z⟩
  · rw [e1, flat_snoc, List.length_append]; exact ho
  · rw [e2]
    refine ((R.th.alloc o1).alloc o2).kept hg ?_
    cases h : v7.ownBlock with
    | none => exact Or.inl rfl
    | some g => exact Or.inr fun e => R.apart g e.symm h
  · intro g hg'
    rcases hb with h | h
    · rw [h] at hg'; exact R.apart g hg'
    · rw [h] at hg'
      cases hg'
      intro e
      have := h7 _ e
      simp at this
      omega
  · refine ((R.below.alloc (by omega) o1).alloc (by simp; omega) o2).grown hg (by simp; omega) fun g hg' => (R.o.lt g hg').1
theorem Rel.no {w W0 wr w1 : World} {ms : List ByteArray} {ps : List (Value × Value)} {k : Nat} {v6 v7 v' : Value} {o1 o2 : Obj} (R : Rel w W0 ms (ps.take k) v6 v7 wr) (hk : k < ps.length) (hm : mineP ms (ps[k]'hk) = false)
    (ho : w1.ownsRow (w.heap.size + 2) 53 2 v' ((theirs ms (ps.take k)).length + 1) (flat (theirs ms (ps.take k)) ++ [(ps[k]'hk).1, (ps[k]'hk).2])) (hg : ((wr.alloc o1).alloc o2).grownBy w1 v7.ownBlock)
    (hb : v'.ownBlock = v7.ownBlock ∨ v'.ownBlock = some ((wr.alloc o1).alloc o2).heap.size) : Rel w W0 ms (ps.take (k + 1)) v6 v' w1 := by
  obtain ⟨e1, e2⟩ := ours_no hk hm
  have hz := R.below.size
  have hz0 := R.z
  have h6 : ∀ g, v6.ownBlock = some g → g < wr.heap.size := fun g h => (R.o.lt g h).2
  refine ⟨?_, ?_, ?_, ?_, R.z⟩
  · rw [e1]
    refine ((R.o.alloc o1).alloc o2).kept hg ?_
    cases h : v6.ownBlock with
    | none => exact Or.inl rfl
    | some g => exact Or.inr fun e => R.apart g h e.symm
  · rw [e2, flat_snoc, List.length_append]; exact ho
  · intro g hg' e
    rcases hb with h | h
    · rw [h] at e; exact R.apart g hg' e
    · rw [h] at e
      cases e
      have := h6 _ hg'
      simp at this
      omega
  · refine ((R.below.alloc (by omega) o1).alloc (by simp; omega) o2).grown hg (by simp; omega) fun g hg' => (R.th.lt g hg').1
end Go.Proofs.Qxb6609473a.Shown
