import Derived.Test.Qxb6612223aFmtErr
import Derived.Below
import Derived.OwnWalk
import Derived.Laws.OwnMore
import Derived.Laws.AppendOwnNone
import Derived.Deep.RegionLaw
import Derived.Deep.DeepCutAuto
import Derived.BigQuiet
import Derived.Deep.QuietTactic
namespace Go.Proofs.Qxb6612223aFmt
open Go.RowKit

theorem info5 : (Tryf.prog.info? 5).map (fun i => (i.zero, i.size, i.bytes)) = some (some (.int .u8 0), 1, 1) := by kernel_rfl
theorem hideT {p : Prop} (h : p) : Hid p := h
theorem add_pl (b o j : Nat) : (⟨b, o, none⟩ : Addr).add j = ⟨b, o + j, none⟩ := by unfold Addr.add; split <;> simp_all
theorem below_drewN {B q : Nat} {a w : World} (h : Below B a w) : Below B a (w.drewN q) := ⟨h.os, h.tape, h.output, h.size, h.block⟩
theorem cell_kept {w w' : World} {B : Nat} (hb : Below B w w') (hB : w.heap.size ≤ B) {a : Addr} {v : Value} (h : w.cell? a = some v) : w'.cell? a = some v := (hb.cell (Nat.lt_of_lt_of_le (block_lt_of_cell h) hB)).trans h

/-- Bytes as cells. -/
def asBytes (bs : List Nat) : List Value := bs.map fun (b : Nat) => Value.int .u8 (b : Int)
theorem asBytes_length (bs : List Nat) : (asBytes bs).length = bs.length := by simp [asBytes]
theorem asBytes_append (a b : List Nat) : asBytes (a ++ b) = asBytes a ++ asBytes b := by simp [asBytes]
theorem asBytes_at (bs : List Nat) (i : Nat) (h : i < bs.length) : (asBytes bs)[i]? = some (.int .u8 ((bs[i]'h : Nat) : Int)) := by simp [asBytes, h]
theorem asBytes_one (bs : List Nat) : ∀ u ∈ asBytes bs, u.oneCell' = true := fun u hu => by
  obtain ⟨b, _, rfl⟩ := List.mem_map.1 hu
  rfl

/-- From W to W' only the call's own rows of bytes and its writers turned. -/
structure Steps (base : Nat) (W W' : World) : Prop where
  below : Below base W W'
  kept : ∀ (k : Nat) (c : Array Value) (e : TypeId) (fr : Nat × Nat), W.heap[k]? = some (.cells c e fr) → e ≠ 5 → e ≠ 51 → W'.heap[k]? = some (.cells c e fr)
theorem Steps.refl (base : Nat) (W : World) : Steps base W W := ⟨Below.refl _ _, fun _ _ _ _ h _ _ => h⟩
theorem Steps.trans {base : Nat} {W W' W'' : World} (h : Steps base W W') (k : Steps base W' W'') : Steps base W W'' := ⟨h.below.trans k.below, fun n c e fr h0 h1 h2 => k.kept n c e fr (h.kept n c e fr h0 h1 h2) h1 h2⟩
theorem Steps.alloc {base : Nat} {W W' : World} (h : Steps base W W') (hb : base ≤ W'.heap.size) (o : Obj) : Steps base W (W'.alloc o) :=
  h.trans ⟨(Below.refl _ _).alloc hb o, fun n c e fr h0 _ _ => by rw [Below.heap_alloc _ _ _ (Array.getElem?_eq_some_iff.1 h0).1]; exact h0⟩
theorem Steps.drewN {base q : Nat} {W W' : World} (h : Steps base W W') : Steps base W (W'.drewN q) := ⟨below_drewN h.below, h.kept⟩
theorem Steps.drew {base : Nat} {W W' : World} (h : Steps base W W') : Steps base W W'.drew := ⟨h.below.drew, h.kept⟩
theorem Steps.set {base B o : Nat} {W W' : World} {u : Value} {c : Array Value} {t : TypeId} {fr : Nat × Nat} (h : Steps base W W') (hB : W'.heap[B]? = some (.cells c t fr)) (ht : t = 5 ∨ t = 51) (hb : base ≤ B) : Steps base W (W'.setCell ⟨B, o, none⟩ u) :=
  h.trans ⟨(Below.refl _ _).setCell hb u, fun n c' e fr' h0 h1 h2 => by
    rw [heap_setCell_other W' ⟨B, o, none⟩ n u ?_]
    · exact h0
    · intro hh
      change n = B at hh
      rw [hh, hB] at h0
      cases h0
      rcases ht with rfl | rfl
      · exact h1 rfl
      · exact h2 rfl⟩
theorem Steps.grown {base : Nat} {W W' W'' : World} {v : Value} {n : Nat} {xs : List Value} (h : Steps base W W') (hb : base ≤ W'.heap.size) (ho : W'.ownsRow base 5 1 v n xs) (hg : W'.grownBy W'' v.ownBlock) : Steps base W W'' :=
  h.trans ⟨(Below.refl _ _).grown hg hb (fun k hk => (ho.lt k hk).1), fun k c e fr h0 h1 h2 => by
    have := (Array.getElem?_eq_some_iff.1 h0).1
    rw [hg.block k this ?_]
    · exact h0
    · intro hh
      rcases ho.2 with ⟨rfl, _⟩ | ⟨g, cap, cur, rfl, _, hg1, _⟩
      · cases hh
      · cases hh
        rw [hg1] at h0
        cases h0
        exact h1 rfl⟩

/-- Block B is a writer with these bytes and this error. -/
def Wrt (base B : Nat) (bs : List Nat) (ev : Value) (W : World) : Prop :=
  ∃ v, W.heap[B]? = some (.cells #[v, ev] 51 (0, 0)) ∧ W.ownsRow base 5 1 v bs.length (asBytes bs) ∧ base ≤ B
end Go.Proofs.Qxb6612223aFmt
