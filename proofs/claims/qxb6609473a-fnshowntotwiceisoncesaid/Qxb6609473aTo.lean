import Derived.Test.Qxb6609473aShown
namespace Go.Proofs.Qxb6609473a.Shown
open Go.RowKit

theorem to_below (w : World) (o1 o2 o3 : Obj) : Below w.heap.size w (((w.alloc o1).alloc o2).alloc o3) := (((Below.refl _ w).alloc (Nat.le_refl _) _).alloc (by simp) _).alloc (by simp; omega) _
theorem to_size (w : World) (o1 o2 o3 : Obj) : (((w.alloc o1).alloc o2).alloc o3).heap.size = w.heap.size + 3 := by simp
theorem to_heap {w w1 : World} {o1 o2 : Obj} (h : Below (((w.alloc o1).alloc o2).alloc rec0).heap.size (((w.alloc o1).alloc o2).alloc rec0) w1) : w1.heap[w.heap.size + 2]? = some (.cells #[.string ⟨#[]⟩, .slice none 0 0, .slice none 0 0, .bool false] 46 (0, 0)) := by
  refine (h.block _ (by simp)).trans ?_
  have := heap_alloc_new ((w.alloc o1).alloc o2) rec0
  rw [size2] at this
  exact this
theorem to_mine (w : World) (o1 o3 : Obj) (v : Value) (t : TypeId) : (((w.alloc o1).alloc (.cells #[v] t)).alloc o3).cell? ⟨w.heap.size + 1, 0, none⟩ = some v := by
  have h : (((w.alloc o1).alloc (.cells #[v] t)).alloc o3).heap[w.heap.size + 1]? = some (.cells #[v] t (0, 0)) := by
    rw [Below.heap_alloc _ _ _ (by simp)]
    exact heap_alloc2_new w _ _
  rw [cell_of_row _ (w.heap.size + 1) 0 _ t (0, 0) h]
  rfl

theorem Pairs.set' {w w0 : World} {a : Option Addr} {ps : List (Value × Value)} {B : Nat} (h0 : Pairs w0 a ps) (hB : w0.heap.size ≤ B) (h : Pairs w a ps) (j : Nat) (u : Value) : Pairs (w.setCell ⟨B, j, none⟩ u) a ps := fun hp => by
  obtain ⟨b, off, e, hc⟩ := h0 hp
  have hlt : b < w0.heap.size := block_lt_of_cell (hc 0 hp).1
  exact h.set (fun x hx => by rw [e] at hx; cases hx; show b ≠ B; omega) j u hp

/-- The record goes on into ZZShownTo's own result. -/
theorem Good.carry {ms : List ByteArray} {ps fs : List (Value × Value)} {kind : ByteArray} {a1 a2 : Option Addr} {nf c1 np c2 : Nat} {k' v1' v2' : Value} {p' ok : Bool} {w w1 : World} {u0 u1 u2 u3 : Value}
    (h : Good ms ps fs (w.heap.size + 3) kind (.slice a1 nf c1) (.slice a2 np c2) nf k' v1' v2' p' ok w1) (hP : Pairs w a2 ps) (hO : PartiesOk w ps) (hF : Pairs w a1 fs)
    (hb : Below w.heap.size w ((((w1.setCell ⟨w.heap.size + 2, 0, none⟩ u0).setCell ⟨w.heap.size + 2, 1, none⟩ u1).setCell ⟨w.heap.size + 2, 2, none⟩ u2).setCell ⟨w.heap.size + 2, 3, none⟩ u3)) :
    Good ms ps fs w.heap.size kind (.slice a1 nf c1) (.slice a2 np c2) nf k' v1' v2' p' ok ((((w1.setCell ⟨w.heap.size + 2, 0, none⟩ u0).setCell ⟨w.heap.size + 2, 1, none⟩ u1).setCell ⟨w.heap.size + 2, 2, none⟩ u2).setCell ⟨w.heap.size + 2, 3, none⟩ u3) := by
  refine ⟨h.isok, fun hok => ?_, h.same⟩
  obtain ⟨e1, e2, x1, d1, fs', x2, d2, qs, g1, g2, g3, g4, g5, g6, g7, g8, g9, g10, g11, g12, g13, g14⟩ := h.whole hok
  refine ⟨e1, e2, x1, d1, fs', x2, d2, qs, g1, g2, g3, g4, ?_, g6, ?_, ?_, g9, g10, g11, g12.imp id (fun h x hx => by have := h x hx; omega), g13.imp id (fun h x hx => by have := h x hx; omega), g14⟩
  · rcases g12 with ⟨ev, ef⟩ | hx
    · subst ef
      rw [g1] at ev
      cases ev
      exact hF.below hb
    · have ho : Off x1 (w.heap.size + 2) := fun x e hh => by have := hx x e; omega
      exact (((g5.set ho _ _).set ho _ _).set ho _ _).set ho _ _
  · rcases g13 with ⟨ev, ef⟩ | hx
    · subst ef
      rw [g2] at ev
      cases ev
      exact hP.below hb
    · have ho : Off x2 (w.heap.size + 2) := fun x e hh => by have := hx x e; omega
      exact (((g7.set ho _ _).set ho _ _).set ho _ _).set ho _ _
  · intro i hi
    obtain ⟨j, hj, e⟩ := List.getElem_of_mem (g14 _ (List.getElem_mem hi))
    rw [← e]
    exact hO.below hb j hj

set_option maxHeartbeats 1000000 in
theorem to_pub (kind : ByteArray) (a1 a2 am : Option Addr) (nf c1 np c2 nm cm : Nat) (w : World) :
    Calls Try.prog 14 #[.agg #[.string kind, .slice a1 nf c1, .slice a2 np c2, .bool true], .slice am nm cm] w fun e w' => e = .returned (.tuple #[.agg #[.string kind, .slice a1 nf c1, .slice a2 np c2, .bool true], .bool true]) ∧ Below w.heap.size w w' := by
  have q := fun f W => shown_pub kind a1 a2 nf c1 np c2 f W
  go_enter Try.func14, Try.ntmps14
  go_wp2_with fail
  refine (q _ _).mono ?_
  rintro e w1 ⟨rfl, hb⟩
  have hr := to_heap hb
  have r0 := cell_of_row w1 (w.heap.size + 2) 0 _ 46 (0, 0) hr
  have r1 := cell_of_row w1 (w.heap.size + 2) 1 _ 46 (0, 0) hr
  have r2 := cell_of_row w1 (w.heap.size + 2) 2 _ 46 (0, 0) hr
  have r3 := cell_of_row w1 (w.heap.size + 2) 3 _ 46 (0, 0) hr
  have f0 := frozen_of_row w1 (w.heap.size + 2) 0 _ 46 hr
  have f1 := frozen_of_row w1 (w.heap.size + 2) 1 _ 46 hr
  have f2 := frozen_of_row w1 (w.heap.size + 2) 2 _ 46 hr
  have f3 := frozen_of_row w1 (w.heap.size + 2) 3 _ 46 hr
  simp at r0 r1 r2 r3
  have HB : Hid (Below w.heap.size w w1) := (to_below w _ _ _).trans (hb.mono (by rw [to_size]; omega))
  clear hb hr q
  go_wp2_with fail
  exact bodyPost_ret (v := .tuple #[.agg #[.string kind, .slice a1 nf c1, .slice a2 np c2, .bool true], .bool true]) (by simp [results, Try.results14, go_sem, r0, r1, r2, r3]) rfl
    ⟨rfl, (((HB.out.setCell (by simp; omega) _).setCell (by simp; omega) _).setCell (by simp; omega) _).setCell (by simp; omega) _⟩

set_option maxHeartbeats 2000000 in
theorem to_any (kind : ByteArray) (a1 a2 am : Option Addr) (nf c1 np c2 nm cm : Nat) (fs ps : List (Value × Value)) (ms : List ByteArray) (hf : fs.length = nf) (hp : ps.length = np) (hm : ms.length = nm)
    (bf : nf ≤ 4096) (bp : np ≤ 4096) (bm : nm ≤ 4096) (zf : a1 = none → nf = 0 ∧ c1 = 0) (w : World) (hF : Pairs w a1 fs) (hG : FieldsOk fs) (hP : Pairs w a2 ps) (hO : PartiesOk w ps) (hM : Strs w am ms) :
    Calls Try.prog 14 #[.agg #[.string kind, .slice a1 nf c1, .slice a2 np c2, .bool false], .slice am nm cm] w fun e w' =>
      Ended ms ps fs w.heap.size kind (.slice a1 nf c1) (.slice a2 np c2) nf e w' ∧ Below w.heap.size w w' := by
  have HF : Hid (Pairs w a1 fs) := hF
  have HP : Hid (Pairs w a2 ps) := hP
  have HO : Hid (PartiesOk w ps) := hO
  have Q1 := hideT (fun o1 o3 t => shown_any kind a1 a2 am nf c1 np c2 nm cm (w.heap.size + 1) fs ps ms hf hp hm bf bp bm zf (((w.alloc o1).alloc (.cells #[.slice am nm cm] t)).alloc o3) (hF.below (to_below w _ _ _)) hG (hP.below (to_below w _ _ _)) (hO.below (to_below w _ _ _)) (hM.below (to_below w _ _ _)) (to_mine w o1 o3 _ t))
  clear hf hp hm hF hG hP hO hM zf bf bp bm
  go_enter Try.func14, Try.ntmps14
  go_wp2_with fail
  refine (Q1.out _ rec0 39).mono ?_
  rintro e w1 ⟨⟨k', x1, n1, d1, x2, n2, d2, p', ok, rfl, hgood⟩, hb⟩
  have hr := to_heap hb
  have r0 := cell_of_row w1 (w.heap.size + 2) 0 _ 46 (0, 0) hr
  have r1 := cell_of_row w1 (w.heap.size + 2) 1 _ 46 (0, 0) hr
  have r2 := cell_of_row w1 (w.heap.size + 2) 2 _ 46 (0, 0) hr
  have r3 := cell_of_row w1 (w.heap.size + 2) 3 _ 46 (0, 0) hr
  have f0 := frozen_of_row w1 (w.heap.size + 2) 0 _ 46 hr
  have f1 := frozen_of_row w1 (w.heap.size + 2) 1 _ 46 hr
  have f2 := frozen_of_row w1 (w.heap.size + 2) 2 _ 46 hr
  have f3 := frozen_of_row w1 (w.heap.size + 2) 3 _ 46 hr
  simp at r0 r1 r2 r3
  have HB : Hid (Below w.heap.size w w1) := (to_below w _ _ _).trans (hb.mono (by rw [to_size]; omega))
  rw [to_size] at hgood
  have GD := hideT hgood
  clear hb hr Q1 hgood
  have BE := (((HB.out.setCell (p := ⟨w.heap.size + 2, 0, none⟩) (by simp) (.string k')).setCell (p := ⟨w.heap.size + 2, 1, none⟩) (by simp) (.slice x1 n1 d1)).setCell (p := ⟨w.heap.size + 2, 2, none⟩) (by simp) (.slice x2 n2 d2)).setCell (p := ⟨w.heap.size + 2, 3, none⟩) (by simp) (.bool p')
  have HBE := hideT BE
  clear BE
  go_wp2_with fail
  exact bodyPost_ret (v := .tuple #[.agg #[.string k', .slice x1 n1 d1, .slice x2 n2 d2, .bool p'], .bool ok]) (by simp [results, Try.results14, go_sem, r0, r1, r2, r3]) rfl
    ⟨⟨_, _, _, _, _, _, _, _, _, rfl, GD.out.carry HP.out HO.out HF.out HBE.out⟩, HBE.out⟩
end Go.Proofs.Qxb6609473a.Shown
