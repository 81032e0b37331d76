import Derived.Test.Qxb6609252aCompare
import Derived.Deep.RegionWith
import Derived.WalkSmall
namespace Go.Proofs.Qxb6609252a
open Go.RowKit

theorem digit_lt : ∀ i : Nat, i < 16 → ∀ j : Nat, j < 16 → ((Lib.Hx.digit i).toNat < (Lib.Hx.digit j).toNat ↔ i < j) := by decide +kernel

/-- THE PLAIN LAW: the texts compare as the bytes compare. -/
theorem cmpL_encode : ∀ (x y : List UInt8), x.length = y.length → cmpL (Lib.Hx.encode x) (Lib.Hx.encode y) = cmpL x y
  | [], [], _ => rfl
  | [], _ :: _, h => by simp at h
  | _ :: _, [], h => by simp at h
  | a :: x, b :: y, h => by
    rw [Lib.Hx.encode_cons, Lib.Hx.encode_cons, cmpL, cmpL, cmpL, cmpL_encode x y (by simpa using h)]
    have ha : a.toNat < 256 := UInt8.toNat_lt _
    have hb : b.toNat < 256 := UInt8.toNat_lt _
    simp only [digit_lt (a.toNat / 16) (by omega) (b.toNat / 16) (by omega), digit_lt (b.toNat / 16) (by omega) (a.toNat / 16) (by omega), digit_lt (a.toNat % 16) (by omega) (b.toNat % 16) (by omega), digit_lt (b.toNat % 16) (by omega) (a.toNat % 16) (by omega)]
    by_cases h1 : a.toNat < b.toNat
    · rw [if_pos h1]
      by_cases h2 : a.toNat / 16 < b.toNat / 16
      · rw [if_pos h2]
      · rw [if_neg h2, if_neg (by omega), if_pos (by omega)]
    · rw [if_neg h1]
      by_cases h3 : b.toNat < a.toNat
      · rw [if_pos h3]
        by_cases h2 : b.toNat / 16 < a.toNat / 16
        · rw [if_neg (by omega), if_pos h2]
        · rw [if_neg (by omega), if_neg h2, if_neg (by omega), if_pos (by omega)]
      · rw [if_neg h3, if_neg (by omega), if_neg (by omega), if_neg (by omega), if_neg (by omega)]

theorem size2 (w : World) (o1 o2 : Obj) : ((w.alloc o1).alloc o2).heap.size = w.heap.size + 2 := by
  show ((w.heap.push o1).push o2).size = _
  simp

theorem encode_cells {w : World} {g : Nat} {l : List UInt8} (hl : l.length = 32) (hc : ∀ i, i < 64 → w.cell? ⟨g, i, none⟩ = some (.int .u8 (((Lib.Hx.encode l).getD i 0).toNat : Int))) :
    ∀ i (h : i < (Lib.Hx.encode l).length), w.cell? ⟨g, 0 + i, none⟩ = some (.int .u8 (((Lib.Hx.encode l)[i]'h).toNat : Int)) := fun i h => by
  have := hc i (by rw [Lib.Hx.encode_length] at h; omega)
  rw [Nat.zero_add, this, List.getD_eq_getElem?_getD, List.getElem?_eq_getElem h, Option.getD_some]

set_option maxHeartbeats 1000000 in
theorem order_walk (la lb : List UInt8) (hla : la.length = 32) (hlb : lb.length = 32) (w : World) :
    Calls Try.prog 4 #[.agg (cellsOf la), .agg (cellsOf lb)] w fun e w' => e = .returned (.bool true) ∧ Below w.heap.size w w' := by
  have hsa := cellsOf_size la
  have hsb := cellsOf_size lb
  rw [hla] at hsa
  rw [hlb] at hsb
  have ca := marshal_any la hla ((w.alloc (.cells (cellsOf la) 22)).alloc (.cells (cellsOf lb) 22))
  have cb := fun W => marshal_any lb hlb W
  have ia : (Try.prog.info? 22).map (·.size) = some (cellsOf la).size := by rw [hsa]; kernel_rfl
  have ib : (Try.prog.info? 22).map (·.size) = some (cellsOf lb).size := by rw [hsb]; kernel_rfl
  have CB : Hid (∀ W, Calls Try.prog 7 #[.agg (cellsOf lb)] W fun e w' => ∃ g cap, e = .returned (.tuple #[.slice (some ⟨g, 0, none⟩) 64 cap, .nilIface]) ∧ W.heap.size ≤ g ∧ g < w'.heap.size ∧
      (∀ i, i < 64 → w'.cell? ⟨g, i, none⟩ = some (.int .u8 (((Lib.Hx.encode lb).getD i 0).toNat : Int))) ∧ Below W.heap.size W w') := cb
  clear cb
  have HA : Hid (∀ i (h : i < la.length), (cellsOf la)[i]? = some (.int .u8 ((la[i]'h).toNat : Int))) := cellsOf_get la
  have HB : Hid (∀ i (h : i < lb.length), (cellsOf lb)[i]? = some (.int .u8 ((lb[i]'h).toNat : Int))) := cellsOf_get lb
  have IA : Hid ((Try.prog.info? 22).map (·.size) = some (cellsOf la).size) := ia
  have IB : Hid ((Try.prog.info? 22).map (·.size) = some (cellsOf lb).size) := ib
  clear ia ib hsa hsb
  generalize cellsOf la = A at *
  generalize cellsOf lb = B at *
  go_enter Try.func4, Try.ntmps4
  go_wp2_with (refine wpList_load_row rfl 22 _ rfl w.heap.size rfl 22 A (0, 0) _ (heap_alloc2_old w _ _) Try.underlying22 rfl IA.out ?_)
  refine ca.mono ?_
  rintro e w1 ⟨g1, cap1, rfl, hg1, hg1', hc1, hb1⟩
  clear ca
  have hz1 : w.heap.size + 2 ≤ w1.heap.size := by have := hb1.size; rw [size2] at this; exact this
  have HA1 : w1.heap[w.heap.size]? = some (.cells A 22 (0, 0)) := (hb1.block w.heap.size (by rw [size2]; omega)).trans (heap_alloc2_old w _ _)
  have HB1 : w1.heap[w.heap.size + 1]? = some (.cells B 22 (0, 0)) := (hb1.block (w.heap.size + 1) (by rw [size2]; omega)).trans (heap_alloc2_new w _ _)
  have HC1 : Hid (∀ i, i < 64 → w1.cell? ⟨g1, i, none⟩ = some (.int .u8 (((Lib.Hx.encode la).getD i 0).toNat : Int))) := hc1
  have BW1 : Hid (Below w.heap.size w w1) := (((Below.refl _ w).alloc (Nat.le_refl _) _).alloc (by simp) _).trans (hb1.mono (by rw [size2]; omega))
  clear hc1 hb1
  go_wp2_with (refine wpList_load_row rfl 22 _ rfl (w.heap.size + 1) rfl 22 B (0, 0) _ HB1 Try.underlying22 rfl IB.out ?_)
  refine (CB.out _).mono ?_
  rintro e w2 ⟨g2, cap2, rfl, hg2, hg2', hc2, hb2⟩
  clear CB
  have cA := fun n : Nat => compare_any w.heap.size 0 32 (w.heap.size + 1) 0 32 32 la lb hla hlb (by omega) (w2.drewN n)
    (fun i h => by
      rw [Nat.zero_add]
      show (w2.drewN n).cell? ⟨w.heap.size, i, none⟩ = _
      simp only [World.cell?_drewN]
      rw [hb2.cell (p := ⟨w.heap.size, i, none⟩) (show w.heap.size < w1.heap.size by omega), cell_of_row _ w.heap.size i A 22 (0, 0) HA1]
      exact HA.out i h)
    (fun i h => by
      rw [Nat.zero_add]
      simp only [World.cell?_drewN]
      rw [hb2.cell (p := ⟨w.heap.size + 1, i, none⟩) (show w.heap.size + 1 < w1.heap.size by omega), cell_of_row _ (w.heap.size + 1) i B 22 (0, 0) HB1]
      exact HB.out i h)
  have cT := fun n : Nat => compare_any g1 0 cap1 g2 0 cap2 64 (Lib.Hx.encode la) (Lib.Hx.encode lb) (by rw [Lib.Hx.encode_length, hla]) (by rw [Lib.Hx.encode_length, hlb]) (by omega) (w2.drewN n)
    (encode_cells hla (fun i h => by
      simp only [World.cell?_drewN]
      rw [hb2.cell (p := ⟨g1, i, none⟩) hg1']
      exact HC1.out i h))
    (encode_cells hlb (fun i h => by
      simp only [World.cell?_drewN]
      exact hc2 i h))
  simp only [cmpL_encode la lb (hla.trans hlb.symm)] at cT
  generalize cmpL la lb = r at *
  have BW2 : Hid (Below w.heap.size w w2) := BW1.out.trans (hb2.mono (by omega))
  have CA : Hid (∀ n : Nat, Calls Try.prog 9 #[.slice (some ⟨w.heap.size, 0, none⟩) 32 32, .slice (some ⟨w.heap.size + 1, 0, none⟩) 32 32] (w2.drewN n) fun e w' => e = .returned (.int .i64 r) ∧ ∃ q, w' = (w2.drewN n).drewN q) := cA
  have CT : Hid (∀ n : Nat, Calls Try.prog 9 #[.slice (some ⟨g1, 0, none⟩) 64 cap1, .slice (some ⟨g2, 0, none⟩) 64 cap2] (w2.drewN n) fun e w' => e = .returned (.int .i64 r) ∧ ∃ q, w' = (w2.drewN n).drewN q) := cT
  clear cA cT hc2 hb2 HC1 BW1 HA1 HB1 HA HB IA IB
  go_wp2_with fail
  go_quiet (first | (go_at_call_of 9 (Value.slice (some ⟨g1, 0, none⟩) 64 cap1); exact Calls.quiet_of (CT.out _)) | (go_at_call_of 9 (Value.slice (some ⟨w.heap.size, 0, none⟩) 32 32); exact Calls.quiet_of (CA.out _)))
  go_wp2_with fail
  go_ret
  exact ⟨by simp, below_drewN BW2.out _⟩
end Go.Proofs.Qxb6609252a
