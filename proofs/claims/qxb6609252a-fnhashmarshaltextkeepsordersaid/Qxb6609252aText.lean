import Derived.Test.Qxb6609252aRows
import Derived.Test.Qxb6609252aShelf
import Derived.WalkKit
import Derived.Below
import Derived.Laws.Rows
import Derived.Lib.ConvBytes
import Derived.Outline
namespace Go.Proofs.Qxb6609252a
open Go.RowKit

/-- The cells of an array of bytes. -/
def cellsOf (l : List UInt8) : Array Value := (l.map fun b => Value.int .u8 (b.toNat : Int)).toArray
theorem cellsOf_size (l : List UInt8) : (cellsOf l).size = l.length := by simp [cellsOf]
theorem cellsOf_get (l : List UInt8) (i : Nat) (h : i < l.length) : (cellsOf l)[i]? = some (.int .u8 ((l[i]'h).toNat : Int)) := by
  simp [cellsOf, h]

set_option maxHeartbeats 400000 in
theorem string_any (l : List UInt8) (hl : l.length = 32) (w : World) :
    Calls Try.prog 21 #[.agg (cellsOf l)] w fun e w' => e = .returned (.string ⟨(Lib.Hx.encode l).toArray⟩) ∧ Below w.heap.size w w' := by
  have hsz := cellsOf_size l
  have c := Try.hex_EncodeToString_bytes w.heap.size 0 32 l (w.alloc (.cells (cellsOf l) 27)) (fun i h => by
    rw [Nat.zero_add, cell_of_row _ w.heap.size i (cellsOf l) 27 (0, 0) (heap_alloc_new w _)]; exact cellsOf_get l i h) (by simp) (by omega)
  rw [hl] at c
  generalize cellsOf l = cs at *
  clear hsz
  go_enter Try.func21, Try.ntmps21
  go_wp2_with (go_at_call 24; refine c.mono ?_; rintro e w' ⟨rfl, hb⟩)
  go_ret
  exact ⟨rfl, ((Below.refl _ w).alloc (Nat.le_refl _) _).trans (hb.mono (by simp))⟩

/-- The string of the digits. -/
def hexS (l : List UInt8) : ByteArray := ⟨(Lib.Hx.encode l).toArray⟩
theorem hexS_size (l : List UInt8) (hl : l.length = 32) : (hexS l).size = 64 := by
  show (Lib.Hx.encode l).toArray.size = 64
  simp [Lib.Hx.encode_length, hl]
theorem hexS_list (l : List UInt8) : (hexS l).data.toList = Lib.Hx.encode l := by simp [hexS]

theorem bytes_below (W : World) (s : ByteArray) : Below W.heap.size W (Lib.bytesWorld W 5 s) :=
  ⟨rfl, rfl, rfl, by rw [Lib.bytesWorld_size]; omega, fun k hk => Lib.bytesWorld_at_old W 5 s k hk⟩

set_option maxHeartbeats 400000 in
theorem marshal_any (l : List UInt8) (hl : l.length = 32) (w : World) :
    Calls Try.prog 7 #[.agg (cellsOf l)] w fun e w' => ∃ g cap, e = .returned (.tuple #[.slice (some ⟨g, 0, none⟩) 64 cap, .nilIface]) ∧ w.heap.size ≤ g ∧ g < w'.heap.size ∧
      (∀ i, i < 64 → w'.cell? ⟨g, i, none⟩ = some (.int .u8 (((Lib.Hx.encode l).getD i 0).toNat : Int))) ∧ Below w.heap.size w w' := by
  have hsz := cellsOf_size l
  rw [hl] at hsz
  have c := string_any l hl (w.alloc (.cells (cellsOf l) 27))
  have hi27 : (Try.prog.info? 27).map (·.size) = some (cellsOf l).size := by rw [hsz]; kernel_rfl
  have hsS := hexS_size l hl
  have hconv : ∀ W : World, (convert 9 23 (.string (hexS l))).run Try.prog W = .ok (.slice (some ⟨W.heap.size, 0, none⟩) 64 (grownCap W 64 0 5)) (Lib.bytesWorld W 5 (hexS l)) := fun W => by
    have := Lib.run_convert_string_bytes (P := Try.prog) W 9 23 5 (hexS l) Try.underlying9 Try.underlying23 Try.underlying5
    rwa [hsS] at this
  change Calls _ _ _ _ (fun e w' => e = .returned (.string (hexS l)) ∧ _) at c
  generalize cellsOf l = cs at *
  clear hsz hsS
  go_enter Try.func7, Try.ntmps7
  go_wp2_with (first | (refine wpList_load_row rfl 27 _ rfl w.heap.size rfl 27 cs (0, 0) _ (heap_alloc_new w _) Try.underlying27 rfl hi27 ?_) | (go_at_call 21; refine c.mono ?_; rintro e w1 ⟨rfl, hb⟩))
  go_ret2
  have hz : w.heap.size + 1 ≤ w1.heap.size := by have := hb.size; simp at this; omega
  refine ⟨w1.heap.size, _, rfl, by omega, by rw [Lib.bytesWorld_size]; omega, fun i hi => ?_, ?_⟩
  · rw [Lib.bytesWorld_cell w1 5 (hexS l) i (by rw [hexS_size l hl]; exact hi), hexS_list]
  · exact (((Below.refl _ w).alloc (Nat.le_refl _) _).trans (hb.mono (by simp))).trans ((bytes_below w1 (hexS l)).mono (by omega))
end Go.Proofs.Qxb6609252a
