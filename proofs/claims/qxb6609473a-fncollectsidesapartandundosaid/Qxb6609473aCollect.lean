import Derived.Test.Qxb6609473aAdd
import Derived.Deep.QuietTactic
import Derived.BigQuiet
import Derived.Deep.RegionWith
namespace Go.Proofs.Qxb6609473a
open Go.RowKit

/-- Block b is a contract whose two tallies are the sums x0 and x1. -/
def Tally (w : World) (b : Nat) (x0 x1 : Int) : Prop :=
  ∃ C : Array Value, w.heap[b]? = some (.cells C 79 (0, 0)) ∧ C[34]? = some (.int .i64 (hiP x0)) ∧ C[35]? = some (.int .u64 (loP x0)) ∧ C[36]? = some (.int .i64 (hiP x1)) ∧ C[37]? = some (.int .u64 (loP x1))

theorem lt_of_get {C : Array Value} {i : Nat} {v : Value} (h : C[i]? = some v) : i < C.size := (Array.getElem?_eq_some_iff.1 h).1
theorem Tally.kept {w w' : World} {b : Nat} {x0 x1 : Int} (h : Tally w b x0 x1) (hb : w'.heap[b]? = w.heap[b]?) : Tally w' b x0 x1 := by
  obtain ⟨C, hC, r⟩ := h
  exact ⟨C, hb.trans hC, r⟩
theorem Tally.lt {w : World} {b : Nat} {x0 x1 : Int} (h : Tally w b x0 x1) : b < w.heap.size := by
  obtain ⟨C, hC, _⟩ := h
  rcases Nat.lt_or_ge b w.heap.size with h' | h'
  · exact h'
  · rw [Array.getElem?_eq_none h'] at hC; cases hC

/-- A new contract's cells. -/
def newC : Array Value := #[.string ⟨#[]⟩, .int .i64 0, .int .i64 0, .int .i64 0, .int .i64 0, .int .i64 0, .int .i64 0, .int .i64 0, .int .i64 0, .int .i64 0, .int .i64 0, .int .i64 0, .int .i64 0, .int .i64 0, .int .i64 0, .pointer none, .int .i64 0, .int .i64 0, .bool false, .int .i64 0, .int .i64 0, .int .i64 0, .int .i64 0, .int .i64 0, .slice none 0 0, .int .i64 0, .int .i64 0, .int .i64 0, .bool false, .slice none 0 0, .pointer none, .bool false, .slice none 0 0, .pointer none, .int .i64 0, .int .u64 0, .int .i64 0, .int .u64 0, .int .i64 0, .int .i64 0, .int .u64 0, .int .i64 0, .int .i64 0, .int .u64 0, .int .i64 0, .int .i64 0, .int .u64 0, .int .i64 0, .int .i64 0, .int .u64 0, .int .i64 0, .int .i64 0, .int .u64 0, .int .i64 0, .int .i64 0, .int .u64 0, .int .i64 0, .int .i64 0, .int .u64 0, .int .i64 0, .int .i64 0, .int .u64 0, .int .i64 0, .int .i64 0, .int .u64 0, .int .i64 0, .int .i64 0, .int .u64 0, .int .i64 0, .int .i64 0, .int .i64 0, .int .i64 0, .int .i64 0, .int .i64 0, .int .u64 0, .int .i64 0, .int .i64 0, .int .i64 0, .int .i64 0, .int .i64 0, .int .i64 0, .int .i64 0, .int .i64 0, .int .i64 0, .int .i64 0, .slice none 0 0, .int .i64 0, .int .i64 0, .int .i64 0, .slice none 0 0, .int .u8 0]
theorem zero79 (w : World) : (zeroValue 79).run Try.prog w = .ok (.agg newC) w := by kernel_rfl

set_option maxHeartbeats 400000 in
theorem new_any (w : World) : Calls Try.prog 6 #[] w fun e w' => e = .returned (.pointer (some ⟨w.heap.size, 0, none⟩)) ∧ Tally w' w.heap.size 0 0 ∧ Below w.heap.size w w' ∧ w'.heap.size = w.heap.size + 1 := by
  have hz := zero79
  have h0 : newC[34]? = some (.int .i64 (hiP 0)) := by kernel_rfl
  have h1 : newC[35]? = some (.int .u64 (loP 0)) := by kernel_rfl
  have h2 : newC[36]? = some (.int .i64 (hiP 0)) := by kernel_rfl
  have h3 : newC[37]? = some (.int .u64 (loP 0)) := by kernel_rfl
  generalize newC = C at *
  go_enter Try.func6, Try.ntmps6
  go_wp2
  go_ret
  exact ⟨rfl, ⟨_, heap_alloc_new w _, h0, h1, h2, h3⟩, (Below.refl _ w).alloc (Nat.le_refl _) _, by simp⟩

theorem grown_drew {w W : World} (h : w.grownBy W none) : w.grownBy W.drew none := ⟨h.os, h.tape, h.output, h.size, h.block⟩
theorem grown_set {w W w1 : World} {b i j : Nat} {u v : Value} (hW : w.grownBy W none) (hb : Below W.heap.size W w1) : w.grownBy ((w1.setCell ⟨b, i, none⟩ u).setCell ⟨b, j, none⟩ v) (some b) :=
  ⟨hb.os.trans hW.os, hb.tape.trans hW.tape, hb.output.trans hW.output, by
    have h1 := hW.size
    have h2 := hb.size
    simp only [World.size_setCell]
    omega, fun k hk hne => by
    have hne' : k ≠ b := fun e => hne (by rw [e])
    rw [heap_setCell_other _ ⟨b, j, none⟩ k v hne', heap_setCell_other _ ⟨b, i, none⟩ k u hne', hb.block k (Nat.lt_of_lt_of_le hk hW.size)]
    exact hW.block k hk (by simp)⟩
theorem set2_heap {w1 : World} {b i j : Nat} {u v : Value} {C : Array Value} (G : w1.heap[b]? = some (.cells C 79 (0, 0))) :
    ((w1.setCell ⟨b, i, none⟩ u).setCell ⟨b, j, none⟩ v).heap[b]? = some (.cells ((C.setIfInBounds i u).setIfInBounds j v) 79 (0, 0)) :=
  heap_setCell_same _ b j _ 79 v (heap_setCell_same w1 b i C 79 u G)

set_option maxHeartbeats 400000 in
theorem collected0 (b : Nat) (x0 x1 : Int) (w : World) (h : Tally w b x0 x1) :
    Calls Try.prog 9 #[.pointer (some ⟨b, 0, none⟩), .int .u8 0] w fun e w' => e = .returned (.agg #[.int .i64 (hiP x0), .int .u64 (loP x0)]) ∧ ∃ c, w' = w.alloc (.cells c 35) := by
  obtain ⟨C, hC, h0, h1, h2, h3⟩ := h
  have hb : b < w.heap.size := Tally.lt ⟨C, hC, h0, h1, h2, h3⟩
  have c0 : w.cell? ⟨b, 34, none⟩ = some (.int .i64 (hiP x0)) := by rw [cell_of_row w b 34 C 79 (0, 0) hC, h0]
  have c1 : w.cell? ⟨b, 35, none⟩ = some (.int .u64 (loP x0)) := by rw [cell_of_row w b 35 C 79 (0, 0) hC, h1]
  clear hC h0 h1 h2 h3
  generalize hiP x0 = a at *
  generalize loP x0 = d at *
  go_enter Try.func9, Try.ntmps9
  go_wp2
  exact bodyPost_ret (v := .agg #[.int .i64 a, .int .u64 d]) (by simp [results, Try.results9, go_sem]) rfl ⟨rfl, _, rfl⟩

set_option maxHeartbeats 400000 in
theorem collected1 (b : Nat) (x0 x1 : Int) (w : World) (h : Tally w b x0 x1) :
    Calls Try.prog 9 #[.pointer (some ⟨b, 0, none⟩), .int .u8 1] w fun e w' => e = .returned (.agg #[.int .i64 (hiP x1), .int .u64 (loP x1)]) ∧ ∃ c, w' = w.alloc (.cells c 35) := by
  obtain ⟨C, hC, h0, h1, h2, h3⟩ := h
  have hb : b < w.heap.size := Tally.lt ⟨C, hC, h0, h1, h2, h3⟩
  have c0 : w.cell? ⟨b, 36, none⟩ = some (.int .i64 (hiP x1)) := by rw [cell_of_row w b 36 C 79 (0, 0) hC, h2]
  have c1 : w.cell? ⟨b, 37, none⟩ = some (.int .u64 (loP x1)) := by rw [cell_of_row w b 37 C 79 (0, 0) hC, h3]
  clear hC h0 h1 h2 h3
  generalize hiP x1 = a at *
  generalize loP x1 = d at *
  go_enter Try.func9, Try.ntmps9
  go_wp2
  exact bodyPost_ret (v := .agg #[.int .i64 a, .int .u64 d]) (by simp [results, Try.results9, go_sem]) rfl ⟨rfl, _, rfl⟩

set_option maxHeartbeats 1000000 in
theorem collect0 (b : Nat) (x0 x1 v : Int) (w : World) (h : Tally w b x0 x1) (hv1 : -9223372036854775808 ≤ v) (hv2 : v ≤ 9223372036854775807) :
    Calls Try.prog 17 #[.pointer (some ⟨b, 0, none⟩), .int .u8 0, .int .i64 v] w fun e w' => e = .returned (.tuple #[]) ∧ Tally w' b (x0 + v) x1 ∧ w.grownBy w' (some b) := by
  obtain ⟨C, hC, h0, h1, h2, h3⟩ := h
  have hb : b < w.heap.size := Tally.lt ⟨C, hC, h0, h1, h2, h3⟩
  have c0 : w.cell? ⟨b, 34, none⟩ = some (.int .i64 (hiP x0)) := by rw [cell_of_row w b 34 C 79 (0, 0) hC, h0]
  have c1 : w.cell? ⟨b, 35, none⟩ = some (.int .u64 (loP x0)) := by rw [cell_of_row w b 35 C 79 (0, 0) hC, h1]
  have qF := fun W => from_any v hv1 hv2 W
  have qA := fun W => add_any x0 v W
  have QF : Hid (∀ W, Calls Try.prog 24 #[.int .i64 v] W fun e w' => e = .returned (.agg #[.int .i64 (hiP v), .int .u64 (loP v)]) ∧ w' = W.alloc (.cells #[.int .i64 (hiP v), .int .u64 (loP v)] 35)) := qF
  have QA : Hid (∀ W, Calls Try.prog 23 #[.agg #[.int .i64 (hiP x0), .int .u64 (loP x0)], .agg #[.int .i64 (hiP v), .int .u64 (loP v)]] W fun e w' => ∃ ok, e = .returned (.tuple #[.agg #[.int .i64 (hiP (x0 + v)), .int .u64 (loP (x0 + v))], .bool ok]) ∧ Below W.heap.size W w') := qA
  have HC : Hid (w.heap[b]? = some (.cells C 79 (0, 0))) := hC
  have H0 : Hid (C[34]? = some (.int .i64 (hiP x0))) := h0
  have H1 : Hid (C[35]? = some (.int .u64 (loP x0))) := h1
  have H2 : Hid (C[36]? = some (.int .i64 (hiP x1))) := h2
  have H3 : Hid (C[37]? = some (.int .u64 (loP x1))) := h3
  clear qF qA hC h0 h1 h2 h3
  generalize hiP x0 = a0 at *
  generalize loP x0 = d0 at *
  generalize hiP v = av at *
  generalize loP v = dv at *
  generalize ea : hiP (x0 + v) = a1 at *
  generalize ed : loP (x0 + v) = d1 at *
  have EA : Hid (hiP (x0 + v) = a1) := ea
  have ED : Hid (loP (x0 + v) = d1) := ed
  clear ea ed
  go_enter Try.func17, Try.ntmps17
  go_wp2
  go_region_with (first | (go_at_call 24; refine (QF.out _).mono ?_; rintro e w' ⟨rfl, rfl⟩) | (go_at_call 23; refine (QA.out _).mono ?_; rintro e w1 ⟨ok, rfl, hb1⟩; have g := (hb1.block b (by simp; omega)).trans ((Below.heap_alloc _ _ b (by exact hb)).trans HC.out); have f0 := cell_of_row w1 b 34 C 79 (0, 0) g; have f1 := cell_of_row w1 b 35 C 79 (0, 0) g; rw [H0.out] at f0; rw [H1.out] at f1; have f2 := frozen_of_row w1 b 34 C 79 g; have f3 := frozen_of_row w1 b 35 C 79 g; have G : Hid (w1.heap[b]? = some (.cells C 79 (0, 0))) := g; clear g))
  all_goals
    go_end0
    refine ⟨rfl, ⟨_, set2_heap G.out, ?_, ?_, ?_, ?_⟩, grown_set (grown_drew (World.grownBy_alloc _ _ _)) hb1⟩
    · rw [EA.out, Array.getElem?_setIfInBounds_ne (by decide), Array.getElem?_setIfInBounds_self_of_lt (lt_of_get H0.out)]
    · rw [ED.out, Array.getElem?_setIfInBounds_self_of_lt (by rw [Array.size_setIfInBounds]; exact lt_of_get H1.out)]
    · rw [Array.getElem?_setIfInBounds_ne (by decide), Array.getElem?_setIfInBounds_ne (by decide)]; exact H2.out
    · rw [Array.getElem?_setIfInBounds_ne (by decide), Array.getElem?_setIfInBounds_ne (by decide)]; exact H3.out

set_option maxHeartbeats 1000000 in
theorem collect1 (b : Nat) (x0 x1 v : Int) (w : World) (h : Tally w b x0 x1) (hv1 : -9223372036854775808 ≤ v) (hv2 : v ≤ 9223372036854775807) :
    Calls Try.prog 17 #[.pointer (some ⟨b, 0, none⟩), .int .u8 1, .int .i64 v] w fun e w' => e = .returned (.tuple #[]) ∧ Tally w' b x0 (x1 + v) ∧ w.grownBy w' (some b) := by
  obtain ⟨C, hC, h0, h1, h2, h3⟩ := h
  have hb : b < w.heap.size := Tally.lt ⟨C, hC, h0, h1, h2, h3⟩
  have c0 : w.cell? ⟨b, 36, none⟩ = some (.int .i64 (hiP x1)) := by rw [cell_of_row w b 36 C 79 (0, 0) hC, h2]
  have c1 : w.cell? ⟨b, 37, none⟩ = some (.int .u64 (loP x1)) := by rw [cell_of_row w b 37 C 79 (0, 0) hC, h3]
  have qF := fun W => from_any v hv1 hv2 W
  have qA := fun W => add_any x1 v W
  have QF : Hid (∀ W, Calls Try.prog 24 #[.int .i64 v] W fun e w' => e = .returned (.agg #[.int .i64 (hiP v), .int .u64 (loP v)]) ∧ w' = W.alloc (.cells #[.int .i64 (hiP v), .int .u64 (loP v)] 35)) := qF
  have QA : Hid (∀ W, Calls Try.prog 23 #[.agg #[.int .i64 (hiP x1), .int .u64 (loP x1)], .agg #[.int .i64 (hiP v), .int .u64 (loP v)]] W fun e w' => ∃ ok, e = .returned (.tuple #[.agg #[.int .i64 (hiP (x1 + v)), .int .u64 (loP (x1 + v))], .bool ok]) ∧ Below W.heap.size W w') := qA
  have HC : Hid (w.heap[b]? = some (.cells C 79 (0, 0))) := hC
  have H0 : Hid (C[36]? = some (.int .i64 (hiP x1))) := h2
  have H1 : Hid (C[37]? = some (.int .u64 (loP x1))) := h3
  have H2 : Hid (C[34]? = some (.int .i64 (hiP x0))) := h0
  have H3 : Hid (C[35]? = some (.int .u64 (loP x0))) := h1
  clear qF qA hC h0 h1 h2 h3
  generalize hiP x1 = a0 at *
  generalize loP x1 = d0 at *
  generalize hiP v = av at *
  generalize loP v = dv at *
  generalize ea : hiP (x1 + v) = a1 at *
  generalize ed : loP (x1 + v) = d1 at *
  have EA : Hid (hiP (x1 + v) = a1) := ea
  have ED : Hid (loP (x1 + v) = d1) := ed
  clear ea ed
  go_enter Try.func17, Try.ntmps17
  go_wp2
  go_region_with (first | (go_at_call 24; refine (QF.out _).mono ?_; rintro e w' ⟨rfl, rfl⟩) | (go_at_call 23; refine (QA.out _).mono ?_; rintro e w1 ⟨ok, rfl, hb1⟩; have g := (hb1.block b (by simp; omega)).trans ((Below.heap_alloc _ _ b (by exact hb)).trans HC.out); have f0 := cell_of_row w1 b 36 C 79 (0, 0) g; have f1 := cell_of_row w1 b 37 C 79 (0, 0) g; rw [H0.out] at f0; rw [H1.out] at f1; have f2 := frozen_of_row w1 b 36 C 79 g; have f3 := frozen_of_row w1 b 37 C 79 g; have G : Hid (w1.heap[b]? = some (.cells C 79 (0, 0))) := g; clear g))
  all_goals
    go_end0
    refine ⟨rfl, ⟨_, set2_heap G.out, ?_, ?_, ?_, ?_⟩, grown_set (grown_drew (World.grownBy_alloc _ _ _)) hb1⟩
    · rw [Array.getElem?_setIfInBounds_ne (by decide), Array.getElem?_setIfInBounds_ne (by decide)]; exact H2.out
    · rw [Array.getElem?_setIfInBounds_ne (by decide), Array.getElem?_setIfInBounds_ne (by decide)]; exact H3.out
    · rw [EA.out, Array.getElem?_setIfInBounds_ne (by decide), Array.getElem?_setIfInBounds_self_of_lt (lt_of_get H0.out)]
    · rw [ED.out, Array.getElem?_setIfInBounds_self_of_lt (by rw [Array.size_setIfInBounds]; exact lt_of_get H1.out)]


set_option maxHeartbeats 400000 in
theorem zz0 (b : Nat) (x0 x1 v : Int) (w : World) (h : Tally w b x0 x1) (hv1 : -9223372036854775808 ≤ v) (hv2 : v ≤ 9223372036854775807) :
    Calls Try.prog 7 #[.pointer (some ⟨b, 0, none⟩), .int .u8 0, .int .i64 v] w fun e w' => e = .returned (.tuple #[]) ∧ Tally w' b (x0 + v) x1 ∧ w.grownBy w' (some b) := by
  have c := collect0 b x0 x1 v w h hv1 hv2
  clear h
  go_enter Try.func7, Try.ntmps7
  go_wp2_with (go_at_call 17; refine c.mono ?_; rintro e w' ⟨rfl, ht, hg⟩)
  go_end0
  exact ⟨rfl, ht, hg⟩

set_option maxHeartbeats 400000 in
theorem zz1 (b : Nat) (x0 x1 v : Int) (w : World) (h : Tally w b x0 x1) (hv1 : -9223372036854775808 ≤ v) (hv2 : v ≤ 9223372036854775807) :
    Calls Try.prog 7 #[.pointer (some ⟨b, 0, none⟩), .int .u8 1, .int .i64 v] w fun e w' => e = .returned (.tuple #[]) ∧ Tally w' b x0 (x1 + v) ∧ w.grownBy w' (some b) := by
  have c := collect1 b x0 x1 v w h hv1 hv2
  clear h
  go_enter Try.func7, Try.ntmps7
  go_wp2_with (go_at_call 17; refine c.mono ?_; rintro e w' ⟨rfl, ht, hg⟩)
  go_end0
  exact ⟨rfl, ht, hg⟩
end Go.Proofs.Qxb6609473a
