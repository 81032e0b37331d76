import Derived.Test.Qxb6612223aFmtLen
namespace Go.Proofs.Qxb6612223aFmt
open Go.RowKit Go.Extern.Stop Go.Stop Go.Extern

/-- The largest length that so many bytes in front can count. -/
def top (width : Nat) : Nat := 2 ^ (8 * width) - 1
/-- A writer's error: none, or of errors.New's make. -/
def ErrOk (ev : Value) (b : Bool) : Prop := (b = false ∧ ev = .nilIface) ∨ (b = true ∧ ∃ p, ev = .iface 69 p)

set_option maxHeartbeats 400000 in
theorem check_fits (B width n : Nat) (hw : width = 1 ∨ width = 2) (hn : n ≤ top width) (w : World) :
    Calls Tryf.prog 23 #[.pointer (some ⟨B, 0, none⟩), .int .i64 (width : Int), .int .i64 (n : Int)] w fun e w' => e = .returned (.bool true) ∧ w' = w := by
  rcases hw with rfl | rfl
  · have h : n ≤ 255 := hn
    have hu : IntKind.u64.wrap (n : Int) = (n : Int) := by simp [IntKind.wrap, IntKind.bits, IntKind.signed]; omega
    have hd : decide ((n : Int) ≤ 255) = true := decide_eq_true (by omega)
    clear hn
    go_enter Tryf.func23, Tryf.ntmps23
    go_wp2
    go_ret
    exact ⟨rfl, rfl⟩
  · have h : n ≤ 65535 := hn
    have hu : IntKind.u64.wrap (n : Int) = (n : Int) := by simp [IntKind.wrap, IntKind.bits, IntKind.signed]; omega
    have hd : decide ((n : Int) ≤ 65535) = true := decide_eq_true (by omega)
    clear hn
    go_enter Tryf.func23, Tryf.ntmps23
    go_wp2
    go_ret
    exact ⟨rfl, rfl⟩

theorem Wrt.alloc {base B : Nat} {bs : List Nat} {ev : Value} {W : World} (h : Wrt base B bs ev W) (o : Obj) : Wrt base B bs ev (W.alloc o) := by
  obtain ⟨v, h1, h2, h3⟩ := h
  exact ⟨v, (Below.heap_alloc W o B (Array.getElem?_eq_some_iff.1 h1).1).trans h1, h2.alloc o, h3⟩
theorem Wrt.drew {base B : Nat} {bs : List Nat} {ev : Value} {W : World} (h : Wrt base B bs ev W) : Wrt base B bs ev W.drew := by
  obtain ⟨v, h1, h2, h3⟩ := h
  exact ⟨v, h1, h2.drew, h3⟩
/-- The writer's error is set. -/
theorem err_done {W : World} {base B : Nat} {bs : List Nat} {v ev ev' : Value} (hB : W.heap[B]? = some (.cells #[v, ev] 51 (0, 0))) (ho : W.ownsRow base 5 1 v bs.length (asBytes bs)) (hb : base ≤ B) :
    Wrt base B bs ev' (W.setCell ⟨B, 1, none⟩ ev') ∧ Steps base W (W.setCell ⟨B, 1, none⟩ ev') :=
  ⟨⟨v, heap_setCell_same W B 1 _ 51 ev' hB, row_set ho hB (by decide), hb⟩, (Steps.refl _ _).set hB (.inr rfl) hb⟩

set_option maxHeartbeats 1000000 in
theorem check_over (F : Interp) (base B width n : Nat) (bs : List Nat) (ev : Value) (b : Bool) (hE : ErrOk ev b) (hw : width = 1 ∨ width = 2) (hn : top width < n) (hn2 : n ≤ 16777216) (w : World) (hF : F.answers w.tape) (hW : Wrt base B bs ev w) (hbase : base ≤ w.heap.size) :
    Calls Tryf.prog 23 #[.pointer (some ⟨B, 0, none⟩), .int .i64 (width : Int), .int .i64 (n : Int)] w fun e w' => e = .returned (.bool false) ∧ ∃ ev', Wrt base B bs ev' w' ∧ ErrOk ev' true ∧ Steps base w w' := by
  obtain ⟨v, hB, ho, hb⟩ := hW
  have c1 := cell_of_row w B 1 _ 51 (0, 0) hB
  have f1 := frozen_of_row w B 1 _ 51 hB
  simp at c1
  have hBw : B < w.heap.size := block_lt_of_cell c1
  have hu : IntKind.u64.wrap (n : Int) = (n : Int) := by simp [IntKind.wrap, IntKind.bits, IntKind.signed]; omega
  have HB := hideT hB
  have HO := hideT ho
  clear hB ho
  have hd : decide ((n : Int) ≤ (2 : Int) ^ (8 * width) - 1) = false := decide_eq_false (by
    have : (2 : Int) ^ (8 * width) - 1 = ((2 ^ (8 * width) - 1 : Nat) : Int) := by
      rcases hw with rfl | rfl <;> rfl
    unfold top at hn
    omega)
  rcases hE with ⟨rfl, rfl⟩ | ⟨rfl, p, rfl⟩
  · rcases hw with rfl | rfl
    · have q := hideT (errorf_any F n 1 w.heap.size (w.alloc (.cells #[.iface 3 (.int .i64 (n : Int)), .iface 3 (.int .i64 1)] 20)) hF (cell_of_row _ w.heap.size 0 _ 20 (0, 0) (heap_alloc_new w _)) (cell_of_row _ w.heap.size 1 _ 20 (0, 0) (heap_alloc_new w _)))
      have hd2 : decide ((n : Int) ≤ 255) = false := hd
      have hBw1 : B < w.heap.size + 1 := by omega
      clear hd hn
      go_enter Tryf.func23, Tryf.ntmps23
      go_wp2_with fail
      refine q.out.mono ?_
      rintro e w1 ⟨rfl, t, rfl⟩
      have ED := hideT (err_done (ev' := .iface 69 (.pointer (some ⟨w.heap.size + 1, 0, none⟩))) HB.out HO.out hb)
      clear q
      go_wp2_with fail
      go_ret
      exact ⟨rfl, _, ((ED.out.1.alloc _).alloc _).drew, .inr ⟨rfl, _, rfl⟩, ((ED.out.2.alloc (by simp [World.setCell]; omega) _).alloc (by simp [World.setCell]; omega) _).drew⟩
    · have q := hideT (errorf_any F n 2 w.heap.size (w.alloc (.cells #[.iface 3 (.int .i64 (n : Int)), .iface 3 (.int .i64 2)] 20)) hF (cell_of_row _ w.heap.size 0 _ 20 (0, 0) (heap_alloc_new w _)) (cell_of_row _ w.heap.size 1 _ 20 (0, 0) (heap_alloc_new w _)))
      have hd2 : decide ((n : Int) ≤ 65535) = false := hd
      have hBw1 : B < w.heap.size + 1 := by omega
      clear hd hn
      go_enter Tryf.func23, Tryf.ntmps23
      go_wp2_with fail
      refine q.out.mono ?_
      rintro e w1 ⟨rfl, t, rfl⟩
      have ED := hideT (err_done (ev' := .iface 69 (.pointer (some ⟨w.heap.size + 1, 0, none⟩))) HB.out HO.out hb)
      clear q
      go_wp2_with fail
      go_ret
      exact ⟨rfl, _, ((ED.out.1.alloc _).alloc _).drew, .inr ⟨rfl, _, rfl⟩, ((ED.out.2.alloc (by simp [World.setCell]; omega) _).alloc (by simp [World.setCell]; omega) _).drew⟩
  · rcases hw with rfl | rfl
    · have hd2 : decide ((n : Int) ≤ 255) = false := hd
      clear hd hn
      go_enter Tryf.func23, Tryf.ntmps23
      go_wp2_with fail
      go_ret
      exact ⟨rfl, _, ⟨v, HB.out, HO.out, hb⟩, .inr ⟨rfl, p, rfl⟩, Steps.refl _ _⟩
    · have hd2 : decide ((n : Int) ≤ 65535) = false := hd
      clear hd hn
      go_enter Tryf.func23, Tryf.ntmps23
      go_wp2_with fail
      go_ret
      exact ⟨rfl, _, ⟨v, HB.out, HO.out, hb⟩, .inr ⟨rfl, p, rfl⟩, Steps.refl _ _⟩
end Go.Proofs.Qxb6612223aFmt
