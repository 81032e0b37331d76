import Derived.Test.Qxb6612223aFmtBuild
namespace Go.Proofs.Qxb6612223aFmt
open Go.RowKit Go.Extern.Stop Go.Stop Go.Extern

theorem read_be (g L cap p p' n v : Nat) (w : World) (hv : v < 2 ^ (8 * n)) (hn : n ≤ 8) (hp : p + n = p') (hp' : p' ≤ L) (hL : L ≤ 8388608) (hA : At w g p (be n v)) :
    Calls Tryf.prog 14 #[.slice (some ⟨g, 0, none⟩) L cap, .int .i64 (p : Int), .int .i64 (n : Int)] w fun e w' => e = .returned (.tuple #[.int .u64 (v : Int), .int .i64 (p' : Int), .bool true]) ∧ w' = w := by
  have := readUint_any g L cap p n (be n v) w (be_length n v) (be_byte n v) hn (by omega) hL hA
  rw [val_be n v hv, hp] at this
  exact this
theorem read_bs (g L cap p p' : Nat) (a : Option Addr) (n c : Nat) (ns : List Nat) (w : World) (hd : ns.length = n) (hp : p + n = p') (hp' : p' ≤ L) (hL : L ≤ 8388608) (hA : At w g p ns) (hS : Src w a ns) :
    Calls Tryf.prog 15 #[.slice (some ⟨g, 0, none⟩) L cap, .int .i64 (p : Int), .slice a n c] w fun e w' => e = .returned (.tuple #[.int .i64 (p' : Int), .bool true]) ∧ ∃ q, w' = w.drewN q := by
  have := readBytes_any g L cap p a n c ns w hd (by omega) hL hA hS
  rw [hp] at this
  exact this
theorem At.split {w : World} {g p : Nat} {xs ys : List Nat} (h : At w g p (xs ++ ys)) : At w g p xs ∧ At w g (p + xs.length) ys := by
  constructor
  · intro i hi
    have := h i (by simp; omega)
    rw [this, List.getElem_append_left hi]
  · intro i hi
    have := h (xs.length + i) (by simp; omega)
    rw [Nat.add_assoc, this, List.getElem_append_right (by omega)]
    simp
theorem be_one (v : Nat) (h : v < 256) : be 1 v = [v] := by simp [be, Nat.mod_eq_of_lt h]
theorem At.drewN {w : World} {g p : Nat} {ds : List Nat} (h : At w g p ds) (q : Nat) : At (w.drewN q) g p ds := h


theorem parts_of {w : World} {g st lt ix nk vl ha nh np L : Nat} {model : ByteArray} {ex : Bool} {ps ks hs : List Nat} (hat : At w g 0 (ps ++ stored st lt model ix nk ks ex vl ha nh hs))
    (hL : (ps ++ stored st lt model ix nk ks ex vl ha nh hs).length = L) (lp : ps.length = np) (lh : hs.length = nh) (hha : ha < 256) :
    ∃ p1 p2 p3 p4 p5 p6 p7, (np + 8 = p1 ∧ p1 + 4 = p2 ∧ p2 + (place model ix nk ks).length = p3 ∧ p3 + 1 = p4 ∧ p4 + 4 = p5 ∧ p5 + 1 = p6 ∧ p6 + 1 = p7 ∧ p7 + nh = L) ∧
      At w g 0 ps ∧ At w g np (be 8 st) ∧ At w g p1 (be 4 lt) ∧ At w g p2 (place model ix nk ks) ∧ At w g p3 (be 1 (bit ex)) ∧ At w g p4 (be 4 vl) ∧ At w g p5 (be 1 ha) ∧ At w g p6 (be 1 (lenOf 1 nh)) ∧ At w g p7 hs := by
  have hbit : bit ex < 256 := by cases ex <;> decide
  unfold stored metaOf at *
  rw [← be_one _ hbit, ← be_one _ hha] at *
  simp only [List.append_assoc] at *
  obtain ⟨a0, r0⟩ := hat.split
  obtain ⟨a1, r1⟩ := r0.split
  obtain ⟨a2, r2⟩ := r1.split
  obtain ⟨a3, r3⟩ := r2.split
  obtain ⟨a4, r4⟩ := r3.split
  obtain ⟨a5, r5⟩ := r4.split
  obtain ⟨a6, r6⟩ := r5.split
  obtain ⟨a7, r7⟩ := r6.split
  simp only [be_length, lp, Nat.zero_add, List.length_append] at *
  refine ⟨_, _, _, _, _, _, _, ⟨rfl, rfl, rfl, rfl, rfl, rfl, rfl, by omega⟩, a0, a1, a2, a3, a4, a5, a6, a7, r7⟩
theorem not_both {model : ByteArray} (h : (model.toList == [65, 82, 82, 65, 89]) = true) : (model.toList == [68, 73, 67, 84, 73, 79, 78, 65, 82, 89]) = false := by
  have := eq_of_beq h
  rw [this]
  rfl
end Go.Proofs.Qxb6612223aFmt
