import Derived.Test.Qxb6612223aFmtSliced
namespace Go.Proofs.Qxb6612223aFmt
open Go.RowKit Go.Extern.Stop Go.Stop Go.Extern

/-- The number that so many bytes in front hold: the length, or nothing where it is too great. -/
def lenOf (width n : Nat) : Nat := if n ≤ top width then n else 0
theorem Laid.one {base B width n : Nat} {bs ns : List Nat} {ev : Value} {w' : World} {eb : Bool} (h : Laid base B width n bs ns ev w') (hE : ErrOk ev eb) :
    ∃ ev', Wrt base B (bs ++ (be width (lenOf width n) ++ ns)) ev' w' ∧ ErrOk ev' (eb || decide (top width < n)) := by
  rcases h with ⟨h1, h2⟩ | ⟨h1, ev', h2, h3⟩
  · refine ⟨ev, ?_, ?_⟩
    · unfold lenOf; rw [if_pos h1]; exact h2
    · have : decide (top width < n) = false := decide_eq_false (by omega)
      rw [this, Bool.or_false]; exact hE
  · refine ⟨ev', ?_, ?_⟩
    · unfold lenOf; rw [if_neg (by omega)]; exact h2
    · have : decide (top width < n) = true := decide_eq_true h1
      rw [this, Bool.or_true]; exact h3

/-- Which place is written. -/
def isA (model : ByteArray) : Bool := model.toList == [65, 82, 82, 65, 89]
def isD (model : ByteArray) : Bool := model.toList == [68, 73, 67, 84, 73, 79, 78, 65, 82, 89]
def place (model : ByteArray) (index n : Nat) (ks : List Nat) : List Nat :=
  if isA model then be 4 index else if isD model then be 2 (lenOf 2 n) ++ ks else []
def overD (model : ByteArray) (n : Nat) : Bool := !isA model && isD model && decide (top 2 < n)

set_option maxHeartbeats 1000000 in
theorem place_any (F : Interp) (base B index : Nat) (model : ByteArray) (bs ns : List Nat) (ev : Value) (eb : Bool) (a : Option Addr) (n cap : Nat) (w : World) (hF : F.answers w.tape) (hE : ErrOk ev eb)
    (hW : Wrt base B bs ev w) (hbase : base ≤ w.heap.size) (hl : bs.length ≤ 4194304) (hi : index < 4294967296) (hn : ns.length = n) (hn2 : n ≤ 4194304)
    (za : a = none → n = 0 ∧ cap = 0) (hS : Src w a ns) (hSb : ∀ x, a = some x → 0 < ns.length → x.block < base) :
    Calls Tryf.prog 26 #[.pointer (some ⟨B, 0, none⟩), .string model, .int .u32 (index : Int), .slice a n cap] w fun e w' => e = .returned (.tuple #[]) ∧ Steps base w w' ∧
      ∃ ev', Wrt base B (bs ++ place model index n ns) ev' w' ∧ ErrOk ev' (eb || overD model n) := by
  have QA := hideT (uint32_any base B index bs ev w hW hbase (by omega) hi)
  have QO := hideT (sliced_any F base B 2 bs ns ev eb a n cap w hF hE (.inr rfl) hW hbase hl hn hn2 za hS hSb)
  have HW := hideT hW
  have HE := hideT hE
  clear hW hE hS hSb hn za hF
  cases hA : (model.toList == [65, 82, 82, 65, 89])
  · have EA : Hid (isA model = false) := hA
    cases hD : (model.toList == [68, 73, 67, 84, 73, 79, 78, 65, 82, 89])
    · have ED : Hid (isD model = false) := hD
      go_enter Tryf.func26, Tryf.ntmps26
      go_wp2_with fail
      refine bodyPost_end (v := .tuple #[]) (by simp [results, Tryf.results26, go_sem]) rfl ⟨rfl, Steps.refl _ _, ev, ?_, ?_⟩
      · unfold place; rw [EA.out, ED.out]; simpa using HW.out
      · unfold overD; rw [EA.out, ED.out]; simpa using HE.out
    · have ED : Hid (isD model = true) := hD
      go_enter Tryf.func26, Tryf.ntmps26
      go_wp2_with fail
      refine QO.out.mono ?_
      rintro e w1 ⟨rfl, h1, h2⟩
      have H1 := hideT h1
      have H2 := hideT (h2.one HE.out)
      clear h1 h2 QO QA
      go_wp2_with fail
      refine bodyPost_end (v := .tuple #[]) (by simp [results, Tryf.results26, go_sem]) rfl ⟨rfl, H1.out, ?_⟩
      unfold place overD
      rw [EA.out, ED.out]
      exact H2.out
  · have EA : Hid (isA model = true) := hA
    go_enter Tryf.func26, Tryf.ntmps26
    go_wp2_with fail
    refine QA.out.mono ?_
    rintro e w1 ⟨rfl, h1, h2⟩
    have H1 := hideT h1
    have H2 := hideT h2
    clear h1 h2 QO QA
    go_wp2_with fail
    refine bodyPost_end (v := .tuple #[]) (by simp [results, Tryf.results26, go_sem]) rfl ⟨rfl, H2.out, ev, ?_, ?_⟩
    · unfold place; rw [EA.out]; exact H1.out
    · unfold overD; rw [EA.out]; simpa using HE.out
end Go.Proofs.Qxb6612223aFmt
