import Derived.Test.Qxb6612223aFmtVector
namespace Go.Proofs.Qxb6612223aFmt
open Go.RowKit Go.Extern.Stop Go.Stop Go.Extern

/-- What a length-prefixed slice leaves. -/
def Laid (base B width n : Nat) (bs ns : List Nat) (ev : Value) (w' : World) : Prop :=
  (n ≤ top width ∧ Wrt base B (bs ++ (be width n ++ ns)) ev w') ∨ (top width < n ∧ ∃ ev', Wrt base B (bs ++ (be width 0 ++ ns)) ev' w' ∧ ErrOk ev' true)

set_option maxHeartbeats 400000 in
theorem sliced_any (F : Interp) (base B width : Nat) (bs ns : List Nat) (ev : Value) (eb : Bool) (a : Option Addr) (n cap : Nat) (w : World) (hF : F.answers w.tape) (hE : ErrOk ev eb) (hwd : width = 1 ∨ width = 2)
    (hW : Wrt base B bs ev w) (hbase : base ≤ w.heap.size) (hl : bs.length ≤ 4194304) (hn : ns.length = n) (hn2 : n ≤ 4194304)
    (za : a = none → n = 0 ∧ cap = 0) (hS : Src w a ns) (hSb : ∀ x, a = some x → 0 < ns.length → x.block < base) :
    Calls Tryf.prog 17 #[.pointer (some ⟨B, 0, none⟩), .int .i64 (width : Int), .slice a n cap] w fun e w' => e = .returned (.tuple #[]) ∧ Steps base w w' ∧ Laid base B width n bs ns ev w' := by
  have hal : Steps base w (w.alloc (.cells #[.slice a n cap] 22)) := (Steps.refl _ _).alloc hbase _
  have q := hideT (vector_any F base B w.heap.size width bs ns ev eb a n cap (w.alloc (.cells #[.slice a n cap] 22)) hF hE hwd (heap_alloc_new w _) (hW.alloc _) (by simp; omega) hl hn hn2 za (hS.below hal.below hSb) hSb)
  have HA := hideT hal
  clear hW hS hSb hn hE za hF hwd hal
  go_enter Tryf.func17, Tryf.ntmps17
  go_wp2_with fail
  refine q.out.mono ?_
  rintro e w1 ⟨rfl, h1, h2⟩
  have H1 := hideT h1
  have H2 : Hid (Laid base B width n bs ns ev w1) := h2
  clear h1 h2 q
  go_wp2_with fail
  exact bodyPost_end (v := .tuple #[]) (by simp [results, Tryf.results17, go_sem]) rfl ⟨rfl, HA.out.trans H1.out, H2.out⟩
end Go.Proofs.Qxb6612223aFmt
