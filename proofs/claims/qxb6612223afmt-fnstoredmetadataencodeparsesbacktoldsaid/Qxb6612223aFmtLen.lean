import Derived.Test.Qxb6612223aFmtUint
namespace Go.Proofs.Qxb6612223aFmt
open Go.RowKit

set_option maxHeartbeats 400000 in
theorem uint64_any (base B v : Nat) (bs : List Nat) (ev : Value) (w : World) (hW : Wrt base B bs ev w) (hbase : base ≤ w.heap.size) (hl : bs.length ≤ 8388600) :
    Calls Tryf.prog 24 #[.pointer (some ⟨B, 0, none⟩), .int .u64 (v : Int)] w fun e w' => e = .returned (.tuple #[]) ∧ Wrt base B (bs ++ be 8 v) ev w' ∧ Steps base w w' := by
  have q := hideT (uint_any base B 8 v bs ev w hW hbase hl (by decide))
  clear hW
  go_enter Tryf.func24, Tryf.ntmps24
  go_wp2_with fail
  refine q.out.mono ?_
  rintro e w1 ⟨rfl, h1, h2⟩
  have H1 := hideT h1
  have H2 := hideT h2
  clear h1 h2 q
  go_wp2_with fail
  exact bodyPost_end (v := .tuple #[]) (by simp [results, Tryf.results24, go_sem]) rfl ⟨rfl, H1.out, H2.out⟩

set_option maxHeartbeats 400000 in
theorem uint32_any (base B v : Nat) (bs : List Nat) (ev : Value) (w : World) (hW : Wrt base B bs ev w) (hbase : base ≤ w.heap.size) (hl : bs.length ≤ 8388600) (hv : v < 4294967296) :
    Calls Tryf.prog 25 #[.pointer (some ⟨B, 0, none⟩), .int .u32 (v : Int)] w fun e w' => e = .returned (.tuple #[]) ∧ Wrt base B (bs ++ be 4 v) ev w' ∧ Steps base w w' := by
  have q := hideT (uint_any base B 4 v bs ev w hW hbase hl (by decide))
  have hu : IntKind.u64.wrap (v : Int) = (v : Int) := by simp [IntKind.wrap, IntKind.bits, IntKind.signed]; omega
  clear hW
  go_enter Tryf.func25, Tryf.ntmps25
  go_wp2_with fail
  refine q.out.mono ?_
  rintro e w1 ⟨rfl, h1, h2⟩
  have H1 := hideT h1
  have H2 := hideT h2
  clear h1 h2 q
  go_wp2_with fail
  exact bodyPost_end (v := .tuple #[]) (by simp [results, Tryf.results25, go_sem]) rfl ⟨rfl, H1.out, H2.out⟩

set_option maxHeartbeats 400000 in
/-- The closure of the length-prefixed slice: it writes the boxed slice. -/
theorem fill_any (base B C : Nat) (bs ns : List Nat) (ev : Value) (a : Option Addr) (n cap : Nat) (w : World) (hC : w.cell? ⟨C, 0, none⟩ = some (.slice a n cap)) (hW : Wrt base B bs ev w) (hbase : base ≤ w.heap.size) (hl : bs.length ≤ 8388608) (hn : ns.length = n) (hn2 : n ≤ 8388608)
    (za : a = none → n = 0 ∧ cap = 0) (hS : Src w a ns) :
    Calls Tryf.prog 21 #[.pointer (some ⟨B, 0, none⟩), .pointer (some ⟨C, 0, none⟩)] w fun e w' => e = .returned (.tuple #[]) ∧ Wrt base B (bs ++ ns) ev w' ∧ Steps base w w' := by
  have q := hideT (fixed_any base B bs ns ev a n cap w hW hbase hl hn hn2 za hS)
  clear hW hn hS za
  go_enter Tryf.func21, Tryf.ntmps21
  go_wp2_with fail
  refine q.out.mono ?_
  rintro e w1 ⟨rfl, h1, h2⟩
  have H1 := hideT h1
  have H2 := hideT h2
  clear h1 h2 q
  go_wp2_with fail
  exact bodyPost_end (v := .tuple #[]) (by simp [results, Tryf.results21, go_sem]) rfl ⟨rfl, H1.out, H2.out⟩
end Go.Proofs.Qxb6612223aFmt
