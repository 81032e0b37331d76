import Derived.Test.Qxb6612223aFmtStart
namespace Go.Proofs.Qxb6612223aFmt
open Go.RowKit

set_option maxHeartbeats 1000000 in
theorem build_any (st lt : Nat) (model : ByteArray) (ix : Nat) (a : Option Addr) (nk ck : Nat) (ex : Bool) (vl ha : Nat) (b : Option Addr) (nh ch : Nat) (w : World) :
    Calls Tryf.prog 12 #[.int .u64 (st : Int), .int .u32 (lt : Int), .string model, .int .u32 (ix : Int), .slice a nk ck, .bool ex, .int .u32 (vl : Int), .int .u8 (ha : Int), .slice b nh ch] w fun e w' =>
      e = .returned (.agg (nine st lt model ix a nk ck ex vl ha b nh ch)) ∧ w' = w.alloc (.cells (nine st lt model ix a nk ck ex vl ha b nh ch) 42) := by
  unfold nine
  go_enter Tryf.func12, Tryf.ntmps12
  go_wp2_with fail
  exact bodyPost_ret (v := .agg #[.int .u64 (st : Int), .int .u32 (lt : Int), .string model, .int .u32 (ix : Int), .slice a nk ck, .bool ex, .int .u32 (vl : Int), .int .u8 (ha : Int), .slice b nh ch]) (by simp [results, Tryf.results12, go_sem]) rfl ⟨rfl, rfl⟩
end Go.Proofs.Qxb6612223aFmt
