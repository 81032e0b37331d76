import Derived.Test.Qxb6609473aRows
import Derived.WalkKit
import Derived.WalkSpells
import Derived.WalkLawsBesides
import Derived.Below
import Derived.Laws.Externs
import Derived.Laws.Rows
import Derived.Outline
namespace Go.Proofs.Qxb6609473a
open Go.RowKit

/-- math/bits.Add64, over Int. -/
theorem add64 (x y c : Int) (hx : 0 ≤ x) (hy : 0 ≤ y) (hc0 : 0 ≤ c) (hc : c ≤ 1) (w : World) : (callFunc 29 #[.int .u64 x, .int .u64 y, .int .u64 c]).run Try.prog w =
    .ok (.value (.tuple #[.int .u64 ((x + y + c) % 18446744073709551616), .int .u64 ((x + y + c) / 18446744073709551616)])) w := by
  obtain ⟨x, rfl⟩ := Int.eq_ofNat_of_zero_le hx
  obtain ⟨y, rfl⟩ := Int.eq_ofNat_of_zero_le hy
  obtain ⟨c, rfl⟩ := Int.eq_ofNat_of_zero_le hc0
  rw [run_callFunc_extern Try.func29 (by kernel_rfl) (by kernel_rfl) (by kernel_rfl) (e := add64Entry) (by kernel_rfl), run_add64 x y c (by omega) (by omega) (by omega) (by omega)]
  simp only [Result.andThen]
theorem add64_0 (x y : Int) (hx : 0 ≤ x) (hy : 0 ≤ y) (w : World) : (callFunc 29 #[.int .u64 x, .int .u64 y, .int .u64 0]).run Try.prog w =
    .ok (.value (.tuple #[.int .u64 ((x + y) % 18446744073709551616), .int .u64 ((x + y) / 18446744073709551616)])) w := by
  simpa using add64 x y 0 hx hy (Int.le_refl 0) (by decide) w

/-- A 128-bit number's two words, of a number of whatever size. -/
def hiP (s : Int) : Int := wrap64 (s / 18446744073709551616)
def loP (s : Int) : Int := s % 18446744073709551616
theorem loP_bd (s : Int) : 0 ≤ loP s ∧ loP s ≤ 18446744073709551615 := by unfold loP; omega
theorem hiP_bd (s : Int) : -9223372036854775808 ≤ hiP s ∧ hiP s ≤ 9223372036854775807 := by unfold hiP wrap64; omega
theorem u64_wrap (n : Int) : IntKind.u64.wrap n = n % 18446744073709551616 := by simp [IntKind.wrap, IntKind.bits, IntKind.signed]
theorem from_hi (v : Int) (h1 : -9223372036854775808 ≤ v) (h2 : v ≤ 9223372036854775807) : v / 9223372036854775808 = hiP v := by unfold hiP wrap64; omega
theorem from_lo (v : Int) : IntKind.u64.wrap v = loP v := by rw [u64_wrap]; rfl

set_option maxHeartbeats 400000 in
theorem from_any (v : Int) (h1 : -9223372036854775808 ≤ v) (h2 : v ≤ 9223372036854775807) (w : World) :
    Calls Try.prog 24 #[.int .i64 v] w fun e w' => e = .returned (.agg #[.int .i64 (hiP v), .int .u64 (loP v)]) ∧ w' = w.alloc (.cells #[.int .i64 (hiP v), .int .u64 (loP v)] 35) := by
  have e1 := from_hi v h1 h2
  have e2 := from_lo v
  generalize hiP v = a at *
  generalize loP v = b at *
  go_enter Try.func24, Try.ntmps24
  go_wp2
  exact bodyPost_ret (v := .agg #[.int .i64 a, .int .u64 b]) (by simp [results, Try.results24, go_sem]) rfl ⟨rfl, rfl⟩

theorem sum_lo (s t : Int) : (loP s + loP t) % 18446744073709551616 = loP (s + t) := by unfold loP; omega
theorem sum_hi (s t : Int) : wrap64 ((hiP s % 18446744073709551616 + hiP t % 18446744073709551616 + (loP s + loP t) / 18446744073709551616) % 18446744073709551616) = hiP (s + t) := by
  unfold hiP loP wrap64; omega

set_option maxHeartbeats 1000000 in
theorem add_any (s t : Int) (w : World) :
    Calls Try.prog 23 #[.agg #[.int .i64 (hiP s), .int .u64 (loP s)], .agg #[.int .i64 (hiP t), .int .u64 (loP t)]] w fun e w' => ∃ ok, e = .returned (.tuple #[.agg #[.int .i64 (hiP (s + t)), .int .u64 (loP (s + t))], .bool ok]) ∧
      Below w.heap.size w w' := by
  have q0 := add64_0 (loP s) (loP t) (loP_bd s).1 (loP_bd t).1
  have q1 := add64 (hiP s % 18446744073709551616) (hiP t % 18446744073709551616) ((loP s + loP t) / 18446744073709551616) (by omega) (by omega) (by have := loP_bd s; have := loP_bd t; omega) (by have := loP_bd s; have := loP_bd t; omega)
  have e1 := u64_wrap (hiP s)
  have e2 := u64_wrap (hiP t)
  have e3 := sum_hi s t
  rw [sum_lo] at q0
  generalize hiP (s + t) = h at *
  generalize loP (s + t) = l at *
  generalize hiP s % 18446744073709551616 = ua at *
  generalize hiP t % 18446744073709551616 = ub at *
  generalize (loP s + loP t) / 18446744073709551616 = cr at *
  generalize (ua + ub + cr) / 18446744073709551616 = cr2 at *
  generalize (ua + ub + cr) % 18446744073709551616 = hs at *
  generalize hiP s = a at *
  generalize hiP t = b at *
  generalize loP s = c at *
  generalize loP t = d at *
  go_enter Try.func23, Try.ntmps23
  go_wp2_with (first | simp only [q0] | simp only [q1])
  all_goals
    simp [bodyPost, results, Try.results23, go_sem]
    try refine ⟨(Decidable.em _).symm, ?_⟩
    exact ((((Below.refl _ w).alloc (Nat.le_refl _) _).alloc (by simp) _).alloc (by simp; omega) _).alloc (by simp; omega) _
end Go.Proofs.Qxb6609473a
