import Derived.Test.Qxb6609473aCollect
import Derived.RegionTactic
import Derived.WalkSmall
namespace Go.Proofs.Qxb6609473a
open Go.RowKit

theorem carry_yes (s v : Int) (h1 : -9223372036854775808 ≤ v) (h2 : v ≤ 9223372036854775807) (h : loP (s + v) < loP s) : wrap64 (wrap64 (hiP s + v / 9223372036854775808) + 1) = hiP (s + v) := by
  unfold hiP loP wrap64 at *; omega
theorem carry_no (s v : Int) (h1 : -9223372036854775808 ≤ v) (h2 : v ≤ 9223372036854775807) (h : ¬ loP (s + v) < loP s) : wrap64 (hiP s + v / 9223372036854775808) = hiP (s + v) := by
  unfold hiP loP wrap64 at *; omega
theorem hi_0 : hiP 0 = 0 := by kernel_rfl
theorem lo_0 : loP 0 = 0 := by kernel_rfl
theorem drewN_set (W : World) (n : Nat) (a : Addr) (v : Value) : (W.drewN n).setCell a v = (W.setCell a v).drewN n := rfl
theorem hi_wrap (s : Int) : wrap64 (hiP s) = hiP s := by unfold hiP wrap64; omega
theorem u64_sum (s v : Int) : IntKind.u64.wrap (loP s + loP v) = loP (s + v) := by rw [u64_wrap, sum_lo]

set_option maxHeartbeats 400000 in
theorem add128 (s v : Int) (h1 : -9223372036854775808 ≤ v) (h2 : v ≤ 9223372036854775807) (w : World) :
    Calls Try.prog 18 #[.int .i64 (hiP s), .int .u64 (loP s), .int .i64 v] w fun e w' => e = .returned (.tuple #[.int .i64 (hiP (s + v)), .int .u64 (loP (s + v))]) ∧ w' = w := by
  have e1 := from_lo v
  have e2 := u64_sum s v
  by_cases hc : loP (s + v) < loP s
  · have e3 := carry_yes s v h1 h2 hc
    generalize hiP (s + v) = h' at *
    generalize loP (s + v) = l' at *
    generalize hiP s = a at *
    generalize loP s = c at *
    generalize loP v = d at *
    go_enter Try.func18, Try.ntmps18
    go_wp2
    go_ret2
    refine ⟨?_, rfl⟩
    rw [← e3]
    rfl
  · have e4 := hi_wrap (s + v)
    have e3 := carry_no s v h1 h2 hc
    generalize hiP (s + v) = h' at *
    generalize loP (s + v) = l' at *
    generalize hiP s = a at *
    generalize loP s = c at *
    generalize loP v = d at *
    go_enter Try.func18, Try.ntmps18
    go_wp2
    go_ret2
    exact ⟨rfl, rfl⟩

/-- The sum of side j's lots. -/
def sm (j : Int) : List (Int × Int) → Int
  | [] => 0
  | p :: r => (if p.1 = j then p.2 else 0) + sm j r
theorem sm_append (j : Int) : ∀ (a b : List (Int × Int)), sm j (a ++ b) = sm j a + sm j b
  | [], b => by simp [sm]
  | p :: r, b => by simp only [List.cons_append, sm, sm_append j r b]; omega
theorem sm_take (j : Int) (l : List (Int × Int)) (k : Nat) (h : k < l.length) : sm j (l.take (k + 1)) = sm j (l.take k) + if l[k].1 = j then l[k].2 else 0 := by
  rw [List.take_succ_eq_append_getElem h, sm_append]
  simp [sm]

/-- The steps lie in memory, side and lots, from ⟨b, off⟩ on. -/
def Steps (w : World) (b off : Nat) (l : List (Int × Int)) : Prop :=
  ∀ i (h : i < l.length), w.cell? ⟨b, off + i * 2, none⟩ = some (.int .u8 (l[i]'h).1) ∧ w.cell? ⟨b, off + i * 2 + 1, none⟩ = some (.int .i64 (l[i]'h).2)
/-- .. at the slice's address, where there is one step at least. -/
def StepsAt (w : World) (B : Nat) (a : Option Addr) (l : List (Int × Int)) : Prop :=
  0 < l.length → ∃ b off, a = some ⟨b, off, none⟩ ∧ b < B ∧ Steps w b off l
/-- Each side is 0 or 1, each number of lots an int64. -/
def Fine (l : List (Int × Int)) : Prop :=
  ∀ i (h : i < l.length), ((l[i]'h).1 = 0 ∨ (l[i]'h).1 = 1) ∧ -9223372036854775808 ≤ (l[i]'h).2 ∧ (l[i]'h).2 ≤ 9223372036854775807

/-- What zzStepSums has laid behind k rounds. -/
def sumsW (w : World) (s0 s1 : Int) : World :=
  (((w.alloc (.cells #[.int .i64 0, .int .i64 0] 29)).alloc (.cells #[.int .u64 0, .int .u64 0] 31)).alloc (.cells #[.int .i64 (hiP s0), .int .i64 (hiP s1)] 29)).alloc (.cells #[.int .u64 (loP s0), .int .u64 (loP s1)] 31)

set_option maxHeartbeats 2000000 in
theorem sums_any (a : Option Addr) (n cap : Nat) (l : List (Int × Int)) (hl : l.length = n) (hn : n ≤ 65536) (w : World) (hS : StepsAt w w.heap.size a l) (hF : Fine l) :
    Calls Try.prog 8 #[.slice a n cap] w fun e w' => e = .returned (.tuple #[.agg #[.int .i64 (hiP (sm 0 l)), .int .i64 (hiP (sm 1 l))], .agg #[.int .u64 (loP (sm 0 l)), .int .u64 (loP (sm 1 l))]]) ∧ Below w.heap.size w w' := by
  have HL : Hid (l.length = n) := hl
  have HS : Hid (StepsAt w w.heap.size a l) := hS
  have HF : Hid (Fine l) := hF
  clear hl hS hF
  have hds := drewN_set
  go_enter Try.func8, Try.ntmps8
  go_wp2
  go_loopw [6] (fun i wr => ∃ (k q : Nat), k ≤ n ∧ i = .int .i64 (k : Int) ∧ wr = (((((w.alloc (.cells #[.int .i64 0, .int .i64 0] 29)).alloc (.cells #[.int .u64 0, .int .u64 0] 31)).alloc (.cells #[.int .i64 (hiP (sm 0 (l.take k))), .int .i64 (hiP (sm 1 (l.take k)))] 29)).alloc (.cells #[.int .u64 (loP (sm 0 (l.take k))), .int .u64 (loP (sm 1 (l.take k)))] 31))).drewN q) (fun i _ => n - (intOf i).toNat)
  case atStart => exact ⟨0, 0, by omega, rfl, by simp only [List.take_zero, sm, hi_0, lo_0]; rfl⟩
  case round =>
    obtain ⟨k, q, hk, rfl, rfl⟩ := hrel
    by_cases hlt : k < n
    · have hkl : k < l.length := by rw [HL.out]; exact hlt
      obtain ⟨b, off, rfl, hb, hS⟩ := HS.out (by omega)
      obtain ⟨c1, c2⟩ := hS k hkl
      have hb1 : b < w.heap.size + 1 := by omega
      have hb2 : b < w.heap.size + 1 + 1 := by omega
      have hb3 : b < w.heap.size + 1 + 1 + 1 := by omega
      clear hS
      obtain ⟨f1, f2, f3⟩ := HF.out k hkl
      have t0 := sm_take 0 l k hkl
      have t1 := sm_take 1 l k hkl
      have qa := fun W => add128 (sm 0 (l.take k)) l[k].2 f2 f3 W
      have qb := fun W => add128 (sm 1 (l.take k)) l[k].2 f2 f3 W
      generalize l[k].2 = v at *
      generalize hs : l[k].1 = sd at *
      clear hs
      generalize ey0 : sm 0 (l.take k) = y0 at *
      generalize ey1 : sm 1 (l.take k) = y1 at *
      rcases f1 with rfl | rfl
      · simp only [if_true, if_false, show ¬ ((0 : Int) = 1) by decide, Int.add_zero] at t0 t1
        have T0 : Hid (sm 0 (l.take (k + 1)) = y0 + v) := t0
        have T1 : Hid (sm 1 (l.take (k + 1)) = y1) := t1
        have QA : Hid (∀ W, Calls Try.prog 18 #[.int .i64 (hiP y0), .int .u64 (loP y0), .int .i64 v] W fun e w' => e = .returned (.tuple #[.int .i64 (hiP (y0 + v)), .int .u64 (loP (y0 + v))]) ∧ w' = W) := qa
        clear t0 t1 qa qb ey0 ey1 f2 f3 hkl
        go_wp2_with fail
        go_quiet ((go_at_call 18; first | exact (QA.out _).mono (fun _ _ h => ⟨h.1, _, h.2⟩) | exact (QA.out _).mono (fun _ _ h => ⟨h.1, _, h.2.trans (World.drewN_drewN _ _ _).symm⟩)))
        go_wp2_with fail
        exact ⟨⟨k + 1, q + nq, by omega, by go_num, by rw [T0.out, T1.out]⟩, by simp [intOf]; omega⟩
      · simp only [if_true, if_false, show ¬ ((1 : Int) = 0) by decide, Int.add_zero] at t0 t1
        have T0 : Hid (sm 0 (l.take (k + 1)) = y0) := t0
        have T1 : Hid (sm 1 (l.take (k + 1)) = y1 + v) := t1
        have QA : Hid (∀ W, Calls Try.prog 18 #[.int .i64 (hiP y1), .int .u64 (loP y1), .int .i64 v] W fun e w' => e = .returned (.tuple #[.int .i64 (hiP (y1 + v)), .int .u64 (loP (y1 + v))]) ∧ w' = W) := qb
        clear t0 t1 qa qb ey0 ey1 f2 f3 hkl
        go_wp2_with fail
        go_quiet ((go_at_call 18; first | exact (QA.out _).mono (fun _ _ h => ⟨h.1, _, h.2⟩) | exact (QA.out _).mono (fun _ _ h => ⟨h.1, _, h.2.trans (World.drewN_drewN _ _ _).symm⟩)))
        go_wp2_with fail
        exact ⟨⟨k + 1, q + nq, by omega, by go_num, by rw [T0.out, T1.out]⟩, by simp [intOf]; omega⟩
    · have hkn : k = n := by omega
      subst hkn
      have hT : l.take k = l := List.take_of_length_le (by rw [HL.out]; omega)
      rw [hT]
      clear hT HL HS HF
      go_wp2_with fail
      go_region
      all_goals
        go_wp2_with fail
        refine bodyPost_ret (v := .tuple #[.agg #[.int .i64 (hiP (sm 0 l)), .int .i64 (hiP (sm 1 l))], .agg #[.int .u64 (loP (sm 0 l)), .int .u64 (loP (sm 1 l))]]) (by simp [results, Try.results8, go_sem]) rfl ⟨rfl, ?_⟩
        exact below_drewN (((((Below.refl _ w).alloc (Nat.le_refl _) _).alloc (by simp) _).alloc (by simp; omega) _).alloc (by simp; omega) _) _
end Go.Proofs.Qxb6609473a
