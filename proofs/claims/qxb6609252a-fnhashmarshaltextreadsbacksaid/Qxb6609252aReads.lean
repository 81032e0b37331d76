import Derived.Test.Qxb6609252aText
import Derived.WalkLawsBesides
namespace Go.Proofs.Qxb6609252a
open Go.RowKit

theorem digit_num : ∀ d : Nat, d < 16 → ((Lib.Hx.digit d).toNat : Int) = if d < 10 then (48 + d : Int) else (87 + d : Int) := by decide +kernel

set_option maxHeartbeats 400000 in
theorem hexDigit_low (n : Int) (h1 : 48 ≤ n) (h2 : n ≤ 57) (w : World) :
    Calls Try.prog 8 #[.int .u8 n] w fun e w' => e = .returned (.tuple #[.int .u8 (n - 48), .bool true]) ∧ w' = w := by
  go_enter Try.func8, Try.ntmps8
  go_wp2
  go_ret2
  exact ⟨rfl, rfl⟩

set_option maxHeartbeats 400000 in
theorem hexDigit_high (n : Int) (h1 : 97 ≤ n) (h2 : n ≤ 102) (w : World) :
    Calls Try.prog 8 #[.int .u8 n] w fun e w' => e = .returned (.tuple #[.int .u8 (n - 97 + 10), .bool true]) ∧ w' = w := by
  have h3 : ¬ n ≤ 57 := by omega
  go_enter Try.func8, Try.ntmps8
  go_wp2
  go_ret2
  exact ⟨rfl, rfl⟩

theorem nibbles : ∀ b : Nat, b < 256 → (bits BinOp.or IntKind.u8 ((b : Int) / 16 * 16) ((b : Int) % 16) != (b : Int)) = false := by decide +kernel

theorem hexDigit_any (d : Nat) (hd : d < 16) (w : World) :
    Calls Try.prog 8 #[.int .u8 ((Lib.Hx.digit d).toNat : Int)] w fun e w' => e = .returned (.tuple #[.int .u8 (d : Int), .bool true]) ∧ w' = w := by
  have hn := digit_num d hd
  generalize ((Lib.Hx.digit d).toNat : Int) = n at *
  by_cases h : d < 10
  · rw [if_pos h] at hn
    refine (hexDigit_low n (by omega) (by omega) w).mono ?_
    rintro e w' ⟨rfl, rfl⟩
    exact ⟨by rw [show n - 48 = (d : Int) by omega], rfl⟩
  · rw [if_neg h] at hn
    refine (hexDigit_high n (by omega) (by omega) w).mono ?_
    rintro e w' ⟨rfl, rfl⟩
    exact ⟨by rw [show n - 97 + 10 = (d : Int) by omega], rfl⟩

set_option maxHeartbeats 1000000 in
theorem reads_walk (l : List UInt8) (hl : l.length = 32) (w : World) :
    Calls Try.prog 3 #[.agg (cellsOf l)] w fun e w' => e = .returned (.bool true) ∧ Below w.heap.size w w' := by
  have hsz := cellsOf_size l
  rw [hl] at hsz
  have c := marshal_any l hl (w.alloc (.cells (cellsOf l) 22))
  have hi22 : (Try.prog.info? 22).map (·.size) = some (cellsOf l).size := by rw [hsz]; kernel_rfl
  have HCS : Hid (∀ i (h : i < l.length), (cellsOf l)[i]? = some (.int .u8 ((l[i]'h).toNat : Int))) := cellsOf_get l
  generalize cellsOf l = cs at *
  go_enter Try.func3, Try.ntmps3
  go_wp2_with (first | (refine wpList_load_row rfl 22 _ rfl w.heap.size rfl 22 cs (0, 0) _ (heap_alloc_new w _) Try.underlying22 rfl hi22 ?_) | (go_at_call 7; refine c.mono ?_; rintro e w1 ⟨g, cap, rfl, hg1, hg2, hc, hb⟩))
  have ha0 : ∀ k, k < 32 → ∀ (h : k < l.length), w1.cell? ⟨w.heap.size, k, none⟩ = some (.int .u8 ((l[k]'h).toNat : Int)) := fun k hk h => by
    rw [hb.cell (p := ⟨w.heap.size, k, none⟩) (by simp), cell_of_row _ w.heap.size k cs 22 (0, 0) (heap_alloc_new w _)]
    exact HCS.out k h
  have HA : Hid (∀ k, k < 32 → ∀ (h : k < l.length), w1.cell? ⟨w.heap.size, k, none⟩ = some (.int .u8 ((l[k]'h).toNat : Int))) := ha0
  have HC : Hid (∀ i, i < 64 → w1.cell? ⟨g, i, none⟩ = some (.int .u8 (((Lib.Hx.encode l).getD i 0).toNat : Int))) := hc
  clear ha0 hc c HCS
  go_loop [5] (fun i => ∃ k : Nat, k ≤ 32 ∧ i = .int .i64 (k : Int)) (fun i => 32 - (intOf i).toNat)
  case atStart => exact ⟨0, by omega, rfl⟩
  case round =>
    obtain ⟨k, hk, rfl⟩ := hrel
    by_cases hlt : k < 32
    · have hkl : k < l.length := by omega
      obtain ⟨e1, e2⟩ := Lib.Hx.encode_at l k l[k] (by simp [hkl])
      have c1 := HC.out (2 * k) (by omega)
      have c2 := HC.out (2 * k + 1) (by omega)
      have c3 := HA.out k hlt hkl
      rw [List.getD_eq_getElem?_getD, e1, Option.getD_some] at c1
      rw [List.getD_eq_getElem?_getD, e2, Option.getD_some] at c2
      have hB : l[k].toNat < 256 := UInt8.toNat_lt _
      have q1 := fun W => hexDigit_any (l[k].toNat / 16) (by omega) W
      have q2 := fun W => hexDigit_any (l[k].toNat % 16) (by omega) W
      generalize ((Lib.Hx.digit (l[k].toNat / 16)).toNat : Int) = n1 at c1 q1
      generalize ((Lib.Hx.digit (l[k].toNat % 16)).toNat : Int) = n2 at c2 q2
      generalize l[k].toNat = b at *
      have Q1 : Hid (∀ W, Calls Try.prog 8 #[.int .u8 n1] W fun e w' => e = .returned (.tuple #[.int .u8 ((b / 16 : Nat) : Int), .bool true]) ∧ w' = W) := q1
      have Q2 : Hid (∀ W, Calls Try.prog 8 #[.int .u8 n2] W fun e w' => e = .returned (.tuple #[.int .u8 ((b % 16 : Nat) : Int), .bool true]) ∧ w' = W) := q2
      clear q1 q2 e1 e2 HA HC hl hsz hi22
      go_wp2_with fail
      refine (Q1.out _).mono ?_
      rintro e w' ⟨rfl, rfl⟩
      go_wp2_with fail
      refine (Q2.out _).mono ?_
      rintro e w' ⟨rfl, rfl⟩
      have hor := nibbles b hB
      go_wp2_with fail
      go_round
      case rel => exact ⟨k + 1, by omega, by go_num⟩
      case measure => simp [intOf]; omega
    · go_wp2
      go_ret
      exact ⟨rfl, ((Below.refl _ w).alloc (Nat.le_refl _) _).trans (hb.mono (by simp))⟩
end Go.Proofs.Qxb6609252a
