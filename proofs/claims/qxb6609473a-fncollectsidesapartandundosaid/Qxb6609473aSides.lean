import Derived.Test.Qxb6609473aSums
import Derived.Deep.DeepCutAuto
import Derived.Deep.RegionHeld3
namespace Go.Proofs.Qxb6609473a
open Go.RowKit
set_option linter.unusedVariables false

set_option maxHeartbeats 400000 in
theorem bytes_yes (a : Option Addr) (n cap : Nat) (hn : n ≤ 1048576) (w : World) : Calls Try.prog 5 #[.slice a n cap] w fun e w' => e = .returned (.bool true) ∧ w' = w := by
  go_enter Try.func5, Try.ntmps5
  go_wp2
  go_ret
  exact ⟨rfl, rfl⟩
set_option maxHeartbeats 400000 in
theorem bytes_no (a : Option Addr) (n cap : Nat) (hn : 1048576 < n) (w : World) : Calls Try.prog 5 #[.slice a n cap] w fun e w' => e = .returned (.bool false) ∧ w' = w := by
  go_enter Try.func5, Try.ntmps5
  go_wp2
  go_ret
  exact ⟨rfl, rfl⟩

set_option maxRecDepth 100000 in
set_option maxHeartbeats 400000 in
theorem law_huge (a : Option Addr) (n cap : Nat) (hn : 1048576 < n) (w : World) : Calls Try.prog 3 #[.slice a n cap] w fun e w' => e = .returned (.bool true) ∧ w' = w := by
  go_enter Try.func3, Try.ntmps3
  go_wp2_with (go_at_call 5; refine (bytes_no a n cap hn _).mono ?_; rintro e w' ⟨rfl, rfl⟩)
  go_ret
  exact ⟨rfl, rfl⟩
set_option maxRecDepth 100000 in
set_option maxHeartbeats 400000 in
theorem law_many (a : Option Addr) (n cap : Nat) (h1 : n ≤ 1048576) (h2 : 65536 < n) (w : World) : Calls Try.prog 3 #[.slice a n cap] w fun e w' => e = .returned (.bool true) ∧ w' = w := by
  go_enter Try.func3, Try.ntmps3
  go_wp2_with (go_at_call 5; refine (bytes_yes a n cap h1 _).mono ?_; rintro e w' ⟨rfl, rfl⟩)
  go_ret
  exact ⟨rfl, rfl⟩

theorem Steps.below {w w' : World} {b off : Nat} {l : List (Int × Int)} (h : Steps w b off l) (hb : b < w.heap.size) (hw : Below w.heap.size w w') : Steps w' b off l := fun i hi =>
  ⟨(hw.cell (p := ⟨b, off + i * 2, none⟩) hb).trans (h i hi).1, (hw.cell (p := ⟨b, off + i * 2 + 1, none⟩) hb).trans (h i hi).2⟩

/-- What the second loop keeps: the three contracts' tallies behind the steps t; memory that was there. -/
def Mid (w wr : World) (t : List (Int × Int)) : Prop :=
  Tally wr w.heap.size (sm 0 t) (sm 1 t) ∧ Tally wr (w.heap.size + 1) (sm 0 t) 0 ∧ Tally wr (w.heap.size + 1 + 1) 0 (sm 1 t) ∧ Below w.heap.size w wr

theorem new3 (w w1 w2 w3 : World) (t1 : Tally w1 w.heap.size 0 0) (b1 : Below w.heap.size w w1) (z1 : w1.heap.size = w.heap.size + 1)
    (t2 : Tally w2 (w.heap.size + 1) 0 0) (b2 : Below (w.heap.size + 1) w1 w2) (z2 : w2.heap.size = w.heap.size + 1 + 1) (t3 : Tally w3 (w.heap.size + 1 + 1) 0 0) (b3 : Below (w.heap.size + 1 + 1) w2 w3) : Mid w w3 [] :=
  ⟨(t1.kept (b2.block _ (by omega))).kept (b3.block _ (by omega)), t2.kept (b3.block _ (by omega)), t3, (b1.trans (b2.mono (by omega))).trans (b3.mono (by omega))⟩

theorem below_grown {B b : Nat} {w wr W w4 : World} (h : Below B w wr) (hW : W.heap = wr.heap ∧ W.os = wr.os ∧ W.tape = wr.tape ∧ W.output = wr.output) (hg : W.grownBy w4 (some b)) (hB : B ≤ b) (hz : B ≤ wr.heap.size) : Below B w w4 := by
  obtain ⟨e1, e2, e3, e4⟩ := hW
  refine ⟨hg.os.trans (e2.trans h.os), hg.tape.trans (e3.trans h.tape), hg.output.trans (e4.trans h.output), Nat.le_trans h.size (e1 ▸ hg.size), fun k hk => ?_⟩
  rw [hg.block k (by rw [e1]; omega) (by simp; omega), e1]
  exact h.block k hk
theorem Tally.alloc {w : World} {b : Nat} {x0 x1 : Int} (h : Tally w b x0 x1) (o : Obj) : Tally (w.alloc o) b x0 x1 := h.kept (Below.heap_alloc w o b h.lt)
theorem Tally.grown {w W w4 : World} {b b' : Nat} {x0 x1 : Int} (h : Tally w b x0 x1) (hW : W.heap = w.heap) (hg : W.grownBy w4 (some b')) (hne : b ≠ b') : Tally w4 b x0 x1 :=
  h.kept (by rw [hg.block b (by rw [hW]; exact h.lt) (by simpa using hne), hW])

/-- One step's call on the first contract. -/
structure Half (w w4 : World) (y0 y1 z0 z1 : Int) : Prop where
  t0 : Tally w4 w.heap.size z0 z1
  t1 : Tally w4 (w.heap.size + 1) y0 0
  t2 : Tally w4 (w.heap.size + 1 + 1) 0 y1
  below : Below w.heap.size w w4
theorem half_of {w wr W w4 : World} {t : List (Int × Int)} {z0 z1 : Int} (M : Mid w wr t) (ht : Tally w4 w.heap.size z0 z1) (hg : W.grownBy w4 (some w.heap.size)) (hW : W.heap = wr.heap ∧ W.os = wr.os ∧ W.tape = wr.tape ∧ W.output = wr.output) : Half w w4 (sm 0 t) (sm 1 t) z0 z1 :=
  ⟨ht, M.2.1.grown hW.1 hg (by omega), M.2.2.1.grown hW.1 hg (by omega), below_grown M.2.2.2 hW hg (Nat.le_refl _) M.2.2.2.size⟩
theorem mid_of0 {w w4 w5 : World} {y0 y1 v : Int} {t : List (Int × Int)} (h : Half w w4 y0 y1 (y0 + v) y1) (ht : Tally w5 (w.heap.size + 1) (y0 + v) 0) (hg : w4.grownBy w5 (some (w.heap.size + 1))) (e0 : sm 0 t = y0 + v) (e1 : sm 1 t = y1) : Mid w w5 t := by
  unfold Mid
  rw [e0, e1]
  exact ⟨h.t0.grown rfl hg (by omega), ht, h.t2.grown rfl hg (by omega), below_grown h.below ⟨rfl, rfl, rfl, rfl⟩ hg (by omega) h.below.size⟩
theorem mid_of1 {w w4 w5 : World} {y0 y1 v : Int} {t : List (Int × Int)} (h : Half w w4 y0 y1 y0 (y1 + v)) (ht : Tally w5 (w.heap.size + 1 + 1) 0 (y1 + v)) (hg : w4.grownBy w5 (some (w.heap.size + 1 + 1))) (e0 : sm 0 t = y0) (e1 : sm 1 t = y1 + v) : Mid w w5 t := by
  unfold Mid
  rw [e0, e1]
  exact ⟨h.t0.grown rfl hg (by omega), h.t1.grown rfl hg (by omega), ht, below_grown h.below ⟨rfl, rfl, rfl, rfl⟩ hg (by omega) h.below.size⟩

theorem hideT {p : Prop} (h : p) : Hid p := h
/-- What the law's second half reads: the three contracts; 'zero', 'c0', 'c1' in their variables; memory that was there. -/
structure After (w : World) (z c d : Nat) (h0 l0 h1 l1 : Int) (wc : World) : Prop where
  below : Below w.heap.size w wc
  z0 : wc.cell? ⟨z, 0, none⟩ = some (.int .i64 0)
  z1 : wc.cell? ⟨z, 1, none⟩ = some (.int .u64 0)
  c0 : wc.cell? ⟨c, 0, none⟩ = some (.int .i64 h0)
  c1 : wc.cell? ⟨c, 1, none⟩ = some (.int .u64 l0)
  d0 : wc.cell? ⟨d, 0, none⟩ = some (.int .i64 h1)
  d1 : wc.cell? ⟨d, 1, none⟩ = some (.int .u64 l1)
theorem After.drewN {w : World} {z c d : Nat} {h0 l0 h1 l1 : Int} {wc : World} (h : After w z c d h0 l0 h1 l1 wc) (q : Nat) : After w z c d h0 l0 h1 l1 (wc.drewN q) :=
  ⟨below_drewN h.below q, h.z0, h.z1, h.c0, h.c1, h.d0, h.d1⟩
theorem After.drew {w : World} {z c d : Nat} {h0 l0 h1 l1 : Int} {wc : World} (h : After w z c d h0 l0 h1 l1 wc) : After w z c d h0 l0 h1 l1 wc.drew :=
  ⟨h.below.drew, h.z0, h.z1, h.c0, h.c1, h.d0, h.d1⟩
theorem After.alloc {w : World} {z c d : Nat} {h0 l0 h1 l1 : Int} {wc : World} (h : After w z c d h0 l0 h1 l1 wc) (o : Obj) : After w z c d h0 l0 h1 l1 (wc.alloc o) :=
  have k : ∀ {a : Addr} {v : Value}, wc.cell? a = some v → (wc.alloc o).cell? a = some v := fun {a v} ha => (World.cell?_alloc_lt _ _ a (block_lt_of_cell ha)).trans ha
  ⟨h.below.alloc h.below.size o, k h.z0, k h.z1, k h.c0, k h.c1, k h.d0, k h.d1⟩

theorem After.lt {w : World} {z c d : Nat} {h0 l0 h1 l1 : Int} {wc : World} (h : After w z c d h0 l0 h1 l1 wc) : z < wc.heap.size ∧ c < wc.heap.size ∧ d < wc.heap.size :=
  ⟨block_lt_of_cell h.z0, block_lt_of_cell h.c0, block_lt_of_cell h.d0⟩
theorem after_of (w w4 : World) (q5 q6 : Array Value) (h0 l0 h1 l1 : Int) (hb : Below w.heap.size w w4) :
    After w (w4.heap.size + 1 + 1) (w4.heap.size + 1 + 1 + 1 + 1) (w4.heap.size + 1 + 1 + 1 + 1 + 1 + 1) h0 l0 h1 l1
      (((((((w4.alloc (.cells #[.int .i64 h0, .int .i64 h1] 29)).alloc (.cells #[.int .u64 l0, .int .u64 l1] 31)).alloc (.cells #[.int .i64 0, .int .u64 0] 35)).alloc (.cells q5 35)).alloc (.cells #[.int .i64 h0, .int .u64 l0] 35)).alloc (.cells q6 35)).alloc (.cells #[.int .i64 h1, .int .u64 l1] 35)) := by
  have z := hb.size
  refine ⟨((((((hb.alloc z _).alloc (by simp; omega) _).alloc (by simp; omega) _).alloc (by simp; omega) _).alloc (by simp; omega) _).alloc (by simp; omega) _).alloc (by simp; omega) _, ?_, ?_, ?_, ?_, ?_, ?_⟩
  all_goals simp [go_sem]
theorem bits3 (a b : Bool) : a = false ∨ (a = true ∧ b = false) ∨ (a = true ∧ b = true) := by cases a <;> cases b <;> simp

/-- What the third loop keeps: the first contract's tallies; 'zero'; memory that was there. -/
structure Back (w : World) (z : Nat) (wr : World) (y0 y1 : Int) : Prop where
  t0 : Tally wr w.heap.size y0 y1
  z0 : wr.cell? ⟨z, 0, none⟩ = some (.int .i64 0)
  z1 : wr.cell? ⟨z, 1, none⟩ = some (.int .u64 0)
  zb : z ≠ w.heap.size
  below : Below w.heap.size w wr

/-- The three contracts behind the first half. -/
structure Three (w : World) (y0 y1 : Int) (wc : World) : Prop where
  t0 : Tally wc w.heap.size y0 y1
  t1 : Tally wc (w.heap.size + 1) y0 0
  t2 : Tally wc (w.heap.size + 1 + 1) 0 y1
theorem Three.alloc {w : World} {y0 y1 : Int} {wc : World} (h : Three w y0 y1 wc) (o : Obj) : Three w y0 y1 (wc.alloc o) := ⟨h.t0.alloc o, h.t1.alloc o, h.t2.alloc o⟩
theorem Three.drew {w : World} {y0 y1 : Int} {wc : World} (h : Three w y0 y1 wc) : Three w y0 y1 wc.drew := ⟨h.t0.kept rfl, h.t1.kept rfl, h.t2.kept rfl⟩
theorem Three.drewN {w : World} {y0 y1 : Int} {wc : World} (h : Three w y0 y1 wc) (q : Nat) : Three w y0 y1 (wc.drewN q) := ⟨h.t0.kept rfl, h.t1.kept rfl, h.t2.kept rfl⟩

theorem neg_wrap (v : Int) (h1 : -9223372036854775807 ≤ v) (h2 : v ≤ 9223372036854775807) : IntKind.i64.wrap (-v) = -v := by
  simp [IntKind.wrap, IntKind.bits, IntKind.signed]; omega
theorem back_of {w : World} {z c d : Nat} {h0 l0 h1 l1 y0 y1 : Int} {wr : World} (h : Three w y0 y1 wr) (g : After w z c d h0 l0 h1 l1 wr) (hz : z ≠ w.heap.size) : Back w z wr y0 y1 :=
  ⟨h.t0, g.z0, g.z1, hz, g.below⟩
theorem Back.grown {w wr W w5 : World} {z : Nat} {y0 y1 x0 x1 : Int} (h : Back w z wr y0 y1) (ht : Tally w5 w.heap.size x0 x1) (hg : W.grownBy w5 (some w.heap.size)) (hW : W.heap = wr.heap ∧ W.os = wr.os ∧ W.tape = wr.tape ∧ W.output = wr.output) : Back w z w5 x0 x1 := by
  have k : ∀ {i : Nat} {v : Value}, wr.cell? ⟨z, i, none⟩ = some v → w5.cell? ⟨z, i, none⟩ = some v := fun {i v} hc =>
    hg.cell (a := ⟨z, i, none⟩) (by rw [show W.cell? ⟨z, i, none⟩ = wr.cell? ⟨z, i, none⟩ by simp only [World.cell?, hW.1]]; exact hc) (by simpa using h.zb)
  exact ⟨ht, k h.z0, k h.z1, h.zb, below_grown h.below hW hg (Nat.le_refl _) h.below.size⟩

theorem back_back0 {w wr W w5 : World} {z : Nat} {y0 y1 v : Int} (h : Back w z wr (y0 + v) y1) (ht : Tally w5 w.heap.size (y0 + v + -v) y1) (hg : W.grownBy w5 (some w.heap.size)) (hW : W.heap = wr.heap ∧ W.os = wr.os ∧ W.tape = wr.tape ∧ W.output = wr.output) : Back w z w5 y0 y1 := by
  rw [show y0 + v + -v = y0 by omega] at ht
  exact h.grown ht hg hW
theorem back_back1 {w wr W w5 : World} {z : Nat} {y0 y1 v : Int} (h : Back w z wr y0 (y1 + v)) (ht : Tally w5 w.heap.size y0 (y1 + v + -v)) (hg : W.grownBy w5 (some w.heap.size)) (hW : W.heap = wr.heap ∧ W.os = wr.os ∧ W.tape = wr.tape ∧ W.output = wr.output) : Back w z w5 y0 y1 := by
  rw [show y1 + v + -v = y1 by omega] at ht
  exact h.grown ht hg hW

set_option maxRecDepth 100000 in
set_option maxHeartbeats 4000000 in
theorem law_main (a : Option Addr) (n cap : Nat) (l : List (Int × Int)) (hl : l.length = n) (hn : n ≤ 65536) (w : World) (hS : StepsAt w w.heap.size a l)
    (hR : ∀ i (h : i < l.length), 0 ≤ (l[i]'h).1 ∧ (l[i]'h).1 ≤ 255 ∧ -9223372036854775808 ≤ (l[i]'h).2 ∧ (l[i]'h).2 ≤ 9223372036854775807) :
    Calls Try.prog 3 #[.slice a n cap] w fun e w' => e = .returned (.bool true) ∧ Below w.heap.size w w' := by
  have HL : Hid (l.length = n) := hl
  have HS : Hid (StepsAt w w.heap.size a l) := hS
  have HR : Hid (∀ i (h : i < l.length), 0 ≤ (l[i]'h).1 ∧ (l[i]'h).1 ≤ 255 ∧ -9223372036854775808 ≤ (l[i]'h).2 ∧ (l[i]'h).2 ≤ 9223372036854775807) := hR
  clear hl hS hR
  have hd : decide ((65536 : Int) < (n : Int)) = false := decide_eq_false (by omega)
  go_enter Try.func3, Try.ntmps3
  go_wp2_with (go_at_call 5; refine (bytes_yes a n cap (by omega) _).mono ?_; rintro e w ⟨rfl, rfl⟩)
  -- THE FIRST LOOP: is every side 0 or 1
  go_loop [3] (fun i => ∃ k : Nat, k ≤ n ∧ i = .int .i64 (k : Int) ∧ Hid (∀ j (h : j < l.length), j < k → (l[j]'h).1 = 0 ∨ (l[j]'h).1 = 1)) (fun i => n - (intOf i).toNat)
  case atStart => exact ⟨0, by omega, rfl, fun j _ h => absurd h (by omega)⟩
  case round =>
    obtain ⟨k, hk, rfl, HB⟩ := hrel
    by_cases hlt : k < n
    · have hkl : k < l.length := by rw [HL.out]; exact hlt
      obtain ⟨b, off, rfl, hb, hS⟩ := HS.out (by omega)
      obtain ⟨c1, c2⟩ := hS k hkl
      obtain ⟨r1, r2, r3, r4⟩ := HR.out k hkl
      clear hS c2 r3 r4
      by_cases hs : (l[k]'hkl).1 ≤ 1
      · have HN : Hid (∀ j (h : j < l.length), j < k + 1 → (l[j]'h).1 = 0 ∨ (l[j]'h).1 = 1) := fun j h hj => by
          by_cases e : j = k
          · subst e; omega
          · exact HB.out j h (by omega)
        clear HB
        go_wp2_with fail
        go_round
        case rel => exact ⟨k + 1, by omega, by go_num, HN⟩
        case measure => simp [intOf]; omega
      · go_wp2_with fail
        go_ret
        exact ⟨rfl, Below.refl _ _⟩
    · have hkn : n = k := by omega
      subst hkn
      have HF : Hid (Fine l) := fun i h => ⟨HB.out i h (by have := HL.out; omega), (HR.out i h).2.2.1, (HR.out i h).2.2.2⟩
      clear HB HR
      go_wp2_with fail
      refine (new_any _).mono ?_
      rintro e w1 ⟨rfl, t1, b1, z1⟩
      go_wp2_with fail
      refine (new_any _).mono ?_
      rintro e w2 ⟨rfl, t2, b2, z2⟩
      rw [z1] at t2 b2 z2
      have ez1 : w1.heap.size = w.heap.size + 1 := z1
      go_wp2_with fail
      refine (new_any _).mono ?_
      rintro e w3 ⟨rfl, t3, b3, z3⟩
      rw [z2] at t3 b3
      have HM : Hid (Mid w w3 []) := new3 w w1 w2 w3 t1 b1 z1 t2 b2 z2 t3 b3
      clear t1 b1 t2 b2 t3 b3 z3 ez1
      go_wp2_with fail
      -- THE SECOND LOOP: the steps are collected
      go_loopw [7] (fun i wr => ∃ k : Nat, k ≤ n ∧ i = .int .i64 (k : Int) ∧ Hid (Mid w wr (l.take k))) (fun i _ => n - (intOf i).toNat)
      case atStart => exact ⟨0, by omega, rfl, HM⟩
      case round =>
        obtain ⟨k, hk, rfl, HM2⟩ := hrel
        by_cases hlt2 : k < n
        · have hkl : k < l.length := by rw [HL.out]; exact hlt2
          obtain ⟨b, off, rfl, hb, hS⟩ := HS.out (by omega)
          obtain ⟨c1, c2⟩ := (hS.below hb HM2.out.2.2.2) k hkl
          obtain ⟨f1, f2, f3⟩ := HF.out k hkl
          have t0 := sm_take 0 l k hkl
          have t1 := sm_take 1 l k hkl
          have hbr : b < wr.heap.size := Nat.lt_of_lt_of_le hb HM2.out.2.2.2.size
          generalize l[k].2 = v at *
          generalize hs : l[k].1 = sd at *
          clear hs hS
          rcases f1 with rfl | rfl
          · simp only [if_true, if_false, show ¬ ((0 : Int) = 1) by decide, Int.add_zero] at t0 t1
            have T0 : Hid (sm 0 (l.take (k + 1)) = sm 0 (l.take k) + v) := t0
            have T1 : Hid (sm 1 (l.take (k + 1)) = sm 1 (l.take k)) := t1
            clear t0 t1 hkl
            go_wp2_with fail
            go_region_with ((go_at_call 7; go_must (refine (zz0 w.heap.size (sm 0 (l.take k)) (sm 1 (l.take k)) v _ ?_ f2 f3).mono ?_; exact HM2.out.1.kept rfl; rintro e w4 ⟨rfl, ht4, hg4⟩; have HH : Hid (Half w w4 (sm 0 (l.take k)) (sm 1 (l.take k)) (sm 0 (l.take k) + v) (sm 1 (l.take k))) := half_of HM2.out ht4 hg4 ⟨rfl, rfl, rfl, rfl⟩; have g1 := hg4.cell (a := ⟨b, off + k * 2, none⟩) (by exact c1) (by simp; omega); have g2 := hg4.cell (a := ⟨b, off + k * 2 + 1, none⟩) (by exact c2) (by simp; omega); clear ht4 hg4)))
            all_goals
              go_wp2_with fail
              refine (zz0 (w.heap.size + 1) (sm 0 (l.take k)) 0 v _ HH.out.t1 f2 f3).mono ?_
              rintro e w5 ⟨rfl, ht5, hg5⟩
              have HE : Hid (Mid w w5 (l.take (k + 1))) := mid_of0 HH.out ht5 hg5 T0.out T1.out
              clear ht5 hg5
              go_wp2_with fail
              go_roundw
              case rel => exact ⟨k + 1, by omega, by go_num, HE⟩
              case measure => simp [intOf]; omega
          · simp only [if_true, if_false, show ¬ ((1 : Int) = 0) by decide, Int.add_zero] at t0 t1
            have T0 : Hid (sm 0 (l.take (k + 1)) = sm 0 (l.take k)) := t0
            have T1 : Hid (sm 1 (l.take (k + 1)) = sm 1 (l.take k) + v) := t1
            clear t0 t1 hkl
            go_wp2_with fail
            go_region_with ((go_at_call 7; go_must (refine (zz1 w.heap.size (sm 0 (l.take k)) (sm 1 (l.take k)) v _ ?_ f2 f3).mono ?_; exact HM2.out.1.kept rfl; rintro e w4 ⟨rfl, ht4, hg4⟩; have HH : Hid (Half w w4 (sm 0 (l.take k)) (sm 1 (l.take k)) (sm 0 (l.take k)) (sm 1 (l.take k) + v)) := half_of HM2.out ht4 hg4 ⟨rfl, rfl, rfl, rfl⟩; have g1 := hg4.cell (a := ⟨b, off + k * 2, none⟩) (by exact c1) (by simp; omega); have g2 := hg4.cell (a := ⟨b, off + k * 2 + 1, none⟩) (by exact c2) (by simp; omega); clear ht4 hg4)))
            all_goals
              go_wp2_with fail
              refine (zz1 (w.heap.size + 1 + 1) 0 (sm 1 (l.take k)) v _ HH.out.t2 f2 f3).mono ?_
              rintro e w5 ⟨rfl, ht5, hg5⟩
              have HE : Hid (Mid w w5 (l.take (k + 1))) := mid_of1 HH.out ht5 hg5 T0.out T1.out
              clear ht5 hg5
              go_wp2_with fail
              go_roundw
              case rel => exact ⟨k + 1, by omega, by go_num, HE⟩
              case measure => simp [intOf]; omega
        · have hkn : n = k := by omega
          subst hkn
          have hT : l.take n = l := List.take_of_length_le (by rw [HL.out]; omega)
          rw [hT] at HM2
          clear hT HM
          have HA : Hid (StepsAt wr wr.heap.size a l) := fun h0 => by
            obtain ⟨b, off, e, hb, hS⟩ := HS.out h0
            exact ⟨b, off, e, Nat.lt_of_lt_of_le hb HM2.out.2.2.2.size, hS.below hb HM2.out.2.2.2⟩
          go_wp2_with fail
          refine (sums_any a n cap l HL.out hn _ HA.out HF.out).mono ?_
          rintro e w4 ⟨rfl, hb4⟩
          have HT : Hid (Three w (sm 0 l) (sm 1 l) w4) := ⟨HM2.out.1.kept (hb4.block _ HM2.out.1.lt), HM2.out.2.1.kept (hb4.block _ HM2.out.2.1.lt), HM2.out.2.2.1.kept (hb4.block _ HM2.out.2.2.1.lt)⟩
          have HB4 : Hid (Below w.heap.size w w4) := HM2.out.2.2.2.trans (hb4.mono HM2.out.2.2.2.size)
          have hb4z : Hid (w.heap.size ≤ w4.heap.size) := HB4.out.size
          clear HM2 HA hb4
          go_wp2_with fail
          refine (collected0 w.heap.size (sm 0 l) (sm 1 l) _ ?_).mono ?_
          · exact (((HT.out.alloc _).alloc _).alloc _).t0
          rintro e w5 ⟨rfl, q5, rfl⟩
          go_wp2_with fail
          refine (collected1 w.heap.size (sm 0 l) (sm 1 l) _ ?_).mono ?_
          · exact (((((HT.out.alloc _).alloc _).alloc _).alloc _).alloc _).t0
          rintro e w6 ⟨rfl, q6, rfl⟩
          go_wp2_with fail
          have HT7 := hideT ((((((((HT.out.alloc (.cells #[.int .i64 (hiP (sm 0 l)), .int .i64 (hiP (sm 1 l))] 29)).alloc (.cells #[.int .u64 (loP (sm 0 l)), .int .u64 (loP (sm 1 l))] 31)).alloc (.cells #[.int .i64 0, .int .u64 0] 35)).alloc (.cells q5 35)).alloc (.cells #[.int .i64 (hiP (sm 0 l)), .int .u64 (loP (sm 0 l))] 35)).alloc (.cells q6 35)).alloc (.cells #[.int .i64 (hiP (sm 1 l)), .int .u64 (loP (sm 1 l))] 35)))
          have HF7 := hideT (after_of w w4 q5 q6 (hiP (sm 0 l)) (loP (sm 0 l)) (hiP (sm 1 l)) (loP (sm 1 l)) HB4.out)
          clear HT HB4
          go_cut [107] (fun s107 wc => s107 = .bool false ∧ Hid (Three w (sm 0 l) (sm 1 l) wc) ∧ Hid (After w (w4.heap.size + 1 + 1) (w4.heap.size + 1 + 1 + 1 + 1) (w4.heap.size + 1 + 1 + 1 + 1 + 1 + 1) (hiP (sm 0 l)) (loP (sm 0 l)) (hiP (sm 1 l)) (loP (sm 1 l)) wc))
          case first =>
            rcases bits3 (hiP (sm 0 l) == 0) (loP (sm 0 l) == 0) with b0 | ⟨b0, c0⟩ | ⟨b0, c0⟩ <;> rcases bits3 (hiP (sm 1 l) == 0) (loP (sm 1 l) == 0) with b1 | ⟨b1, c1⟩ | ⟨b1, c1⟩
            all_goals
              go_quiet (fail)
              go_wp2_with fail
              go_meet
              case rel => exact ⟨rfl, HT7.out.drewN _, HF7.out.drewN _⟩
          case rest =>
            obtain ⟨rfl, HT8, HF8⟩ := hcut
            clear HT7 HF7
            have HZ : Hid (w4.heap.size + 1 + 1 ≠ w.heap.size) := by
              have := HF8.out.below.size
              have := HT8.out.t2.lt
              have := hb4z.out
              show ¬ _
              omega
            generalize w4.heap.size + 1 + 1 + 1 + 1 + 1 + 1 = d at *
            generalize w4.heap.size + 1 + 1 + 1 + 1 = c at *
            generalize w4.heap.size + 1 + 1 = z at *
            obtain ⟨_, z0, z1, c0, c1, d0, d1⟩ := HF8.out
            obtain ⟨lz, lc, ld⟩ := HF8.out.lt
            go_wp2_with fail
            -- THE SECOND TEST
            go_cut [117] (fun s117 wc => s117 = .bool false ∧ Hid (Three w (sm 0 l) (sm 1 l) wc) ∧ Hid (After w z c d (hiP (sm 0 l)) (loP (sm 0 l)) (hiP (sm 1 l)) (loP (sm 1 l)) wc))
            case first =>
              go_region_with (first
                | (go_at_call_of 9 (Value.int IntKind.u8 0); go_must (refine (collected0 (w.heap.size + 1) (sm 0 l) 0 _ ?_).mono ?_; (first | exact HT8.out.t1.kept rfl | exact (HT8.out.alloc _).t1.kept rfl); rintro e w5 ⟨rfl, q5, rfl⟩))
                | (go_at_call_of 9 (Value.int IntKind.u8 1); go_must (refine (collected1 (w.heap.size + 1 + 1) 0 (sm 1 l) _ ?_).mono ?_; (first | exact HT8.out.t2.kept rfl | exact (HT8.out.alloc _).t2.kept rfl); rintro e w5 ⟨rfl, q5, rfl⟩)))
              all_goals
                go_wp2_with fail
                go_meet
                case rel => exact ⟨rfl, ((HT8.out.alloc _).alloc _).drew, ((HF8.out.alloc _).alloc _).drew⟩
            case rest =>
              obtain ⟨rfl, HT9, HF9⟩ := hcut
              clear HT8 HF8 z0 z1 c0 c1 d0 d1 lz lc ld
              obtain ⟨_, z0, z1, c0, c1, d0, d1⟩ := HF9.out
              obtain ⟨lz, lc, ld⟩ := HF9.out.lt
              clear c0 c1 d0 d1 lc ld
              have e0 := hi_0
              have e1 := lo_0
              go_wp2_with fail
              -- THE THIRD TEST
              go_cut [127] (fun s127 wd => s127 = .bool false ∧ Hid (Three w (sm 0 l) (sm 1 l) wd) ∧ Hid (After w z c d (hiP (sm 0 l)) (loP (sm 0 l)) (hiP (sm 1 l)) (loP (sm 1 l)) wd))
              case first =>
                go_region_with (first
                  | (go_at_call_of 9 (Value.int IntKind.u8 1); go_must (refine (collected1 (w.heap.size + 1) (sm 0 l) 0 _ ?_).mono ?_; (first | exact HT9.out.t1.kept rfl | exact (HT9.out.alloc _).t1.kept rfl); rintro e w5 ⟨rfl, q5, rfl⟩))
                  | (go_at_call_of 9 (Value.int IntKind.u8 0); go_must (refine (collected0 (w.heap.size + 1 + 1) 0 (sm 1 l) _ ?_).mono ?_; (first | exact HT9.out.t2.kept rfl | exact (HT9.out.alloc _).t2.kept rfl); rintro e w5 ⟨rfl, q5, rfl⟩)))
                all_goals
                  go_wp2_with fail
                  go_meet
                  case rel => exact ⟨rfl, ((HT9.out.alloc _).alloc _).drew, ((HF9.out.alloc _).alloc _).drew⟩
              case rest =>
                obtain ⟨rfl, HTa, HFa⟩ := hcut
                clear HT9 HF9 z0 z1 lz e0 e1
                go_wp2_with fail
                -- THE THIRD LOOP: every lot is collected back
                go_loopw [13] (fun i wr => ∃ r : Nat, r ≤ n ∧ i = .int .i64 ((r : Int) - 1) ∧ Hid (Back w z wr (sm 0 (l.take r)) (sm 1 (l.take r)))) (fun i _ => (intOf i + 1).toNat)
                case atStart => exact ⟨n, Nat.le_refl _, rfl, by rw [List.take_of_length_le (by rw [HL.out]; omega)]; exact back_of HTa.out HFa.out HZ.out⟩
                case round =>
                  obtain ⟨r, hr, rfl, HK⟩ := hrel
                  clear HTa HFa
                  by_cases hr0 : r = 0
                  · subst hr0
                    obtain ⟨t0, z0, z1, _⟩ := HK.out
                    have lz := block_lt_of_cell z0
                    have T0 : Hid (Tally wr w.heap.size 0 0) := t0
                    clear t0
                    have e0 := hi_0
                    have e1 := lo_0
                    go_wp2_with fail
                    go_region_with (first
                      | (go_at_call_of 9 (Value.int IntKind.u8 0); go_must (refine (collected0 w.heap.size 0 0 _ ?_).mono ?_; (first | exact T0.out.kept rfl | exact (T0.out.alloc _).kept rfl); rintro e w5 ⟨rfl, q5, rfl⟩))
                      | (go_at_call_of 9 (Value.int IntKind.u8 1); go_must (refine (collected1 w.heap.size 0 0 _ ?_).mono ?_; (first | exact T0.out.kept rfl | exact (T0.out.alloc _).kept rfl); rintro e w5 ⟨rfl, q5, rfl⟩)))
                    all_goals
                      go_wp2_with fail
                      go_ret
                      exact ⟨rfl, ((HK.out.below.alloc HK.out.below.size _).alloc (by simp; have := HK.out.below.size; omega) _).drew⟩
                  · obtain ⟨k, rfl⟩ : ∃ k, r = k + 1 := ⟨r - 1, by omega⟩
                    clear hr0
                    have hkl : k < l.length := by rw [HL.out]; omega
                    obtain ⟨b, off, rfl, hb, hS⟩ := HS.out (by omega)
                    obtain ⟨c1, c2⟩ := (hS.below hb HK.out.below) k hkl
                    obtain ⟨f1, f2, f3⟩ := HF.out k hkl
                    have t0 := sm_take 0 l k hkl
                    have t1 := sm_take 1 l k hkl
                    have hbr : b < wr.heap.size := Nat.lt_of_lt_of_le hb HK.out.below.size
                    generalize l[k].2 = v at *
                    generalize hs : l[k].1 = sd at *
                    clear hs hS
                    have hk1 : ((k + 1 : Nat) : Int) - 1 = (k : Int) := by omega
                    have hki : k < n := by omega
                    clear hr
                    rw [hk1]
                    rw [t0, t1] at HK
                    clear t0 t1 hkl
                    by_cases hm : v = -9223372036854775808
                    · subst hm
                      rcases f1 with rfl | rfl
                      · simp only [if_true, if_false, show ¬ ((0 : Int) = 1) by decide, Int.add_zero] at HK
                        go_wp2_with fail
                        refine (zz0 w.heap.size _ _ 9223372036854775807 _ HK.out.t0 (by decide) (by decide)).mono ?_
                        rintro e w5 ⟨rfl, ht5, hg5⟩
                        have H5 : Hid (Back w z w5 _ _) := HK.out.grown ht5 hg5 ⟨rfl, rfl, rfl, rfl⟩
                        have g1 := hg5.cell c1 (by simp; omega)
                        have hb5 : b < w5.heap.size := Nat.lt_of_lt_of_le hb H5.out.below.size
                        clear ht5 hg5
                        go_wp2_with fail
                        refine (zz0 w.heap.size _ _ 1 _ H5.out.t0 (by decide) (by decide)).mono ?_
                        rintro e w6 ⟨rfl, ht6, hg6⟩
                        have H6 : Hid (Back w z w6 (sm 0 (l.take k)) (sm 1 (l.take k))) := by
                          have := H5.out.grown ht6 hg6 ⟨rfl, rfl, rfl, rfl⟩
                          rwa [show sm 0 (l.take k) + -9223372036854775808 + 9223372036854775807 + 1 = sm 0 (l.take k) by omega] at this
                        clear ht6 hg6
                        go_wp2_with fail
                        go_roundw
                        case rel => exact ⟨k, by omega, rfl, H6⟩
                        case measure => simp [intOf] <;> omega
                      · simp only [if_true, if_false, show ¬ ((1 : Int) = 0) by decide, Int.add_zero] at HK
                        go_wp2_with fail
                        refine (zz1 w.heap.size _ _ 9223372036854775807 _ HK.out.t0 (by decide) (by decide)).mono ?_
                        rintro e w5 ⟨rfl, ht5, hg5⟩
                        have H5 : Hid (Back w z w5 _ _) := HK.out.grown ht5 hg5 ⟨rfl, rfl, rfl, rfl⟩
                        have g1 := hg5.cell c1 (by simp; omega)
                        have hb5 : b < w5.heap.size := Nat.lt_of_lt_of_le hb H5.out.below.size
                        clear ht5 hg5
                        go_wp2_with fail
                        refine (zz1 w.heap.size _ _ 1 _ H5.out.t0 (by decide) (by decide)).mono ?_
                        rintro e w6 ⟨rfl, ht6, hg6⟩
                        have H6 : Hid (Back w z w6 (sm 0 (l.take k)) (sm 1 (l.take k))) := by
                          have := H5.out.grown ht6 hg6 ⟨rfl, rfl, rfl, rfl⟩
                          rwa [show sm 1 (l.take k) + -9223372036854775808 + 9223372036854775807 + 1 = sm 1 (l.take k) by omega] at this
                        clear ht6 hg6
                        go_wp2_with fail
                        go_roundw
                        case rel => exact ⟨k, by omega, rfl, H6⟩
                        case measure => simp [intOf] <;> omega
                    · have bm : (v == -9223372036854775808) = false := beq_eq_false_iff_ne.2 hm
                      have v1 : -9223372036854775807 ≤ v := by omega
                      have hneg := neg_wrap v v1 f3
                      have n1 : -9223372036854775808 ≤ -v := by omega
                      have n2 : -v ≤ 9223372036854775807 := by omega
                      clear hm
                      rcases f1 with rfl | rfl
                      · simp only [if_true, if_false, show ¬ ((0 : Int) = 1) by decide, Int.add_zero] at HK
                        go_wp2_with fail
                        go_region_with ((go_at_call 7; go_must (refine (zz0 w.heap.size (sm 0 (l.take k) + v) (sm 1 (l.take k)) (-v) _ ?_ n1 n2).mono ?_; exact HK.out.t0.kept rfl; rintro e w6 ⟨rfl, ht6, hg6⟩; have H6 : Hid (Back w z w6 (sm 0 (l.take k)) (sm 1 (l.take k))) := back_back0 HK.out ht6 hg6 ⟨rfl, rfl, rfl, rfl⟩; clear ht6 hg6)))
                        all_goals
                          clear bm hneg n1 n2 v1 f2 f3
                          go_wp2_with fail
                          go_roundw
                          case rel => exact ⟨k, by omega, rfl, H6⟩
                          case measure => simp [intOf] <;> omega
                      · simp only [if_true, if_false, show ¬ ((1 : Int) = 0) by decide, Int.add_zero] at HK
                        go_wp2_with fail
                        go_region_with ((go_at_call 7; go_must (refine (zz1 w.heap.size (sm 0 (l.take k)) (sm 1 (l.take k) + v) (-v) _ ?_ n1 n2).mono ?_; exact HK.out.t0.kept rfl; rintro e w6 ⟨rfl, ht6, hg6⟩; have H6 : Hid (Back w z w6 (sm 0 (l.take k)) (sm 1 (l.take k))) := back_back1 HK.out ht6 hg6 ⟨rfl, rfl, rfl, rfl⟩; clear ht6 hg6)))
                        all_goals
                          clear bm hneg n1 n2 v1 f2 f3
                          go_wp2_with fail
                          go_roundw
                          case rel => exact ⟨k, by omega, rfl, H6⟩
                          case measure => simp [intOf] <;> omega
end Go.Proofs.Qxb6609473a
