import Derived.Test.Qxb6609473aParts
import Derived.Deep.DeepCutAuto
import Derived.Deep.RegionHeld3
namespace Go.Proofs.Qxb6609473a.Shown
open Go.RowKit

theorem below_drewN {B q : Nat} {a w : World} (h : Below B a w) : Below B a (w.drewN q) := ⟨h.os, h.tape, h.output, h.size, h.block⟩
theorem below_box2 (w : World) (o1 o2 : Obj) : Below w.heap.size w ((w.alloc o1).alloc o2) := ((Below.refl _ w).alloc (Nat.le_refl _) _).alloc (by simp) _

theorem quiet_add {P : Program} {f : Nat} {args : Array Value} {W : World} {q2 x : Nat} {r : Value} (h : Calls P f args (W.drewN (q2 + x)) fun e w'' => e = .returned r ∧ ∃ q, w'' = (W.drewN (q2 + x)).drewN q) :
    Calls P f args (W.drewN (q2 + x)) fun e w'' => e = .returned r ∧ ∃ n, w'' = W.drewN (q2 + n) := by
  refine h.mono ?_
  rintro e w'' ⟨rfl, q, rfl⟩
  exact ⟨rfl, x + q, by rw [World.drewN_drewN, Nat.add_assoc]⟩

set_option maxRecDepth 100000 in
set_option maxHeartbeats 4000000 in
theorem sameRec_self (kind : ByteArray) (pub : Bool) (a1 a2 : Option Addr) (nf c1 np c2 : Nat) (fs ps : List (Value × Value)) (hf : fs.length = nf) (hp : ps.length = np)
    (bf : nf ≤ 4096) (bp : np ≤ 4096) (w : World) (hF : Pairs w a1 fs) (hG : FieldsOk fs) (hP : Pairs w a2 ps) (hO : PartiesOk w ps) :
    Calls Try.prog 16 #[.agg #[.string kind, .slice a1 nf c1, .slice a2 np c2, .bool pub], .agg #[.string kind, .slice a1 nf c1, .slice a2 np c2, .bool pub]] w fun e w' =>
      e = .returned (.bool true) ∧ Below w.heap.size w w' := by
  have LF : Hid (fs.length = nf) := hf
  have LP : Hid (ps.length = np) := hp
  have HF : Hid (Pairs w a1 fs) := hF
  have HG : Hid (FieldsOk fs) := hG
  have HP : Hid (Pairs w a2 ps) := hP
  have HO : Hid (PartiesOk w ps) := hO
  clear hf hp hF hG hP hO
  go_enter Try.func16, Try.ntmps16
  go_wp2_with fail
  go_loopw [5] (fun i wr => ∃ k q : Nat, k ≤ nf ∧ i = .int .i64 (k : Int) ∧ wr = ((w.alloc (.cells #[.string kind, .slice a1 nf c1, .slice a2 np c2, .bool pub] 46)).alloc (.cells #[.string kind, .slice a1 nf c1, .slice a2 np c2, .bool pub] 46)).drewN q) (fun i _ => nf - (intOf i).toNat)
  case atStart => exact ⟨0, 0, by omega, rfl, rfl⟩
  case round =>
    obtain ⟨k, q, hk, rfl, rfl⟩ := hrel
    by_cases hlt : k < nf
    · have hkl : k < fs.length := by rw [LF.out]; exact hlt
      obtain ⟨b, off, rfl, hc⟩ := HF.out (by omega)
      obtain ⟨g1, g2⟩ := hc k hkl
      obtain ⟨kk, vv, e⟩ := HG.out k hkl
      rw [e] at g1 g2
      simp only [] at g1 g2
      have hbw : b < w.heap.size := block_lt_of_cell g1
      have hbw1 : b < w.heap.size + 1 := by omega
      clear hc e hkl
      go_wp2_with fail
      go_quiet (fail)
      go_wp2_with fail
      go_roundw
      case rel => exact ⟨k + 1, _, by omega, by go_num, rfl⟩
      case measure => simp [intOf]; omega
    · go_wp2_with fail
      go_loopw [6] (fun i wr => ∃ k q : Nat, k ≤ np ∧ i = .int .i64 (k : Int) ∧ wr = ((w.alloc (.cells #[.string kind, .slice a1 nf c1, .slice a2 np c2, .bool pub] 46)).alloc (.cells #[.string kind, .slice a1 nf c1, .slice a2 np c2, .bool pub] 46)).drewN q) (fun i _ => np - (intOf i).toNat)
      case atStart => exact ⟨0, q, by omega, rfl, rfl⟩
      case round =>
        obtain ⟨j, q2, hj, rfl, rfl⟩ := hrel
        by_cases hlt2 : j < np
        · have hjl : j < ps.length := by rw [LP.out]; exact hlt2
          obtain ⟨b, off, rfl, hc⟩ := HP.out (by omega)
          obtain ⟨g1, g2⟩ := hc j hjl
          obtain ⟨s, v, e, ⟨ao, ss, co, rfl, hss, hst⟩⟩ := HO.out j hjl
          rw [e] at g1 g2
          simp only [] at g1 g2
          have hbw : b < w.heap.size := block_lt_of_cell g1
          have hbw1 : b < w.heap.size + 1 := by omega
          have HST : Hid (Strs w ao ss) := hst
          have HSS : Hid (ss.length ≤ 9223372036854775807) := hss
          have HSX : Hid (∀ n, Strs (((w.alloc (.cells #[.string kind, .slice a1 nf c1, .slice (some ⟨b, off, none⟩) np c2, .bool pub] 46)).alloc (.cells #[.string kind, .slice a1 nf c1, .slice (some ⟨b, off, none⟩) np c2, .bool pub] 46)).drewN n) ao ss) :=
            fun n => HST.out.below (below_drewN (below_box2 w _ _))
          generalize en : ss.length = m at *
          have EN : Hid (ss.length = m) := en
          clear hc e hjl hst hss en
          go_wp2_with fail
          go_quiet (first | (go_at_call 22; go_must (refine quiet_add (same_self ao m co ss EN.out HSS.out _ ?_); exact HSX.out _)))
          go_wp2_with fail
          go_roundw
          case rel => exact ⟨j + 1, _, by omega, by go_num, rfl⟩
          case measure => simp [intOf]; omega
        · go_wp2_with fail
          go_ret
          exact ⟨rfl, below_drewN (below_box2 w _ _)⟩
end Go.Proofs.Qxb6609473a.Shown
