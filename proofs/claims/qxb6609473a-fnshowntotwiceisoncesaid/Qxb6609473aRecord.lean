import Derived.Test.Qxb6609473aSizes
import Derived.RegionTactic
import Derived.Laws.MakeOwn
import Derived.OwnWalk
import Derived.Deep.DeepCutAuto
namespace Go.Proofs.Qxb6609473a.Shown
open Go.RowKit

/-- Block g is a row of n pairs, of which the first k are ps's. -/
def Fill (wr : World) (g e n k : Nat) (ps : List (Value × Value)) : Prop :=
  ∃ cur : Array Value, wr.heap[g]? = some (.cells cur e (0, 0)) ∧ cur.size = n * 2 ∧ ∀ i (h : i < ps.length), i < k → cur[i * 2]? = some (ps[i]'h).1 ∧ cur[i * 2 + 1]? = some (ps[i]'h).2
theorem Fill.made (w : World) (e n : Nat) (z : Array Value) (ps : List (Value × Value)) : Fill (w.alloc (.cells (madeCells z (n * 2)) e)) w.heap.size e n 0 ps :=
  ⟨_, heap_alloc_new w _, size_madeCells _ _, fun i _ h => absurd h (by omega)⟩
theorem Fill.cells {wr : World} {g e n k : Nat} {ps : List (Value × Value)} (h : Fill wr g e n k ps) (j : Nat) (hj : j < n * 2) : (∃ v, wr.cell? ⟨g, j, none⟩ = some v) ∧ wr.frozen? ⟨g, j, none⟩ = false := by
  obtain ⟨cur, hg, hs, _⟩ := h
  exact ⟨⟨cur[j]'(by omega), by rw [cell_of_row wr g j cur e (0, 0) hg]; simp [hs, hj]⟩, frozen_of_row wr g j cur e hg⟩
theorem Fill.step {wr : World} {g e n k : Nat} {ps : List (Value × Value)} (h : Fill wr g e n k ps) (hk : k < ps.length) (hn : k < n) :
    Fill ((wr.setCell ⟨g, k * 2, none⟩ (ps[k]'hk).1).setCell ⟨g, k * 2 + 1, none⟩ (ps[k]'hk).2) g e n (k + 1) ps := by
  obtain ⟨cur, hg, hs, hc⟩ := h
  refine ⟨_, heap_setCell_same _ g (k * 2 + 1) _ e _ (heap_setCell_same wr g (k * 2) cur e _ hg), by simp [hs], fun i hi hik => ?_⟩
  by_cases e1 : i = k
  · subst e1
    refine ⟨?_, ?_⟩
    · rw [Array.getElem?_setIfInBounds_ne (by omega), Array.getElem?_setIfInBounds_self_of_lt (by omega)]
    · rw [Array.getElem?_setIfInBounds_self_of_lt (by simp; omega)]
  · have := hc i hi (by omega)
    refine ⟨?_, ?_⟩
    · rw [Array.getElem?_setIfInBounds_ne (by omega), Array.getElem?_setIfInBounds_ne (by omega)]; exact this.1
    · rw [Array.getElem?_setIfInBounds_ne (by omega), Array.getElem?_setIfInBounds_ne (by omega)]; exact this.2
theorem Fill.pairs {wr : World} {g e n : Nat} {ps : List (Value × Value)} (h : Fill wr g e n n ps) (hn : ps.length = n) : Pairs wr (some ⟨g, 0, none⟩) ps := fun _ => by
  obtain ⟨cur, hg, hs, hc⟩ := h
  refine ⟨g, 0, rfl, fun i hi => ?_⟩
  rw [Nat.zero_add, cell_of_row wr g _ cur e (0, 0) hg, cell_of_row wr g _ cur e (0, 0) hg]
  exact hc i hi (by omega)
theorem Fill.kept {wr w' : World} {g e n k : Nat} {ps : List (Value × Value)} (h : Fill wr g e n k ps) (hb : w'.heap[g]? = wr.heap[g]?) : Fill w' g e n k ps := by
  obtain ⟨cur, hg, r⟩ := h
  exact ⟨cur, hb.trans hg, r⟩

theorem make43 (n : Nat) (hn : n ≤ 4096) (w : World) : (Instr.makeSlice 43 (.int .i64 (n : Int)) (.int .i64 (n : Int))).run Try.prog w =
    .ok (.slice (some ⟨w.heap.size, 0, none⟩) n n) (w.alloc (.cells (madeCells #[.string ⟨#[]⟩, .string ⟨#[]⟩] (n * 2)) 86)) := by
  obtain ⟨i, hi, hz0, hz1, hz2⟩ := info_parts (show (Try.prog.info? 86).map (fun i => (i.zero, i.size, i.bytes)) = some (some (.agg #[.string ⟨#[]⟩, .string ⟨#[]⟩]), 2, 32) by kernel_rfl)
  have := run_make (P := Try.prog) w 43 86 i _ Try.underlying43 hi hz0 .i64 .i64 n n (by omega) (Int.le_refl _) (by rw [hz2]; omega) (by omega)
  rw [hz1] at this
  simpa [Value.cells] using this
theorem make44 (n : Nat) (hn : n ≤ 4096) (w : World) : (Instr.makeSlice 44 (.int .i64 (n : Int)) (.int .i64 (n : Int))).run Try.prog w =
    .ok (.slice (some ⟨w.heap.size, 0, none⟩) n n) (w.alloc (.cells (madeCells #[.string ⟨#[]⟩, .slice none 0 0] (n * 2)) 53)) := by
  obtain ⟨i, hi, hz0, hz1, hz2⟩ := info_parts (show (Try.prog.info? 53).map (fun i => (i.zero, i.size, i.bytes)) = some (some (.agg #[.string ⟨#[]⟩, .slice none 0 0]), 2, 40) by kernel_rfl)
  have := run_make (P := Try.prog) w 44 53 i _ Try.underlying44 hi hz0 .i64 .i64 n n (by omega) (Int.le_refl _) (by rw [hz2]; omega) (by omega)
  rw [hz1] at this
  simpa [Value.cells] using this

theorem below_w {w wr : World} {o : Obj} (h : Below (w.heap.size + 1) (w.alloc o) wr) : Below w.heap.size w wr := ((Below.refl _ w).alloc (Nat.le_refl _) _).trans (h.mono (by omega))
/-- The slice does not lie in block B. -/
def Off (a : Option Addr) (B : Nat) : Prop := ∀ x, a = some x → x.block ≠ B
theorem Pairs.set {w : World} {a : Option Addr} {ps : List (Value × Value)} {B : Nat} (h : Pairs w a ps) (ho : Off a B) (j : Nat) (u : Value) : Pairs (w.setCell ⟨B, j, none⟩ u) a ps := fun h0 => by
  obtain ⟨b, off, e, hc⟩ := h h0
  have hne : b ≠ B := ho _ e
  have k : ∀ o, (w.setCell ⟨B, j, none⟩ u).cell? ⟨b, o, none⟩ = w.cell? ⟨b, o, none⟩ := fun o => World.cell?_of_block (heap_setCell_other w ⟨B, j, none⟩ b u hne)
  exact ⟨b, off, e, fun i hi => by rw [k, k]; exact hc i hi⟩
theorem below_set4 {w wd : World} {o : Obj} (h : Below (w.heap.size + 1) (w.alloc o) wd) (u0 u1 u2 u3 : Value) :
    Below w.heap.size w ((((wd.setCell ⟨w.heap.size, 0, none⟩ u0).setCell ⟨w.heap.size, 1, none⟩ u1).setCell ⟨w.heap.size, 2, none⟩ u2).setCell ⟨w.heap.size, 3, none⟩ u3) :=
  ((((below_w h).setCell (Nat.le_refl _) u0).setCell (Nat.le_refl _) u1).setCell (Nat.le_refl _) u2).setCell (Nat.le_refl _) u3
/-- The record's own variable, as zzRecord lays it. -/
def rec0 : Obj := .cells #[.string ⟨#[]⟩, .slice none 0 0, .slice none 0 0, .bool false] 46
theorem rec0_heap {w wd : World} (h : Below (w.heap.size + 1) (w.alloc rec0) wd) : wd.heap[w.heap.size]? = some (.cells #[.string ⟨#[]⟩, .slice none 0 0, .slice none 0 0, .bool false] 46 (0, 0)) :=
  (h.block _ (by omega)).trans (heap_alloc_new w _)

set_option maxRecDepth 100000 in
set_option maxHeartbeats 2000000 in
theorem record_any (kind : ByteArray) (pub : Bool) (af ap : Option Addr) (nf cf np cp : Nat) (fs ps : List (Value × Value)) (hf : fs.length = nf) (hp : ps.length = np) (bf : nf ≤ 4096) (bp : np ≤ 4096)
    (zf : af = none → nf = 0 ∧ cf = 0) (zp : ap = none → np = 0 ∧ cp = 0) (w : World) (hF : Pairs w af fs) (hG : FieldsOk fs) (hP : Pairs w ap ps) (hO : PartiesOk w ps) :
    Calls Try.prog 13 #[.string kind, .slice af nf cf, .bool pub, .slice ap np cp] w fun e w' => ∃ a1 c1 a2 c2, e = .returned (.agg #[.string kind, .slice a1 nf c1, .slice a2 np c2, .bool pub]) ∧
      Pairs w' a1 fs ∧ (a1 = none → nf = 0 ∧ c1 = 0) ∧ Pairs w' a2 ps ∧ Below w.heap.size w w' := by
  have LF : Hid (fs.length = nf) := hf
  have LP : Hid (ps.length = np) := hp
  have HF : Hid (Pairs w af fs) := hF
  have HG : Hid (FieldsOk fs) := hG
  have HP : Hid (Pairs w ap ps) := hP
  have HO : Hid (PartiesOk w ps) := hO
  have ZF : Hid (af = none → nf = 0 ∧ cf = 0) := zf
  have ZP : Hid (ap = none → np = 0 ∧ cp = 0) := zp
  clear hf hp hF hG hP hO zf zp
  have n37 := fun W a n c => run_neq_slice_nil_any (P := Try.prog) W 37 85 a n c 0 0 Try.underlying37
  have n38 := fun W a n c => run_neq_slice_nil_any (P := Try.prog) W 38 52 a n c 0 0 Try.underlying38
  have mk43 := make43 nf bf
  have mk44 := make44 np bp
  go_enter Try.func13, Try.ntmps13
  go_upto_if 14 with fail
  go_cut [9] (fun s9 wc => ∃ a1 c1, s9 = .slice a1 nf c1 ∧ Hid (Pairs wc a1 fs) ∧ Hid (a1 = none → nf = 0 ∧ c1 = 0) ∧ Hid (Off a1 w.heap.size) ∧ Hid (Below (w.heap.size + 1) (w.alloc rec0) wc))
  case first =>
    rcases af with _ | x
    · obtain ⟨rfl, rfl⟩ := ZF.out rfl
      go_wp2_with fail
      go_meet
      case rel => exact ⟨none, 0, rfl, fun h => absurd h (by rw [LF.out]; omega), (by intro _; simp), fun x h => (by cases h), Below.refl _ _⟩
    · go_wp2_with fail
      go_loopw [10] (fun i wr => ∃ k : Nat, k ≤ nf ∧ i = .int .i64 (k : Int) ∧ Hid (Fill wr (w.heap.size + 1) 86 nf k fs) ∧ Hid (Below (w.heap.size + 1) (w.alloc rec0) wr)) (fun i _ => nf - (intOf i).toNat)
      case atStart => exact ⟨0, by omega, rfl, by have h := Fill.made (w.alloc rec0) 86 nf #[.string ⟨#[]⟩, .string ⟨#[]⟩] fs; rw [World.size_alloc] at h; exact h, (Below.refl _ _).alloc (by simp) _⟩
      case round =>
        obtain ⟨k, hk, rfl, HI, HB⟩ := hrel
        by_cases hlt : k < nf
        · have hkl : k < fs.length := by rw [LF.out]; exact hlt
          obtain ⟨b, off, ex, hc⟩ := HF.out (by omega)
          cases ex
          obtain ⟨c1, c2⟩ := hc k hkl
          obtain ⟨s, v, e⟩ := HG.out k hkl
          have hbw : b < w.heap.size := block_lt_of_cell c1
          have g1 := cell_kept (below_w HB.out) c1
          have g2 := cell_kept (below_w HB.out) c2
          obtain ⟨⟨u1, hu1⟩, hf1⟩ := HI.out.cells (k * 2) (by omega)
          obtain ⟨⟨u2, hu2⟩, hf2⟩ := HI.out.cells (k * 2 + 1) (by omega)
          have ST : Hid (Fill ((wr.setCell ⟨w.heap.size + 1, k * 2, none⟩ (fs[k]'hkl).1).setCell ⟨w.heap.size + 1, k * 2 + 1, none⟩ (fs[k]'hkl).2) (w.heap.size + 1) 86 nf (k + 1) fs) := HI.out.step hkl hlt
          rw [e] at g1 g2 ST
          clear hc e c1 c2 n37 n38 mk43 mk44
          go_wp2_with fail
          go_region
          go_wp2_with fail
          go_roundw
          case rel => (repeat apply Exists.intro); exact ⟨⟨k + 1, by omega, by go_num, ST.out.kept rfl, ((HB.out.setCell (by simp) _).setCell (by simp) _).drew⟩, rfl⟩
          case measure => simp [intOf]; omega
        · go_wp2_with fail
          go_meet
          case rel =>
            have hkn : nf = k := by omega
            subst hkn
            exact ⟨_, _, rfl, HI.out.pairs LF.out, fun h => (by cases h), fun x h => by cases h; simp, HB⟩
  case rest =>
    obtain ⟨a1, k1, rfl, H1, Z1, O1, HB1⟩ := hcut
    clear mk43 n37
    go_upto_if 39 with fail
    go_cut [11] (fun s11 wd => ∃ a2 k2, s11 = .slice a2 np k2 ∧ Hid (Pairs wd a2 ps) ∧ Hid (Off a2 w.heap.size) ∧ Hid (Pairs wd a1 fs) ∧ Hid (Below (w.heap.size + 1) (w.alloc rec0) wd))
    case first =>
      rcases ap with _ | x
      · obtain ⟨rfl, rfl⟩ := ZP.out rfl
        go_wp2_with fail
        go_meet
        case rel => exact ⟨none, 0, rfl, fun h => absurd h (by rw [LP.out]; omega), fun x h => (by cases h), H1, HB1⟩
      · go_wp2_with fail
        go_loopw [12] (fun i wr => ∃ k : Nat, k ≤ np ∧ i = .int .i64 (k : Int) ∧ Hid (Fill wr wc.heap.size 53 np k ps) ∧ Hid (Below wc.heap.size wc wr)) (fun i _ => np - (intOf i).toNat)
        case atStart => exact ⟨0, by omega, rfl, Fill.made wc 53 np _ ps, (Below.refl _ _).alloc (Nat.le_refl _) _⟩
        case round =>
          obtain ⟨k, hk, rfl, HI, HB⟩ := hrel
          by_cases hlt : k < np
          · have hkl : k < ps.length := by rw [LP.out]; exact hlt
            obtain ⟨b, off, ex, hc⟩ := HP.out (by omega)
            cases ex
            obtain ⟨c1, c2⟩ := hc k hkl
            obtain ⟨s, v, e, ⟨ao, ss, co, rfl, hss, _⟩⟩ := HO.out k hkl
            have hbw : b < w.heap.size := block_lt_of_cell c1
            have hz1 := HB1.out.size
            rw [World.size_alloc] at hz1
            have hbc : b < wc.heap.size := by omega
            have g1 := cell_kept HB.out (cell_kept (below_w HB1.out) c1)
            have g2 := cell_kept HB.out (cell_kept (below_w HB1.out) c2)
            obtain ⟨⟨u1, hu1⟩, hf1⟩ := HI.out.cells (k * 2) (by omega)
            obtain ⟨⟨u2, hu2⟩, hf2⟩ := HI.out.cells (k * 2 + 1) (by omega)
            have ST : Hid (Fill ((wr.setCell ⟨wc.heap.size, k * 2, none⟩ (ps[k]'hkl).1).setCell ⟨wc.heap.size, k * 2 + 1, none⟩ (ps[k]'hkl).2) wc.heap.size 53 np (k + 1) ps) := HI.out.step hkl hlt
            rw [e] at g1 g2 ST
            generalize ss.length = m at *
            clear hc e c1 c2 n38 mk44
            go_wp2_with fail
            go_region
            go_wp2_with fail
            go_roundw
            case rel => (repeat apply Exists.intro); exact ⟨⟨k + 1, by omega, by go_num, ST.out.kept rfl, ((HB.out.setCell (by simp) _).setCell (by simp) _).drew⟩, rfl⟩
            case measure => simp [intOf]; omega
          · go_wp2_with fail
            go_meet
            case rel =>
              have hkn : np = k := by omega
              subst hkn
              have hz1 := HB1.out.size
              rw [World.size_alloc] at hz1
              exact ⟨_, _, rfl, HI.out.pairs LP.out, fun x h => by cases h; simp; omega, H1.out.below HB.out, HB1.out.trans (HB.out.mono (by omega))⟩
    case rest =>
      obtain ⟨a2, k2, rfl, H2, O2, H1', HB2⟩ := hcut
      have hr := rec0_heap HB2.out
      have r0 := cell_of_row wc w.heap.size 0 _ 46 (0, 0) hr
      have r1 := cell_of_row wc w.heap.size 1 _ 46 (0, 0) hr
      have r2 := cell_of_row wc w.heap.size 2 _ 46 (0, 0) hr
      have r3 := cell_of_row wc w.heap.size 3 _ 46 (0, 0) hr
      have f0 := frozen_of_row wc w.heap.size 0 _ 46 hr
      have f1 := frozen_of_row wc w.heap.size 1 _ 46 hr
      have f2 := frozen_of_row wc w.heap.size 2 _ 46 hr
      have f3 := frozen_of_row wc w.heap.size 3 _ 46 hr
      simp at r0 r1 r2 r3
      clear hr mk44 n38
      go_wp2_with fail
      exact bodyPost_ret (v := .agg #[.string kind, .slice a1 nf k1, .slice a2 np k2, .bool pub]) (by simp [results, Try.results13, go_sem, r0, r1, r2, r3]) rfl
        ⟨a1, k1, a2, k2, rfl, (((H1'.out.set O1.out 0 _).set O1.out 1 _).set O1.out 2 _).set O1.out 3 _, Z1.out, (((H2.out.set O2.out 0 _).set O2.out 1 _).set O2.out 2 _).set O2.out 3 _, below_set4 HB2.out _ _ _ _⟩
end Go.Proofs.Qxb6609473a.Shown
