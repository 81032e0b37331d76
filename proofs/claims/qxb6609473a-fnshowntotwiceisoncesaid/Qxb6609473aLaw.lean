import Derived.Test.Qxb6609473aSame
import Derived.Test.Qxb6609473aTo
import Derived.Laws.CopyOwn
namespace Go.Proofs.Qxb6609473a.Shown
open Go.RowKit

theorem make39 (n : Nat) (hn : n ≤ 4096) (w : World) : (Instr.makeSlice 39 (.int .i64 (n : Int)) (.int .i64 (n : Int))).run Try.prog w =
    .ok (.slice (some ⟨w.heap.size, 0, none⟩) n n) (w.alloc (.cells (madeCells #[.string ⟨#[]⟩] n) 9)) := by
  obtain ⟨i, hi, hz0, hz1, hz2⟩ := info_parts (show (Try.prog.info? 9).map (fun i => (i.zero, i.size, i.bytes)) = some (some (.string ⟨#[]⟩), 1, 16) by kernel_rfl)
  have := run_make (P := Try.prog) w 39 9 i _ Try.underlying39 hi hz0 .i64 .i64 n n (by omega) (Int.le_refl _) (by rw [hz2]; omega) (by omega)
  rw [hz1] at this
  simpa [Value.cells] using this
theorem strs_of_block {w : World} {g : Nat} {ms : List ByteArray} (h : w.heap[g]? = some (.cells (ms.map Value.string).toArray 9 (0, 0))) : Strs w (some ⟨g, 0, none⟩) ms := fun _ =>
  ⟨g, 0, rfl, fun i hi => by rw [Nat.zero_add, cell_of_row w g i _ 9 (0, 0) h]; simp [hi]⟩
theorem strs_cells {w : World} {a : Option Addr} {ms : List ByteArray} (h : Strs w a ms) (h0 : 0 < (ms.map Value.string).length) : ∃ ad, a = some ad ∧ ∀ j v, (ms.map Value.string)[j]? = some v → w.cell? (ad.add j) = some v := by
  obtain ⟨b, off, e, hc⟩ := h (by simpa using h0)
  refine ⟨_, e, fun j v hj => ?_⟩
  rw [List.getElem?_map] at hj
  cases hx : ms[j]? with
  | none => rw [hx] at hj; cases hj
  | some s =>
    rw [hx] at hj
    obtain ⟨hl, rfl⟩ := List.getElem?_eq_some_iff.1 hx
    cases hj
    rw [add_pl]
    exact hc j hl
theorem copy_run (w W : World) (hW : Below w.heap.size w W) (hs : W.heap.size = w.heap.size) (x : Addr) (nm cm : Nat) (ms : List ByteArray) (hl : ms.length = nm) (hM : Strs W (some x) ms) :
    ∃ w', Sem.run Try.prog (Builtin.copy_ #[39, 39] 3 #[.slice (some ⟨w.heap.size, 0, none⟩) nm nm, .slice (some x) nm cm]) (W.alloc (.cells (madeCells #[.string ⟨#[]⟩] nm) 9)) = .ok (.int .i64 (nm : Int)) w' ∧
      Strs w' (some ⟨w.heap.size, 0, none⟩) ms ∧ Below w.heap.size w w' := by
  have hB0 : Below w.heap.size w (W.alloc (.cells (madeCells #[.string ⟨#[]⟩] nm) 9)) := hW.alloc hW.size _
  have hL0 : (ms.map Value.string).length = nm := by rw [List.length_map]; exact hl
  have hI : (Try.prog.info? 9).map (·.size) = some 1 := by kernel_rfl
  by_cases h0 : nm = 0
  · subst h0
    refine ⟨_, run_copy_none (P := Try.prog) _ 39 39 3 9 _ _ 0 0 0 cm Try.underlying39 hI rfl, fun h => absurd h (by omega), hB0⟩
  · have hg : (W.alloc (.cells (madeCells #[.string ⟨#[]⟩] nm) 9)).heap[w.heap.size]? = some (.cells (madeCells #[.string ⟨#[]⟩] nm) 9 (0, 0)) := by rw [← hs]; exact heap_alloc_new W _
    obtain ⟨ad, hx, hc⟩ := strs_cells (hM.below ((Below.refl _ W).alloc (Nat.le_refl _) (.cells (madeCells #[.string ⟨#[]⟩] nm) 9))) (by omega)
    cases hx
    have hz : (madeCells #[.string ⟨#[]⟩] nm).size = nm := size_madeCells _ _
    have hrun := run_copy_row (P := Try.prog) (W.alloc (.cells (madeCells #[.string ⟨#[]⟩] nm) 9)) 39 39 3 9 w.heap.size 0 nm nm x nm cm _ 9 (ms.map Value.string) Try.underlying39 hI hg (hL0.trans (Nat.min_self nm).symm) hc (by omega) (fun v hv => by obtain ⟨s, _, rfl⟩ := List.mem_map.1 hv; rfl)
    have hrow : (madeCells #[.string ⟨#[]⟩] nm).toList.take 0 ++ ms.map Value.string ++ (madeCells #[.string ⟨#[]⟩] nm).toList.drop (0 + (ms.map Value.string).length) = ms.map Value.string := by
      rw [List.take_zero, List.nil_append, Nat.zero_add, hL0, List.drop_of_length_le (by rw [Array.length_toList, hz]; exact Nat.le_refl _), List.append_nil]
    rw [hrow, hL0] at hrun
    exact ⟨_, hrun, strs_of_block (setRow_heap _ _ _ _ _ _ hg), below_setRow hB0 (Nat.le_refl _) _⟩

/-- What ZZShownTo hands back, public or not. -/
def EndedP (pub : Bool) (ms : List ByteArray) (ps fs : List (Value × Value)) (hs : Nat) (kind : ByteArray) (v1 v2 : Value) (nf : Nat) (e : Ending) (w' : World) : Prop :=
  ∃ k' x1 n1 d1 x2 n2 d2 p' ok, e = .returned (.tuple #[.agg #[.string k', .slice x1 n1 d1, .slice x2 n2 d2, .bool p'], .bool ok]) ∧
    Hid (pub = true → k' = kind ∧ Value.slice x1 n1 d1 = v1 ∧ Value.slice x2 n2 d2 = v2 ∧ p' = true ∧ ok = true) ∧ Hid (pub = false → Good ms ps fs hs kind v1 v2 nf (.string k') (.slice x1 n1 d1) (.slice x2 n2 d2) p' ok w')
theorem to_both (pub : Bool) (kind : ByteArray) (a1 a2 am : Option Addr) (nf c1 np c2 nm cm : Nat) (fs ps : List (Value × Value)) (ms : List ByteArray) (hf : fs.length = nf) (hp : ps.length = np) (hm : ms.length = nm)
    (bf : nf ≤ 4096) (bp : np ≤ 4096) (bm : nm ≤ 4096) (zf : a1 = none → nf = 0 ∧ c1 = 0) (w : World) (hF : Pairs w a1 fs) (hG : FieldsOk fs) (hP : Pairs w a2 ps) (hO : PartiesOk w ps) (hM : Strs w am ms) :
    Calls Try.prog 14 #[.agg #[.string kind, .slice a1 nf c1, .slice a2 np c2, .bool pub], .slice am nm cm] w fun e w' =>
      EndedP pub ms ps fs w.heap.size kind (.slice a1 nf c1) (.slice a2 np c2) nf e w' ∧ Below w.heap.size w w' := by
  cases pub
  · refine (to_any kind a1 a2 am nf c1 np c2 nm cm fs ps ms hf hp hm bf bp bm zf w hF hG hP hO hM).mono ?_
    rintro e w' ⟨⟨k', x1, n1, d1, x2, n2, d2, p', ok, rfl, hgood⟩, hb⟩
    exact ⟨⟨k', x1, n1, d1, x2, n2, d2, p', ok, rfl, nofun, fun _ => hgood⟩, hb⟩
  · refine (to_pub kind a1 a2 am nf c1 np c2 nm cm w).mono ?_
    rintro e w' ⟨rfl, hb⟩
    exact ⟨⟨kind, a1, nf, c1, a2, np, c2, true, true, rfl, fun _ => ⟨rfl, rfl, rfl, rfl, rfl⟩, nofun⟩, hb⟩
theorem to_again (pub : Bool) (kind : ByteArray) (a1 a2 am : Option Addr) (nf c1 np c2 nm cm : Nat) (fs ps : List (Value × Value)) (ms : List ByteArray) (hf : fs.length = nf) (hp : ps.length = np) (hm : ms.length = nm)
    (bf : nf ≤ 4096) (bp : np ≤ 4096) (bm : nm ≤ 4096) (zf : a1 = none → nf = 0 ∧ c1 = 0) (w : World) (hF : Pairs w a1 fs) (hG : FieldsOk fs) (hP : Pairs w a2 ps) (hO : PartiesOk w ps) (hM : Strs w am ms)
    (hall : pub = false → 0 < ps.length ∧ ∀ p ∈ ps, mineP ms p = true) :
    Calls Try.prog 14 #[.agg #[.string kind, .slice a1 nf c1, .slice a2 np c2, .bool pub], .slice am nm cm] w fun e w' =>
      e = .returned (.tuple #[.agg #[.string kind, .slice a1 nf c1, .slice a2 np c2, .bool pub], .bool true]) ∧ Below w.heap.size w w' := by
  cases pub
  · obtain ⟨h0, h1⟩ := hall rfl
    refine (to_any kind a1 a2 am nf c1 np c2 nm cm fs ps ms hf hp hm bf bp bm zf w hF hG hP hO hM).mono ?_
    rintro e w' ⟨⟨k', x1, n1, d1, x2, n2, d2, p', ok, rfl, hgood⟩, hb⟩
    have hok : ok = true := by
      rw [hgood.isok, List.any_eq_true]
      exact ⟨_, List.getElem_mem h0, h1 _ (List.getElem_mem h0)⟩
    obtain ⟨e1, e2, _⟩ := hgood.whole hok
    obtain ⟨e3, e4⟩ := hgood.same h0 h1
    rw [e1, e2, e3, e4, hok]
    exact ⟨rfl, hb⟩
  · exact to_pub kind a1 a2 am nf c1 np c2 nm cm w

/-- Is one of the first k parties the member's? -/
def anyM (ms : List ByteArray) (ps : List (Value × Value)) (k : Nat) : Bool := (ps.take k).any (mineP ms)
theorem anyM_succ {ms : List ByteArray} {ps : List (Value × Value)} {k : Nat} (h : k < ps.length) : anyM ms ps (k + 1) = (anyM ms ps k || mineP ms (ps[k]'h)) := by
  unfold anyM
  rw [List.take_succ_eq_append_getElem h, List.any_append]
  simp
theorem anyM_all {ms : List ByteArray} {ps : List (Value × Value)} {n : Nat} (h : ps.length = n) : anyM ms ps n = ps.any (mineP ms) := by
  unfold anyM
  rw [List.take_of_length_le (by omega)]

set_option maxRecDepth 100000 in
set_option maxHeartbeats 4000000 in
theorem law_any (kind : ByteArray) (pub : Bool) (af ap am : Option Addr) (nf cf np cp nm cm : Nat) (fs ps : List (Value × Value)) (ms : List ByteArray) (hf : fs.length = nf) (hp : ps.length = np) (hm : ms.length = nm)
    (bf : nf ≤ 9223372036854775807) (bp : np ≤ 9223372036854775807) (bm : nm ≤ 9223372036854775807) (zf : af = none → nf = 0 ∧ cf = 0) (zp : ap = none → np = 0 ∧ cp = 0) (w : World) (hF : Pairs w af fs) (hG : FieldsOk fs) (hP : Pairs w ap ps) (hO : PartiesOk w ps) (hM : Strs w am ms) :
    Calls Try.prog 4 #[.string kind, .slice af nf cf, .bool pub, .slice ap np cp, .slice am nm cm] w fun e w' => e = .returned (.bool true) ∧ Below w.heap.size w w' := by
  have LF : Hid (fs.length = nf) := hf
  have LP : Hid (ps.length = np) := hp
  have LM : Hid (ms.length = nm) := hm
  have HF : Hid (Pairs w af fs) := hF
  have HG : Hid (FieldsOk fs) := hG
  have HP : Hid (Pairs w ap ps) := hP
  have HO : Hid (PartiesOk w ps) := hO
  have HM : Hid (Strs w am ms) := hM
  have ZF : Hid (af = none → nf = 0 ∧ cf = 0) := zf
  have ZP : Hid (ap = none → np = 0 ∧ cp = 0) := zp
  have QB := hideT (bytes_any kind pub af ap am nf cf np cp nm cm fs ps ms hf hp hm bf bp bm w hF hG hP hO hM)
  have QS := hideT (fun q => size_any kind af ap am nf cf np cp nm cm fs ps ms hf hp hm bf bp bm (w.drewN q) (hF.below (below_drewN (Below.refl _ w))) hG (hP.below (below_drewN (Below.refl _ w))) (hO.below (below_drewN (Below.refl _ w))) (hM.below (below_drewN (Below.refl _ w))))
  have QT := hideT (fun q => total_any ap np cp ps hp bp (w.drewN q) (hP.below (below_drewN (Below.refl _ w))) (hO.below (below_drewN (Below.refl _ w))))
  clear hf hp hm hF hG hP hO hM zf zp
  go_enter Try.func4, Try.ntmps4
  go_wp2_with fail
  refine QB.out.mono ?_
  rintro e w1 ⟨⟨r, rfl⟩, q1, rfl⟩
  cases r
  · go_wp2_with fail
    go_ret
    exact ⟨rfl, below_drewN (Below.refl _ w)⟩
  go_wp2_with fail
  refine (QS.out _).mono ?_
  rintro e w2 ⟨r, rfl, q2, rfl⟩
  by_cases hr : 1048576 < r
  · go_wp2_with fail
    go_ret
    exact ⟨rfl, below_drewN (Below.refl _ w)⟩
  by_cases hnf : 4096 < nf
  · have d1 : decide ((4096 : Int) < (nf : Int)) = true := decide_eq_true (by omega)
    go_wp2_with fail
    go_ret
    exact ⟨rfl, below_drewN (Below.refl _ w)⟩
  have d1 : decide ((4096 : Int) < (nf : Int)) = false := decide_eq_false (by omega)
  by_cases hnp : 4096 < np
  · have d2 : decide ((4096 : Int) < (np : Int)) = true := decide_eq_true (by omega)
    go_wp2_with fail
    go_ret
    exact ⟨rfl, below_drewN (Below.refl _ w)⟩
  have d2 : decide ((4096 : Int) < (np : Int)) = false := decide_eq_false (by omega)
  by_cases hnm : 4096 < nm
  · have d3 : decide ((4096 : Int) < (nm : Int)) = true := decide_eq_true (by omega)
    go_wp2_with fail
    go_ret
    exact ⟨rfl, below_drewN (Below.refl _ w)⟩
  have d3 : decide ((4096 : Int) < (nm : Int)) = false := decide_eq_false (by omega)
  go_wp2_with fail
  refine (QT.out _).mono ?_
  rintro e w3 ⟨r3, rfl, rfl⟩
  by_cases hr3 : 4096 < r3
  · go_wp2_with fail
    go_ret
    exact ⟨rfl, below_drewN (Below.refl _ w)⟩
  clear QB QS QT
  have n39 := fun W a n c => run_neq_slice_nil_any (P := Try.prog) W 39 9 a n c 0 0 Try.underlying39
  have mk39 := make39 nm (by omega)
  go_upto_if 52 with fail
  go_cut [4] (fun s4 wc => ∃ am' cm', s4 = .slice am' nm cm' ∧ Hid (Strs wc am' ms) ∧ Hid (Below w.heap.size w wc))
  case first =>
    rcases am with _ | x
    · go_wp2_with fail
      go_meet
      case rel => exact ⟨_, _, rfl, HM.out.below (below_drewN (Below.refl _ w)), below_drewN (Below.refl _ w)⟩
    · obtain ⟨w4, hrun, hs4, hb4⟩ := copy_run w (w.drewN (q1 + q2)) (below_drewN (Below.refl _ w)) rfl x nm cm ms LM.out (HM.out.below (below_drewN (Below.refl _ w)))
      have HB4 := hideT hb4
      have HS4 := hideT hs4
      clear hb4 hs4
      go_wp2_with fail
      go_meet
      case rel => exact ⟨_, _, rfl, HS4, HB4⟩
  case rest =>
    obtain ⟨am', cm', rfl, HM', HB'⟩ := hcut
    clear n39 mk39 HM
    have HF1 : Hid (Pairs wc af fs) := HF.out.below HB'.out
    have HP1 : Hid (Pairs wc ap ps) := HP.out.below HB'.out
    have HO1 : Hid (PartiesOk wc ps) := HO.out.below HB'.out
    have QR := hideT (record_any kind pub af ap nf cf np cp fs ps LF.out LP.out (by omega) (by omega) ZF.out ZP.out wc HF1.out HG.out HP1.out HO1.out)
    go_wp2_with fail
    refine QR.out.mono ?_
    rintro e w5 ⟨a1, c1, a2, c2, rfl, p1, z1, p2, b5⟩
    have hb5 : Below wc.heap.size wc (w5.alloc (.cells #[.string kind, .slice a1 nf c1, .slice a2 np c2, .bool pub] 46)) := b5.alloc b5.size _
    have ha5 : Below w5.heap.size w5 (w5.alloc (.cells #[.string kind, .slice a1 nf c1, .slice a2 np c2, .bool pub] 46)) := (Below.refl _ _).alloc (Nat.le_refl _) _
    have QT := hideT (to_both pub kind a1 a2 am' nf c1 np c2 nm cm' fs ps ms LF.out LP.out LM.out (by omega) (by omega) (by omega) z1 (w5.alloc (.cells #[.string kind, .slice a1 nf c1, .slice a2 np c2, .bool pub] 46)) (p1.below ha5) HG.out (p2.below ha5) (HO1.out.below hb5) (HM'.out.below hb5))
    have HB5 := hideT hb5
    have Z1 := hideT z1
    have P1 := hideT (p1.below ha5)
    have P2 := hideT (p2.below ha5)
    clear p1 z1 p2 b5 hb5 ha5 QR
    go_wp2_with fail
    refine QT.out.mono ?_
    rintro e w6 ⟨⟨k', x1, n1, d1, x2, n2, d2, p', ok, rfl, PT, PF⟩, b6⟩
    have ha6 : Below w6.heap.size w6 (w6.alloc (.cells #[.string k', .slice x1 n1 d1, .slice x2 n2 d2, .bool p'] 46)) := (Below.refl _ _).alloc (Nat.le_refl _) _
    have b7 : Below (w5.alloc (.cells #[.string kind, .slice a1 nf c1, .slice a2 np c2, .bool pub] 46)).heap.size (w5.alloc (.cells #[.string kind, .slice a1 nf c1, .slice a2 np c2, .bool pub] 46)) (w6.alloc (.cells #[.string k', .slice x1 n1 d1, .slice x2 n2 d2, .bool p'] 46)) := b6.trans (ha6.mono b6.size)
    have B7 : Hid (Below wc.heap.size wc (w6.alloc (.cells #[.string k', .slice x1 n1 d1, .slice x2 n2 d2, .bool p'] 46))) := HB5.out.trans (b7.mono HB5.out.size)
    have A6 := hideT ha6
    have C7 := hideT b7
    clear QT b6 ha6 b7
    have H7 : Hid ((w6.alloc (.cells #[.string k', .slice x1 n1 d1, .slice x2 n2 d2, .bool p'] 46)).heap[w6.heap.size]? = some (.cells #[.string k', .slice x1 n1 d1, .slice x2 n2 d2, .bool p'] 46 (0, 0))) := heap_alloc_new w6 _
    have M7 : Hid (Strs (w6.alloc (.cells #[.string k', .slice x1 n1 d1, .slice x2 n2 d2, .bool p'] 46)) am' ms) := HM'.out.below B7.out
    go_wp2_with fail
    generalize eg : w6.alloc (.cells #[.string k', .slice x1 n1 d1, .slice x2 n2 d2, .bool p'] 46) = w7 at *
    clear eg
    go_loopw [15, 16] (fun b i wr => ∃ k : Nat, k ≤ np ∧ i = .int .i64 (k : Int) ∧ b = .bool (anyM ms ps k) ∧ w7 = wr) (fun _ i _ => np - (intOf i).toNat)
    case atStart => exact ⟨0, by omega, rfl, rfl, rfl⟩
    case round =>
      obtain ⟨k, hk, rfl, rfl, rfl⟩ := hrel
      by_cases hlt : k < np
      · have hkl : k < ps.length := by rw [LP.out]; exact hlt
        obtain ⟨b, off, rfl, hc⟩ := HP1.out (by omega)
        obtain ⟨g1, g1'⟩ := hc k hkl
        obtain ⟨s, v, e, he⟩ := HO1.out k hkl
        have AM := anyM_succ (ms := ms) hkl
        rw [e] at g1 AM
        have g2 := cell_kept B7.out g1
        simp only [] at g2
        have q := in_any am' nm cm' ms s LM.out (by omega) w7 M7.out
        change _ = (_ || isIn ms s) at AM
        cases hi : isIn ms s
        · rw [hi] at q AM
          rw [Bool.or_false] at AM
          have HAM := hideT AM
          have Q := hideT q
          clear q AM hc e he g1 g1' hi hkl
          go_wp2_with fail
          refine Q.out.mono ?_
          rintro e w8 ⟨rfl, rfl⟩
          go_wp2_with fail
          go_roundw
          case rel => exact ⟨k + 1, by omega, by go_num, by rw [HAM.out], by first | rfl | trivial⟩
          case measure => simp [intOf]; omega
        · rw [hi] at q AM
          rw [Bool.or_true] at AM
          have HAM := hideT AM
          have Q := hideT q
          clear q AM hc e he g1 g1' hi hkl
          go_wp2_with fail
          refine Q.out.mono ?_
          rintro e w8 ⟨rfl, rfl⟩
          go_wp2_with fail
          go_roundw
          case rel => exact ⟨k + 1, by omega, by go_num, by rw [HAM.out], by first | rfl | trivial⟩
          case measure => simp [intOf]; omega
      · have hkn : np = k := by omega
        subst hkn
        have EA := anyM_all (ms := ms) LP.out
        have BE : Hid (Below w.heap.size w w7) := HB'.out.trans (B7.out.mono HB'.out.size)
        cases pub
        · have gd := PF.out rfl
          have ok1 := gd.isok
          rw [← EA] at ok1
          clear EA
          cases ok
          · rw [← ok1]
            clear ok1 gd
            go_wp2_with fail
            go_ret
            exact ⟨rfl, BE⟩
          · rw [← ok1]
            clear ok1
            obtain ⟨e1, e2, y1, m1, fs', y2, m2, qs, g1, g2, g3, g4, g5, g6, g7, g8, g9, g10, g11, _⟩ := gd.whole rfl
            cases e1
            subst e2
            cases g1
            cases g2
            have T1 : Hid (Pairs w7 x1 fs') := g5.below A6.out
            have T2 : Hid (Pairs w7 x2 qs) := g7.below A6.out
            have TO : Hid (PartiesOk w7 qs) := g8.below A6.out
            have TG : Hid (FieldsOk fs') := g4
            have TF : Hid (fs'.length = nf) := g3
            have TZ : Hid (x1 = none → nf = 0 ∧ d1 = 0) := g6
            have TA : Hid (∀ p ∈ qs, mineP ms p = true) := g11
            generalize enq : qs.length = nq at *
            have TQ : Hid (qs.length = nq) := enq
            clear enq g3 g4 g5 g6 g7 g8 g11 gd PT PF
            have b0 : ((nq : Int) == 0) = false := beq_eq_false_iff_ne.2 (by omega)
            have o2 := cell_of_row w7 w6.heap.size 2 _ 46 (0, 0) H7.out
            simp at o2
            go_wp2_with fail
            go_loopw [17] (fun i wr => ∃ k : Nat, k ≤ nq ∧ i = .int .i64 (k : Int) ∧ w7 = wr) (fun i _ => nq - (intOf i).toNat)
            case atStart => exact ⟨0, by omega, rfl, rfl⟩
            case round =>
              obtain ⟨k, hk, rfl, rfl⟩ := hrel
              by_cases hlt : k < nq
              · have hkl : k < qs.length := by rw [TQ.out]; exact hlt
                obtain ⟨b, off, rfl, hc⟩ := T2.out (by omega)
                obtain ⟨g1, g1'⟩ := hc k hkl
                obtain ⟨s, v, e, he⟩ := TO.out k hkl
                have hi := TA.out _ (List.getElem_mem hkl)
                rw [e] at g1 hi
                simp only [] at g1
                change isIn ms s = true at hi
                have q := in_any am' nm cm' ms s LM.out (by omega) w7 M7.out
                rw [hi] at q
                have Q := hideT q
                clear q hc e he g1' hi hkl
                go_wp2_with fail
                refine Q.out.mono ?_
                rintro e w8 ⟨rfl, rfl⟩
                go_wp2_with fail
                go_roundw
                case rel => exact ⟨k + 1, by omega, by go_num, by first | rfl | trivial⟩
                case measure => simp [intOf]; omega
              · clear b0
                have QA := hideT (to_again false kind x1 x2 am' nf d1 nq d2 nm cm' fs' qs ms TF.out TQ.out LM.out (by omega) (by omega) (by omega) TZ.out w7 T1.out TG.out T2.out TO.out M7.out (fun _ => ⟨by rw [TQ.out]; exact g9, TA.out⟩))
                have o0 := cell_of_row w7 w6.heap.size 0 _ 46 (0, 0) H7.out
                have o1 := cell_of_row w7 w6.heap.size 1 _ 46 (0, 0) H7.out
                have o2' := cell_of_row w7 w6.heap.size 2 _ 46 (0, 0) H7.out
                have o3 := cell_of_row w7 w6.heap.size 3 _ 46 (0, 0) H7.out
                simp at o0 o1 o2' o3
                go_wp2_with fail
                refine QA.out.mono ?_
                rintro e w8 ⟨rfl, b8⟩
                have j0 := cell_kept b8 o0
                have j1 := cell_kept b8 o1
                have j2 := cell_kept b8 o2
                have j3 := cell_kept b8 o3
                have jlt : w6.heap.size < w8.heap.size := block_lt_of_cell j0
                have b9 : Below w7.heap.size w7 (w8.alloc (.cells #[.string kind, .slice x1 nf d1, .slice x2 nq d2, .bool false] 46)) := b8.alloc b8.size _
                have QE := hideT (sameRec_self kind false x1 x2 nf d1 nq d2 fs' qs TF.out TQ.out (by omega) (by omega) (w8.alloc (.cells #[.string kind, .slice x1 nf d1, .slice x2 nq d2, .bool false] 46)) (T1.out.below b9) TG.out (T2.out.below b9) (TO.out.below b9))
                have B9 : Hid (Below w.heap.size w (w8.alloc (.cells #[.string kind, .slice x1 nf d1, .slice x2 nq d2, .bool false] 46))) := BE.out.trans (b9.mono BE.out.size)
                clear b8 b9 QA o0 o1 o2' o2 o3
                go_wp2_with fail
                refine QE.out.mono ?_
                rintro e w9 ⟨rfl, b10⟩
                have B10 : Hid (Below w.heap.size w w9) := B9.out.trans (b10.mono B9.out.size)
                clear b10 QE
                go_wp2_with fail
                go_ret
                exact ⟨rfl, B10.out⟩
        · obtain ⟨rfl, e1, e2, rfl, rfl⟩ := PT.out rfl
          cases e1
          cases e2
          have T1 : Hid (Pairs w7 a1 fs) := P1.out.below C7.out
          have T2 : Hid (Pairs w7 a2 ps) := P2.out.below C7.out
          have TO : Hid (PartiesOk w7 ps) := HO1.out.below B7.out
          have TG : Hid (FieldsOk fs) := HG
          clear PT PF EA
          have QA := hideT (to_again true k' a1 a2 am' nf c1 np c2 nm cm' fs ps ms LF.out LP.out LM.out (by omega) (by omega) (by omega) Z1.out w7 T1.out TG.out T2.out TO.out M7.out nofun)
          have o0 := cell_of_row w7 w6.heap.size 0 _ 46 (0, 0) H7.out
          have o1 := cell_of_row w7 w6.heap.size 1 _ 46 (0, 0) H7.out
          have o2 := cell_of_row w7 w6.heap.size 2 _ 46 (0, 0) H7.out
          have o3 := cell_of_row w7 w6.heap.size 3 _ 46 (0, 0) H7.out
          simp at o0 o1 o2 o3
          go_wp2_with fail
          refine QA.out.mono ?_
          rintro e w8 ⟨rfl, b8⟩
          have j0 := cell_kept b8 o0
          have j1 := cell_kept b8 o1
          have j2 := cell_kept b8 o2
          have j3 := cell_kept b8 o3
          have jlt : w6.heap.size < w8.heap.size := block_lt_of_cell j0
          have b9 : Below w7.heap.size w7 (w8.alloc (.cells #[.string k', .slice a1 nf c1, .slice a2 np c2, .bool true] 46)) := b8.alloc b8.size _
          have QE := hideT (sameRec_self k' true a1 a2 nf c1 np c2 fs ps LF.out LP.out (by omega) (by omega) (w8.alloc (.cells #[.string k', .slice a1 nf c1, .slice a2 np c2, .bool true] 46)) (T1.out.below b9) TG.out (T2.out.below b9) (TO.out.below b9))
          have B9 : Hid (Below w.heap.size w (w8.alloc (.cells #[.string k', .slice a1 nf c1, .slice a2 np c2, .bool true] 46))) := BE.out.trans (b9.mono BE.out.size)
          clear b8 b9 QA o0 o1 o2 o3
          go_wp2_with fail
          refine QE.out.mono ?_
          rintro e w9 ⟨rfl, b10⟩
          have B10 : Hid (Below w.heap.size w w9) := B9.out.trans (b10.mono B9.out.size)
          clear b10 QE
          go_wp2_with fail
          go_ret
          exact ⟨rfl, B10.out⟩
end Go.Proofs.Qxb6609473a.Shown
