import Derived.Test.Qxb6612223aFmtMid
namespace Go.Proofs.Qxb6612223aFmt
open Go.RowKit Go.Extern.Stop Go.Stop Go.Extern

theorem Wrt.len {base B : Nat} {bs : List Nat} {ev : Value} {W : World} (h : Wrt base B bs ev W) : ∃ a c, W.cell? ⟨B, 0, none⟩ = some (.slice a bs.length c) := by
  obtain ⟨v, hB, ho, hb⟩ := h
  obtain ⟨a, c, rfl⟩ := slice_of_row ho
  exact ⟨a, c, by rw [cell_of_row W B 0 _ 51 (0, 0) hB]; rfl⟩

set_option maxRecDepth 100000 in
set_option maxHeartbeats 2000000 in
theorem vector_any (F : Interp) (base B C width : Nat) (bs ns : List Nat) (ev : Value) (eb : Bool) (a : Option Addr) (n cap : Nat) (w : World) (hF : F.answers w.tape) (hE : ErrOk ev eb) (hwd : width = 1 ∨ width = 2)
    (hC : w.heap[C]? = some (.cells #[.slice a n cap] 22 (0, 0))) (hW : Wrt base B bs ev w) (hbase : base ≤ w.heap.size) (hl : bs.length ≤ 4194304) (hn : ns.length = n) (hn2 : n ≤ 4194304)
    (za : a = none → n = 0 ∧ cap = 0) (hS : Src w a ns) (hSb : ∀ x, a = some x → 0 < ns.length → x.block < base) :
    Calls Tryf.prog 18 #[.pointer (some ⟨B, 0, none⟩), .int .i64 (width : Int), .func (.func 21) #[] #[.pointer (some ⟨C, 0, none⟩)]] w fun e w' => e = .returned (.tuple #[]) ∧ Steps base w w' ∧
      ((n ≤ top width ∧ Wrt base B (bs ++ (be width n ++ ns)) ev w') ∨ (top width < n ∧ ∃ ev', Wrt base B (bs ++ (be width 0 ++ ns)) ev' w' ∧ ErrOk ev' true)) := by
  obtain ⟨a0, c0, k0⟩ := hW.len
  have Q1 := hideT (uint_any base B width 0 bs ev w hW hbase (by omega) (by omega))
  have HC := hideT hC
  have HS := hideT hS
  have HSb := hideT hSb
  have HN := hideT hn
  have HE := hideT hE
  have ZA := hideT za
  have HF := hideT hF
  have hw2 : width ≤ 2 := by omega
  have HWD := hideT hwd
  clear hW hC hS hSb hn hE za hF hwd
  go_enter Tryf.func18, Tryf.ntmps18
  go_wp2_with fail
  refine Q1.out.mono ?_
  rintro e w1 ⟨rfl, h1, s1⟩
  have hC1 := s1.kept C _ 22 _ HC.out (by decide) (by decide)
  have hb1 : base ≤ w1.heap.size := Nat.le_trans hbase s1.below.size
  have Q2 := hideT (fill_any base B C (bs ++ be width 0) ns ev a n cap w1 (by rw [cell_of_row w1 C 0 _ 22 (0, 0) hC1]; rfl) h1 hb1 (by rw [List.length_append, be_length]; omega) HN.out (by omega) ZA.out (HS.out.below s1.below HSb.out))
  have S1 := hideT s1
  clear Q1 h1 s1 hC1
  go_wp2_with fail
  refine Q2.out.mono ?_
  rintro e w2 ⟨rfl, h2, s2⟩
  rw [List.append_assoc] at h2
  obtain ⟨a2, c2, k2⟩ := h2.len
  have hL : (bs ++ (be width 0 ++ ns)).length = bs.length + width + n := by rw [List.length_append, List.length_append, be_length, HN.out]; omega
  rw [hL] at k2
  clear hL
  generalize eL : bs.length + width + n = L at *
  obtain ⟨M, hM⟩ : ∃ M, M = width + n := ⟨_, rfl⟩
  have hs1 : (L : Int) - (bs.length : Int) = (M : Int) := by omega
  have hs2 : (M : Int) - (width : Int) = (n : Int) := by omega
  have hMb : M ≤ 8388612 := by omega
  clear hM
  have hLb : L ≤ 8388612 := by omega
  have EL := hideT eL
  clear eL
  have H2 := hideT h2
  have S2 := hideT (S1.out.trans s2)
  have hb2 : base ≤ w2.heap.size := Nat.le_trans hb1 s2.below.size
  clear Q2 h2 s2
  by_cases hfit : n ≤ top width
  · have Q3 := hideT (check_fits B width n HWD.out hfit w2)
    have HFIT := hideT hfit
    clear hfit
    go_wp2_with fail
    refine Q3.out.mono ?_
    rintro e w3 ⟨rfl, rfl⟩
    go_wp2_with fail
    clear k2 k0 hs1 hs2
    go_loopw [34] (fun i wr => ∃ k : Nat, k ≤ width ∧ i = .int .i64 (k : Int) ∧ Hid (Wrt base B (mid bs ns width n k) ev wr) ∧ Hid (Steps base w wr)) (fun i _ => width - (intOf i).toNat)
    case atStart => exact ⟨0, by omega, rfl, by rw [mid_zero]; exact H2, S2⟩
    case round =>
      obtain ⟨k, hk, rfl, HW, HT⟩ := hrel
      by_cases hlt : k < width
      · obtain ⟨v, hB, ho, hb⟩ := HW.out
        have hml := mid_length bs ns width n k hk
        obtain ⟨g, cv, hv⟩ : ∃ g cv, v = .slice (some ⟨g, 0, none⟩) (mid bs ns width n k).length cv := by
          rcases ho.2 with ⟨_, h0⟩ | ⟨g, cv, cur, hv, _⟩
          · omega
          · exact ⟨g, cv, hv⟩
        subst hv
        obtain ⟨P, hP⟩ : ∃ P, P = bs.length + k := ⟨_, rfl⟩
        have hPL : P < (mid bs ns width n k).length := by omega
        have d1 := ho.cellAt P (by omega)
        rw [asBytes_at _ P hPL] at d1
        have d2 := ho.frozenAt P
        have c0 := cell_of_row wr B 0 _ 51 (0, 0) hB
        simp at c0
        obtain ⟨j, hj⟩ : ∃ j, j = width - 1 - k := ⟨_, rfl⟩
        obtain ⟨m1, hm1⟩ : ∃ m1, m1 = width - 1 := ⟨_, rfl⟩
        have hp : (bs.length : Int) + (k : Int) = (P : Int) := by omega
        have hw1 : (width : Int) - 1 = (m1 : Int) := by omega
        have hw3 : (m1 : Int) - (k : Int) = (j : Int) := by omega
        have hj8 : j < 8 := by omega
        have hw8 := wrap_mul8 hj8
        have hdv := div_nat n j
        have hu8 := wrap8 (n / 2 ^ (8 * j))
        have ms := mid_set bs ns width n k hlt
        rw [← hj, ← hP] at ms
        have PB := byte_done hB ho hb P (n / 2 ^ (8 * j) % 256)
        rw [ms] at PB
        have PD := hideT PB
        have hB8 : B < wr.heap.size := block_lt_of_cell c0
        clear PB ms hB ho
        generalize n / 2 ^ (8 * j) = x at *
        generalize x % 256 = y at *
        obtain ⟨uu, d3⟩ : ∃ uu, wr.cell? ⟨g, P, none⟩ = some uu := ⟨_, d1⟩
        clear d1
        generalize (mid bs ns width n k).length = Lk at *
        have HP := hideT hP
        clear hj hm1 hP
        clear hml
        go_wp2_with fail
        go_region
        all_goals
          go_wp2_with fail
          go_roundw
          case rel => exact ⟨k + 1, by omega, by go_num, ⟨_, PD.out.1.choose_spec.1, PD.out.1.choose_spec.2.1, hb⟩, ⟨(HT.out.trans PD.out.2).below.drew, (HT.out.trans PD.out.2).kept⟩⟩
          case measure => simp [intOf] <;> omega
      · have hkn : width = k := by omega
        subst hkn
        have HE2 : Hid (Wrt base B (bs ++ (be width n ++ ns)) ev wr) := by have := HW.out; rwa [mid_full] at this
        go_wp2_with fail
        exact bodyPost_end (v := .tuple #[]) (by simp [results, Tryf.results18, go_sem]) rfl ⟨rfl, HT.out, .inl ⟨HFIT.out, HE2.out⟩⟩
  · have Q3 := hideT (check_over F base B width n _ ev eb HE.out HWD.out (by omega) (by omega) w2 (by rw [S2.out.below.tape]; exact HF.out) H2.out hb2)
    have HFIT : Hid (top width < n) := by show _ < _; omega
    clear hfit
    go_wp2_with fail
    refine Q3.out.mono ?_
    rintro e w3 ⟨rfl, ev', h3, e3, s3⟩
    have H3 := hideT h3
    have E3 := hideT e3
    have S3 := hideT s3
    clear Q3 h3 e3 s3
    go_wp2_with fail
    exact bodyPost_end (v := .tuple #[]) (by simp [results, Tryf.results18, go_sem]) rfl ⟨rfl, S2.out.trans S3.out, .inr ⟨HFIT.out, ev', H3.out, E3.out⟩⟩
end Go.Proofs.Qxb6612223aFmt
