import Derived.Test.Qxb6612223aFmtParts
namespace Go.Proofs.Qxb6612223aFmt
open Go.RowKit Go.Extern.Stop Go.Stop Go.Extern

set_option maxHeartbeats 4000000 in
set_option maxRecDepth 100000 in
theorem law_any (F : Interp) (a b c : Option Addr) (np cp nk ck nh ch st lt ix vl ha : Nat) (ex : Bool) (model : ByteArray) (ps ks hs : List Nat) (w : World) (hF : F.answers w.tape)
    (hst : st < 18446744073709551616) (hlt : lt < 4294967296) (hix : ix < 4294967296) (hvl : vl < 4294967296) (hha : ha < 256)
    (lp : ps.length = np) (lk : ks.length = nk) (lh : hs.length = nh) (za : a = none → np = 0 ∧ cp = 0) (zb : b = none → nk = 0 ∧ ck = 0) (zc : c = none → nh = 0 ∧ ch = 0)
    (sa : Src w a ps) (sb : Src w b ks) (sc : Src w c hs) (ba : ∀ x, a = some x → 0 < ps.length → x.block < w.heap.size) (bb : ∀ x, b = some x → 0 < ks.length → x.block < w.heap.size) (bc : ∀ x, c = some x → 0 < hs.length → x.block < w.heap.size) :
    Calls Tryf.prog 4 #[.slice a np cp, .int .u64 (st : Int), .int .u32 (lt : Int), .string model, .int .u32 (ix : Int), .slice b nk ck, .bool ex, .int .u32 (vl : Int), .int .u8 (ha : Int), .slice c nh ch] w fun e w' =>
      e = .returned (.bool true) ∧ Below w.heap.size w w' := by
  have HF := hideT hF
  have LP := hideT lp
  have LK := hideT lk
  have LH := hideT lh
  have ZA := hideT za
  have ZB := hideT zb
  have ZC := hideT zc
  have SA := hideT sa
  have SB := hideT sb
  have SC := hideT sc
  have BA := hideT ba
  have BB := hideT bb
  have BC := hideT bc
  clear hF lp lk lh za zb zc sa sb sc ba bb bc
  go_enter Tryf.func4, Tryf.ntmps4
  go_wp2_with fail
  refine (bytes_any w a b c np cp nk ck nh ch _ _ _ _ _ _ model).mono ?_
  rintro e w1 ⟨r, rfl, hw1, hr⟩
  have hw2 := hw1.symm
  subst hw2
  clear hw1
  cases r
  · clear hr
    go_wp2_with fail
    go_ret
    exact ⟨rfl, Below.refl _ _⟩
  · have hsum := hr rfl
    clear hr
    go_wp2_with fail
    refine (build_any st lt model ix b nk ck ex vl ha c nh ch w).mono ?_
    rintro e w1 ⟨rfl, hw1⟩
    unfold nine
    have hk1 : Steps w.heap.size w w1 := by rw [hw1]; exact (Steps.refl _ _).alloc (Nat.le_refl _) _
    have S1 := hideT hk1
    clear hk1 hw1
    go_wp2_with fail
    generalize eW : w1.alloc _ = W
    have S2 : Hid (Steps w.heap.size w W) := by rw [← eW]; exact S1.out.alloc S1.out.below.size _
    have K2 : Hid (W.heap[w1.heap.size]? = some (.cells (nine st lt model ix b nk ck ex vl ha c nh ch) 42 (0, 0))) := by rw [← eW]; exact heap_alloc_new w1 _
    clear eW S1
    generalize w1.heap.size = K at *
    refine (start_any a np cp ps W w.heap.size S2.out.below.size LP.out (by omega) ZA.out (SA.out.below S2.out.below BA.out) BA.out).mono ?_
    rintro e w2 ⟨rfl, h1, h2⟩
    generalize W.heap.size = B at *
    have W3 := hideT h1
    have S3 := hideT (S2.out.trans h2)
    have k3 := h2.kept _ _ _ _ K2.out (by decide) (by decide)
    have z0 := cell_of_row w2 K 0 _ 42 (0, 0) k3
    have z1 := cell_of_row w2 K 1 _ 42 (0, 0) k3
    have z2 := cell_of_row w2 K 2 _ 42 (0, 0) k3
    have z3 := cell_of_row w2 K 3 _ 42 (0, 0) k3
    have z4 := cell_of_row w2 K 4 _ 42 (0, 0) k3
    have z5 := cell_of_row w2 K 5 _ 42 (0, 0) k3
    have z6 := cell_of_row w2 K 6 _ 42 (0, 0) k3
    have z7 := cell_of_row w2 K 7 _ 42 (0, 0) k3
    have z8 := cell_of_row w2 K 8 _ 42 (0, 0) k3
    simp [nine] at z0 z1 z2 z3 z4 z5 z6 z7 z8
    clear k3 h1 h2 S2 K2
    go_wp2_with fail
    clear z0 z1 z2 z3 z4 z5 z6 z7 z8
    refine (encode_any F w.heap.size B st lt model ix ex vl ha ps ks hs .nilIface false b nk ck c nh ch w2 (by rw [S3.out.below.tape]; exact HF.out) (.inl ⟨rfl, rfl⟩) W3.out S3.out.below.size (by rw [LP.out]; omega) hlt hix hvl LK.out (by omega) ZB.out (SB.out.below S3.out.below BB.out) BB.out LH.out (by omega) ZC.out (SC.out.below S3.out.below BC.out) BC.out).mono ?_
    rintro e w3 ⟨rfl, h1, ev, h2, h3⟩
    have S4 := hideT (S3.out.trans h1)
    have W4 := hideT h2
    have E4 := hideT h3
    clear h1 h2 h3 S3 W3
    go_wp2_with fail
    refine (zzbytes_any w.heap.size B _ ev w3 W4.out (by simp [stored, be_length]; omega)).mono ?_
    rintro e w4 ⟨g, cg, rfl, hcg, hat, hw4⟩
    subst hw4
    have AT := hideT hat
    have CG := hideT hcg
    clear hat hcg
    generalize eL : (ps ++ stored st lt model ix nk ks ex vl ha nh hs).length = L at *
    have EL := hideT eL
    clear eL
    go_wp2_with fail
    refine (errset_any w.heap.size B _ ev _ w4 W4.out E4.out).mono ?_
    rintro e w5 ⟨rfl, hw5⟩
    subst hw5
    clear W4 E4
    generalize eE : (false || overD model nk || decide (top 1 < nh)) = eb
    obtain ⟨p1, p2, p3, p4, p5, p6, p7, hpos, a0, a1, a2, a3, a4, a5, a6, a7, a8⟩ := parts_of AT.out EL.out LP.out LH.out hha
    have A0 := hideT a0
    have A1 := hideT a1
    have A2 := hideT a2
    have A3 := hideT a3
    have A4 := hideT a4
    have A5 := hideT a5
    have A6 := hideT a6
    have A7 := hideT a7
    have A8 := hideT a8
    have PS := hideT hpos
    have EE := hideT eE
    clear a0 a1 a2 a3 a4 a5 a6 a7 a8 hpos eE AT EL
    have hnpL : np ≤ L := by have := PS.out; omega
    have hnpc : np ≤ cg := by have := CG.out; omega
    have hLb : L ≤ 4194304 := by
      have := PS.out
      have := be_bound model ix nk ks LK.out
      omega
    cases hA : (model.toList == [65, 82, 82, 65, 89])
    · have EA : Hid (isA model = false) := hA
      cases hD : (model.toList == [68, 73, 67, 84, 73, 79, 78, 65, 82, 89])
      · have ED : Hid (isD model = false) := hD
        by_cases hh : nh ≤ 255
        · have e1 : eb = false := by
            have := EE.out
            simp [overD, EA.out, ED.out, top] at this
            rw [← this]
            simp; omega
          subst e1
          have hdf : decide ((nh : Int) ≤ 255) = true := by simp; omega
          have hz : (L : Int) = (np : Int) + 8 + 4 + 0 + 1 + 4 + 1 + 1 + (nh : Int) := by
            have := PS.out
            have : (place model ix nk ks).length = 0 := by simp [place, EA.out, ED.out]
            omega
          have hp3 : p3 = p2 := by
            have := PS.out
            have : (place model ix nk ks).length = 0 := by simp [place, EA.out, ED.out]
            omega
          subst hp3
          go_wp2_with fail
          clear hz
          refine (sameBytes_any g cg a np cp ps w5 LP.out (by omega) A0.out (SA.out.below S4.out.below BA.out)).mono ?_
          rintro e w6 ⟨rfl, q, hw6⟩
          have S6 : Hid (Below w.heap.size w w6) := by rw [hw6]; exact below_drewN S4.out.below
          have B1 : Hid (At w6 g np (be 8 st)) := by rw [hw6]; exact A1.out.drewN q
          have B2 : Hid (At w6 g p1 (be 4 lt)) := by rw [hw6]; exact A2.out.drewN q
          have B3 : Hid (At w6 g p3 (place model ix nk ks)) := by rw [hw6]; exact A3.out.drewN q
          have B4 : Hid (At w6 g p3 (be 1 (bit ex))) := by rw [hw6]; exact A4.out.drewN q
          have B5 : Hid (At w6 g p4 (be 4 vl)) := by rw [hw6]; exact A5.out.drewN q
          have B6 : Hid (At w6 g p5 (be 1 ha)) := by rw [hw6]; exact A6.out.drewN q
          have B7 : Hid (At w6 g p6 (be 1 nh)) := by rw [hw6]; have := A7.out.drewN q; unfold lenOf at this; rwa [if_pos (by simp [top]; omega)] at this
          have B8 : Hid (At w6 g p7 hs) := by rw [hw6]; exact A8.out.drewN q
          clear hw6 A0 A1 A2 A3 A4 A5 A6 A7 A8 S4
          go_wp2_with fail
          refine (read_be g L cg np p1 8 st w6 (by simpa using hst) (by omega) (by have := PS.out; omega) (by have := PS.out; omega) (by omega) B1.out).mono ?_
          rintro e w7 ⟨rfl, hw7⟩
          have hw8 := hw7.symm
          subst hw8
          clear hw7
          go_wp2_with fail
          refine (read_be g L cg p1 p3 4 lt w6 (by simpa using hlt) (by omega) (by have := PS.out; omega) (by have := PS.out; omega) (by omega) B2.out).mono ?_
          rintro e w7 ⟨rfl, hw7⟩
          have hw8 := hw7.symm
          subst hw8
          clear hw7
          cases ex
          · have BE : Hid (At w6 g p3 (be 1 0)) := B4
            go_wp2_with fail
            refine (read_be g L cg p3 p4 1 0 w6 (by decide) (by omega) (by have := PS.out; omega) (by have := PS.out; omega) (by omega) BE.out).mono ?_
            rintro e w9 ⟨rfl, hw7⟩
            have hw8 := hw7.symm
            subst hw8
            clear hw7
            go_wp2_with fail
            refine (read_be g L cg p4 p5 4 vl w6 (by simpa using hvl) (by omega) (by have := PS.out; omega) (by have := PS.out; omega) (by omega) B5.out).mono ?_
            rintro e w9 ⟨rfl, hw7⟩
            have hw8 := hw7.symm
            subst hw8
            clear hw7
            go_wp2_with fail
            refine (read_be g L cg p5 p6 1 ha w6 (by simpa using hha) (by omega) (by have := PS.out; omega) (by have := PS.out; omega) (by omega) B6.out).mono ?_
            rintro e w9 ⟨rfl, hw7⟩
            have hw8 := hw7.symm
            subst hw8
            clear hw7
            go_wp2_with fail
            refine (read_be g L cg p6 p7 1 nh w6 (by simp; omega) (by omega) (by have := PS.out; omega) (by have := PS.out; omega) (by omega) B7.out).mono ?_
            rintro e w9 ⟨rfl, hw7⟩
            have hw8 := hw7.symm
            subst hw8
            clear hw7
            go_wp2_with fail
            refine (read_bs g L cg p7 L c nh ch hs w6 LH.out (by have := PS.out; omega) (by omega) (by omega) B8.out (SC.out.below S6.out BC.out)).mono ?_
            rintro e w10 ⟨rfl, q10, hw10⟩
            have S10 : Hid (Below w.heap.size w w10) := by rw [hw10]; exact below_drewN S6.out
            clear hw10 B4 B5 B6 B7 B8 BE S6
            go_wp2_with fail
            go_ret
            exact ⟨rfl, S10.out⟩
          · have BE : Hid (At w6 g p3 (be 1 1)) := B4
            go_wp2_with fail
            refine (read_be g L cg p3 p4 1 1 w6 (by decide) (by omega) (by have := PS.out; omega) (by have := PS.out; omega) (by omega) BE.out).mono ?_
            rintro e w9 ⟨rfl, hw7⟩
            have hw8 := hw7.symm
            subst hw8
            clear hw7
            go_wp2_with fail
            refine (read_be g L cg p4 p5 4 vl w6 (by simpa using hvl) (by omega) (by have := PS.out; omega) (by have := PS.out; omega) (by omega) B5.out).mono ?_
            rintro e w9 ⟨rfl, hw7⟩
            have hw8 := hw7.symm
            subst hw8
            clear hw7
            go_wp2_with fail
            refine (read_be g L cg p5 p6 1 ha w6 (by simpa using hha) (by omega) (by have := PS.out; omega) (by have := PS.out; omega) (by omega) B6.out).mono ?_
            rintro e w9 ⟨rfl, hw7⟩
            have hw8 := hw7.symm
            subst hw8
            clear hw7
            go_wp2_with fail
            refine (read_be g L cg p6 p7 1 nh w6 (by simp; omega) (by omega) (by have := PS.out; omega) (by have := PS.out; omega) (by omega) B7.out).mono ?_
            rintro e w9 ⟨rfl, hw7⟩
            have hw8 := hw7.symm
            subst hw8
            clear hw7
            go_wp2_with fail
            refine (read_bs g L cg p7 L c nh ch hs w6 LH.out (by have := PS.out; omega) (by omega) (by omega) B8.out (SC.out.below S6.out BC.out)).mono ?_
            rintro e w10 ⟨rfl, q10, hw10⟩
            have S10 : Hid (Below w.heap.size w w10) := by rw [hw10]; exact below_drewN S6.out
            clear hw10 B4 B5 B6 B7 B8 BE S6
            go_wp2_with fail
            go_ret
            exact ⟨rfl, S10.out⟩
        · have e1 : eb = true := by
            have := EE.out
            simp [overD, EA.out, ED.out, top] at this
            rw [← this]
            simp; omega
          subst e1
          have hdf : decide ((nh : Int) ≤ 255) = false := by simp; omega
          have hz : (L : Int) = (np : Int) + 8 + 4 + 0 + 1 + 4 + 1 + 1 + (nh : Int) := by
            have := PS.out
            have : (place model ix nk ks).length = 0 := by simp [place, EA.out, ED.out]
            omega
          go_wp2_with fail
          clear hz
          refine (sameBytes_any g cg a np cp ps w5 LP.out (by omega) A0.out (SA.out.below S4.out.below BA.out)).mono ?_
          rintro e w6 ⟨rfl, q, hw6⟩
          have S6 : Hid (Below w.heap.size w w6) := by rw [hw6]; exact below_drewN S4.out.below
          clear hw6
          go_wp2_with fail
          go_ret
          exact ⟨rfl, S6.out⟩
      · have ED : Hid (isD model = true) := hD
        by_cases hk : nk ≤ 65535
        · by_cases hh : nh ≤ 255
          · have e1 : eb = false := by
              have := EE.out
              rw [← this]
              unfold overD top
              rw [EA.out, ED.out, show decide (2 ^ (8 * 2) - 1 < nk) = false by simp; omega]
              rw [show decide (2 ^ (8 * 1) - 1 < nh) = false by simp; omega]
              rfl
            subst e1
            have hdf : decide ((nh : Int) ≤ 255) = true := by simp; omega
            have hdk : decide (65535 < (nk : Int)) = false := by simp; omega
            have hz : (L : Int) = (np : Int) + 8 + 4 + (2 + (nk : Int)) + 1 + 4 + 1 + 1 + (nh : Int) := by
              have := PS.out
              have : (place model ix nk ks).length = 2 + nk := by simp [place, EA.out, ED.out, be_length, LK.out]
              omega
            go_wp2_with fail
            clear hz
            refine (sameBytes_any g cg a np cp ps w5 LP.out (by omega) A0.out (SA.out.below S4.out.below BA.out)).mono ?_
            rintro e w6 ⟨rfl, q, hw6⟩
            have S6 : Hid (Below w.heap.size w w6) := by rw [hw6]; exact below_drewN S4.out.below
            have B1 : Hid (At w6 g np (be 8 st)) := by rw [hw6]; exact A1.out.drewN q
            have B2 : Hid (At w6 g p1 (be 4 lt)) := by rw [hw6]; exact A2.out.drewN q
            have B3 : Hid (At w6 g p2 (place model ix nk ks)) := by rw [hw6]; exact A3.out.drewN q
            have B4 : Hid (At w6 g p3 (be 1 (bit ex))) := by rw [hw6]; exact A4.out.drewN q
            have B5 : Hid (At w6 g p4 (be 4 vl)) := by rw [hw6]; exact A5.out.drewN q
            have B6 : Hid (At w6 g p5 (be 1 ha)) := by rw [hw6]; exact A6.out.drewN q
            have B7 : Hid (At w6 g p6 (be 1 nh)) := by rw [hw6]; have := A7.out.drewN q; unfold lenOf at this; rwa [if_pos (by simp [top]; omega)] at this
            have B8 : Hid (At w6 g p7 hs) := by rw [hw6]; exact A8.out.drewN q
            clear hw6 A0 A1 A2 A3 A4 A5 A6 A7 A8 S4
            have b3 : At w6 g p2 (be 2 nk ++ ks) := by have := B3.out; unfold place lenOf at this; rw [EA.out, ED.out, if_pos (show nk ≤ top 2 by simp [top]; omega)] at this; exact this
            obtain ⟨b3a, b3b⟩ := b3.split
            rw [be_length] at b3b
            obtain ⟨pk, hpk⟩ : ∃ pk, p2 + 2 = pk := ⟨_, rfl⟩
            rw [hpk] at b3b
            have C1 := hideT b3a
            have C2 := hideT b3b
            have hp3 : Hid (pk + nk = p3) := by have := PS.out; have : (place model ix nk ks).length = 2 + nk := by simp [place, EA.out, ED.out, be_length, LK.out]
                                                show _ = _; omega
            have HPK := hideT hpk
            have hpkL : pk ≤ L := by have := PS.out; have := hp3.out; omega
            clear b3 b3a b3b hpk
            go_wp2_with fail
            refine (read_be g L cg np p1 8 st w6 (by simpa using hst) (by omega) (by have := PS.out; omega) (by have := PS.out; omega) (by omega) B1.out).mono ?_
            rintro e w7 ⟨rfl, hw7⟩
            have hw8 := hw7.symm
            subst hw8
            clear hw7
            go_wp2_with fail
            refine (read_be g L cg p1 p2 4 lt w6 (by simpa using hlt) (by omega) (by have := PS.out; omega) (by have := PS.out; omega) (by omega) B2.out).mono ?_
            rintro e w7 ⟨rfl, hw7⟩
            have hw8 := hw7.symm
            subst hw8
            clear hw7
            go_wp2_with fail
            refine (read_be g L cg p2 pk 2 nk w6 (by simp; omega) (by omega) HPK.out hpkL (by omega) C1.out).mono ?_
            rintro e w7 ⟨rfl, hw7⟩
            have hw8 := hw7.symm
            subst hw8
            clear hw7
            go_wp2_with fail
            refine (read_bs g L cg pk p3 b nk ck ks w6 LK.out hp3.out (by have := PS.out; omega) (by omega) C2.out (SB.out.below S6.out BB.out)).mono ?_
            rintro e w11 ⟨rfl, q11, hw11⟩
            have S11 : Hid (Below w.heap.size w w11) := by rw [hw11]; exact below_drewN S6.out
            have G4 : Hid (At w11 g p3 (be 1 (bit ex))) := by rw [hw11]; exact B4.out.drewN q11
            have G5 : Hid (At w11 g p4 (be 4 vl)) := by rw [hw11]; exact B5.out.drewN q11
            have G6 : Hid (At w11 g p5 (be 1 ha)) := by rw [hw11]; exact B6.out.drewN q11
            have G7 : Hid (At w11 g p6 (be 1 nh)) := by rw [hw11]; exact B7.out.drewN q11
            have G8 : Hid (At w11 g p7 hs) := by rw [hw11]; exact B8.out.drewN q11
            clear hw11 B1 B2 B3 B4 B5 B6 B7 B8 S6 C1 C2 w6
            cases ex
            · have BE : Hid (At w11 g p3 (be 1 0)) := G4
              go_wp2_with fail
              refine (read_be g L cg p3 p4 1 0 w11 (by decide) (by omega) (by have := PS.out; omega) (by have := PS.out; omega) (by omega) BE.out).mono ?_
              rintro e w9 ⟨rfl, hw7⟩
              have hw8 := hw7.symm
              subst hw8
              clear hw7
              go_wp2_with fail
              refine (read_be g L cg p4 p5 4 vl w11 (by simpa using hvl) (by omega) (by have := PS.out; omega) (by have := PS.out; omega) (by omega) G5.out).mono ?_
              rintro e w9 ⟨rfl, hw7⟩
              have hw8 := hw7.symm
              subst hw8
              clear hw7
              go_wp2_with fail
              refine (read_be g L cg p5 p6 1 ha w11 (by simpa using hha) (by omega) (by have := PS.out; omega) (by have := PS.out; omega) (by omega) G6.out).mono ?_
              rintro e w9 ⟨rfl, hw7⟩
              have hw8 := hw7.symm
              subst hw8
              clear hw7
              go_wp2_with fail
              refine (read_be g L cg p6 p7 1 nh w11 (by simp; omega) (by omega) (by have := PS.out; omega) (by have := PS.out; omega) (by omega) G7.out).mono ?_
              rintro e w9 ⟨rfl, hw7⟩
              have hw8 := hw7.symm
              subst hw8
              clear hw7
              go_wp2_with fail
              refine (read_bs g L cg p7 L c nh ch hs w11 LH.out (by have := PS.out; omega) (by omega) (by omega) G8.out (SC.out.below S11.out BC.out)).mono ?_
              rintro e w10 ⟨rfl, q10, hw10⟩
              have S10 : Hid (Below w.heap.size w w10) := by rw [hw10]; exact below_drewN S11.out
              clear hw10 G4 G5 G6 G7 G8 BE S11
              go_wp2_with fail
              go_ret
              exact ⟨rfl, S10.out⟩
            · have BE : Hid (At w11 g p3 (be 1 1)) := G4
              go_wp2_with fail
              refine (read_be g L cg p3 p4 1 1 w11 (by decide) (by omega) (by have := PS.out; omega) (by have := PS.out; omega) (by omega) BE.out).mono ?_
              rintro e w9 ⟨rfl, hw7⟩
              have hw8 := hw7.symm
              subst hw8
              clear hw7
              go_wp2_with fail
              refine (read_be g L cg p4 p5 4 vl w11 (by simpa using hvl) (by omega) (by have := PS.out; omega) (by have := PS.out; omega) (by omega) G5.out).mono ?_
              rintro e w9 ⟨rfl, hw7⟩
              have hw8 := hw7.symm
              subst hw8
              clear hw7
              go_wp2_with fail
              refine (read_be g L cg p5 p6 1 ha w11 (by simpa using hha) (by omega) (by have := PS.out; omega) (by have := PS.out; omega) (by omega) G6.out).mono ?_
              rintro e w9 ⟨rfl, hw7⟩
              have hw8 := hw7.symm
              subst hw8
              clear hw7
              go_wp2_with fail
              refine (read_be g L cg p6 p7 1 nh w11 (by simp; omega) (by omega) (by have := PS.out; omega) (by have := PS.out; omega) (by omega) G7.out).mono ?_
              rintro e w9 ⟨rfl, hw7⟩
              have hw8 := hw7.symm
              subst hw8
              clear hw7
              go_wp2_with fail
              refine (read_bs g L cg p7 L c nh ch hs w11 LH.out (by have := PS.out; omega) (by omega) (by omega) G8.out (SC.out.below S11.out BC.out)).mono ?_
              rintro e w10 ⟨rfl, q10, hw10⟩
              have S10 : Hid (Below w.heap.size w w10) := by rw [hw10]; exact below_drewN S11.out
              clear hw10 G4 G5 G6 G7 G8 BE S11
              go_wp2_with fail
              go_ret
              exact ⟨rfl, S10.out⟩
          · have e1 : eb = true := by
              have := EE.out
              rw [← this]
              unfold overD top
              rw [EA.out, ED.out, show decide (2 ^ (8 * 2) - 1 < nk) = false by simp; omega]
              rw [show decide (2 ^ (8 * 1) - 1 < nh) = true by simp; omega]
              rfl
            subst e1
            have hdf : decide ((nh : Int) ≤ 255) = false := by simp; omega
            have hdk : decide (65535 < (nk : Int)) = false := by simp; omega
            have hz : (L : Int) = (np : Int) + 8 + 4 + (2 + (nk : Int)) + 1 + 4 + 1 + 1 + (nh : Int) := by
              have := PS.out
              have : (place model ix nk ks).length = 2 + nk := by simp [place, EA.out, ED.out, be_length, LK.out]
              omega
            go_wp2_with fail
            clear hz
            refine (sameBytes_any g cg a np cp ps w5 LP.out (by omega) A0.out (SA.out.below S4.out.below BA.out)).mono ?_
            rintro e w6 ⟨rfl, q, hw6⟩
            have S6 : Hid (Below w.heap.size w w6) := by rw [hw6]; exact below_drewN S4.out.below
            clear hw6
            go_wp2_with fail
            go_ret
            exact ⟨rfl, S6.out⟩
        · have e1 : eb = true := by
            have := EE.out
            rw [← this]
            unfold overD top
            rw [EA.out, ED.out, show decide (2 ^ (8 * 2) - 1 < nk) = true by simp; omega]
            simp
          subst e1
          have hdk : decide (65535 < (nk : Int)) = true := by simp; omega
          have hz : (L : Int) = (np : Int) + 8 + 4 + (2 + (nk : Int)) + 1 + 4 + 1 + 1 + (nh : Int) := by
            have := PS.out
            have : (place model ix nk ks).length = 2 + nk := by simp [place, EA.out, ED.out, be_length, LK.out]
            omega
          go_wp2_with fail
          clear hz
          refine (sameBytes_any g cg a np cp ps w5 LP.out (by omega) A0.out (SA.out.below S4.out.below BA.out)).mono ?_
          rintro e w6 ⟨rfl, q, hw6⟩
          have S6 : Hid (Below w.heap.size w w6) := by rw [hw6]; exact below_drewN S4.out.below
          clear hw6
          go_wp2_with fail
          go_ret
          exact ⟨rfl, S6.out⟩
    · have hD := not_both hA
      have EA : Hid (isA model = true) := hA
      have ED : Hid (isD model = false) := hD
      by_cases hh : nh ≤ 255
      · have e1 : eb = false := by
          have := EE.out
          simp [overD, EA.out, top] at this
          rw [← this]
          simp; omega
        subst e1
        have hdf : decide ((nh : Int) ≤ 255) = true := by simp; omega
        have hz : (L : Int) = (np : Int) + 8 + 4 + 4 + 1 + 4 + 1 + 1 + (nh : Int) := by
          have := PS.out
          have : (place model ix nk ks).length = 4 := by simp [place, EA.out, be_length]
          omega
        go_wp2_with fail
        clear hz
        refine (sameBytes_any g cg a np cp ps w5 LP.out (by omega) A0.out (SA.out.below S4.out.below BA.out)).mono ?_
        rintro e w6 ⟨rfl, q, hw6⟩
        have S6 : Hid (Below w.heap.size w w6) := by rw [hw6]; exact below_drewN S4.out.below
        have B1 : Hid (At w6 g np (be 8 st)) := by rw [hw6]; exact A1.out.drewN q
        have B2 : Hid (At w6 g p1 (be 4 lt)) := by rw [hw6]; exact A2.out.drewN q
        have B3 : Hid (At w6 g p2 (place model ix nk ks)) := by rw [hw6]; exact A3.out.drewN q
        have B4 : Hid (At w6 g p3 (be 1 (bit ex))) := by rw [hw6]; exact A4.out.drewN q
        have B5 : Hid (At w6 g p4 (be 4 vl)) := by rw [hw6]; exact A5.out.drewN q
        have B6 : Hid (At w6 g p5 (be 1 ha)) := by rw [hw6]; exact A6.out.drewN q
        have B7 : Hid (At w6 g p6 (be 1 nh)) := by rw [hw6]; have := A7.out.drewN q; unfold lenOf at this; rwa [if_pos (by simp [top]; omega)] at this
        have B8 : Hid (At w6 g p7 hs) := by rw [hw6]; exact A8.out.drewN q
        clear hw6 A0 A1 A2 A3 A4 A5 A6 A7 A8 S4
        have B3' : Hid (At w6 g p2 (be 4 ix)) := by have := B3.out; simp [place, EA.out] at this; exact this
        have hp3 : Hid (p2 + 4 = p3) := by have := PS.out; have : (place model ix nk ks).length = 4 := by simp [place, EA.out, be_length]
                                           show _ = _; omega
        go_wp2_with fail
        refine (read_be g L cg np p1 8 st w6 (by simpa using hst) (by omega) (by have := PS.out; omega) (by have := PS.out; omega) (by omega) B1.out).mono ?_
        rintro e w7 ⟨rfl, hw7⟩
        have hw8 := hw7.symm
        subst hw8
        clear hw7
        go_wp2_with fail
        refine (read_be g L cg p1 p2 4 lt w6 (by simpa using hlt) (by omega) (by have := PS.out; omega) (by have := PS.out; omega) (by omega) B2.out).mono ?_
        rintro e w7 ⟨rfl, hw7⟩
        have hw8 := hw7.symm
        subst hw8
        clear hw7
        go_wp2_with fail
        refine (read_be g L cg p2 p3 4 ix w6 (by simpa using hix) (by omega) hp3.out (by have := PS.out; omega) (by omega) B3'.out).mono ?_
        rintro e w7 ⟨rfl, hw7⟩
        have hw8 := hw7.symm
        subst hw8
        clear hw7
        cases ex
        · have BE : Hid (At w6 g p3 (be 1 0)) := B4
          go_wp2_with fail
          refine (read_be g L cg p3 p4 1 0 w6 (by decide) (by omega) (by have := PS.out; omega) (by have := PS.out; omega) (by omega) BE.out).mono ?_
          rintro e w9 ⟨rfl, hw7⟩
          have hw8 := hw7.symm
          subst hw8
          clear hw7
          go_wp2_with fail
          refine (read_be g L cg p4 p5 4 vl w6 (by simpa using hvl) (by omega) (by have := PS.out; omega) (by have := PS.out; omega) (by omega) B5.out).mono ?_
          rintro e w9 ⟨rfl, hw7⟩
          have hw8 := hw7.symm
          subst hw8
          clear hw7
          go_wp2_with fail
          refine (read_be g L cg p5 p6 1 ha w6 (by simpa using hha) (by omega) (by have := PS.out; omega) (by have := PS.out; omega) (by omega) B6.out).mono ?_
          rintro e w9 ⟨rfl, hw7⟩
          have hw8 := hw7.symm
          subst hw8
          clear hw7
          go_wp2_with fail
          refine (read_be g L cg p6 p7 1 nh w6 (by simp; omega) (by omega) (by have := PS.out; omega) (by have := PS.out; omega) (by omega) B7.out).mono ?_
          rintro e w9 ⟨rfl, hw7⟩
          have hw8 := hw7.symm
          subst hw8
          clear hw7
          go_wp2_with fail
          refine (read_bs g L cg p7 L c nh ch hs w6 LH.out (by have := PS.out; omega) (by omega) (by omega) B8.out (SC.out.below S6.out BC.out)).mono ?_
          rintro e w10 ⟨rfl, q10, hw10⟩
          have S10 : Hid (Below w.heap.size w w10) := by rw [hw10]; exact below_drewN S6.out
          clear hw10 B4 B5 B6 B7 B8 BE S6
          go_wp2_with fail
          go_ret
          exact ⟨rfl, S10.out⟩
        · have BE : Hid (At w6 g p3 (be 1 1)) := B4
          go_wp2_with fail
          refine (read_be g L cg p3 p4 1 1 w6 (by decide) (by omega) (by have := PS.out; omega) (by have := PS.out; omega) (by omega) BE.out).mono ?_
          rintro e w9 ⟨rfl, hw7⟩
          have hw8 := hw7.symm
          subst hw8
          clear hw7
          go_wp2_with fail
          refine (read_be g L cg p4 p5 4 vl w6 (by simpa using hvl) (by omega) (by have := PS.out; omega) (by have := PS.out; omega) (by omega) B5.out).mono ?_
          rintro e w9 ⟨rfl, hw7⟩
          have hw8 := hw7.symm
          subst hw8
          clear hw7
          go_wp2_with fail
          refine (read_be g L cg p5 p6 1 ha w6 (by simpa using hha) (by omega) (by have := PS.out; omega) (by have := PS.out; omega) (by omega) B6.out).mono ?_
          rintro e w9 ⟨rfl, hw7⟩
          have hw8 := hw7.symm
          subst hw8
          clear hw7
          go_wp2_with fail
          refine (read_be g L cg p6 p7 1 nh w6 (by simp; omega) (by omega) (by have := PS.out; omega) (by have := PS.out; omega) (by omega) B7.out).mono ?_
          rintro e w9 ⟨rfl, hw7⟩
          have hw8 := hw7.symm
          subst hw8
          clear hw7
          go_wp2_with fail
          refine (read_bs g L cg p7 L c nh ch hs w6 LH.out (by have := PS.out; omega) (by omega) (by omega) B8.out (SC.out.below S6.out BC.out)).mono ?_
          rintro e w10 ⟨rfl, q10, hw10⟩
          have S10 : Hid (Below w.heap.size w w10) := by rw [hw10]; exact below_drewN S6.out
          clear hw10 B4 B5 B6 B7 B8 BE S6
          go_wp2_with fail
          go_ret
          exact ⟨rfl, S10.out⟩
      · have e1 : eb = true := by
          have := EE.out
          simp [overD, EA.out, top] at this
          rw [← this]
          simp; omega
        subst e1
        have hdf : decide ((nh : Int) ≤ 255) = false := by simp; omega
        have hz : (L : Int) = (np : Int) + 8 + 4 + 4 + 1 + 4 + 1 + 1 + (nh : Int) := by
          have := PS.out
          have : (place model ix nk ks).length = 4 := by simp [place, EA.out, be_length]
          omega
        go_wp2_with fail
        clear hz
        refine (sameBytes_any g cg a np cp ps w5 LP.out (by omega) A0.out (SA.out.below S4.out.below BA.out)).mono ?_
        rintro e w6 ⟨rfl, q, hw6⟩
        have S6 : Hid (Below w.heap.size w w6) := by rw [hw6]; exact below_drewN S4.out.below
        clear hw6
        go_wp2_with fail
        go_ret
        exact ⟨rfl, S6.out⟩
end Go.Proofs.Qxb6612223aFmt
