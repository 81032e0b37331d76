import Derived.Test.Qxb6612223aFmtMeta
namespace Go.Proofs.Qxb6612223aFmt
open Go.RowKit Go.Extern.Stop Go.Stop Go.Extern

/-- What is stored, on the wire. -/
def stored (st lt : Nat) (model : ByteArray) (ix nk : Nat) (ks : List Nat) (ex : Bool) (vl ha nh : Nat) (hs : List Nat) : List Nat :=
  be 8 st ++ be 4 lt ++ place model ix nk ks ++ metaOf ex vl ha nh hs

/-- Its nine cells. -/
def nine (st lt : Nat) (model : ByteArray) (ix : Nat) (a : Option Addr) (nk ck : Nat) (ex : Bool) (vl ha : Nat) (b : Option Addr) (nh ch : Nat) : Array Value :=
  #[.int .u64 (st : Int), .int .u32 (lt : Int), .string model, .int .u32 (ix : Int), .slice a nk ck, .bool ex, .int .u32 (vl : Int), .int .u8 (ha : Int), .slice b nh ch]

theorem be_bound (model : ByteArray) (ix n : Nat) (ks : List Nat) (h : ks.length = n) : (place model ix n ks).length ≤ n + 6 := by
  unfold place
  split
  · rw [be_length]; omega
  · split
    · rw [List.length_append, be_length, h]; omega
    · simp

set_option maxHeartbeats 1000000 in
theorem stored_any (F : Interp) (base B st lt : Nat) (model : ByteArray) (ix : Nat) (ex : Bool) (vl ha : Nat) (bs ks hs : List Nat) (ev : Value) (eb : Bool) (a : Option Addr) (nk ck : Nat) (b : Option Addr) (nh ch : Nat) (w : World) (hF : F.answers w.tape) (hE : ErrOk ev eb)
    (hW : Wrt base B bs ev w) (hbase : base ≤ w.heap.size) (hl : bs.length ≤ 2097152) (hlt : lt < 4294967296) (hix : ix < 4294967296) (hv : vl < 4294967296)
    (hn : ks.length = nk) (hn2 : nk ≤ 1048576) (za : a = none → nk = 0 ∧ ck = 0) (hS : Src w a ks) (hSb : ∀ x, a = some x → 0 < ks.length → x.block < base)
    (hm : hs.length = nh) (hm2 : nh ≤ 1048576) (zb : b = none → nh = 0 ∧ ch = 0) (hR : Src w b hs) (hRb : ∀ x, b = some x → 0 < hs.length → x.block < base) :
    Calls Tryf.prog 20 #[.agg (nine st lt model ix a nk ck ex vl ha b nh ch), .pointer (some ⟨B, 0, none⟩)] w fun e w' => e = .returned (.tuple #[]) ∧ Steps base w w' ∧
      ∃ ev', Wrt base B (bs ++ stored st lt model ix nk ks ex vl ha nh hs) ev' w' ∧ ErrOk ev' (eb || overD model nk || decide (top 1 < nh)) := by
  have HF := hideT hF
  have HE := hideT hE
  have HS := hideT hS
  have HB := hideT hSb
  have HR := hideT hR
  have HC := hideT hRb
  have HW := hideT hW
  have HN := hideT hn
  have HM := hideT hm
  have HZ := hideT za
  have HY := hideT zb
  have PB := hideT (be_bound model ix nk ks hn)
  clear hF hE hS hSb hR hRb hW hn hm za zb
  unfold nine
  go_enter Tryf.func20, Tryf.ntmps20
  go_wp2_with fail
  generalize eW : w.alloc _ = W
  have W1 : Hid (Wrt base B bs ev W) := by rw [← eW]; exact HW.out.alloc _
  have S1 : Hid (Steps base w W) := by rw [← eW]; exact (Steps.refl _ _).alloc hbase _
  have K1 : Hid (W.heap[w.heap.size]? = some (.cells (nine st lt model ix a nk ck ex vl ha b nh ch) 42 (0, 0))) := by rw [← eW]; exact heap_alloc_new w _
  have hb1 : Hid (base ≤ W.heap.size) := by rw [← eW]; show _ ≤ _; simp; omega
  clear eW
  generalize w.heap.size = K at *
  refine (uint64_any base B st bs ev W W1.out hb1.out (by omega)).mono ?_
  rintro e w2 ⟨rfl, h1, h2⟩
  have W2 := hideT h1
  have S2 := hideT (S1.out.trans h2)
  have K2 := hideT (h2.kept _ _ _ _ K1.out (by decide) (by decide))
  have hb2 : Hid (base ≤ w2.heap.size) := Nat.le_trans hb1.out h2.below.size
  have z := cell_of_row w2 K 1 _ 42 (0, 0) K2.out
  simp [nine] at z
  clear h1 h2 W1 S1 K1 hb1
  go_wp2_with fail
  clear z
  refine (uint32_any base B lt _ ev w2 W2.out hb2.out (by simp [be_length]; omega) hlt).mono ?_
  rintro e w3 ⟨rfl, h1, h2⟩
  have W3 := hideT h1
  have S3 := hideT (S2.out.trans h2)
  have K3 := hideT (h2.kept _ _ _ _ K2.out (by decide) (by decide))
  have hb3 : Hid (base ≤ w3.heap.size) := Nat.le_trans hb2.out h2.below.size
  have z2 := cell_of_row w3 K 2 _ 42 (0, 0) K3.out
  have z3 := cell_of_row w3 K 3 _ 42 (0, 0) K3.out
  have z4 := cell_of_row w3 K 4 _ 42 (0, 0) K3.out
  simp [nine] at z2 z3 z4
  clear h1 h2 W2 S2 K2 hb2
  go_wp2_with fail
  clear z2 z3 z4
  refine (place_any F base B ix model _ ks ev eb a nk ck w3 (by rw [S3.out.below.tape]; exact HF.out) HE.out W3.out hb3.out (by simp [be_length]; omega) hix HN.out (by omega) HZ.out (HS.out.below S3.out.below HB.out) HB.out).mono ?_
  rintro e w4 ⟨rfl, h1, ev4, h2, h3⟩
  have W4 := hideT h2
  have E4 := hideT h3
  have S4 := hideT (S3.out.trans h1)
  have K4 := hideT (h1.kept _ _ _ _ K3.out (by decide) (by decide))
  have hb4 : Hid (base ≤ w4.heap.size) := Nat.le_trans hb3.out h1.below.size
  have z5 := cell_of_row w4 K 5 _ 42 (0, 0) K4.out
  have z6 := cell_of_row w4 K 6 _ 42 (0, 0) K4.out
  have z7 := cell_of_row w4 K 7 _ 42 (0, 0) K4.out
  have z8 := cell_of_row w4 K 8 _ 42 (0, 0) K4.out
  simp [nine] at z5 z6 z7 z8
  clear h1 h2 h3 W3 S3 K3 hb3
  go_wp2_with fail
  clear z5 z6 z7 z8
  refine (meta_any F base B vl ha ex _ hs ev4 _ b nh ch w4 (by rw [S4.out.below.tape]; exact HF.out) E4.out W4.out hb4.out (by have := PB.out; simp [be_length]; omega) hv HM.out (by omega) HY.out (HR.out.below S4.out.below HC.out) HC.out).mono ?_
  rintro e w5 ⟨rfl, h1, h2⟩
  have S5 := hideT (S4.out.trans h1)
  have L5 := hideT h2
  clear h1 h2 W4 S4 K4 hb4
  go_wp2_with fail
  refine bodyPost_end (v := .tuple #[]) (by simp [results, Tryf.results20, go_sem]) rfl ⟨rfl, S5.out, ?_⟩
  have := L5.out
  simp only [List.append_assoc] at this
  unfold stored
  simp only [List.append_assoc]
  exact this

set_option maxHeartbeats 1000000 in
theorem encode_any (F : Interp) (base B st lt : Nat) (model : ByteArray) (ix : Nat) (ex : Bool) (vl ha : Nat) (bs ks hs : List Nat) (ev : Value) (eb : Bool) (a : Option Addr) (nk ck : Nat) (b : Option Addr) (nh ch : Nat) (w : World) (hF : F.answers w.tape) (hE : ErrOk ev eb)
    (hW : Wrt base B bs ev w) (hbase : base ≤ w.heap.size) (hl : bs.length ≤ 2097152) (hlt : lt < 4294967296) (hix : ix < 4294967296) (hv : vl < 4294967296)
    (hn : ks.length = nk) (hn2 : nk ≤ 1048576) (za : a = none → nk = 0 ∧ ck = 0) (hS : Src w a ks) (hSb : ∀ x, a = some x → 0 < ks.length → x.block < base)
    (hm : hs.length = nh) (hm2 : nh ≤ 1048576) (zb : b = none → nh = 0 ∧ ch = 0) (hR : Src w b hs) (hRb : ∀ x, b = some x → 0 < hs.length → x.block < base) :
    Calls Tryf.prog 13 #[.agg (nine st lt model ix a nk ck ex vl ha b nh ch), .pointer (some ⟨B, 0, none⟩)] w fun e w' => e = .returned (.tuple #[]) ∧ Steps base w w' ∧
      ∃ ev', Wrt base B (bs ++ stored st lt model ix nk ks ex vl ha nh hs) ev' w' ∧ ErrOk ev' (eb || overD model nk || decide (top 1 < nh)) := by
  have hal : Steps base w (w.alloc (.cells (nine st lt model ix a nk ck ex vl ha b nh ch) 42)) := (Steps.refl _ _).alloc hbase _
  have Q := hideT (stored_any F base B st lt model ix ex vl ha bs ks hs ev eb a nk ck b nh ch (w.alloc (.cells (nine st lt model ix a nk ck ex vl ha b nh ch) 42)) hF hE (hW.alloc _) (by simp; omega) hl hlt hix hv hn hn2 za (hS.below hal.below hSb) hSb hm hm2 zb (hR.below hal.below hRb) hRb)
  have HA := hideT hal
  clear hF hE hS hSb hR hRb hW hn hm za zb hal
  unfold nine at *
  go_enter Tryf.func13, Tryf.ntmps13
  go_wp2_with fail
  refine Q.out.mono ?_
  rintro e w5 ⟨rfl, h1, h2⟩
  have S5 := hideT (HA.out.trans h1)
  have L5 := hideT h2
  clear h1 h2 Q
  go_wp2_with fail
  exact bodyPost_end (v := .tuple #[]) (by simp [results, Tryf.results13, go_sem]) rfl ⟨rfl, S5.out, L5.out⟩
end Go.Proofs.Qxb6612223aFmt
