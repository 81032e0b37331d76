import Derived.Test.Qxb6612223aFmtPlace
namespace Go.Proofs.Qxb6612223aFmt
open Go.RowKit Go.Extern.Stop Go.Stop Go.Extern

def bit (b : Bool) : Nat := if b then 1 else 0
theorem bool_any (b : Bool) (w : World) :
    Calls Tryf.prog 30 #[.bool b] w fun e w' => e = .returned (.int .u8 (bit b : Int)) ∧ w' = w := by
  cases b
  · go_enter Tryf.func30, Tryf.ntmps30
    go_wp2_with fail
    exact bodyPost_ret (v := .int .u8 0) (by simp [results, Tryf.results30, go_sem]) rfl ⟨rfl, rfl⟩
  · go_enter Tryf.func30, Tryf.ntmps30
    go_wp2_with fail
    exact bodyPost_ret (v := .int .u8 1) (by simp [results, Tryf.results30, go_sem]) rfl ⟨rfl, rfl⟩

/-- What a MetaData is on the wire. -/
def metaOf (ex : Bool) (vl ha n : Nat) (hs : List Nat) : List Nat := [bit ex] ++ be 4 vl ++ [ha] ++ (be 1 (lenOf 1 n) ++ hs)

set_option maxHeartbeats 1000000 in
theorem meta_any (F : Interp) (base B vl ha : Nat) (ex : Bool) (bs ns : List Nat) (ev : Value) (eb : Bool) (a : Option Addr) (n cap : Nat) (w : World) (hF : F.answers w.tape) (hE : ErrOk ev eb)
    (hW : Wrt base B bs ev w) (hbase : base ≤ w.heap.size) (hl : bs.length ≤ 4194200) (hv : vl < 4294967296) (hn : ns.length = n) (hn2 : n ≤ 4194304)
    (za : a = none → n = 0 ∧ cap = 0) (hS : Src w a ns) (hSb : ∀ x, a = some x → 0 < ns.length → x.block < base) :
    Calls Tryf.prog 27 #[.agg #[.bool ex, .int .u32 (vl : Int), .int .u8 (ha : Int), .slice a n cap], .pointer (some ⟨B, 0, none⟩)] w fun e w' => e = .returned (.tuple #[]) ∧ Steps base w w' ∧
      ∃ ev', Wrt base B (bs ++ metaOf ex vl ha n ns) ev' w' ∧ ErrOk ev' (eb || decide (top 1 < n)) := by
  have HF := hideT hF
  have HE := hideT hE
  have HS := hideT hS
  have HB := hideT hSb
  have HW := hideT hW
  have HN := hideT hn
  have HZ := hideT za
  clear hF hE hS hSb hW hn za
  go_enter Tryf.func27, Tryf.ntmps27
  go_wp2_with fail
  refine (bool_any ex _).mono ?_
  rintro e w1 ⟨rfl, rfl⟩
  generalize eW : w.alloc (.cells #[.bool ex, .int .u32 (vl : Int), .int .u8 (ha : Int), .slice a n cap] 38) = W
  have W1 : Hid (Wrt base B bs ev W) := by rw [← eW]; exact HW.out.alloc _
  have S1 : Hid (Steps base w W) := by rw [← eW]; exact (Steps.refl _ _).alloc hbase _
  have K1 : Hid (W.heap[w.heap.size]? = some (.cells #[.bool ex, .int .u32 (vl : Int), .int .u8 (ha : Int), .slice a n cap] 38 (0, 0))) := by rw [← eW]; exact heap_alloc_new w _
  have hb1 : Hid (base ≤ W.heap.size) := by rw [← eW]; show _ ≤ _; simp; omega
  clear eW
  generalize w.heap.size = K at *
  go_wp2_with fail
  refine (uint8_any base B bs ev (bit ex) W W1.out hb1.out (by omega)).mono ?_
  rintro e w2 ⟨rfl, h1, h2⟩
  have W2 := hideT h1
  have S2 := hideT (S1.out.trans h2)
  have K2 := hideT (h2.kept _ _ _ _ K1.out (by decide) (by decide))
  have hb2 : Hid (base ≤ w2.heap.size) := Nat.le_trans hb1.out h2.below.size
  have z := cell_of_row w2 K 1 _ 38 (0, 0) K2.out
  simp at z
  clear h1 h2 W1 S1 K1 hb1
  go_wp2_with fail
  clear z
  refine (uint32_any base B vl _ ev w2 W2.out hb2.out (by simp; omega) hv).mono ?_
  rintro e w3 ⟨rfl, h1, h2⟩
  have W3 := hideT h1
  have S3 := hideT (S2.out.trans h2)
  have K3 := hideT (h2.kept _ _ _ _ K2.out (by decide) (by decide))
  have hb3 : Hid (base ≤ w3.heap.size) := Nat.le_trans hb2.out h2.below.size
  have z := cell_of_row w3 K 2 _ 38 (0, 0) K3.out
  simp at z
  clear h1 h2 W2 S2 K2 hb2
  go_wp2_with fail
  clear z
  refine (uint8_any base B _ ev ha w3 W3.out hb3.out (by simp [be_length]; omega)).mono ?_
  rintro e w4 ⟨rfl, h1, h2⟩
  have W4 := hideT h1
  have S4 := hideT (S3.out.trans h2)
  have K4 := hideT (h2.kept _ _ _ _ K3.out (by decide) (by decide))
  have hb4 : Hid (base ≤ w4.heap.size) := Nat.le_trans hb3.out h2.below.size
  have z := cell_of_row w4 K 3 _ 38 (0, 0) K4.out
  simp at z
  clear h1 h2 W3 S3 K3 hb3
  go_wp2_with fail
  clear z
  refine (sliced_any F base B 1 _ ns ev eb a n cap w4 (by rw [S4.out.below.tape]; exact HF.out) HE.out (.inl rfl) W4.out hb4.out (by simp [be_length]; omega) HN.out hn2 HZ.out (HS.out.below S4.out.below HB.out) HB.out).mono ?_
  rintro e w5 ⟨rfl, h1, h2⟩
  have S5 := hideT (S4.out.trans h1)
  have L5 := hideT (h2.one HE.out)
  clear h1 h2 W4 S4 K4 hb4
  go_wp2_with fail
  refine bodyPost_end (v := .tuple #[]) (by simp [results, Tryf.results27, go_sem]) rfl ⟨rfl, S5.out, ?_⟩
  have := L5.out
  simp only [List.append_assoc] at this
  unfold metaOf
  simp only [List.append_assoc]
  exact this
end Go.Proofs.Qxb6612223aFmt
