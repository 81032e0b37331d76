import Derived.Test.Qxb6612223aFmtSame
namespace Go.Proofs.Qxb6612223aFmt
open Go.RowKit

set_option maxHeartbeats 1000000 in
theorem bytes_any (w : World) (a b c : Option Addr) (np cp nk ck nh ch : Nat) (v1 v2 v4 v6 v7 v8 : Value) (model : ByteArray) :
    Calls Tryf.prog 11 #[.slice a np cp, v1, v2, .string model, v4, .slice b nk ck, v6, v7, v8, .slice c nh ch] w fun e w' => ∃ r, e = .returned (.bool r) ∧ w' = w ∧ (r = true → np + model.size + nk + nh ≤ 1048576) := by
  go_enter Tryf.func11, Tryf.ntmps11
  go_wp2
  all_goals go_ret
  all_goals first | exact ⟨false, rfl, rfl, by simp⟩ | exact ⟨true, rfl, rfl, fun _ => by omega⟩

set_option maxHeartbeats 1000000 in
theorem start_any (a : Option Addr) (n cap : Nat) (ns : List Nat) (w : World) (base : Nat) (hbase : base ≤ w.heap.size) (hn : ns.length = n) (hn2 : n ≤ 8388608) (za : a = none → n = 0 ∧ cap = 0) (hS : Src w a ns) (hSb : ∀ x, a = some x → 0 < ns.length → x.block < base) :
    Calls Tryf.prog 5 #[.slice a n cap, .bool false] w fun e w' => e = .returned (.pointer (some ⟨w.heap.size, 0, none⟩)) ∧ Wrt base w.heap.size ns .nilIface w' ∧ Steps base w w' := by
  have hal : Steps base w (w.alloc (.cells #[.slice none 0 0, .nilIface] 51)) := (Steps.refl _ _).alloc hbase _
  have hW : Wrt base w.heap.size [] .nilIface (w.alloc (.cells #[.slice none 0 0, .nilIface] 51)) := ⟨_, heap_alloc_new w _, World.ownsRow_nil _ _ _ _, hbase⟩
  have Q := hideT (fixed_any base w.heap.size [] ns .nilIface a n cap _ hW (by simp; omega) (by simp) hn hn2 za (hS.below hal.below hSb))
  have HA := hideT hal
  clear hW hal hS hSb hn za
  go_enter Tryf.func5, Tryf.ntmps5
  go_wp2_with fail
  refine Q.out.mono ?_
  rintro e w1 ⟨rfl, h1, h2⟩
  have H1 := hideT h1
  have H2 := hideT (HA.out.trans h2)
  clear h1 h2 Q HA
  go_wp2_with fail
  go_ret
  exact ⟨rfl, by simpa using H1.out, H2.out⟩

theorem zzbytes_any (base B : Nat) (bs : List Nat) (ev : Value) (w : World) (hW : Wrt base B bs ev w) (h0 : 0 < bs.length) :
    Calls Tryf.prog 7 #[.pointer (some ⟨B, 0, none⟩)] w fun e w' => ∃ g c, e = .returned (.slice (some ⟨g, 0, none⟩) bs.length c) ∧ bs.length ≤ c ∧ At w g 0 bs ∧ w' = w := by
  obtain ⟨v, hB, ho, hb⟩ := hW
  have c0 := cell_of_row w B 0 _ 51 (0, 0) hB
  simp at c0
  rcases ho.2 with ⟨_, h1⟩ | ⟨g, cap, cur, rfl, h1, h2, h3, h4, h5, h6⟩
  · omega
  · have HA : Hid (At w g 0 bs) := fun i hi => by
      have := ho.cells (g := g) rfl i _ (asBytes_at bs i hi)
      rw [add_pl] at this
      exact this
    have HC : Hid (bs.length ≤ cap) := h3
    clear ho hB h2 h3 h4 h5 h6
    go_enter Tryf.func7, Tryf.ntmps7
    go_wp2_with fail
    go_ret
    exact ⟨g, cap, rfl, HC.out, HA.out, rfl⟩

theorem errset_any (base B : Nat) (bs : List Nat) (ev : Value) (eb : Bool) (w : World) (hW : Wrt base B bs ev w) (hE : ErrOk ev eb) :
    Calls Tryf.prog 8 #[.pointer (some ⟨B, 0, none⟩)] w fun e w' => e = .returned (.bool eb) ∧ w' = w := by
  obtain ⟨v, hB, ho, hb⟩ := hW
  have c0 := cell_of_row w B 1 _ 51 (0, 0) hB
  simp at c0
  clear hB ho
  rcases hE with ⟨rfl, rfl⟩ | ⟨rfl, p, rfl⟩
  · go_enter Tryf.func8, Tryf.ntmps8
    go_wp2_with fail
    go_ret
    exact ⟨rfl, rfl⟩
  · go_enter Tryf.func8, Tryf.ntmps8
    go_wp2_with fail
    go_ret
    exact ⟨rfl, rfl⟩
end Go.Proofs.Qxb6612223aFmt
