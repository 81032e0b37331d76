import Derived.Test.Qxb6612223aFmtPut
namespace Go.Proofs.Qxb6612223aFmt
open Go.RowKit

/-- A slice's address a leads to these bytes. -/
def Src (w : World) (a : Option Addr) (ns : List Nat) : Prop := ∀ i (h : i < ns.length), ∃ x, a = some x ∧ w.cell? (x.add i) = some (.int .u8 ((ns[i]'h : Nat) : Int))
theorem Src.news {w : World} {x : Addr} {ns : List Nat} (h : Src w (some x) ns) : ∀ j u, (asBytes ns)[j]? = some u → w.cell? (x.add j) = some u := fun j u hj => by
  have hl : j < ns.length := by rw [← asBytes_length]; exact (List.getElem?_eq_some_iff.1 hj).1
  obtain ⟨y, hy, hc⟩ := h j hl
  cases hy
  rw [asBytes_at ns j hl] at hj
  rw [hc, hj]
theorem Src.below {w w' : World} {a : Option Addr} {ns : List Nat} (h : Src w a ns) {base : Nat} (hb : Below base w w') (hk : ∀ x, a = some x → 0 < ns.length → x.block < base) : Src w' a ns := fun i hi => by
  obtain ⟨x, hx, hc⟩ := h i hi
  refine ⟨x, hx, ?_⟩
  have hbl : (x.add i).block = x.block := by unfold Addr.add; split <;> rfl
  rw [hb.cell (by rw [hbl]; exact hk x hx (by omega))]
  exact hc

set_option maxHeartbeats 1000000 in
theorem fixed_any (base B : Nat) (bs ns : List Nat) (ev : Value) (a : Option Addr) (n cap : Nat) (w : World) (hW : Wrt base B bs ev w) (hbase : base ≤ w.heap.size) (hl : bs.length ≤ 8388608) (hn : ns.length = n) (hn2 : n ≤ 8388608) (za : a = none → n = 0 ∧ cap = 0) (hS : Src w a ns) :
    Calls Tryf.prog 16 #[.pointer (some ⟨B, 0, none⟩), .slice a n cap] w fun e w' => e = .returned (.tuple #[]) ∧ Wrt base B (bs ++ ns) ev w' ∧ Steps base w w' := by
  obtain ⟨v, hB, ho, hb⟩ := hW
  obtain ⟨av, cv, rfl⟩ := slice_of_row ho
  have c0 := cell_of_row w B 0 _ 51 (0, 0) hB
  have f0 := frozen_of_row w B 0 _ 51 hB
  simp at c0
  have HB := hideT hB
  have HO := hideT ho
  clear hB ho
  rcases a with _ | x
  · obtain ⟨rfl, rfl⟩ := za rfl
    have e0 : ns = [] := List.eq_nil_of_length_eq_zero hn
    subst e0
    obtain ⟨i, hi, _⟩ := info_parts info5
    have HI := hideT hi
    clear hi
    have D : Hid (Wrt base B bs ev (w.setCell ⟨B, 0, none⟩ (.slice av bs.length cv)) ∧ Steps base w (w.setCell ⟨B, 0, none⟩ (.slice av bs.length cv))) := by
      refine ⟨⟨.slice av bs.length cv, ?_, ?_, hb⟩, (Steps.refl _ _).set HB.out (.inr rfl) hb⟩
      · exact heap_setCell_same w B 0 _ 51 _ HB.out
      · exact row_set HO.out HB.out (by decide)
    generalize bs.length = n at *
    go_enter Tryf.func16, Tryf.ntmps16
    go_wp2_with (at_builtin; refine wpList_append_own_none rfl (.tmp 8) (.tmp 9) 22 rfl base 5 i 1 Tryf.underlying22 HI.out _ n (asBytes bs) rfl HO.out rfl ?_)
    exact bodyPost_end (v := .tuple #[]) (by simp [results, Tryf.results16, go_sem]) rfl ⟨rfl, D.out.1, D.out.2⟩
  · have HN := hideT hS.news
    have HL : Hid ((asBytes ns).length = n) := by show _ = _; rw [asBytes_length]; exact hn
    have HE : Hid (ns.length = n) := hn
    generalize en : bs.length = m at *
    have EN : Hid (bs.length = m) := en
    clear en hn hS za
    go_enter Tryf.func16, Tryf.ntmps16
    go_wp2_with (at_builtin; refine app5 _ rfl (.tmp 8) (.tmp 9) rfl base _ m (asBytes bs) rfl HO.out x n cap (asBytes ns) rfl HL.out HN.out (asBytes_one ns) (by omega) hbase ?_; intro v' w2 ho2 hg2; obtain ⟨a', c', hv⟩ := slice_of_row ho2; subst hv; have B2 := box_kept HB.out HO.out hg2; have z0 := cell_of_row w2 B 0 _ 51 (0, 0) B2; have z1 := frozen_of_row w2 B 0 _ 51 B2; simp at z0; have GO := hideT ho2; have GG := hideT hg2; clear ho2 hg2 B2)
    have := put_done (news := ns) HB.out (by rw [EN.out]; exact HO.out) GG.out (by rw [EN.out, HE.out]; exact GO.out) hb hbase
    exact bodyPost_end (v := .tuple #[]) (by simp [results, Tryf.results16, go_sem]) rfl ⟨rfl, this.1, this.2⟩
end Go.Proofs.Qxb6612223aFmt
