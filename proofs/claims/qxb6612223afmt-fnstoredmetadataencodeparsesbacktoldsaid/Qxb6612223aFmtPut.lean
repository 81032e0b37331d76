import Derived.Test.Qxb6612223aFmtState
namespace Go.Proofs.Qxb6612223aFmt
open Go.RowKit

theorem slice_of_row {w : World} {base e size n : Nat} {v : Value} {xs : List Value} (h : w.ownsRow base e size v n xs) : ∃ a c, v = .slice a n c := by
  rcases h.2 with ⟨rfl, rfl⟩ | ⟨g, cap, cur, rfl, _⟩
  · exact ⟨none, 0, rfl⟩
  · exact ⟨_, cap, rfl⟩
theorem box_ne_row {W : World} {B base n : Nat} {c : Array Value} {v : Value} {xs : List Value} (hB : W.heap[B]? = some (.cells c 51 (0, 0))) (ho : W.ownsRow base 5 1 v n xs) : some B ≠ v.ownBlock := fun hh => by
  rcases ho.2 with ⟨rfl, _⟩ | ⟨g, cap, cur, rfl, _, hg1, _⟩
  · cases hh
  · cases hh
    rw [hg1] at hB
    cases hB
theorem row_set {w : World} {base e e' size n g o : Nat} {v u : Value} {xs : List Value} {c : Array Value} (h : w.ownsRow base e size v n xs) (hg : w.heap[g]? = some (.cells c e' (0, 0))) (hne : e ≠ e') : (w.setCell ⟨g, o, none⟩ u).ownsRow base e size v n xs := by
  refine ⟨h.1, ?_⟩
  rcases h.2 with h0 | ⟨g1, cap, cur, hv, hb1, hg1, rest⟩
  · exact .inl h0
  · refine .inr ⟨g1, cap, cur, hv, hb1, ?_, rest⟩
    rw [heap_setCell_other w ⟨g, o, none⟩ g1 u ?_]
    · exact hg1
    · intro hh
      change g1 = g at hh
      rw [hh, hg] at hg1
      cases hg1
      exact hne rfl
/-- Behind an append to the writer's bytes: the writer's block is as it was. -/
theorem box_kept {W W2 : World} {B base n : Nat} {c : Array Value} {v : Value} {xs : List Value} (hB : W.heap[B]? = some (.cells c 51 (0, 0))) (ho : W.ownsRow base 5 1 v n xs) (hg : W.grownBy W2 v.ownBlock) : W2.heap[B]? = some (.cells c 51 (0, 0)) :=
  (hg.block B (Array.getElem?_eq_some_iff.1 hB).1 (box_ne_row hB ho)).trans hB
/-- Append, then store: the writer has the bytes. -/
theorem put_done {W W2 : World} {base B : Nat} {bs news : List Nat} {v v' ev : Value} (hB : W.heap[B]? = some (.cells #[v, ev] 51 (0, 0))) (ho : W.ownsRow base 5 1 v bs.length (asBytes bs)) (hg : W.grownBy W2 v.ownBlock)
    (ho' : W2.ownsRow base 5 1 v' (bs.length + news.length) (asBytes bs ++ asBytes news)) (hb : base ≤ B) (hbw : base ≤ W.heap.size) :
    Wrt base B (bs ++ news) ev (W2.setCell ⟨B, 0, none⟩ v') ∧ Steps base W (W2.setCell ⟨B, 0, none⟩ v') := by
  have h2 := box_kept hB ho hg
  refine ⟨⟨v', ?_, ?_, hb⟩, ((Steps.refl _ _).grown hbw ho hg).set h2 (.inr rfl) hb⟩
  · exact heap_setCell_same W2 B 0 _ 51 v' h2
  · rw [List.length_append, asBytes_append]
    exact row_set ho' h2 (by decide)

/-- The library's law of append to a row of the call's own, at bytes. -/
theorem app5 (w : World) {ops : Array Oper} {rest : List Oper} {o : Oper} {a : Act} {Q : Exit → Act → World → Prop} (hgd : o.guard = none) (s x : Operand)
    (ho : o.op = .call { callee := .builtin .append, args := #[s, x], argTypes := #[22, 22] }) (base : Nat)
    (v : Value) (n : Nat) (xs : List Value) (hs : a.eval s = v) (hown : w.ownsRow base 5 1 v n xs)
    (ad : Addr) (m c : Nat) (news : List Value) (hx : a.eval x = .slice (some ad) m c) (hl : news.length = m) (hnews : ∀ j u, news[j]? = some u → w.cell? (ad.add j) = some u) (h1 : ∀ u ∈ news, u.oneCell' = true)
    (h63 : n + m ≤ 16777216) (hbase : base ≤ w.heap.size)
    (h : ∀ v' w', w'.ownsRow base 5 1 v' (n + m) (xs ++ news) → w.grownBy w' v.ownBlock → wpList Tryf.prog ops Q rest (a.put o.dst v') w') : wpList Tryf.prog ops Q (o :: rest) a w := by
  obtain ⟨i, hi, hz0, hz1, hz2⟩ := info_parts info5
  exact wpList_append_own w hgd s x 22 ho base 5 i _ 1 1 Tryf.underlying22 hi hz0 hz1 hz2 rfl (by decide) v n xs hs hown ad m c news hx (by omega) hnews h1 (by unfold maxLen; omega) (by omega) hbase (fun v' w' h2 h3 _ => h v' w' h2 h3)
theorem one_news (w : World) (x : Value) (t : TypeId) : ∀ j u, ([x] : List Value)[j]? = some u → (w.alloc (.cells #[x] t)).cell? ((⟨w.heap.size, 0, none⟩ : Addr).add j) = some u := fun j u hj => by
  rw [add_pl, Nat.zero_add, cell_of_row _ w.heap.size j #[x] t (0, 0) (heap_alloc_new w _)]
  simpa using hj

set_option maxHeartbeats 1000000 in
theorem uint8_any (base B : Nat) (bs : List Nat) (ev : Value) (b : Nat) (w : World) (hW : Wrt base B bs ev w) (hbase : base ≤ w.heap.size) (hl : bs.length ≤ 8388608) :
    Calls Tryf.prog 29 #[.pointer (some ⟨B, 0, none⟩), .int .u8 (b : Int)] w fun e w' => e = .returned (.tuple #[]) ∧ Wrt base B (bs ++ [b]) ev w' ∧ Steps base w w' := by
  obtain ⟨v, hB, ho, hb⟩ := hW
  obtain ⟨av, cv, rfl⟩ := slice_of_row ho
  have c0 := cell_of_row w B 0 _ 51 (0, 0) hB
  simp at c0
  have hBw : B < w.heap.size := block_lt_of_cell c0
  have HB : Hid ((w.alloc (.cells #[.int .u8 (b : Int)] 5)).heap[B]? = some (.cells #[.slice av bs.length cv, ev] 51 (0, 0))) := (Below.heap_alloc w _ B hBw).trans hB
  have HO : Hid ((w.alloc (.cells #[.int .u8 (b : Int)] 5)).ownsRow base 5 1 (.slice av bs.length cv) bs.length (asBytes bs)) := ho.alloc _
  have HS : Hid (base ≤ (w.alloc (.cells #[.int .u8 (b : Int)] 5)).heap.size) := by show _ ≤ _; simp; omega
  have HN := hideT (one_news w (.int .u8 (b : Int)) 5)
  have HT : Hid (Steps base w (w.alloc (.cells #[.int .u8 (b : Int)] 5))) := (Steps.refl _ _).alloc hbase _
  clear hB ho
  generalize en : bs.length = n at *
  have EN : Hid (bs.length = n) := en
  clear en
  go_enter Tryf.func29, Tryf.ntmps29
  go_wp2_with (at_builtin; refine app5 _ rfl (.tmp 8) (.tmp 10) rfl base _ n (asBytes bs) rfl HO.out ⟨w.heap.size, 0, none⟩ 1 1 [.int .u8 (b : Int)] rfl rfl HN.out (by simp [Value.oneCell']) (by omega) HS.out ?_; intro v' w2 ho2 hg2; obtain ⟨a', c', hv⟩ := slice_of_row ho2; subst hv; have B2 := box_kept HB.out HO.out hg2; have z0 := cell_of_row w2 B 0 _ 51 (0, 0) B2; have z1 := frozen_of_row w2 B 0 _ 51 B2; simp at z0; have GO := hideT ho2; have GG := hideT hg2; clear ho2 hg2 B2)
  have := put_done (news := [b]) HB.out (by rw [EN.out]; exact HO.out) GG.out (by rw [EN.out]; exact GO.out) hb HS.out
  exact bodyPost_end (v := .tuple #[]) (by simp [results, Tryf.results29, go_sem]) rfl ⟨rfl, this.1, HT.out.trans this.2⟩
end Go.Proofs.Qxb6612223aFmt
