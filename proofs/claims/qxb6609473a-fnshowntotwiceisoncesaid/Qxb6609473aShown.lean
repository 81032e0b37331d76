import Derived.Test.Qxb6609473aParts
import Derived.Deep.DeepCutAuto
import Derived.Deep.RegionHeld3
namespace Go.Proofs.Qxb6609473a.Shown
open Go.RowKit

set_option maxHeartbeats 400000 in
theorem shown_pub (kind : ByteArray) (a1 a2 : Option Addr) (nf c1 np c2 : Nat) (f : Value) (w : World) :
    Calls Try.prog 19 #[.agg #[.string kind, .slice a1 nf c1, .slice a2 np c2, .bool true], f] w fun e w' => e = .returned (.tuple #[.agg #[.string kind, .slice a1 nf c1, .slice a2 np c2, .bool true], .bool true]) ∧ Below w.heap.size w w' := by
  go_enter Try.func19, Try.ntmps19
  go_wp2
  exact bodyPost_ret (v := .tuple #[.agg #[.string kind, .slice a1 nf c1, .slice a2 np c2, .bool true], .bool true]) (by simp [results, Try.results19, go_sem]) rfl
    ⟨rfl, ((Below.refl _ w).alloc (Nat.le_refl _) _).alloc (by simp) _⟩

theorem hideT {p : Prop} (h : p) : Hid p := h
/-- What ShownTo hands back for a record that is not public. -/
structure Good (ms : List ByteArray) (ps fs : List (Value × Value)) (hs : Nat) (kind : ByteArray) (v1 v2 : Value) (nf : Nat) (k' v1' v2' : Value) (p' ok : Bool) (w' : World) : Prop where
  isok : ok = ps.any (mineP ms)
  whole : ok = true → k' = .string kind ∧ p' = false ∧ ∃ a1 c1 fs' a2 c2 qs, v1' = .slice a1 nf c1 ∧ v2' = .slice a2 qs.length c2 ∧ fs'.length = nf ∧ FieldsOk fs' ∧ Pairs w' a1 fs' ∧ (a1 = none → nf = 0 ∧ c1 = 0) ∧
    Pairs w' a2 qs ∧ PartiesOk w' qs ∧ 0 < qs.length ∧ qs.length ≤ 4096 ∧ (∀ p ∈ qs, mineP ms p = true) ∧ ((v1' = v1 ∧ fs' = fs) ∨ ∀ x, a1 = some x → hs ≤ x.block) ∧ ((v2' = v2 ∧ qs = ps) ∨ ∀ x, a2 = some x → hs ≤ x.block) ∧ (∀ p ∈ qs, p ∈ ps)
  same : 0 < ps.length → (∀ p ∈ ps, mineP ms p = true) → v1' = v1 ∧ v2' = v2

/-- ShownTo has ended so. -/
def Ended (ms : List ByteArray) (ps fs : List (Value × Value)) (hs : Nat) (kind : ByteArray) (v1 v2 : Value) (nf : Nat) (e : Ending) (w' : World) : Prop :=
  ∃ k' x1 n1 d1 x2 n2 d2 p' ok, e = .returned (.tuple #[.agg #[.string k', .slice x1 n1 d1, .slice x2 n2 d2, .bool p'], .bool ok]) ∧ Good ms ps fs hs kind v1 v2 nf (.string k') (.slice x1 n1 d1) (.slice x2 n2 d2) p' ok w'
/-- The two variables that ShownTo lays ahead of its loop. -/
def shownW (w : World) (kind : ByteArray) (v1 v2 : Value) : World := (w.alloc (.cells #[.string kind, v1, v2, .bool false] 46)).alloc rec0

theorem shown_below {w wr : World} {kind : ByteArray} {v1 v2 : Value} (h : Below (w.heap.size + 2) (shownW w kind v1 v2) wr) : Below w.heap.size w wr :=
  (((Below.refl _ w).alloc (Nat.le_refl _) _).alloc (by simp) _).trans (h.mono (by omega))
theorem shown_heap0 {w wr : World} {kind : ByteArray} {v1 v2 : Value} (h : Below (w.heap.size + 2) (shownW w kind v1 v2) wr) : wr.heap[w.heap.size]? = some (.cells #[.string kind, v1, v2, .bool false] 46 (0, 0)) :=
  (h.block _ (by omega)).trans (heap_alloc2_old w _ _)
theorem shown_heap1 {w wr : World} {kind : ByteArray} {v1 v2 : Value} (h : Below (w.heap.size + 2) (shownW w kind v1 v2) wr) : wr.heap[w.heap.size + 1]? = some (.cells #[.string ⟨#[]⟩, .slice none 0 0, .slice none 0 0, .bool false] 46 (0, 0)) :=
  (h.block _ (by omega)).trans (heap_alloc2_new w _ _)

theorem zero46 (w : World) : (zeroValue 46).run Try.prog w = .ok (.agg #[.string ⟨#[]⟩, .slice none 0 0, .slice none 0 0, .bool false]) w := by kernel_rfl
theorem slice_of_row {w : World} {base e size n : Nat} {v : Value} {xs : List Value} (h : w.ownsRow base e size v n xs) : ∃ a c, v = .slice a n c := by
  rcases h.2 with ⟨rfl, rfl⟩ | ⟨g, cap, cur, rfl, _⟩
  · exact ⟨none, 0, rfl⟩
  · exact ⟨_, cap, rfl⟩
theorem new2 (wr : World) (o1 : Obj) (x y : Value) : ∀ j u, ([x, y] : List Value)[j]? = some u → ((wr.alloc o1).alloc (.cells #[x, y] 53)).cell? ((⟨wr.heap.size + 1, 0, none⟩ : Addr).add j) = some u := fun j u hj => by
  rw [add_pl, Nat.zero_add, cell_of_row _ (wr.heap.size + 1) j #[x, y] 53 (0, 0) (heap_alloc2_new wr _ _)]
  simpa using hj
theorem size2 (w : World) (o1 o2 : Obj) : ((w.alloc o1).alloc o2).heap.size = w.heap.size + 2 := by
  show ((w.heap.push o1).push o2).size = _
  simp
theorem len_yes {ms : List ByteArray} {ps : List (Value × Value)} {k : Nat} (h : k < ps.length) (hm : mineP ms (ps[k]'h) = true) : (ours ms (ps.take (k + 1))).length = (ours ms (ps.take k)).length + 1 ∧ (theirs ms (ps.take (k + 1))).length = (theirs ms (ps.take k)).length := by
  obtain ⟨e1, e2⟩ := ours_yes h hm
  rw [e1, e2]; simp
theorem len_no {ms : List ByteArray} {ps : List (Value × Value)} {k : Nat} (h : k < ps.length) (hm : mineP ms (ps[k]'h) = false) : (ours ms (ps.take (k + 1))).length = (ours ms (ps.take k)).length ∧ (theirs ms (ps.take (k + 1))).length = (theirs ms (ps.take k)).length + 1 := by
  obtain ⟨e1, e2⟩ := ours_no h hm
  rw [e1, e2]; simp

theorem good_none {ms : List ByteArray} {ps fs : List (Value × Value)} {hs : Nat} {kind : ByteArray} {v1 v2 k' v1' v2' : Value} {nf : Nat} {p' : Bool} {w' : World} (h : (ours ms ps).length = 0) : Good ms ps fs hs kind v1 v2 nf k' v1' v2' p' false w' := by
  refine ⟨?_, nofun, fun h0 ha => ?_⟩
  · rw [any_ours, h]; rfl
  · have : (ours ms ps).length = ps.length := by unfold ours; rw [List.filter_eq_self.2 ha]
    omega
theorem good_all {ms : List ByteArray} {ps fs : List (Value × Value)} {hs : Nat} {kind : ByteArray} {a1 a2 : Option Addr} {nf c1 np c2 : Nat} {w' : World} (h : 0 < (ours ms ps).length) (hT : (theirs ms ps).length = 0) (hf : fs.length = nf) (hp : ps.length = np) (bp : np ≤ 4096)
    (hF : Pairs w' a1 fs) (hG : FieldsOk fs) (zf : a1 = none → nf = 0 ∧ c1 = 0) (hP : Pairs w' a2 ps) (hO : PartiesOk w' ps) :
    Good ms ps fs hs kind (.slice a1 nf c1) (.slice a2 np c2) nf (.string kind) (.slice a1 nf c1) (.slice a2 np c2) false true w' := by
  subst hp
  refine ⟨?_, fun _ => ⟨rfl, rfl, a1, c1, fs, a2, c2, ps, rfl, rfl, hf, hG, hF, zf, hP, hO, ?_, bp, theirs_nil hT, .inl ⟨rfl, rfl⟩, .inl ⟨rfl, rfl⟩, fun _ h => h⟩, fun _ _ => ⟨rfl, rfl⟩⟩
  · rw [any_ours]; simpa using h
  · have : (ours ms ps).length ≤ ps.length := List.length_filter_le _ _
    omega
theorem good_part {ms : List ByteArray} {ps fs fs' : List (Value × Value)} {hs : Nat} {kind : ByteArray} {v1 v2 : Value} {a1 a2 : Option Addr} {nf c1 nO c2 : Nat} {w' : World} (hO1 : (ours ms ps).length = nO) (h : 0 < nO) (hT : 0 < (theirs ms ps).length) (hf : fs'.length = nf) (bp : nO ≤ 4096)
    (hF : Pairs w' a1 fs') (hx1 : ∀ x, a1 = some x → hs ≤ x.block) (hx2 : ∀ x, a2 = some x → hs ≤ x.block) (hG : FieldsOk fs') (zf : a1 = none → nf = 0 ∧ c1 = 0) (hP : Pairs w' a2 (ours ms ps)) (hO : PartiesOk w' (ours ms ps)) :
    Good ms ps fs hs kind v1 v2 nf (.string kind) (.slice a1 nf c1) (.slice a2 nO c2) false true w' := by
  subst hO1
  refine ⟨?_, fun _ => ⟨rfl, rfl, a1, c1, fs', a2, c2, _, rfl, rfl, hf, hG, hF, zf, hP, hO, h, bp, all_ours, .inr hx1, .inr hx2, fun _ hp => (List.mem_filter.1 hp).1⟩, fun _ ha => ?_⟩
  · rw [any_ours]; simpa using h
  · have := theirs_of_all ha
    omega

theorem row_below {w w' : World} {base e size n : Nat} {v : Value} {xs : List Value} (h : w.ownsRow base e size v n xs) (hb : Below w.heap.size w w') : w'.ownsRow base e size v n xs := by
  refine ⟨h.1, ?_⟩
  rcases h.2 with h0 | ⟨g, cap, cur, hv, hb1, hg, rest⟩
  · exact .inl h0
  · exact .inr ⟨g, cap, cur, hv, hb1, (hb.block g (Array.getElem?_eq_some_iff.1 hg).1).trans hg, rest⟩
theorem row_set {w : World} {base e e' size n g o : Nat} {v u : Value} {xs : List Value} {c : Array Value} (h : w.ownsRow base e size v n xs) (hg : w.heap[g]? = some (.cells c e' (0, 0))) (hne : e ≠ e') : (w.setCell ⟨g, o, none⟩ u).ownsRow base e size v n xs := by
  refine ⟨h.1, ?_⟩
  rcases h.2 with h0 | ⟨g1, cap, cur, hv, hb1, hg1, rest⟩
  · exact .inl h0
  · refine .inr ⟨g1, cap, cur, hv, hb1, ?_, rest⟩
    rw [heap_setCell_other w ⟨g, o, none⟩ g1 u ?_]
    · exact hg1
    · intro hh
      change g1 = g at hh
      rw [hh, hg] at hg1
      cases hg1
      exact hne rfl

/-- What stands once the shown record is laid, and through the loop over its fields. -/
structure Mid (w W0 : World) (kind : ByteArray) (O T fs : List (Value × Value)) (vF v6 v7 : Value) (nf nO nT g : Nat) (wc : World) : Prop where
  box : wc.heap[g]? = some (.cells #[.string kind, vF, v6, .bool false] 46 (0, 0))
  own : wc.ownsRow (w.heap.size + 2) 86 2 vF nf (flat fs)
  o : wc.ownsRow (w.heap.size + 2) 53 2 v6 nO (flat O)
  th : wc.ownsRow (w.heap.size + 2) 53 2 v7 nT (flat T)
  below : Below (w.heap.size + 2) W0 wc
  z : w.heap.size + 2 ≤ W0.heap.size
  ok : FieldsOk fs
theorem Mid.under {w W0 wc w' : World} {kind : ByteArray} {O T fs : List (Value × Value)} {vF v6 v7 : Value} {nf nO nT g : Nat} (M : Mid w W0 kind O T fs vF v6 v7 nf nO nT g wc) (hb : Below wc.heap.size wc w') : Mid w W0 kind O T fs vF v6 v7 nf nO nT g w' := by
  have := M.z
  have := M.below.size
  exact ⟨(hb.block g (Array.getElem?_eq_some_iff.1 M.box).1).trans M.box, row_below M.own hb, row_below M.o hb, row_below M.th hb, M.below.trans (hb.mono (by omega)), M.z, M.ok⟩
theorem Mid.made {w W0 wx : World} {kind : ByteArray} {O T fs : List (Value × Value)} {vF v6 v7 : Value} {nf nO nT g : Nat} {c : Array Value} (hg : wx.heap[g]? = some (.cells c 46 (0, 0))) (hc : c.size = 4) (hgw : w.heap.size + 2 ≤ g)
    (own : wx.ownsRow (w.heap.size + 2) 86 2 vF nf (flat fs)) (o : wx.ownsRow (w.heap.size + 2) 53 2 v6 nO (flat O)) (th : wx.ownsRow (w.heap.size + 2) 53 2 v7 nT (flat T)) (below : Below (w.heap.size + 2) W0 wx) (z : w.heap.size + 2 ≤ W0.heap.size) (ok : FieldsOk fs) :
    Mid w W0 kind O T fs vF v6 v7 nf nO nT g ((((wx.setCell ⟨g, 0, none⟩ (.string kind)).setCell ⟨g, 1, none⟩ vF).setCell ⟨g, 2, none⟩ v6).setCell ⟨g, 3, none⟩ (.bool false)) := by
  have h1 := heap_setCell_same wx g 0 c 46 (.string kind) hg
  have h2 := heap_setCell_same _ g 1 _ 46 vF h1
  have h3 := heap_setCell_same _ g 2 _ 46 v6 h2
  have h4 := heap_setCell_same _ g 3 _ 46 (.bool false) h3
  refine ⟨?_, row_set (row_set (row_set (row_set own hg (by decide)) h1 (by decide)) h2 (by decide)) h3 (by decide), row_set (row_set (row_set (row_set o hg (by decide)) h1 (by decide)) h2 (by decide)) h3 (by decide),
    row_set (row_set (row_set (row_set th hg (by decide)) h1 (by decide)) h2 (by decide)) h3 (by decide), (((below.setCell hgw _).setCell hgw _).setCell hgw _).setCell hgw _, z, ok⟩
  obtain ⟨l⟩ := c
  match l, hc with
  | [x0, x1, x2, x3], _ => exact h4
theorem row_mono {w : World} {base base' e size n : Nat} {v : Value} {xs : List Value} (h : w.ownsRow base e size v n xs) (hb : base' ≤ base) : w.ownsRow base' e size v n xs := by
  refine ⟨h.1, ?_⟩
  rcases h.2 with h0 | ⟨g, cap, cur, hv, hb1, rest⟩
  · exact .inl h0
  · exact .inr ⟨g, cap, cur, hv, Nat.le_trans hb hb1, rest⟩
theorem mid_A {w W0 wr w1 : World} {kind : ByteArray} {O T fs : List (Value × Value)} {vF v6 v7 : Value} {nf nO nT : Nat} (hz : w.heap.size + 2 ≤ wr.heap.size) (ho : w1.ownsRow wr.drew.heap.size 86 2 vF nf (flat fs)) (hb : Below wr.drew.heap.size wr.drew w1)
    (h6 : wr.ownsRow (w.heap.size + 2) 53 2 v6 nO (flat O)) (h7 : wr.ownsRow (w.heap.size + 2) 53 2 v7 nT (flat T)) (hB : Below (w.heap.size + 2) W0 wr) (z : w.heap.size + 2 ≤ W0.heap.size) (ok : FieldsOk fs) :
    Mid w W0 kind O T fs vF v6 v7 nf nO nT w1.heap.size (w1.alloc (.cells #[.string kind, vF, v6, .bool false] 46)) := by
  have hb' : Below wr.heap.size wr w1 := ⟨hb.os, hb.tape, hb.output, hb.size, hb.block⟩
  have hs := hb'.size
  exact ⟨heap_alloc_new w1 _, (row_mono ho (show w.heap.size + 2 ≤ wr.heap.size from hz)).alloc _, (row_below h6 hb').alloc _, (row_below h7 hb').alloc _, (hB.trans (hb'.mono hz)).alloc (by omega) _, z, ok⟩
theorem mid_B {w W0 wr w1 : World} {kind : ByteArray} {O T fs : List (Value × Value)} {vF v6 v7 : Value} {nf nO nT : Nat} (hz : w.heap.size + 2 ≤ wr.heap.size) (ho : w1.ownsRow (wr.drew.alloc rec0).heap.size 86 2 vF nf (flat fs)) (hb : Below (wr.drew.alloc rec0).heap.size (wr.drew.alloc rec0) w1)
    (h6 : wr.ownsRow (w.heap.size + 2) 53 2 v6 nO (flat O)) (h7 : wr.ownsRow (w.heap.size + 2) 53 2 v7 nT (flat T)) (hB : Below (w.heap.size + 2) W0 wr) (z : w.heap.size + 2 ≤ W0.heap.size) (ok : FieldsOk fs) :
    Mid w W0 kind O T fs vF v6 v7 nf nO nT wr.heap.size ((((w1.setCell ⟨wr.heap.size, 0, none⟩ (.string kind)).setCell ⟨wr.heap.size, 1, none⟩ vF).setCell ⟨wr.heap.size, 2, none⟩ v6).setCell ⟨wr.heap.size, 3, none⟩ (.bool false)) := by
  have hb0 : Below wr.drew.heap.size wr.drew w1 := ((Below.refl _ wr.drew).alloc (Nat.le_refl _) _).trans (hb.mono (by simp))
  have hb' : Below wr.heap.size wr w1 := ⟨hb0.os, hb0.tape, hb0.output, hb0.size, hb0.block⟩
  have hx := (hb.block wr.heap.size (by simp)).trans (heap_alloc_new wr.drew rec0)
  exact Mid.made hx rfl hz (row_mono ho (by simp; omega)) (row_below h6 hb') (row_below h7 hb') (hB.trans (hb'.mono hz)) z ok
theorem row_base {w W : World} {e size n cap : Nat} {a : Option Addr} {xs : List Value} (h : W.ownsRow (w.heap.size + 2) e size (.slice a n cap) n xs) : ∀ x, a = some x → w.heap.size ≤ x.block := fun x hx => by
  subst hx
  have := (h.lt x.block rfl).1
  omega
theorem row_none {w : World} {base e size n cap : Nat} {a : Option Addr} {xs : List Value} (h : w.ownsRow base e size (.slice a n cap) n xs) : a = none → n = 0 ∧ cap = 0 := fun ha => by
  rcases h.2 with ⟨h0, _⟩ | ⟨g1, cap1, cur, hv, _⟩
  · cases h0; exact ⟨rfl, rfl⟩
  · subst ha; cases hv
theorem row_some {w : World} {base e size n cap : Nat} {a : Option Addr} {xs : List Value} (h : w.ownsRow base e size (.slice a n cap) n xs) (hn : 0 < n) : ∃ b, a = some ⟨b, 0, none⟩ ∧ base ≤ b := by
  rcases h.2 with ⟨h0, _⟩ | ⟨g1, cap1, cur, hv, hb, _⟩
  · cases h0; omega
  · cases hv; exact ⟨g1, rfl, hb⟩
theorem row_pair {w : World} {base e n cap b : Nat} {ps : List (Value × Value)} (h : w.ownsRow base e 2 (.slice (some ⟨b, 0, none⟩) n cap) n (flat ps)) (k : Nat) (hk : k < ps.length) (hn : ps.length = n) :
    w.cell? ⟨b, k * 2, none⟩ = some (ps[k]'hk).1 ∧ w.cell? ⟨b, k * 2 + 1, none⟩ = some (ps[k]'hk).2 ∧ w.frozen? ⟨b, k * 2 + 1, none⟩ = false :=
  ⟨(h.cellAt _ (by omega)).trans (flat_at ps k hk).1, (h.cellAt _ (by omega)).trans (flat_at ps k hk).2, h.frozenAt _⟩
theorem pairs_set4 {w w' : World} {e n cap : Nat} {a : Option Addr} {ps : List (Value × Value)} {u0 u1 u2 u3 : Value} (h : w'.ownsRow (w.heap.size + 2) e 2 (.slice a n cap) n (flat ps)) :
    Pairs ((((w'.setCell ⟨w.heap.size + 1, 0, none⟩ u0).setCell ⟨w.heap.size + 1, 1, none⟩ u1).setCell ⟨w.heap.size + 1, 2, none⟩ u2).setCell ⟨w.heap.size + 1, 3, none⟩ u3) a ps := by
  obtain ⟨a', c', hv, _, hp, hx⟩ := pairs_of_row h
  cases hv
  have ho : Off a (w.heap.size + 1) := fun x e hh => by have := hx x e; omega
  exact (((hp.set ho _ _).set ho _ _).set ho _ _).set ho _ _
theorem flat_set (fs : List (Value × Value)) (i : Nat) (h : i < fs.length) (u : Value) : (flat fs).set (i * 2 + 1) u = flat (fs.set i ((fs[i]'h).1, u)) := by
  induction fs generalizing i with
  | nil => simp at h
  | cons p r ih =>
    cases i with
    | zero => simp [flat]
    | succ i =>
      have := ih i (by simpa using h)
      have e : ∀ q t, flat (q :: t) = q.1 :: q.2 :: flat t := fun q t => by simp [flat]
      rw [e, show (i + 1) * 2 + 1 = i * 2 + 1 + 1 + 1 by omega]
      simp only [List.set_cons_succ, List.getElem_cons_succ, e, this]
theorem Mid.put {w W0 wc : World} {kind : ByteArray} {O T fs : List (Value × Value)} {v6 v7 : Value} {nf nO nT g b cap : Nat} (M : Mid w W0 kind O T fs (.slice (some ⟨b, 0, none⟩) nf cap) v6 v7 nf nO nT g wc) (i : Nat) (hi : i < fs.length) (s : ByteArray) :
    Mid w W0 kind O T (fs.set i ((fs[i]'hi).1, .string s)) (.slice (some ⟨b, 0, none⟩) nf cap) v6 v7 nf nO nT g (wc.setCell ⟨b, i * 2 + 1, none⟩ (.string s)) := by
  have st := M.own.stored (i * 2 + 1) (.string s)
  rw [flat_set fs i hi] at st
  have hb := M.own.lt b rfl
  rcases M.own.2 with ⟨h0, _⟩ | ⟨g1, cap1, cur, hv, hb1, hg1, rest⟩
  · cases h0
  · cases hv
    refine ⟨?_, st.1, row_set M.o hg1 (by decide), row_set M.th hg1 (by decide), M.below.setCell hb1 _, M.z, ?_⟩
    · rw [heap_setCell_other wc ⟨b, _, none⟩ g _ ?_]
      · exact M.box
      · intro hh
        change g = b at hh
        have hx := M.box
        rw [hh, hg1] at hx
        cases hx
    · intro j hj
      rw [List.length_set] at hj
      obtain ⟨k, v, e⟩ := M.ok j hj
      by_cases hji : i = j
      · subst hji
        rw [List.getElem_set_self, e]
        exact ⟨k, s, rfl⟩
      · rw [List.getElem_set_ne hji]
        exact ⟨k, v, e⟩

set_option maxRecDepth 100000 in
set_option maxHeartbeats 4000000 in
theorem shown_any (kind : ByteArray) (a1 a2 am : Option Addr) (nf c1 np c2 nm cm B : Nat) (fs ps : List (Value × Value)) (ms : List ByteArray) (hf : fs.length = nf) (hp : ps.length = np) (hm : ms.length = nm)
    (bf : nf ≤ 4096) (bp : np ≤ 4096) (bm : nm ≤ 4096) (zf : a1 = none → nf = 0 ∧ c1 = 0) (w : World) (hF : Pairs w a1 fs) (hG : FieldsOk fs) (hP : Pairs w a2 ps) (hO : PartiesOk w ps) (hM : Strs w am ms) (hB : w.cell? ⟨B, 0, none⟩ = some (.slice am nm cm)) :
    Calls Try.prog 19 #[.agg #[.string kind, .slice a1 nf c1, .slice a2 np c2, .bool false], .func (.func 20) #[] #[.pointer (some ⟨B, 0, none⟩)]] w fun e w' =>
      Ended ms ps fs w.heap.size kind (.slice a1 nf c1) (.slice a2 np c2) nf e w' ∧ Below w.heap.size w w' := by
  have LF : Hid (fs.length = nf) := hf
  have LP : Hid (ps.length = np) := hp
  have LM : Hid (ms.length = nm) := hm
  have HF : Hid (Pairs w a1 fs) := hF
  have HG : Hid (FieldsOk fs) := hG
  have HP : Hid (Pairs w a2 ps) := hP
  have HO : Hid (PartiesOk w ps) := hO
  have HM : Hid (Strs w am ms) := hM
  have HB : Hid (w.cell? ⟨B, 0, none⟩ = some (.slice am nm cm)) := hB
  have ZF : Hid (a1 = none → nf = 0 ∧ c1 = 0) := zf
  clear hf hp hm hF hG hP hO hM hB zf
  go_enter Try.func19, Try.ntmps19
  go_wp2_with fail
  go_loopw [6, 7, 19] (fun s6 s7 i wr => ∃ (k : Nat) (a6 a7 : Option Addr) (c6 c7 : Nat), k ≤ np ∧ i = .int .i64 (k : Int) ∧ s6 = .slice a6 (ours ms (ps.take k)).length c6 ∧ s7 = .slice a7 (theirs ms (ps.take k)).length c7 ∧
    Hid (Rel w (shownW w kind (.slice a1 nf c1) (.slice a2 np c2)) ms (ps.take k) (.slice a6 (ours ms (ps.take k)).length c6) (.slice a7 (theirs ms (ps.take k)).length c7) wr)) (fun _ _ i _ => np - (intOf i).toNat)
  case atStart => exact ⟨0, none, none, 0, 0, by omega, rfl, rfl, rfl, Rel.start w _ ms (by simp [shownW])⟩
  case round =>
    obtain ⟨k, a6, a7, c6, c7, hk, rfl, rfl, rfl, R⟩ := hrel
    have hle := ours_le ms ps k
    by_cases hlt : k < np
    · have hkl : k < ps.length := by rw [LP.out]; exact hlt
      obtain ⟨b, off, rfl, hc⟩ := HP.out (by omega)
      obtain ⟨d1, d2⟩ := hc k hkl
      obtain ⟨s, v, e, ⟨ao, ss, co, rfl, hss, hst⟩⟩ := HO.out k hkl
      have BW : Hid (Below w.heap.size w wr) := shown_below R.out.below
      rw [e] at d1 d2
      have g1 := cell_kept BW.out d1
      have g2 := cell_kept BW.out d2
      have hbw : b < wr.heap.size := block_lt_of_cell g1
      have hr0 := shown_heap0 R.out.below
      have q := mine_any B am nm cm ms s LM.out (by omega) (wr.alloc (.cells #[.string s, .slice ao ss.length co] 53)) (cell_kept ((Below.refl _ wr).alloc (Nat.le_refl _) _) (cell_kept BW.out HB.out)) ((HM.out.below BW.out).below ((Below.refl _ wr).alloc (Nat.le_refl _) _))
      have EM : Hid (mineP ms (ps[k]'hkl) = isIn ms s) := by show _ = _; rw [e]; rfl
      have EP : Hid (ps[k]'hkl = (.string s, .slice ao ss.length co)) := e
      have HK : Hid (k < ps.length) := hkl
      generalize en : ss.length = m at *
      clear hc e d1 d2 en hr0 hst
      cases hi : isIn ms s
      · rw [hi] at q EM
        have Q1 := hideT q
        clear q hi
        have HOW : Hid (((wr.alloc (.cells #[.string s, .slice ao m co] 53)).alloc (.cells #[.string s, .slice ao m co] 53)).ownsRow (w.heap.size + 2) 53 2 (.slice a7 (theirs ms (ps.take k)).length c7) (theirs ms (ps.take k)).length (flat (theirs ms (ps.take k)))) := (R.out.th.alloc _).alloc _
        have HN : Hid (∀ j u, ([.string s, .slice ao m co] : List Value)[j]? = some u → ((wr.alloc (.cells #[.string s, .slice ao m co] 53)).alloc (.cells #[.string s, .slice ao m co] 53)).cell? ((⟨wr.heap.size + 1, 0, none⟩ : Addr).add j) = some u) := new2 wr _ _ _
        have HS : Hid (w.heap.size + 2 ≤ ((wr.alloc (.cells #[.string s, .slice ao m co] 53)).alloc (.cells #[.string s, .slice ao m co] 53)).heap.size) := by show _ ≤ _; rw [size2]; have := R.out.below.size; have := R.out.z; omega
        have E1 := hideT (len_no HK.out EM.out).1
        have E2 := hideT (len_no HK.out EM.out).2
        go_wp2_with fail
        refine Q1.out.mono ?_
        rintro e w5 ⟨rfl, rfl⟩
        go_wp2_with (at_builtin; refine app_at _ rfl (.tmp 31) (.tmp 33) 44 rfl (w.heap.size + 2) 53 _ 2 40 info53 Try.underlying44 rfl (by decide) _ (theirs ms (ps.take k)).length (flat (theirs ms (ps.take k))) rfl HOW.out ⟨wr.heap.size + 1, 0, none⟩ 1 1 [.string s, .slice ao m co] rfl rfl HN.out (by simp [Value.oneCell']) (by decide) (by omega) (by decide) HS.out ?_; intro v' w1 ho hg hb)
        obtain ⟨a', c', hv⟩ := slice_of_row ho
        subst hv
        have R' : Hid (Rel w (shownW w kind (.slice a1 nf c1) (.slice (some ⟨b, off, none⟩) np c2)) ms (ps.take (k + 1)) (.slice a6 (ours ms (ps.take k)).length c6) (.slice a' ((theirs ms (ps.take k)).length + 1) c') w1) := R.out.no HK.out EM.out (by rw [EP.out]; exact ho) hg hb
        clear ho hg hb HOW HN HS Q1
        go_wp2_with fail
        go_roundw
        case rel => exact ⟨k + 1, a6, a', c6, c', by omega, by go_num, by rw [E1.out], by rw [E2.out], by rw [E1.out, E2.out]; exact R'⟩
        case measure => simp [intOf]; omega
      · rw [hi] at q EM
        have Q1 := hideT q
        clear q hi
        have HOW : Hid (((wr.alloc (.cells #[.string s, .slice ao m co] 53)).alloc (.cells #[.string s, .slice ao m co] 53)).ownsRow (w.heap.size + 2) 53 2 (.slice a6 (ours ms (ps.take k)).length c6) (ours ms (ps.take k)).length (flat (ours ms (ps.take k)))) := (R.out.o.alloc _).alloc _
        have HN : Hid (∀ j u, ([.string s, .slice ao m co] : List Value)[j]? = some u → ((wr.alloc (.cells #[.string s, .slice ao m co] 53)).alloc (.cells #[.string s, .slice ao m co] 53)).cell? ((⟨wr.heap.size + 1, 0, none⟩ : Addr).add j) = some u) := new2 wr _ _ _
        have HS : Hid (w.heap.size + 2 ≤ ((wr.alloc (.cells #[.string s, .slice ao m co] 53)).alloc (.cells #[.string s, .slice ao m co] 53)).heap.size) := by show _ ≤ _; rw [size2]; have := R.out.below.size; have := R.out.z; omega
        have E1 := hideT (len_yes HK.out EM.out).1
        have E2 := hideT (len_yes HK.out EM.out).2
        go_wp2_with fail
        refine Q1.out.mono ?_
        rintro e w5 ⟨rfl, rfl⟩
        go_wp2_with (at_builtin; refine app_at _ rfl (.tmp 27) (.tmp 29) 44 rfl (w.heap.size + 2) 53 _ 2 40 info53 Try.underlying44 rfl (by decide) _ (ours ms (ps.take k)).length (flat (ours ms (ps.take k))) rfl HOW.out ⟨wr.heap.size + 1, 0, none⟩ 1 1 [.string s, .slice ao m co] rfl rfl HN.out (by simp [Value.oneCell']) (by decide) (by omega) (by decide) HS.out ?_; intro v' w1 ho hg hb)
        obtain ⟨a', c', hv⟩ := slice_of_row ho
        subst hv
        have R' : Hid (Rel w (shownW w kind (.slice a1 nf c1) (.slice (some ⟨b, off, none⟩) np c2)) ms (ps.take (k + 1)) (.slice a' ((ours ms (ps.take k)).length + 1) c') (.slice a7 (theirs ms (ps.take k)).length c7) w1) := R.out.yes HK.out EM.out (by rw [EP.out]; exact ho) hg hb
        clear ho hg hb HOW HN HS Q1
        go_wp2_with fail
        go_roundw
        case rel => exact ⟨k + 1, a', a7, c', c7, by omega, by go_num, by rw [E1.out], by rw [E2.out], by rw [E1.out, E2.out]; exact R'⟩
        case measure => simp [intOf]; omega
    · have hkn : np = k := by omega
      subst hkn
      have hT : ps.take np = ps := List.take_of_length_le (by rw [LP.out]; omega)
      rw [hT] at R hle ⊢
      clear hT
      have BW : Hid (Below w.heap.size w wr) := shown_below R.out.below
      have hr := shown_heap1 R.out.below
      have r0 := cell_of_row wr (w.heap.size + 1) 0 _ 46 (0, 0) hr
      have r1 := cell_of_row wr (w.heap.size + 1) 1 _ 46 (0, 0) hr
      have r2 := cell_of_row wr (w.heap.size + 1) 2 _ 46 (0, 0) hr
      have r3 := cell_of_row wr (w.heap.size + 1) 3 _ 46 (0, 0) hr
      have f0 := frozen_of_row wr (w.heap.size + 1) 0 _ 46 hr
      have f1 := frozen_of_row wr (w.heap.size + 1) 1 _ 46 hr
      have f2 := frozen_of_row wr (w.heap.size + 1) 2 _ 46 hr
      have f3 := frozen_of_row wr (w.heap.size + 1) 3 _ 46 hr
      have hs := shown_heap0 R.out.below
      have s0 := cell_of_row wr w.heap.size 0 _ 46 (0, 0) hs
      have s1 := cell_of_row wr w.heap.size 1 _ 46 (0, 0) hs
      have s2 := cell_of_row wr w.heap.size 2 _ 46 (0, 0) hs
      have s3 := cell_of_row wr w.heap.size 3 _ 46 (0, 0) hs
      simp at r0 r1 r2 r3 s0 s1 s2 s3
      clear hr hs
      generalize eO : (ours ms ps).length = nO at *
      generalize eT : (theirs ms ps).length = nT at *
      have EO : Hid ((ours ms ps).length = nO) := eO
      have ET : Hid ((theirs ms ps).length = nT) := eT
      clear eO eT
      by_cases h0 : nO = 0
      · subst h0
        have z46 := zero46
        go_wp2_with fail
        refine bodyPost_ret (v := .tuple #[.agg #[.string ⟨#[]⟩, .slice none 0 0, .slice none 0 0, .bool false], .bool false]) (by simp [results, Try.results19, go_sem, r0, r1, r2, r3]) rfl ⟨⟨_, _, _, _, _, _, _, _, _, rfl, good_none EO.out⟩, ?_⟩
        exact (((BW.out.setCell (by simp) _).setCell (by simp) _).setCell (by simp) _).setCell (by simp) _
      · have b0 : ((nO : Int) == 0) = false := beq_eq_false_iff_ne.2 (by omega)
        by_cases h1 : nT = 0
        · subst h1
          go_wp2_with fail
          have BE := (((BW.out.setCell (p := ⟨w.heap.size + 1, 0, none⟩) (by simp) (.string kind)).setCell (p := ⟨w.heap.size + 1, 1, none⟩) (by simp) (.slice a1 nf c1)).setCell (p := ⟨w.heap.size + 1, 2, none⟩) (by simp) (.slice a2 np c2)).setCell (p := ⟨w.heap.size + 1, 3, none⟩) (by simp) (.bool false)
          exact bodyPost_ret (v := .tuple #[.agg #[.string kind, .slice a1 nf c1, .slice a2 np c2, .bool false], .bool true]) (by simp [results, Try.results19, go_sem, r0, r1, r2, r3]) rfl
            ⟨⟨_, _, _, _, _, _, _, _, _, rfl, good_all (by rw [EO.out]; omega) ET.out LF.out LP.out bp (HF.out.below BE) HG.out ZF.out (HP.out.below BE) (HO.out.below BE)⟩, BE⟩
        · have b1 : ((nT : Int) == 0) = false := beq_eq_false_iff_ne.2 (by omega)
          have HR0 : Hid (Below w.heap.size w (wr.alloc rec0)) := BW.out.alloc BW.out.size _
          have HZ : Hid (w.heap.size + 2 ≤ wr.heap.size) := by have := R.out.below.size; have := R.out.z; show _ ≤ _; omega
          have HP6 : Hid (wr.ownsRow (w.heap.size + 2) 53 2 (.slice a6 nO c6) nO (flat (ours ms ps))) := by have := R.out.o; rwa [EO.out] at this
          have HP7 : Hid (wr.ownsRow (w.heap.size + 2) 53 2 (.slice a7 nT c7) nT (flat (theirs ms ps))) := by have := R.out.th; rwa [ET.out] at this
          have HB3 : Hid (Below (w.heap.size + 2) (shownW w kind (.slice a1 nf c1) (.slice a2 np c2)) wr) := R.out.below
          have HZ3 : Hid (w.heap.size + 2 ≤ (shownW w kind (.slice a1 nf c1) (.slice a2 np c2)).heap.size) := R.out.z
          have z46 := zero46
          have hlt0 : w.heap.size < wr.heap.size := by have := HZ.out; omega
          go_wp2_with fail
          go_cut [10] (fun s10 wc => ∃ g aF cF, s10 = .pointer (some ⟨g, 0, none⟩) ∧ Hid (Mid w (shownW w kind (.slice a1 nf c1) (.slice a2 np c2)) kind (ours ms ps) (theirs ms ps) fs (.slice aF nf cF) (.slice a6 nO c6) (.slice a7 nT c7) nf nO nT g wc))
          case first =>
            go_region_with (first
              | (go_at_call 25; refine (clone_any a1 nf c1 fs LF.out bf ZF.out wr.drew (HF.out.below BW.out.drew) HG.out).mono ?_; go_must (rintro e w1 ⟨v, rfl, ho, hb⟩; obtain ⟨aF, cF, hv⟩ := slice_of_row ho; subst hv; have k0 := cell_kept hb s0; have hlt1 : w.heap.size < w1.heap.size := block_lt_of_cell k0; have OA := hideT ho; have OB := hideT hb; clear ho hb))
              | (go_at_call 25; go_must (refine (clone_any a1 nf c1 fs LF.out bf ZF.out (wr.drew.alloc rec0) (HF.out.below (BW.out.drew.alloc BW.out.size _)) HG.out).mono ?_; rintro e w1 ⟨v, rfl, ho, hb⟩; obtain ⟨aF, cF, hv⟩ := slice_of_row ho; subst hv; have k0 := cell_kept (((Below.refl _ wr.drew).alloc (Nat.le_refl _) _).trans (hb.mono (by simp))) s0; have hx := (hb.block wr.heap.size (by simp)).trans (heap_alloc_new wr.drew rec0); have x0 := cell_of_row w1 wr.heap.size 0 _ 46 (0, 0) hx; have x1 := cell_of_row w1 wr.heap.size 1 _ 46 (0, 0) hx; have x2 := cell_of_row w1 wr.heap.size 2 _ 46 (0, 0) hx; have x3 := cell_of_row w1 wr.heap.size 3 _ 46 (0, 0) hx; have y0 := frozen_of_row w1 wr.heap.size 0 _ 46 hx; have y1 := frozen_of_row w1 wr.heap.size 1 _ 46 hx; have y2 := frozen_of_row w1 wr.heap.size 2 _ 46 hx; have y3 := frozen_of_row w1 wr.heap.size 3 _ 46 hx; simp at x0 x1 x2 x3; have OX := hideT hx; have OA := hideT ho; have OB := hideT hb; clear ho hb hx)))
            all_goals
              go_wp2_with fail
              go_meet
              case rel => first | exact ⟨_, _, _, rfl, mid_A HZ.out OA.out OB.out HP6.out HP7.out HB3.out HZ3.out HG.out⟩ | exact ⟨_, _, _, rfl, mid_B HZ.out OA.out OB.out HP6.out HP7.out HB3.out HZ3.out HG.out⟩
          case rest =>
            obtain ⟨g, aF, cF, rfl, M⟩ := hcut
            have BO := M.out.box
            have m1 := cell_of_row wc g 1 _ 46 (0, 0) BO
            simp at m1
            clear BO r0 r1 r2 r3 f0 f1 f2 f3 s0 s1 s2 s3 HR0 HZ HP6 HP7 HB3 HZ3 R BW hlt0 z46
            go_wp2_with fail
            go_loopw [56] (fun i wr => ∃ (k : Nat) (fs' : List (Value × Value)), k ≤ nf ∧ i = .int .i64 (k : Int) ∧ Hid (fs'.length = nf) ∧ Hid (Mid w (shownW w kind (.slice a1 nf c1) (.slice a2 np c2)) kind (ours ms ps) (theirs ms ps) fs' (.slice aF nf cF) (.slice a6 nO c6) (.slice a7 nT c7) nf nO nT g wr)) (fun i _ => nf - (intOf i).toNat)
            case atStart => exact ⟨0, fs, by omega, rfl, LF, M⟩
            case round =>
              clear M m1
              obtain ⟨k, fs', hk, rfl, LF', M⟩ := hrel
              have BO := M.out.box
              have BW : Hid (Below w.heap.size w wr) := shown_below M.out.below
              by_cases hlt : k < nf
              · have hkl : k < fs'.length := by rw [LF'.out]; exact hlt
                obtain ⟨b, hbe, hbb⟩ := row_some M.out.own (by omega)
                subst hbe
                obtain ⟨d1, d2, d3⟩ := row_pair M.out.own k hkl LF'.out
                obtain ⟨kk, vv, e⟩ := M.out.ok k hkl
                rw [e] at d1 d2
                simp only [] at d1 d2
                have hbw : b < wr.heap.size := block_lt_of_cell d1
                have hgw : g < wr.heap.size := (Array.getElem?_eq_some_iff.1 BO).1
                have hal : Below wr.heap.size wr (wr.alloc (.cells #[.string kk, .string vv] 86)) := (Below.refl _ wr).alloc (Nat.le_refl _) _
                have M2 := M.out.under hal
                obtain ⟨a7', c7', hv7, hl7, hp7, _⟩ := pairs_of_row M2.th
                cases hv7
                have q := containsF_any a7 nT c7 wr.heap.size (theirs ms ps) kk hl7 (by omega) (wr.alloc (.cells #[.string kk, .string vv] 86)) hp7 (ours_ok (HO.out.below (BW.out.trans (hal.mono BW.out.size)))).2 (cell_of_row _ wr.heap.size 0 #[.string kk, .string vv] 86 (0, 0) (heap_alloc_new wr _))
                have Q1 := hideT q
                have HK : Hid (k < fs'.length) := hkl
                have HM2 := hideT M2
                clear q M2 hp7 hl7 hal e hkl BO
                go_wp2_with fail
                refine Q1.out.mono ?_
                rintro e w2 ⟨⟨r, rfl⟩, hb2⟩
                have M3 := HM2.out.under hb2
                have n1 := cell_of_row w2 g 1 _ 46 (0, 0) M3.box
                obtain ⟨t1, t2, t3⟩ := row_pair M3.own k HK.out LF'.out
                simp at n1
                have HM3 := hideT M3
                clear hb2 M3 HM2 Q1 d1 d2 d3
                cases r
                · clear t1 t2 t3 n1
                  go_wp2_with fail
                  go_roundw
                  case rel => exact ⟨k + 1, fs', by omega, by go_num, LF', HM3⟩
                  case measure => simp [intOf]; omega
                · go_wp2_with fail
                  go_roundw
                  case rel => exact ⟨k + 1, _, by omega, by go_num, (by show _ = _; rw [List.length_set]; exact LF'.out), HM3.out.put k HK.out _⟩
                  case measure => simp [intOf]; omega
              · have hkn : nf = k := by omega
                subst hkn
                have hr := shown_heap1 M.out.below
                have r0 := cell_of_row wr (w.heap.size + 1) 0 _ 46 (0, 0) hr
                have r1 := cell_of_row wr (w.heap.size + 1) 1 _ 46 (0, 0) hr
                have r2 := cell_of_row wr (w.heap.size + 1) 2 _ 46 (0, 0) hr
                have r3 := cell_of_row wr (w.heap.size + 1) 3 _ 46 (0, 0) hr
                have f0 := frozen_of_row wr (w.heap.size + 1) 0 _ 46 hr
                have f1 := frozen_of_row wr (w.heap.size + 1) 1 _ 46 hr
                have f2 := frozen_of_row wr (w.heap.size + 1) 2 _ 46 hr
                have f3 := frozen_of_row wr (w.heap.size + 1) 3 _ 46 hr
                have s0 := cell_of_row wr g 0 _ 46 (0, 0) BO
                have s1 := cell_of_row wr g 1 _ 46 (0, 0) BO
                have s2 := cell_of_row wr g 2 _ 46 (0, 0) BO
                have s3 := cell_of_row wr g 3 _ 46 (0, 0) BO
                simp at r0 r1 r2 r3 s0 s1 s2 s3
                have BE := (((BW.out.setCell (p := ⟨w.heap.size + 1, 0, none⟩) (by simp) (.string kind)).setCell (p := ⟨w.heap.size + 1, 1, none⟩) (by simp) (.slice aF nf cF)).setCell (p := ⟨w.heap.size + 1, 2, none⟩) (by simp) (.slice a6 nO c6)).setCell (p := ⟨w.heap.size + 1, 3, none⟩) (by simp) (.bool false)
                have HBE := hideT BE
                clear BE hr BO
                go_wp2_with fail
                refine bodyPost_ret (v := .tuple #[.agg #[.string kind, .slice aF nf cF, .slice a6 nO c6, .bool false], .bool true]) (by simp [results, Try.results19, go_sem, r0, r1, r2, r3]) rfl
                  ⟨⟨_, _, _, _, _, _, _, _, _, rfl, good_part EO.out (by omega) (by rw [ET.out]; omega) LF'.out (by omega) (pairs_set4 M.out.own) (row_base M.out.own) (row_base M.out.o) M.out.ok (row_none M.out.own) (pairs_set4 M.out.o) (ours_ok (HO.out.below HBE.out)).1⟩, HBE.out⟩
end Go.Proofs.Qxb6609473a.Shown
