import Derived.Test.Qxb6609473aLaw
import Derived.ProofKit
import Derived.OpenShut
import Derived.SliceStrings
import Derived.Deep.SlicePairs
namespace Go.Proofs.Qxb6609473a.Shown
open Go.ChangeShapes Go.WideShapes Go.ChangeAt Go.RowKit

theorem own : ownKnob Try.prog.godebug = none := by kernel_rfl
theorem laidOut : laidOutB Try.prog = true := by kernel_rfl
theorem cells85 : Try.prog.cellsOf 85 = 2 := by kernel_rfl
theorem cells52 : Try.prog.cellsOf 52 = 2 := by kernel_rfl
theorem cells9 : Try.prog.cellsOf 9 = 1 := by kernel_rfl
theorem cells39 : Try.prog.cellsOf 39 = 1 := by kernel_rfl
theorem add_at (b o j : Nat) : (⟨b, o, none⟩ : Addr).add j = ⟨b, o + j, none⟩ := by unfold Addr.add; split <;> simp_all

/-- A slice of strings that came in. -/
theorem open_own {H : Type} {enc : TypeId × Value → H} {W : World} {fuel : Nat} {v : Value} {x : DataW H × List MemPlace}
    (h : DataW.trod enc Try.prog W 0 (fun _ => true) true fuel 39 [v] = some x) : OwnOk W v := by
  rcases open_strings Try.underlying39 Try.underlying9 cells9 h with ⟨hcs, _⟩ | ⟨a, len, cap, ss, hcs, _, hl, hm, hsl, _, hc, _⟩
  · cases hcs
    exact ⟨none, [], 0, rfl, by simp, fun h => absurd h (by simp)⟩
  · cases hcs
    simp only [if_true] at hsl
    have hlen : (ss.take len).length = len := by rw [List.length_take]; omega
    refine ⟨some a, ss.take len, cap, by rw [hlen], ?_, fun h0 => ?_⟩
    · rw [hlen]; exact Nat.le_trans hl (by unfold maxLen at hm; omega)
    · rw [hlen] at h0
      obtain ⟨b, off, spot⟩ := a
      have hspot : spot = none := by simpa [Addr.add] using World.cell?_spot (hc 0 (by omega))
      subst hspot
      refine ⟨b, off, rfl, fun i hi => ?_⟩
      have hi' : i < ss.length := by rw [hlen] at hi; omega
      have := hc i hi'
      rw [add_at] at this
      rw [this, List.getElem_take]
      simp [List.getD, hi']

/-- Pairs that came in: the first cell of each is a string. -/
theorem open_pairs {H : Type} {enc : TypeId × Value → H} {W : World} {t e : TypeId} {f0 f1 : Field} {a : Option Addr} {n cap : Nat} {d : DataW H} {p : List MemPlace} (ht : Try.prog.underlying t = some (.slice e)) (he : Try.prog.underlying e = some (.struct #[f0, f1]))
    (ce : Try.prog.cellsOf e = 2) (o0 : f0.offset = 0) (o1 : f1.offset = 1) (c0 : Try.prog.cellsOf f0.type = 1) (c1 : Try.prog.cellsOf f1.type = 1)
    (h : DataW.Trod enc Try.prog W 0 (fun _ => true) true t (.slice a n cap) d p) : ∃ ps : List (Value × Value), ps.length = n ∧ n ≤ 9223372036854775807 ∧ (a = none → n = 0 ∧ cap = 0) ∧ Pairs W a ps ∧
      ∀ i (h : i < ps.length), ∃ m x y, DataW.trod enc Try.prog W 0 (fun _ => true) true m f0.type [(ps[i]'h).1] = some x ∧ DataW.trod enc Try.prog W 0 (fun _ => true) true m f1.type [(ps[i]'h).2] = some y := by
  obtain ⟨fuel, hf⟩ := h
  rcases Go.Deep.open_slice_pairs ht he ce o0 o1 c0 c1 hf with ⟨hcs, _⟩ | ⟨x, len, cap', m, k, V0, V1, D0, D1, P0, P1, hcs, _, hl, hx0, hm, _, hx⟩
  · simp [Value.cells] at hcs
    obtain ⟨rfl, rfl, rfl⟩ := hcs
    exact ⟨[], rfl, by simp, fun _ => ⟨rfl, rfl⟩, fun h => absurd h (by simp), fun i h => absurd h (by simp)⟩
  · simp [Value.cells] at hcs
    obtain ⟨rfl, rfl, rfl⟩ := hcs
    simp only [if_true] at hm
    subst hm
    refine ⟨(List.range n).map fun i => (V0 i, V1 i), by simp, Nat.le_trans hl (by unfold maxLen at hx0; omega), nofun, fun h0 => ?_, fun i h => ?_⟩
    · simp at h0
      obtain ⟨b, off, spot⟩ := x
      have hc0 := (hx 0 (by omega)).1
      have hspot : spot = none := by simpa [Addr.add] using World.cell?_spot hc0
      subst hspot
      refine ⟨b, off, rfl, fun i hi => ?_⟩
      have hi' : i < n := by simpa using hi
      obtain ⟨h1, h2, _, _⟩ := hx i (by omega)
      rw [add_at] at h1 h2
      simp only [List.getElem_map, List.getElem_range]
      exact ⟨h1, h2⟩
    · have hi' : i < n := by simpa using h
      obtain ⟨_, _, h3, h4⟩ := hx i (by omega)
      simp only [List.getElem_map, List.getElem_range]
      exact ⟨_, _, _, h3, h4⟩
theorem open_fields {H : Type} {enc : TypeId × Value → H} {W : World} {a : Option Addr} {n cap : Nat} {d : DataW H} {p : List MemPlace} (h : DataW.Trod enc Try.prog W 0 (fun _ => true) true 37 (.slice a n cap) d p) :
    ∃ ps : List (Value × Value), ps.length = n ∧ n ≤ 9223372036854775807 ∧ (a = none → n = 0 ∧ cap = 0) ∧ Pairs W a ps ∧ FieldsOk ps := by
  obtain ⟨ps, h1, h2, h3, h4, h5⟩ := open_pairs Try.underlying37 Try.underlying85 cells85 rfl rfl cells9 cells9 h
  refine ⟨ps, h1, h2, h3, h4, fun i hi => ?_⟩
  obtain ⟨m, x, y, hx, hy⟩ := h5 i hi
  obtain ⟨s, es, _⟩ := DataW.trod_string Try.underlying9 hx
  obtain ⟨v, ev, _⟩ := DataW.trod_string Try.underlying9 hy
  simp at es ev
  exact ⟨s, v, by rw [← es, ← ev]⟩
theorem open_parties {H : Type} {enc : TypeId × Value → H} {W : World} {a : Option Addr} {n cap : Nat} {d : DataW H} {p : List MemPlace} (h : DataW.Trod enc Try.prog W 0 (fun _ => true) true 38 (.slice a n cap) d p) :
    ∃ ps : List (Value × Value), ps.length = n ∧ n ≤ 9223372036854775807 ∧ (a = none → n = 0 ∧ cap = 0) ∧ Pairs W a ps ∧ PartiesOk W ps := by
  obtain ⟨ps, h1, h2, h3, h4, h5⟩ := open_pairs Try.underlying38 Try.underlying52 cells52 rfl rfl cells9 cells39 h
  refine ⟨ps, h1, h2, h3, h4, fun i hi => ?_⟩
  obtain ⟨m, x, y, hx, hy⟩ := h5 i hi
  obtain ⟨s, es, _⟩ := DataW.trod_string Try.underlying9 hx
  simp at es
  exact ⟨s, (ps[i]'hi).2, by rw [← es], open_own hy⟩
theorem open_mine {H : Type} {enc : TypeId × Value → H} {W : World} {a : Option Addr} {n cap : Nat} {d : DataW H} {p : List MemPlace} (h : DataW.Trod enc Try.prog W 0 (fun _ => true) true 39 (.slice a n cap) d p) :
    ∃ ms : List ByteArray, ms.length = n ∧ n ≤ 9223372036854775807 ∧ Strs W a ms := by
  obtain ⟨fuel, hf⟩ := h
  have hf' : DataW.trod enc Try.prog W 0 (fun _ => true) true fuel 39 [Value.slice a n cap] = some (d, p) := hf
  obtain ⟨a', ss, cap', e, hb, hs⟩ := open_own hf'
  cases e
  exact ⟨ss, rfl, hb, hs⟩

set_option maxRecDepth 100000 in
theorem twice_lifted (os : Os) (started : os.Started) (H : Type) (enc : TypeId × Value → H) :
    ReturnsInHanded {} Try.checked os 4 .any (Rows.fnShownToTwiceIsOnceSpec.pre6 enc Try.prog Try.f4 Rows.fnShownToTwiceIsOnceRow.domain false) (Rows.fnShownToTwiceIsOnceSpec.post enc Try.prog Try.f4 false true false false) := by
  refine returnsInHanded_of_change (C := Try.checked) own started (by kernel_rfl) Try.func4
    (ChangeSpec.witness6 (enc := enc) (C := Try.checked) false ⟨#[], #[.string ⟨#[]⟩, .slice none 0 0, .bool false, .slice none 0 0, .slice none 0 0], []⟩ 8 (by kernel_rfl) (by kernel_rfl) (by kernel_rfl) (by kernel_rfl)) ?_
  intro W base args ds gs before hval0 hW hcnd _
  have hval : ∀ (j : Nat) t v, Try.f4.params[j]? = some t → args[j]? = some v → Value.okWide Try.prog W .any base t v := hval0
  have hW' := hW
  obtain ⟨p, q, hA0, hV, rfl, hfz, hnd⟩ := hW
  have hA : DataW.TrodAll enc Try.prog W 0 (fun _ => true) true Try.f4.params.toList args.toList ds p := hA0
  rw [Try.params4] at hA hval
  obtain ⟨v0, r0, d0, s0, p0, q0, hargs, rfl, rfl, h0, hA1⟩ := trodAll_cons hA
  obtain ⟨v1, r1, d1, s1, p1, q1, rfl, rfl, rfl, h1, hA2⟩ := trodAll_cons hA1
  obtain ⟨v2, r2, d2, s2, p2, q2, rfl, rfl, rfl, h2, hA3⟩ := trodAll_cons hA2
  obtain ⟨v3, r3, d3, s3, p3, q3, rfl, rfl, rfl, h3, hA4⟩ := trodAll_cons hA3
  obtain ⟨v4, r4, d4, s4, p4, q4, rfl, rfl, rfl, h4, hA5⟩ := trodAll_cons hA4
  obtain ⟨rfl, rfl, rfl⟩ := trodAll_nil hA5
  have hargs' : args = #[v0, v1, v2, v3, v4] := by cases args; simp_all
  subst hargs'
  obtain ⟨rfl, rfl⟩ := trodVars_none hV
  obtain ⟨kind, rfl⟩ := okWide_string Try.underlying9 (hval 0 9 v0 rfl rfl)
  obtain ⟨af, nf, cf, rfl⟩ := okWide_slice Try.underlying37 (hval 1 37 v1 rfl rfl)
  obtain ⟨pub, rfl⟩ := okWide_bool Try.underlying4 (hval 2 4 v2 rfl rfl)
  obtain ⟨ap, np, cp, rfl⟩ := okWide_slice Try.underlying38 (hval 3 38 v3 rfl rfl)
  obtain ⟨am, nm, cm, rfl⟩ := okWide_slice Try.underlying39 (hval 4 39 v4 rfl rfl)
  obtain ⟨fs, lf, bf, zf, hF, hG⟩ := open_fields h1
  obtain ⟨ps, lp, bp, zp, hP, hO⟩ := open_parties h3
  obtain ⟨ms, lm, bm, hM⟩ := open_mine h4
  clear hA0 hval0
  simp only [List.append_nil] at hW'
  have hlt : ∀ x ∈ p0 ++ (p1 ++ (p2 ++ (p3 ++ p4))), x.block < W.heap.size := fun x hx => by simpa using hW'.lt x hx
  refine (law_any kind pub af ap am nf cf np cp nm cm fs ps ms lf lp lm bf bp bm zf zp W hF hG hP hO hM).mono fun e W' ⟨he, hw⟩ => ?_
  subst he
  have e1 : Rows.fnShownToTwiceIsOnceSpec.fn H ([d0, d1, d2, d3, d4] ++ []) = { results := [.lit (.bool true)], args := [d0, d1, d2, d3, d4] } := by simp [Rows.fnShownToTwiceIsOnceSpec]
  refine ⟨_, rfl, _, _, _, [], p0 ++ (p1 ++ (p2 ++ (p3 ++ p4))), [], hW', ?_, ?_, ?_, hw.frame _, fun h => by cases h⟩
  · rw [e1]; exact trodAll_mk1 (shut_bool Try.underlying4 true)
  · rw [e1]
    refine trodAll_cons_mk (Below.trod laidOut (by kernel_rfl) (of_decide_eq_true (by kernel_rfl)) h0 hw fun x hx => hlt x (by simp [hx])) ?_
    refine trodAll_cons_mk (Below.trod laidOut (by kernel_rfl) (of_decide_eq_true (by kernel_rfl)) h1 hw fun x hx => hlt x (by simp [hx])) ?_
    refine trodAll_cons_mk (Below.trod laidOut (by kernel_rfl) (of_decide_eq_true (by kernel_rfl)) h2 hw fun x hx => hlt x (by simp [hx])) ?_
    refine trodAll_cons_mk (Below.trod laidOut (by kernel_rfl) (of_decide_eq_true (by kernel_rfl)) h3 hw fun x hx => hlt x (by simp [hx])) ?_
    exact trodAll_mk1 (Below.trod laidOut (by kernel_rfl) (of_decide_eq_true (by kernel_rfl)) h4 hw fun x hx => hlt x (by simp [hx]))
  · rw [e1]; rfl

theorem twice_row : Rows.FnShownToTwiceIsOnceSaid :=
  OpenClaim.holds_of_wide 4 Try.f4 rfl rfl rfl rfl rfl rfl rfl ⟨rfl, rfl, rfl, rfl, rfl⟩ rfl rfl rfl rfl rfl (by kernel_rfl) Try.func4 (by kernel_rfl)
    (of_decide_eq_true (by kernel_rfl)) (by unfold Func.isWrapper; first | (rw [if_pos (by decide +kernel)]; kernel_rfl) | (rw [if_neg (by decide +kernel)]; exact ⟨rfl, rfl⟩))
    (fun os started H enc _ => twice_lifted os started H enc)
end Go.Proofs.Qxb6609473a.Shown
namespace Go.Proofs.Qxb6609473a
theorem twice_holds : Rows.FnShownToTwiceIsOnceSaid := Shown.twice_row
end Go.Proofs.Qxb6609473a
