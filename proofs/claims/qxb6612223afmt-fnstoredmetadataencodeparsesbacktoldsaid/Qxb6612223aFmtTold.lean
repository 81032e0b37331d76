import Derived.Test.Qxb6612223aFmtLaw
import Derived.Test.Qxb6612223aFmtCards
import Derived.ProofKit
import Derived.OpenShut
import Derived.Stop.JoinedAt
import Derived.Stop.Texts
import Derived.Stop.JoinedTold
import Derived.SevenToldRow
namespace Go.Proofs.Qxb6612223aFmt
open Go.ChangeShapes Go.WideShapes Go.ChangeAt Go.RowKit
open Go.Extern.Stop Go.Stop Go.Extern

theorem own : ownKnob Tryf.prog.godebug = none := by kernel_rfl
theorem laidOut : laidOutB Tryf.prog = true := by kernel_rfl
theorem wf_bounds {k : IntKind} {x : Int} (hw : (Lit.int k x).wf = true) : k.min ≤ x ∧ x ≤ k.max := by simpa [Lit.wf] using hw
theorem cells5 : Tryf.prog.cellsOf 5 = 1 := by kernel_rfl

/-- A slice of bytes that came in. -/
theorem open_bytes {H : Type} {enc : TypeId × Value → H} {W : World} {a : Option Addr} {n cap : Nat} {d : DataW H} {p : List MemPlace} (h : DataW.Trod enc Tryf.prog W 0 (fun _ => true) true 22 (.slice a n cap) d p) :
    ∃ ns : List Nat, ns.length = n ∧ (a = none → n = 0 ∧ cap = 0) ∧ Src W a ns ∧ ∀ x, a = some x → 0 < ns.length → x.block < W.heap.size := by
  obtain ⟨fuel, hf⟩ := h
  have hf' : DataW.trod enc Tryf.prog W 0 (fun _ => true) true fuel 22 [Value.slice a n cap] = some (d, p) := hf
  rcases open_ints Tryf.underlying22 Tryf.underlying5 cells5 hf' with ⟨hcs, _⟩ | ⟨x, len, cap', zs, hcs, _, hl, hm, hzl, _, hc, hw⟩
  · cases hcs
    exact ⟨[], rfl, fun _ => ⟨rfl, rfl⟩, fun i hi => absurd hi (by simp), fun _ _ hi => absurd hi (by simp)⟩
  · cases hcs
    simp only [if_true] at hzl
    have hS : Src W (some x) ((zs.take n).map Int.toNat) := fun i hi => by
      have hi1 : i < n ∧ i < zs.length := by simp at hi; omega
      refine ⟨x, rfl, ?_⟩
      rw [hc i hi1.2]
      have hz := wf_bounds (hw (zs[i]'hi1.2) (List.getElem_mem _))
      simp [IntKind.min, IntKind.max, IntKind.signed, IntKind.bits] at hz
      have e : zs.getD i 0 = zs[i]'hi1.2 := by simp [List.getD, hi1.2]
      rw [e]
      simp only [List.getElem_map, List.getElem_take]
      congr 2
      omega
    refine ⟨(zs.take n).map Int.toNat, by simp; omega, nofun, hS, fun y hy h0 => ?_⟩
    obtain ⟨y', hy', hcell⟩ := hS 0 h0
    cases hy
    cases hy'
    have := block_lt_of_cell hcell
    unfold Addr.add at this
    split at this <;> exact this
theorem nat_of {k : IntKind} {z : Int} (hk : k.signed = false) (hw : (Lit.int k z).wf = true) : ∃ m : Nat, z = (m : Int) := by
  have h0 : 0 ≤ z := by
    have := (wf_bounds hw).1
    cases k <;> simp [IntKind.min, IntKind.signed] at this hk ⊢ <;> omega
  exact ⟨z.toNat, by omega⟩

set_option maxRecDepth 100000 in
set_option maxHeartbeats 1600000 in
theorem t_lifted (os : Os) (started : os.Started) (H : Type) (enc : TypeId × Value → H) :
    ReturnsInTold none {} Tryf.checked os 4 .any Input.okWide ((OpenSpec.ofChange Rows.fnStoredMetaDataEncodeParsesBackSpec).preRow enc Tryf.prog Tryf.f4 [] false []) (fun F => ((OpenSpec.ofChange Rows.fnStoredMetaDataEncodeParsesBackSpec).at F).post enc Tryf.prog Tryf.f4 false true false false) (aloneAtReturn Tryf.prog) nothingAlways := by
  refine returnsInTold_of_row (C := Tryf.checked) (s := OpenSpec.ofChange Rows.fnStoredMetaDataEncodeParsesBackSpec) (by kernel_rfl) own started (by kernel_rfl) Tryf.func4
    (OpenSpec.witness_stopped (enc := enc) (C := Tryf.checked) false ⟨#[], #[.slice none 0 0, .int .u64 0, .int .u32 0, .string ⟨#[]⟩, .int .u32 0, .slice none 0 0, .bool false, .int .u32 0, .int .u8 0, .slice none 0 0], []⟩ 8 (by kernel_rfl) (by kernel_rfl) (by kernel_rfl) (by kernel_rfl)) ?_
  intro F W base args ds gs before _ hF hval0 hW _ _ _ _ _
  have hval : ∀ (j : Nat) t v, Tryf.f4.params[j]? = some t → args[j]? = some v → Value.okWide Tryf.prog W .any base t v := hval0
  have hW' := hW
  obtain ⟨p, q, hA0, hV, rfl, hfz, hnd⟩ := hW
  have hA : DataW.TrodAll enc Tryf.prog W 0 (fun _ => true) true Tryf.f4.params.toList args.toList ds p := hA0
  rw [Tryf.params4] at hA hval
  obtain ⟨v0, r0, d0, s0, p0, q0, hargs, rfl, rfl, h0, hA1⟩ := trodAll_cons hA
  obtain ⟨v1, r1, d1, s1, p1, q1, rfl, rfl, rfl, h1, hA2⟩ := trodAll_cons hA1
  obtain ⟨v2, r2, d2, s2, p2, q2, rfl, rfl, rfl, h2, hA3⟩ := trodAll_cons hA2
  obtain ⟨v3, r3, d3, s3, p3, q3, rfl, rfl, rfl, h3, hA4⟩ := trodAll_cons hA3
  obtain ⟨v4, r4, d4, s4, p4, q4, rfl, rfl, rfl, h4, hA5⟩ := trodAll_cons hA4
  obtain ⟨v5, r5, d5, s5, p5, q5, rfl, rfl, rfl, h5, hA6⟩ := trodAll_cons hA5
  obtain ⟨v6, r6, d6, s6, p6, q6, rfl, rfl, rfl, h6, hA7⟩ := trodAll_cons hA6
  obtain ⟨v7, r7, d7, s7, p7, q7, rfl, rfl, rfl, h7, hA8⟩ := trodAll_cons hA7
  obtain ⟨v8, r8, d8, s8, p8, q8, rfl, rfl, rfl, h8, hA9⟩ := trodAll_cons hA8
  obtain ⟨v9, r9, d9, s9, p9, q9, rfl, rfl, rfl, h9, hA10⟩ := trodAll_cons hA9
  obtain ⟨rfl, rfl, rfl⟩ := trodAll_nil hA10
  have hargs' : args = #[v0, v1, v2, v3, v4, v5, v6, v7, v8, v9] := by cases args; simp_all
  subst hargs'
  obtain ⟨rfl, rfl⟩ := trodVars_none hV
  obtain ⟨a, np, cp, rfl⟩ := okWide_slice Tryf.underlying22 (hval 0 22 v0 rfl rfl)
  obtain ⟨z1, rfl, rfl, rfl, w1⟩ := open_int Tryf.underlying33 (hval 1 33 v1 rfl rfl) h1
  obtain ⟨z2, rfl, rfl, rfl, w2⟩ := open_int Tryf.underlying34 (hval 2 34 v2 rfl rfl) h2
  obtain ⟨model, rfl⟩ := okWide_string Tryf.underlying9 (hval 3 9 v3 rfl rfl)
  obtain ⟨z4, rfl, rfl, rfl, w4⟩ := open_int Tryf.underlying34 (hval 4 34 v4 rfl rfl) h4
  obtain ⟨b, nk, ck, rfl⟩ := okWide_slice Tryf.underlying22 (hval 5 22 v5 rfl rfl)
  obtain ⟨ex, rfl⟩ := okWide_bool Tryf.underlying4 (hval 6 4 v6 rfl rfl)
  obtain ⟨z7, rfl, rfl, rfl, w7⟩ := open_int Tryf.underlying34 (hval 7 34 v7 rfl rfl) h7
  obtain ⟨z8, rfl, rfl, rfl, w8⟩ := open_int Tryf.underlying5 (hval 8 5 v8 rfl rfl) h8
  obtain ⟨c, nh, ch, rfl⟩ := okWide_slice Tryf.underlying22 (hval 9 22 v9 rfl rfl)
  obtain ⟨st, rfl⟩ := nat_of rfl w1
  obtain ⟨lt, rfl⟩ := nat_of rfl w2
  obtain ⟨ix, rfl⟩ := nat_of rfl w4
  obtain ⟨vl, rfl⟩ := nat_of rfl w7
  obtain ⟨ha, rfl⟩ := nat_of rfl w8
  obtain ⟨ps, lp, za, sa, ba⟩ := open_bytes h0
  obtain ⟨ks, lk, zb, sb, bb⟩ := open_bytes h5
  obtain ⟨hs, lh, zc, sc, bc⟩ := open_bytes h9
  have m1 := (wf_bounds w1).2
  have m2 := (wf_bounds w2).2
  have m4 := (wf_bounds w4).2
  have m7 := (wf_bounds w7).2
  have m8 := (wf_bounds w8).2
  simp [IntKind.max, IntKind.signed, IntKind.bits] at m1 m2 m4 m7 m8
  clear hA0 hval0
  simp only [List.append_nil] at hW'
  have hlt : ∀ x ∈ p0 ++ ([] ++ ([] ++ (p3 ++ ([] ++ (p5 ++ (p6 ++ ([] ++ ([] ++ p9)))))))), x.block < W.heap.size := fun x hx => by
    have := hW'.lt x (by simpa using hx)
    simpa using this
  refine (law_any F.told a b c np cp nk ck nh ch st lt ix vl ha ex model ps ks hs W hF (by omega) (by omega) (by omega) (by omega) (by omega) lp lk lh za zb zc sa sb sc ba bb bc).mono fun e W' ⟨he, hw⟩ => ?_
  subst he
  have e1 : ((OpenSpec.ofChange Rows.fnStoredMetaDataEncodeParsesBackSpec).at F.told).fn H ([d0, .lit (.int .u64 (st : Int)), .lit (.int .u32 (lt : Int)), d3, .lit (.int .u32 (ix : Int)), d5, d6, .lit (.int .u32 (vl : Int)), .lit (.int .u8 (ha : Int)), d9] ++ []) =
      { results := [.lit (.bool true)], args := [d0, .lit (.int .u64 (st : Int)), .lit (.int .u32 (lt : Int)), d3, .lit (.int .u32 (ix : Int)), d5, d6, .lit (.int .u32 (vl : Int)), .lit (.int .u8 (ha : Int)), d9] } := rfl
  refine ⟨_, rfl, _, _, _, [], p0 ++ ([] ++ ([] ++ (p3 ++ ([] ++ (p5 ++ (p6 ++ ([] ++ ([] ++ p9)))))))), [], hW', ?_, ?_, ?_, hw.frame _, fun h => by cases h⟩
  · rw [e1]; exact trodAll_mk1 (shut_bool Tryf.underlying4 true)
  · rw [e1]
    refine trodAll_cons_mk (Below.trod laidOut (by kernel_rfl) (of_decide_eq_true (by kernel_rfl)) h0 hw fun x hx => hlt x (by simp [hx])) ?_
    refine trodAll_cons_mk (shut_int Tryf.underlying33 w1) ?_
    refine trodAll_cons_mk (shut_int Tryf.underlying34 w2) ?_
    refine trodAll_cons_mk (Below.trod laidOut (by kernel_rfl) (of_decide_eq_true (by kernel_rfl)) h3 hw fun x hx => hlt x (by simp [hx])) ?_
    refine trodAll_cons_mk (shut_int Tryf.underlying34 w4) ?_
    refine trodAll_cons_mk (Below.trod laidOut (by kernel_rfl) (of_decide_eq_true (by kernel_rfl)) h5 hw fun x hx => hlt x (by simp [hx])) ?_
    refine trodAll_cons_mk (Below.trod laidOut (by kernel_rfl) (of_decide_eq_true (by kernel_rfl)) h6 hw fun x hx => hlt x (by simp [hx])) ?_
    refine trodAll_cons_mk (shut_int Tryf.underlying34 w7) ?_
    refine trodAll_cons_mk (shut_int Tryf.underlying5 w8) ?_
    exact trodAll_mk1 (Below.trod laidOut (by kernel_rfl) (of_decide_eq_true (by kernel_rfl)) h9 hw fun x hx => hlt x (by simp [hx]))
  · rw [e1]; rfl
end Go.Proofs.Qxb6612223aFmt
