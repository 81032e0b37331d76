import Derived.Test.Qxb6609473aSides
import Derived.ProofKit
import Derived.OpenShut
import Derived.Deep.SlicePairs
namespace Go.Proofs.Qxb6609473a
open Go.ChangeShapes Go.WideShapes Go.ChangeAt Go.RowKit

theorem own : ownKnob Try.prog.godebug = none := by kernel_rfl
theorem laidOut : laidOutB Try.prog = true := by kernel_rfl
theorem cells25 : Try.prog.cellsOf 25 = 2 := by kernel_rfl
theorem cells5 : Try.prog.cellsOf 5 = 1 := by kernel_rfl
theorem cells2 : Try.prog.cellsOf 2 = 1 := by kernel_rfl

/-- The number that a cell holds. -/
def numOf : Value → Int
  | .int _ z => z
  | _ => 0


/-- The steps that came in: a list of sides and lots. -/
theorem open_steps {H : Type} {enc : TypeId × Value → H} {W : World} {a : Option Addr} {n cap : Nat} {d : DataW H} {p : List MemPlace}
    (h : DataW.Trod enc Try.prog W 0 (fun _ => true) true 22 (.slice a n cap) d p) : ∃ l : List (Int × Int), l.length = n ∧ StepsAt W W.heap.size a l ∧
      ∀ i (h : i < l.length), 0 ≤ (l[i]'h).1 ∧ (l[i]'h).1 ≤ 255 ∧ -9223372036854775808 ≤ (l[i]'h).2 ∧ (l[i]'h).2 ≤ 9223372036854775807 := by
  obtain ⟨fuel, hf⟩ := h
  rcases Go.Deep.open_slice_pairs Try.underlying22 Try.underlying25 cells25 rfl rfl cells5 cells2 hf with ⟨hcs, _⟩ | ⟨x, len, cap', m, k, V0, V1, D0, D1, P0, P1, hcs, _, hl, _, hm, _, hx⟩
  · simp [Value.cells] at hcs
    obtain ⟨rfl, rfl, rfl⟩ := hcs
    exact ⟨[], rfl, fun h => absurd h (by simp), fun i h => absurd h (by simp)⟩
  · simp [Value.cells] at hcs
    obtain ⟨rfl, rfl, rfl⟩ := hcs
    simp only [if_true] at hm
    subst hm
    have each : ∀ i, i < n → ∃ s v : Int, V0 i = .int .u8 s ∧ V1 i = .int .i64 v ∧ 0 ≤ s ∧ s ≤ 255 ∧ -9223372036854775808 ≤ v ∧ v ≤ 9223372036854775807 := fun i hi => by
      obtain ⟨_, _, h3, h4⟩ := hx i (by omega)
      obtain ⟨s, es, _, ws⟩ := DataW.trod_int Try.underlying5 h3
      obtain ⟨v, ev, _, wv⟩ := DataW.trod_int Try.underlying2 h4
      simp at es ev
      exact ⟨s, v, es, ev, (bounds_u8 ws).1, (bounds_u8 ws).2, (bounds_i64 wv).1, (bounds_i64 wv).2⟩
    refine ⟨(List.range n).map fun i => (numOf (V0 i), numOf (V1 i)), by simp, fun h0 => ?_, fun i h => ?_⟩
    · simp at h0
      obtain ⟨b, off, spot⟩ := x
      have hc0 := (hx 0 (by omega)).1
      have hspot : spot = none := by simpa [Addr.add] using World.cell?_spot hc0
      subst hspot
      refine ⟨b, off, rfl, block_lt_of_cell hc0, fun i hi => ?_⟩
      have hi' : i < n := by simpa using hi
      obtain ⟨s, v, es, ev, _⟩ := each i hi'
      obtain ⟨h1, h2, _, _⟩ := hx i (by omega)
      rw [add_plain] at h1 h2
      simp only [List.getElem_map, List.getElem_range, es, ev, numOf]
      rw [es] at h1
      rw [ev] at h2
      exact ⟨h1, h2⟩
    · have hi' : i < n := by simpa using h
      obtain ⟨s, v, es, ev, hr⟩ := each i hi'
      simp only [List.getElem_map, List.getElem_range, es, ev, numOf]
      exact hr

set_option maxRecDepth 100000 in
theorem sides_lifted (os : Os) (started : os.Started) (H : Type) (enc : TypeId × Value → H) :
    ReturnsInHanded {} Try.checked os 3 .any (Rows.fnCollectSidesApartAndUndoSpec.pre6 enc Try.prog Try.f3 Rows.fnCollectSidesApartAndUndoRow.domain false) (Rows.fnCollectSidesApartAndUndoSpec.post enc Try.prog Try.f3 false true false false) := by
  refine returnsInHanded_of_change (C := Try.checked) own started (by kernel_rfl) Try.func3
    (ChangeSpec.witness6 (enc := enc) (C := Try.checked) false ⟨#[], #[.slice none 0 0], []⟩ 8 (by kernel_rfl) (by kernel_rfl) (by kernel_rfl) (by kernel_rfl)) ?_
  intro W base args ds gs before hval0 hW hcnd _
  have hval : ∀ (j : Nat) t v, Try.f3.params[j]? = some t → args[j]? = some v → Value.okWide Try.prog W .any base t v := hval0
  have hW' := hW
  obtain ⟨p, q, hA0, hV, rfl, hfz, hnd⟩ := hW
  have hA : DataW.TrodAll enc Try.prog W 0 (fun _ => true) true Try.f3.params.toList args.toList ds p := hA0
  rw [Try.params3] at hA hval
  obtain ⟨v0, d0, rfl, rfl, h0⟩ := trodAll_one hA
  obtain ⟨rfl, rfl⟩ := trodVars_none hV
  obtain ⟨a, n, cap, rfl⟩ := okWide_slice Try.underlying22 (hval 0 22 v0 rfl rfl)
  obtain ⟨l, hl, hS, hR⟩ := open_steps h0
  clear hA0 hval0
  simp only [List.append_nil] at hW'
  have hlt : ∀ x ∈ p, x.block < W.heap.size := fun x hx => by simpa using hW'.lt x hx
  have hwalk : Calls Try.prog 3 #[.slice a n cap] W fun e w' => e = .returned (.bool true) ∧ Below W.heap.size W w' := by
    by_cases h1 : 1048576 < n
    · exact (law_huge a n cap h1 W).mono fun e w' ⟨he, hw⟩ => ⟨he, hw ▸ Below.refl _ _⟩
    · by_cases h2 : 65536 < n
      · exact (law_many a n cap (by omega) h2 W).mono fun e w' ⟨he, hw⟩ => ⟨he, hw ▸ Below.refl _ _⟩
      · exact law_main a n cap l hl (by omega) W hS hR
  refine hwalk.mono fun e W' ⟨he, hw⟩ => ?_
  subst he
  have e1 : Rows.fnCollectSidesApartAndUndoSpec.fn H ([d0] ++ []) = { results := [.lit (.bool true)], args := [d0] } := by simp [Rows.fnCollectSidesApartAndUndoSpec]
  refine ⟨_, rfl, _, _, _, [], p, [], hW', ?_, ?_, ?_, hw.frame _, fun h => by cases h⟩
  · rw [e1]; exact trodAll_mk1 (shut_bool Try.underlying4 true)
  · rw [e1]; exact trodAll_mk1 (Below.trod laidOut (by kernel_rfl) (of_decide_eq_true (by kernel_rfl)) h0 hw hlt)
  · rw [e1]; rfl

theorem sides_holds : Rows.FnCollectSidesApartAndUndoSaid :=
  OpenClaim.holds_of_wide 3 Try.f3 rfl rfl rfl rfl rfl rfl rfl ⟨rfl, rfl, rfl, rfl, rfl⟩ rfl rfl rfl rfl rfl (by kernel_rfl) Try.func3 (by kernel_rfl)
    (of_decide_eq_true (by kernel_rfl)) (by unfold Func.isWrapper; first | (rw [if_pos (by decide +kernel)]; kernel_rfl) | (rw [if_neg (by decide +kernel)]; exact ⟨rfl, rfl⟩))
    (fun os started H enc _ => sides_lifted os started H enc)
end Go.Proofs.Qxb6609473a
