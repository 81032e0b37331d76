import Derived.Test.Qxb6609157aDoorLaw
import Derived.Test.Qxb6609157aDoorTie
import Derived.Test.Qxb6609157aDoorCards
import Derived.ProofKit
import Derived.LaidMore
import Derived.OpenShut
import Derived.Stop.Joined
import Derived.Lib.LaidU8
import Derived.SevenTiedAt
namespace Go.Proofs.Qxb6609157aDoor
open Go.ChangeShapes Go.WideShapes Go.ChangeAt Go.RowKit

theorem own : ownKnob Tryd.prog.godebug = none := by kernel_rfl

/-- The door's own heap meets the condition. -/
theorem door_met (os : Os) (args : Array Value) : laidMetH Tryd.prog Rows.fnIsSpaceExactTableRow.laid ((World.doorLaid Tryd.prog 28 os).forCall (fun _ _ => 0) ⟨#[], args, []⟩).memory :=
  laidMetH_of_parts3 (fuel := 8) (laidMet_of_run' 8 (by kernel_rfl) (by kernel_rfl)) (by kernel_rfl) (by kernel_rfl)

/-- What the listed datum gives the walk: unicode.White_Space's table, cell for cell. -/
theorem of_laid {W : World} (h : laidMetH Tryd.prog Rows.fnIsSpaceExactTableRow.laid W) : Lib.WhiteTab 0 W := by
  rw [MakeChecks.laidMetH_plain _ _ _ (by kernel_rfl)] at h
  have hr : Lib.VarReads Tryd.prog W "unicode.White_Space" Lib.whiteData := by
    have := Lib.laidMet.reads h (n := "unicode.White_Space") (d := Rows.laid_unicode_White_Space) (.head _)
    have e : Rows.laid_unicode_White_Space = Lib.whiteData := by kernel_rfl
    rwa [e] at this
  exact whiteTab_of_reads { Tryd.lays199 with } ⟨by kernel_rfl, by kernel_rfl, by kernel_rfl, by kernel_rfl, by kernel_rfl, by kernel_rfl, by kernel_rfl, by kernel_rfl⟩ hr

set_option maxRecDepth 100000 in
theorem lifted (os : Os) (started : os.Started) (H : Type) (enc : TypeId × Value → H) :
    ReturnsInHanded {} Tryd.checked os 3 .any (fun w args => (Rows.fnIsSpaceExactTableSpec.pre enc Tryd.prog Tryd.f3 [] false w args ∧ laidMetH Tryd.prog Rows.fnIsSpaceExactTableRow.laid w) ∧ sizedMet enc Tryd.prog Tryd.f3 (OpenSpec.ofChange Rows.fnIsSpaceExactTableSpec) false w args)
      (Rows.fnIsSpaceExactTableSpec.post enc Tryd.prog Tryd.f3 false true false false) := by
  refine returnsInHanded_of_change_and (C := Tryd.checked) (X := fun w _ => laidMetH Tryd.prog Rows.fnIsSpaceExactTableRow.laid w) (fun _ _ _ hh h => h.of_heap hh) own started (by kernel_rfl) Tryd.func3
    (ChangeSpec.witness_shaped (enc := enc) (C := Tryd.checked) (os := os) (X := fun w _ => laidMetH Tryd.prog Rows.fnIsSpaceExactTableRow.laid w) false (World.doorLaid Tryd.prog 28 os) #[.int .i32 0] 8 rfl (World.shaped_of_RefB (by kernel_rfl) (by kernel_rfl)) (by kernel_rfl) (by kernel_rfl) (by kernel_rfl) (door_met os _)) ?_
  intro W base args ds gs before hval0 hW _ _ hL _
  have hval : ∀ (j : Nat) t v, Tryd.f3.params[j]? = some t → args[j]? = some v → Value.okWide Tryd.prog W .any base t v := hval0
  have hW' := hW
  obtain ⟨p, q, hA0, hV, rfl, hfz, hnd⟩ := hW
  have hA : DataW.TrodAll enc Tryd.prog W 0 (fun _ => true) true Tryd.f3.params.toList args.toList ds p := hA0
  rw [Tryd.params3] at hA hval
  obtain ⟨v0, d0, rfl, rfl, h0⟩ := trodAll_one hA
  obtain ⟨rfl, rfl⟩ := trodVars_none hV
  obtain ⟨r, rfl, rfl, rfl, wr⟩ := open_int Tryd.underlying21 (hval 0 21 v0 rfl rfl) h0
  have hT := of_laid hL
  clear hA0 hval0
  simp only [List.append_nil] at hW'
  have hb : -2147483648 ≤ r ∧ r ≤ 2147483647 := bounds_i32 wr
  refine (law_walk r W hb.1 hb.2 hT).mono fun e W' ⟨he, hw⟩ => ?_
  subst he
  have e1 : Rows.fnIsSpaceExactTableSpec.fn H ([.lit (.int .i32 r)] ++ []) = { results := [.lit (.bool true)], args := [.lit (.int .i32 r)] } := by simp [Rows.fnIsSpaceExactTableSpec]
  refine ⟨_, rfl, _, _, _, [], [], [], hW', ?_, ?_, ?_, hw.frame _, fun h => by cases h⟩
  · rw [e1]; exact trodAll_mk1 (shut_bool Tryd.underlying4 true)
  · rw [e1]; exact trodAll_mk1 (shut_int Tryd.underlying21 wr)
  · rw [e1]; rfl

theorem row_holds : Rows.FnIsSpaceExactTableSaid :=
  OpenClaim.holds_of_wide 3 Tryd.f3 rfl rfl rfl rfl rfl rfl rfl ⟨rfl, rfl, rfl, rfl, rfl⟩ rfl rfl rfl rfl rfl (by kernel_rfl) Tryd.func3 (by kernel_rfl)
    (of_decide_eq_true (by kernel_rfl)) (by unfold Func.isWrapper; first | (rw [if_pos (by decide +kernel)]; kernel_rfl) | (rw [if_neg (by decide +kernel)]; exact ⟨rfl, rfl⟩))
    (fun os started H enc _ => lifted os started H enc)

theorem card_holds : Rows.FnIsSpaceExactTableCardSaid :=
  Claim7.holds_tied_plain_at .later [] [.listed] true Rows.fnIsSpaceExactTableCard.stood.harness false
    row_holds (fun _ h => by cases h) (by kernel_rfl) (fun _ h => by cases h) fnIsSpaceExactTable_row_tie rfl ⟨rfl, rfl⟩ (by kernel_rfl) rfl
    (fun f fn hf hfn => by
      obtain rfl : f = 3 := Option.some.inj ((show Tryd.prog.funcNamed Rows.fnIsSpaceExactTableRow.func = some 3 by kernel_rfl).symm.trans hf) |>.symm
      obtain rfl : fn = Tryd.f3 := (Option.some.inj (Tryd.func3.symm.trans hfn)).symm
      exact ⟨by kernel_rfl, fun j t ht => by
        rw [Tryd.params3] at ht
        have hm : t ∈ [21] := by simpa using Array.mem_of_getElem? ht
        have hall : ([21].all fun u => !Tryd.prog.wantsStandIn u) = true := by kernel_rfl
        exact (show Tryd.prog.wantsStandIn t = false by simpa using List.all_eq_true.1 hall t hm)⟩)
    (by kernel_rfl)
end Go.Proofs.Qxb6609157aDoor
