import Derived.Test.Qxb6612223aFmtTold
namespace Go.Proofs.Qxb6612223aFmt
open Go.Extern.Stop Go.Stop Go.Extern

theorem stops0 : Tryf.pinned.checked.prog.stops = ["fmt.errorf"] := by kernel_rfl
theorem stopKnobs0 : Tryf.pinned.checked.prog.stopKnobs = [] := by kernel_rfl
theorem quiet0 (os : Os) : Stop.quiet Tryf.pinned.checked.prog os := by
  intro k hk
  rw [stopKnobs0] at hk
  cases hk

theorem told_holds : Rows.FnStoredMetaDataEncodeParsesBackToldSaid :=
  Claim7.holds_of_told_any 4 Tryf.f4 "fmt.errorf" [] [] _ _ _ (by kernel_rfl) rfl rfl rfl (by kernel_rfl) (by kernel_rfl) rfl ⟨rfl, rfl, rfl, rfl, rfl, rfl, rfl⟩ rfl rfl (by kernel_rfl) (by kernel_rfl) Tryf.func4 (by kernel_rfl)
    (of_decide_eq_true (by kernel_rfl)) (of_decide_eq_true (by kernel_rfl)) stops0.symm rfl stopKnobs0.symm (by kernel_rfl)
    (by kernel_rfl) (by kernel_rfl) (by kernel_rfl) (by kernel_rfl) (by kernel_rfl) (by kernel_rfl) (by kernel_rfl) (by kernel_rfl) (by kernel_rfl) rfl (by kernel_rfl) rfl rfl
    rfl rfl
    rfl (by kernel_rfl) (by kernel_rfl) (by kernel_rfl) (by decide) (by kernel_rfl)
    (OpenClaim.moreEntering_of (by kernel_rfl) (by kernel_rfl) (by kernel_rfl) (by kernel_rfl) (by kernel_rfl) (by kernel_rfl) (by kernel_rfl) (by kernel_rfl) (by kernel_rfl) (by kernel_rfl))
    ⟨_, WideRow.started_initial, quiet0 _⟩
    (fun os started _ H enc _ => t_lifted os started H enc)
end Go.Proofs.Qxb6612223aFmt
