import Derived.Test.Qxb6609252aText
import Derived.WalkLawsBesides
import Derived.Deep.QuietTactic
import Derived.BigQuiet
namespace Go.Proofs.Qxb6609252a
open Go.RowKit

/-- compareBytes on lists of one length. -/
def cmpL : List UInt8 → List UInt8 → Int
  | a :: x, b :: y => if a.toNat < b.toNat then -1 else if b.toNat < a.toNat then 1 else cmpL x y
  | _, _ => 0

theorem cmpL_drop (X Y : List UInt8) (k : Nat) (hx : k < X.length) (hy : k < Y.length) :
    cmpL (X.drop k) (Y.drop k) = if X[k].toNat < Y[k].toNat then -1 else if Y[k].toNat < X[k].toNat then 1 else cmpL (X.drop (k + 1)) (Y.drop (k + 1)) := by
  rw [List.drop_eq_getElem_cons hx, List.drop_eq_getElem_cons hy, cmpL]

theorem ret_int {k : IntKind} {a b : Int} (h : a = b) : Ending.returned (.int k a) = .returned (.int k b) := by rw [h]

set_option maxHeartbeats 1000000 in
theorem compare_any (bx ox cx bY oy cy n : Nat) (X Y : List UInt8) (hX : X.length = n) (hY : Y.length = n) (hn : n ≤ 1000) (w : World)
    (hcx : ∀ i (h : i < X.length), w.cell? ⟨bx, ox + i, none⟩ = some (.int .u8 ((X[i]'h).toNat : Int)))
    (hcy : ∀ i (h : i < Y.length), w.cell? ⟨bY, oy + i, none⟩ = some (.int .u8 ((Y[i]'h).toNat : Int))) :
    Calls Try.prog 9 #[.slice (some ⟨bx, ox, none⟩) n cx, .slice (some ⟨bY, oy, none⟩) n cy] w fun e w' => e = .returned (.int .i64 (cmpL X Y)) ∧ ∃ q, w' = w.drewN q := by
  have HX : Hid (∀ i (h : i < X.length), w.cell? ⟨bx, ox + i, none⟩ = some (.int .u8 ((X[i]'h).toNat : Int))) := hcx
  have HY : Hid (∀ i (h : i < Y.length), w.cell? ⟨bY, oy + i, none⟩ = some (.int .u8 ((Y[i]'h).toNat : Int))) := hcy
  clear hcx hcy
  have HX1 : Hid (X.length = n) := hX
  have HY1 : Hid (Y.length = n) := hY
  clear hX hY
  go_enter Try.func9, Try.ntmps9
  go_wp2
  go_loopw [6] (fun i wr => ∃ k q : Nat, k ≤ n ∧ i = .int .i64 (k : Int) ∧ wr = w.drewN q ∧ Hid (cmpL (X.drop k) (Y.drop k) = cmpL X Y)) (fun i _ => n - (intOf i).toNat)
  case atStart => exact ⟨0, 0, by omega, rfl, rfl, rfl⟩
  case round =>
    obtain ⟨k, q, hk, rfl, rfl, HK⟩ := hrel
    by_cases hlt : k < n
    · have kx : k < X.length := by rw [HX1.out]; exact hlt
      have ky : k < Y.length := by rw [HY1.out]; exact hlt
      have cX := HX.out k kx
      have cY := HY.out k ky
      have hd := cmpL_drop X Y k kx ky
      have HD : Hid (cmpL X Y = if (X[k].toNat : Int) < (Y[k].toNat : Int) then -1 else if (Y[k].toNat : Int) < (X[k].toNat : Int) then 1 else cmpL (X.drop (k + 1)) (Y.drop (k + 1))) := by
        show _ = _
        rw [← HK.out, hd]
        simp only [Int.ofNat_lt]
      generalize (X[k].toNat : Int) = a at *
      generalize (Y[k].toNat : Int) = b at *
      clear hd kx ky
      by_cases hab : a < b
      · have HR : Hid (cmpL X Y = -1) := by show _ = _; rw [HD.out, if_pos hab]
        clear HD HK
        go_wp2_with fail
        go_quiet (fail)
        go_wp2_with fail
        go_ret
        exact ⟨ret_int HR.out.symm, _, World.drewN_drewN _ _ _⟩
      · by_cases hba : b < a
        · have HR : Hid (cmpL X Y = 1) := by show _ = _; rw [HD.out, if_neg hab, if_pos hba]
          clear HD HK
          go_wp2_with fail
          go_quiet (fail)
          go_wp2_with fail
          go_quiet (fail)
          go_wp2_with fail
          go_ret
          exact ⟨ret_int HR.out.symm, _, by rw [World.drewN_drewN, World.drewN_drewN]⟩
        · have HR : Hid (cmpL (X.drop (k + 1)) (Y.drop (k + 1)) = cmpL X Y) := by show _ = _; rw [HD.out, if_neg hab, if_neg hba]
          clear HD HK
          go_wp2_with fail
          go_quiet (fail)
          go_wp2_with fail
          go_quiet (fail)
          go_wp2_with fail
          go_roundw
          case rel => exact ⟨k + 1, _, by omega, by go_num, rfl, HR⟩
          case measure => simp [intOf]; omega
    · have hkn : k = n := by omega
      subst hkn
      have HR : Hid (cmpL X Y = 0) := by
        show _ = _
        rw [← HK.out, List.drop_eq_nil_of_le (by rw [HX1.out]; omega), cmpL]
        intro a x b y h
        cases h
      clear HK HX1 HY1
      go_wp2
      go_ret
      exact ⟨ret_int HR.out.symm, _, rfl⟩
end Go.Proofs.Qxb6609252a
