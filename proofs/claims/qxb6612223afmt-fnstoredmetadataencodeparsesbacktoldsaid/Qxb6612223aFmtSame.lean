import Derived.Test.Qxb6612223aFmtRead
namespace Go.Proofs.Qxb6612223aFmt
open Go.RowKit

set_option maxHeartbeats 1000000 in
theorem readBytes_any (g L cap p : Nat) (a : Option Addr) (n c : Nat) (ns : List Nat) (w : World) (hd : ns.length = n) (hp : p + n ≤ L) (hL : L ≤ 8388608) (hA : At w g p ns) (hS : Src w a ns) :
    Calls Tryf.prog 15 #[.slice (some ⟨g, 0, none⟩) L cap, .int .i64 (p : Int), .slice a n c] w fun e w' => e = .returned (.tuple #[.int .i64 ((p + n : Nat) : Int), .bool true]) ∧ ∃ q, w' = w.drewN q := by
  obtain ⟨M, hM⟩ : ∃ M, M = L - p := ⟨_, rfl⟩
  have hs : (L : Int) - (p : Int) = (M : Int) := by omega
  have hpL : p ≤ L := by omega
  have hnM : n ≤ M := by omega
  have hnL : n ≤ 8388608 := by omega
  have hML : M ≤ 8388608 := by omega
  have HM := hideT hM
  have HP := hideT hp
  have HD := hideT hd
  have HA := hideT hA
  have HS := hideT hS
  clear hM hp hd hA hS
  go_enter Tryf.func15, Tryf.ntmps15
  go_wp2_with fail
  clear hs
  go_loopw [8] (fun i wr => ∃ k q : Nat, k ≤ n ∧ i = .int .i64 (k : Int) ∧ wr = w.drewN q) (fun i _ => n - (intOf i).toNat)
  case atStart => exact ⟨0, 0, by omega, rfl, rfl⟩
  case round =>
    obtain ⟨k, q, hk, rfl, rfl⟩ := hrel
    by_cases hlt : k < n
    · have hkd : k < ns.length := by rw [HD.out]; exact hlt
      have c0 := HA.out k hkd
      obtain ⟨x, rfl, c1⟩ := HS.out k hkd
      obtain ⟨b, hbb⟩ : ∃ b, b = ns[k] := ⟨_, rfl⟩
      obtain ⟨P, hPP⟩ : ∃ P, P = p + k := ⟨_, rfl⟩
      rw [← hPP, ← hbb] at c0
      rw [← hbb] at c1
      have hq3 : (p : Int) + (k : Int) = (P : Int) := by omega
      have hPL : P < L := by have := HP.out; omega
      clear hPP hbb hkd
      go_wp2_with fail
      go_quiet (fail)
      go_wp2_with fail
      go_roundw
      case rel => exact ⟨k + 1, _, by omega, by go_num, rfl⟩
      case measure => simp [intOf]; omega
    · have hkn : k = n := by omega
      subst hkn
      obtain ⟨P, hPP⟩ : ∃ P, P = p + k := ⟨_, rfl⟩
      have hq3 : (p : Int) + (k : Int) = (P : Int) := by omega
      have hPL : P ≤ L := by have := HP.out; omega
      have EP := hideT hPP
      clear hPP
      go_wp2_with fail
      exact bodyPost_ret (v := .tuple #[.int .i64 (P : Int), .bool true]) (by simp [results, Tryf.results15, go_sem]) rfl ⟨by rw [EP.out], _, rfl⟩

set_option maxHeartbeats 1000000 in
theorem sameBytes_any (g cap : Nat) (a : Option Addr) (n c : Nat) (ns : List Nat) (w : World) (hd : ns.length = n) (hL : n ≤ 8388608) (hA : At w g 0 ns) (hS : Src w a ns) :
    Calls Tryf.prog 9 #[.slice (some ⟨g, 0, none⟩) n cap, .slice a n c] w fun e w' => e = .returned (.bool true) ∧ ∃ q, w' = w.drewN q := by
  have HD := hideT hd
  have HA := hideT hA
  have HS := hideT hS
  clear hd hA hS
  go_enter Tryf.func9, Tryf.ntmps9
  go_wp2_with fail
  go_loopw [5] (fun i wr => ∃ k q : Nat, k ≤ n ∧ i = .int .i64 (k : Int) ∧ wr = w.drewN q) (fun i _ => n - (intOf i).toNat)
  case atStart => exact ⟨0, 0, by omega, rfl, rfl⟩
  case round =>
    obtain ⟨k, q, hk, rfl, rfl⟩ := hrel
    by_cases hlt : k < n
    · have hkd : k < ns.length := by rw [HD.out]; exact hlt
      have c0 := HA.out k hkd
      rw [Nat.zero_add] at c0
      obtain ⟨x, rfl, c1⟩ := HS.out k hkd
      obtain ⟨b, hbb⟩ : ∃ b, b = ns[k] := ⟨_, rfl⟩
      rw [← hbb] at c0 c1
      clear hbb hkd
      go_wp2_with fail
      go_quiet (fail)
      go_wp2_with fail
      go_roundw
      case rel => exact ⟨k + 1, _, by omega, by go_num, rfl⟩
      case measure => simp [intOf]; omega
    · go_wp2_with fail
      go_ret
      exact ⟨rfl, _, rfl⟩
end Go.Proofs.Qxb6612223aFmt
