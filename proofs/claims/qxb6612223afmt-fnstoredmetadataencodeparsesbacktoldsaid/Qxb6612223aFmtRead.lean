import Derived.Test.Qxb6612223aFmtStored
import Derived.WalkLawsBesides
namespace Go.Proofs.Qxb6612223aFmt
open Go.RowKit

/-- The number that bytes hold, the greatest first. -/
def val (l : List Nat) : Nat := l.foldl (fun v b => v * 256 + b) 0
theorem val_snoc (l : List Nat) (b : Nat) : val (l ++ [b]) = val l * 256 + b := by simp [val]
theorem val_take (l : List Nat) (k : Nat) (h : k < l.length) : val (l.take (k + 1)) = val (l.take k) * 256 + l[k] := by rw [List.take_succ_eq_append_getElem h, val_snoc]
theorem val_lt (l : List Nat) (hb : ∀ b ∈ l, b < 256) (k : Nat) (hk : k ≤ l.length) : val (l.take k) < 2 ^ (8 * k) := by
  induction k with
  | zero => simp [val]
  | succ k ih =>
    have h1 := ih (by omega)
    have h2 := hb l[k] (List.getElem_mem _)
    rw [val_take l k (by omega), Nat.mul_add, Nat.pow_add]
    have := Nat.mul_le_mul_right 256 (show val (l.take k) + 1 ≤ 2 ^ (8 * k) from h1)
    omega
theorem be_at (n v k : Nat) (h : k < (be n v).length) : (be n v)[k] = v / 2 ^ (8 * (n - 1 - k)) % 256 := by simp [be]
theorem be_byte (n v : Nat) : ∀ b ∈ be n v, b < 256 := by
  intro b hb
  obtain ⟨j, _, rfl⟩ := List.mem_map.1 hb
  exact Nat.mod_lt _ (by decide)
theorem val_be_take (n v : Nat) (hv : v < 2 ^ (8 * n)) (k : Nat) (hk : k ≤ n) : val ((be n v).take k) = v / 2 ^ (8 * (n - k)) := by
  induction k with
  | zero => simp [val, Nat.div_eq_of_lt hv]
  | succ k ih =>
    rw [val_take _ _ (by rw [be_length]; omega), ih (by omega), be_at]
    have e1 : n - 1 - k = n - (k + 1) := by omega
    have e2 : 8 * (n - k) = 8 * (n - (k + 1)) + 8 := by omega
    rw [e1, e2, Nat.pow_add, ← Nat.div_div_eq_div_mul]
    generalize v / 2 ^ (8 * (n - (k + 1))) = u
    omega
theorem val_be (n v : Nat) (hv : v < 2 ^ (8 * n)) : val (be n v) = v := by
  have := val_be_take n v hv n (Nat.le_refl _)
  rw [List.take_of_length_le (by rw [be_length]; omega)] at this
  rw [this]
  simp

/-- The bytes from p on. -/
def At (w : World) (g p : Nat) (ds : List Nat) : Prop := ∀ i (h : i < ds.length), w.cell? ⟨g, p + i, none⟩ = some (.int .u8 ((ds[i]'h : Nat) : Int))

set_option maxHeartbeats 1000000 in
theorem readUint_any (g L cap p n : Nat) (ds : List Nat) (w : World) (hd : ds.length = n) (hb : ∀ b ∈ ds, b < 256) (hn : n ≤ 8) (hp : p + n ≤ L) (hL : L ≤ 8388608) (hA : At w g p ds) :
    Calls Tryf.prog 14 #[.slice (some ⟨g, 0, none⟩) L cap, .int .i64 (p : Int), .int .i64 (n : Int)] w fun e w' => e = .returned (.tuple #[.int .u64 (val ds : Int), .int .i64 ((p + n : Nat) : Int), .bool true]) ∧ w' = w := by
  obtain ⟨M, hM⟩ : ∃ M, M = L - p := ⟨_, rfl⟩
  have hs : (L : Int) - (p : Int) = (M : Int) := by omega
  have hpL : p ≤ L := by omega
  have hnM : n ≤ M := by omega
  have HM := hideT hM
  have HP := hideT hp
  have HD := hideT hd
  have HB := hideT hb
  have HA := hideT hA
  clear hM hp hd hb hA
  go_enter Tryf.func14, Tryf.ntmps14
  go_wp2_with fail
  go_loopw [9, 10] (fun v i wr => ∃ k : Nat, k ≤ n ∧ v = .int .u64 (val (ds.take k) : Int) ∧ i = .int .i64 (k : Int) ∧ wr = w) (fun _ i _ => n - (intOf i).toNat)
  case atStart => exact ⟨0, by omega, rfl, rfl, rfl⟩
  case round =>
    obtain ⟨k, hk, rfl, rfl, rfl⟩ := hrel
    by_cases hlt : k < n
    · have hkd : k < ds.length := by rw [HD.out]; exact hlt
      have c0 := HA.out k hkd
      have hv := val_take ds k hkd
      have hx := val_lt ds HB.out (k + 1) (by omega)
      have hby := HB.out _ (List.getElem_mem hkd)
      have h64 : (2 : Nat) ^ (8 * (k + 1)) ≤ 18446744073709551616 := by
        have : (2 : Nat) ^ (8 * (k + 1)) ≤ 2 ^ 64 := Nat.pow_le_pow_right (by decide) (by omega)
        exact this
      obtain ⟨V, hV⟩ : ∃ V, V = val (ds.take k) := ⟨_, rfl⟩
      obtain ⟨V2, hV2⟩ : ∃ V2, V2 = val (ds.take (k + 1)) := ⟨_, rfl⟩
      obtain ⟨b, hbb⟩ : ∃ b, b = ds[k] := ⟨_, rfl⟩
      obtain ⟨P, hPP⟩ : ∃ P, P = p + k := ⟨_, rfl⟩
      obtain ⟨V1, hV1⟩ : ∃ V1, V1 = V * 256 := ⟨_, rfl⟩
      rw [← hPP, ← hbb] at c0
      rw [← hV, ← hV2, ← hbb] at hv
      rw [← hV2] at hx
      rw [← hbb] at hby
      rw [← hV]
      have hq1 : (V : Int) * 256 = (V1 : Int) := by omega
      have hq2 : (V1 : Int) + (b : Int) = (V2 : Int) := by omega
      have hq3 : (p : Int) + (k : Int) = (P : Int) := by omega
      have hV1b : V1 < 18446744073709551616 := by omega
      have hV2b : V2 < 18446744073709551616 := by omega
      have hPL : P < L := by have := HP.out; omega
      have E2 := hideT hV2
      clear hv hx h64 hV1 hPP hbb hV hV2 hkd
      go_wp2_with fail
      go_roundw
      case rel => exact ⟨k + 1, by omega, by rw [E2.out], by go_num, (by first | rfl | trivial)⟩
      case measure => simp [intOf]; omega
    · have hkn : k = n := by omega
      subst hkn
      have HR : Hid (val (ds.take k) = val ds) := by show _ = _; rw [List.take_of_length_le (by rw [HD.out]; omega)]
      obtain ⟨P, hPP⟩ : ∃ P, P = p + k := ⟨_, rfl⟩
      have hq3 : (p : Int) + (k : Int) = (P : Int) := by omega
      have hPL : P ≤ L := by have := HP.out; omega
      have EP := hideT hPP
      clear hPP
      go_wp2_with fail
      exact bodyPost_ret (v := .tuple #[.int .u64 (val (ds.take k) : Int), .int .i64 (P : Int), .bool true]) (by simp [results, Tryf.results14, go_sem]) rfl ⟨by rw [HR.out, EP.out], rfl⟩
end Go.Proofs.Qxb6612223aFmt
