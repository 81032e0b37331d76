import Derived.Test.Qxb6609473aRows
import Derived.WalkKit
import Derived.WalkSpells
import Derived.WalkLawsBesides
import Derived.WalkSmall
import Derived.Below
import Derived.Laws.Rows
import Derived.Deep.QuietTactic
import Derived.BigQuiet
import Derived.Outline
namespace Go.Proofs.Qxb6609473a.Shown
open Go.RowKit

/-- A slice's address a leads to these strings. -/
def Strs (w : World) (a : Option Addr) (ss : List ByteArray) : Prop :=
  0 < ss.length → ∃ b off, a = some ⟨b, off, none⟩ ∧ ∀ i (h : i < ss.length), w.cell? ⟨b, off + i, none⟩ = some (.string (ss[i]'h))
/-- A slice's address a leads to these pairs of cells. -/
def Pairs (w : World) (a : Option Addr) (ps : List (Value × Value)) : Prop :=
  0 < ps.length → ∃ b off, a = some ⟨b, off, none⟩ ∧ ∀ i (h : i < ps.length), w.cell? ⟨b, off + i * 2, none⟩ = some (ps[i]'h).1 ∧ w.cell? ⟨b, off + i * 2 + 1, none⟩ = some (ps[i]'h).2

theorem cell_kept {w w' : World} (hb : Below w.heap.size w w') {a : Addr} {v : Value} (h : w.cell? a = some v) : w'.cell? a = some v := (hb.cell (block_lt_of_cell h)).trans h
theorem Strs.below {w w' : World} {a : Option Addr} {ss : List ByteArray} (h : Strs w a ss) (hb : Below w.heap.size w w') : Strs w' a ss := fun h0 => by
  obtain ⟨b, off, e, hc⟩ := h h0
  exact ⟨b, off, e, fun i hi => cell_kept hb (hc i hi)⟩
theorem Pairs.below {w w' : World} {a : Option Addr} {ps : List (Value × Value)} (h : Pairs w a ps) (hb : Below w.heap.size w w') : Pairs w' a ps := fun h0 => by
  obtain ⟨b, off, e, hc⟩ := h h0
  exact ⟨b, off, e, fun i hi => ⟨cell_kept hb (hc i hi).1, cell_kept hb (hc i hi).2⟩⟩

/-- Is s among them? -/
def isIn (ss : List ByteArray) (s : ByteArray) : Bool := ss.any fun t => t.toList == s.toList
theorem isIn_yes {ss : List ByteArray} {s : ByteArray} {k : Nat} (h : k < ss.length) (e : ((ss[k]'h).toList == s.toList) = true) : isIn ss s = true := by
  unfold isIn
  exact List.any_eq_true.2 ⟨_, List.getElem_mem h, e⟩
theorem isIn_no {ss : List ByteArray} {s : ByteArray} (h : ∀ j (h : j < ss.length), ((ss[j]'h).toList == s.toList) = false) : isIn ss s = false := by
  unfold isIn
  rw [Bool.eq_false_iff]
  intro hc
  obtain ⟨t, ht, e⟩ := List.any_eq_true.1 hc
  obtain ⟨j, hj, rfl⟩ := List.getElem_of_mem ht
  rw [h j hj] at e
  cases e
theorem ret_bool {a b : Bool} (h : b = a) : Ending.returned (.bool a) = .returned (.bool b) := by rw [h]

set_option maxHeartbeats 400000 in
theorem in_any (a : Option Addr) (n cap : Nat) (ss : List ByteArray) (s : ByteArray) (hl : ss.length = n) (hn : n ≤ 9223372036854775807) (w : World) (hS : Strs w a ss) :
    Calls Try.prog 15 #[.slice a n cap, .string s] w fun e w' => e = .returned (.bool (isIn ss s)) ∧ w' = w := by
  have HL : Hid (ss.length = n) := hl
  have HS : Hid (Strs w a ss) := hS
  clear hl hS
  go_enter Try.func15, Try.ntmps15
  go_wp2
  go_loop [5] (fun i => ∃ k : Nat, k ≤ n ∧ i = .int .i64 (k : Int) ∧ Hid (∀ j (h : j < ss.length), j < k → ((ss[j]'h).toList == s.toList) = false)) (fun i => n - (intOf i).toNat)
  case atStart => exact ⟨0, by omega, rfl, fun j _ h => absurd h (by omega)⟩
  case round =>
    obtain ⟨k, hk, rfl, HK⟩ := hrel
    by_cases hlt : k < n
    · have hkl : k < ss.length := by rw [HL.out]; exact hlt
      obtain ⟨b, off, rfl, hc⟩ := HS.out (by omega)
      have c := hc k hkl
      clear hc
      cases hs : ((ss[k]'hkl).toList == s.toList)
      · have HN : Hid (∀ j (h : j < ss.length), j < k + 1 → ((ss[j]'h).toList == s.toList) = false) := fun j h hj => by
          by_cases e : j = k
          · subst e; exact hs
          · exact HK.out j h (by omega)
        generalize ss[k]'hkl = t at *
        clear HK
        go_wp2_with fail
        go_round
        case rel => exact ⟨k + 1, by omega, by go_num, HN⟩
        case measure => simp [intOf]; omega
      · have HR : Hid (isIn ss s = true) := isIn_yes hkl hs
        generalize ss[k]'hkl = t at *
        clear HK
        go_wp2_with fail
        go_ret
        exact ⟨ret_bool HR.out, rfl⟩
    · have HR : Hid (isIn ss s = false) := isIn_no fun j h => HK.out j h (by have := HL.out; omega)
      go_wp2_with fail
      go_ret
      exact ⟨ret_bool HR.out, rfl⟩

set_option maxHeartbeats 400000 in
theorem index_any (a : Option Addr) (n cap : Nat) (ss : List ByteArray) (s : ByteArray) (hl : ss.length = n) (hn : n ≤ 9223372036854775807) (w : World) (hS : Strs w a ss) :
    Calls Try.prog 28 #[.slice a n cap, .string s] w fun e w' => ∃ r : Int, e = .returned (.int .i64 r) ∧ decide (0 ≤ r) = isIn ss s ∧ w' = w := by
  have HL : Hid (ss.length = n) := hl
  have HS : Hid (Strs w a ss) := hS
  clear hl hS
  go_enter Try.func28, Try.ntmps28
  go_wp2
  go_loop [8] (fun i => ∃ k : Nat, k ≤ n ∧ i = .int .i64 (k : Int) ∧ Hid (∀ j (h : j < ss.length), j < k → ((ss[j]'h).toList == s.toList) = false)) (fun i => n - (intOf i).toNat)
  case atStart => exact ⟨0, by omega, rfl, fun j _ h => absurd h (by omega)⟩
  case round =>
    obtain ⟨k, hk, rfl, HK⟩ := hrel
    by_cases hlt : k < n
    · have hkl : k < ss.length := by rw [HL.out]; exact hlt
      obtain ⟨b, off, rfl, hc⟩ := HS.out (by omega)
      have c := hc k hkl
      clear hc
      cases hs : ((ss[k]'hkl).toList == s.toList)
      · have HN : Hid (∀ j (h : j < ss.length), j < k + 1 → ((ss[j]'h).toList == s.toList) = false) := fun j h hj => by
          by_cases e : j = k
          · subst e; exact hs
          · exact HK.out j h (by omega)
        rw [Bool.beq_comm] at hs
        generalize ss[k]'hkl = t at *
        clear HK
        go_wp2_with fail
        go_round
        case rel => exact ⟨k + 1, by omega, by go_num, HN⟩
        case measure => simp [intOf]; omega
      · have HR : Hid (isIn ss s = true) := isIn_yes hkl hs
        rw [Bool.beq_comm] at hs
        generalize ss[k]'hkl = t at *
        clear HK
        go_wp2_with fail
        go_ret
        exact ⟨_, rfl, by rw [HR.out]; simp, rfl⟩
    · have HR : Hid (isIn ss s = false) := isIn_no fun j h => HK.out j h (by have := HL.out; omega)
      go_wp2_with fail
      go_ret
      exact ⟨_, rfl, by rw [HR.out]; rfl, rfl⟩

set_option maxHeartbeats 400000 in
theorem contains_any (a : Option Addr) (n cap : Nat) (ss : List ByteArray) (s : ByteArray) (hl : ss.length = n) (hn : n ≤ 9223372036854775807) (w : World) (hS : Strs w a ss) :
    Calls Try.prog 21 #[.slice a n cap, .string s] w fun e w' => e = .returned (.bool (isIn ss s)) ∧ w' = w := by
  have c := index_any a n cap ss s hl hn w hS
  clear hl hS
  go_enter Try.func21, Try.ntmps21
  go_wp2_with fail
  refine c.mono ?_
  rintro e w ⟨r, rfl, hr, rfl⟩
  have HR : Hid (decide (0 ≤ r) = isIn ss s) := hr
  clear hr c
  go_wp2_with fail
  go_ret
  exact ⟨ret_bool HR.out.symm, rfl⟩

/-- zzSameStrings of a list with itself. -/
theorem same_self (a : Option Addr) (n cap : Nat) (ss : List ByteArray) (hl : ss.length = n) (hn : n ≤ 9223372036854775807) (w : World) (hS : Strs w a ss) :
    Calls Try.prog 22 #[.slice a n cap, .slice a n cap] w fun e w' => e = .returned (.bool true) ∧ ∃ q, w' = w.drewN q := by
  have HL : Hid (ss.length = n) := hl
  have HS : Hid (Strs w a ss) := hS
  clear hl hS
  go_enter Try.func22, Try.ntmps22
  go_wp2
  go_loopw [5] (fun i wr => ∃ k q : Nat, k ≤ n ∧ i = .int .i64 (k : Int) ∧ wr = w.drewN q) (fun i _ => n - (intOf i).toNat)
  case atStart => exact ⟨0, 0, by omega, rfl, rfl⟩
  case round =>
    obtain ⟨k, q, hk, rfl, rfl⟩ := hrel
    by_cases hlt : k < n
    · have hkl : k < ss.length := by rw [HL.out]; exact hlt
      obtain ⟨b, off, rfl, hc⟩ := HS.out (by omega)
      have c := hc k hkl
      clear hc
      generalize ss[k]'hkl = t at *
      go_wp2_with fail
      go_quiet (fail)
      go_wp2_with fail
      go_roundw
      case rel => exact ⟨k + 1, _, by omega, by go_num, rfl⟩
      case measure => simp [intOf]; omega
    · go_wp2_with fail
      go_ret
      exact ⟨rfl, _, rfl⟩
end Go.Proofs.Qxb6609473a.Shown
