import Derived.Test.Qxb6609473aRecord
namespace Go.Proofs.Qxb6609473a.Shown
open Go.RowKit

/-- ZZShownTo's closure: is the account among mine? -/
theorem mine_any (B : Nat) (am : Option Addr) (nm cm : Nat) (ms : List ByteArray) (s : ByteArray) (hm : ms.length = nm) (bm : nm ≤ 9223372036854775807) (w : World) (hc : w.cell? ⟨B, 0, none⟩ = some (.slice am nm cm)) (hM : Strs w am ms) :
    Calls Try.prog 20 #[.string s, .pointer (some ⟨B, 0, none⟩)] w fun e w' => e = .returned (.bool (isIn ms s)) ∧ w' = w := by
  have c := contains_any am nm cm ms s hm bm w hM
  clear hM hm
  go_enter Try.func20, Try.ntmps20
  go_wp2_with (go_at_call 21; refine c.mono ?_; rintro e w' ⟨rfl, rfl⟩)
  go_ret
  exact ⟨rfl, rfl⟩

/-- ShownTo's closure: some bool. -/
theorem key_any (F : Nat) (s k : ByteArray) (v : Value) (w : World) (hv : OwnOk w v) (hk : w.cell? ⟨F, 0, none⟩ = some (.string k)) :
    Calls Try.prog 27 #[.agg #[.string s, v], .pointer (some ⟨F, 0, none⟩)] w fun e w' => RetB e ∧ Below w.heap.size w w' := by
  obtain ⟨ao, ss, co, rfl, hss, hst⟩ := hv
  have hF : F < w.heap.size := block_lt_of_cell hk
  have c := contains_any ao ss.length co ss k rfl hss (w.alloc (.cells #[.string s, .slice ao ss.length co] 53)) (hst.below ((Below.refl _ w).alloc (Nat.le_refl _) _))
  clear hst
  generalize ss.length = m at *
  go_enter Try.func27, Try.ntmps27
  go_wp2_with (go_at_call 21; refine c.mono ?_; rintro e w' ⟨rfl, rfl⟩)
  go_ret
  exact ⟨⟨_, rfl⟩, (Below.refl _ w).alloc (Nat.le_refl _) _⟩

set_option maxHeartbeats 1000000 in
theorem indexF_any (a : Option Addr) (n cap F : Nat) (ps : List (Value × Value)) (k : ByteArray) (hl : ps.length = n) (hn : n ≤ 4096) (w : World) (hP : Pairs w a ps) (hO : PartiesOk w ps) (hk : w.cell? ⟨F, 0, none⟩ = some (.string k)) :
    Calls Try.prog 30 #[.slice a n cap, .func (.func 27) #[] #[.pointer (some ⟨F, 0, none⟩)]] w fun e w' => (∃ r : Int, e = .returned (.int .i64 r)) ∧ Below w.heap.size w w' := by
  have HL : Hid (ps.length = n) := hl
  have HP : Hid (Pairs w a ps) := hP
  have HO : Hid (PartiesOk w ps) := hO
  have HK : Hid (w.cell? ⟨F, 0, none⟩ = some (.string k)) := hk
  clear hl hP hO hk
  go_enter Try.func30, Try.ntmps30
  go_wp2
  go_loopw [8] (fun i wr => ∃ j : Nat, j ≤ n ∧ i = .int .i64 (j : Int) ∧ Hid (Below w.heap.size w wr)) (fun i _ => n - (intOf i).toNat)
  case atStart => exact ⟨0, by omega, rfl, Below.refl _ _⟩
  case round =>
    obtain ⟨j, hj, rfl, HB⟩ := hrel
    by_cases hlt : j < n
    · have hjl : j < ps.length := by rw [HL.out]; exact hlt
      obtain ⟨b, off, rfl, hc⟩ := HP.out (by omega)
      obtain ⟨c1, c2⟩ := hc j hjl
      obtain ⟨s, v, e, ho⟩ := HO.out j hjl
      rw [e] at c1 c2
      have g1 := cell_kept HB.out c1
      have g2 := cell_kept HB.out c2
      have q := key_any F s k v wr (ho.below HB.out) (cell_kept HB.out HK.out)
      obtain ⟨ao, ss, co, rfl, hss, _⟩ := ho
      generalize ss.length = m at *
      clear hc e c1 c2
      go_wp2_with fail
      refine q.mono ?_
      rintro e w2 ⟨⟨r, rfl⟩, hb2⟩
      have HB2 : Hid (Below w.heap.size w w2) := HB.out.trans (hb2.mono HB.out.size)
      clear hb2 q
      cases r
      · go_wp2_with fail
        go_roundw
        case rel => exact ⟨j + 1, by omega, by go_num, HB2⟩
        case measure => simp [intOf]; omega
      · go_wp2_with fail
        go_ret
        exact ⟨⟨_, rfl⟩, HB2⟩
    · go_wp2_with fail
      go_ret
      exact ⟨⟨_, rfl⟩, HB⟩

theorem containsF_any (a : Option Addr) (n cap F : Nat) (ps : List (Value × Value)) (k : ByteArray) (hl : ps.length = n) (hn : n ≤ 4096) (w : World) (hP : Pairs w a ps) (hO : PartiesOk w ps) (hk : w.cell? ⟨F, 0, none⟩ = some (.string k)) :
    Calls Try.prog 26 #[.slice a n cap, .func (.func 27) #[] #[.pointer (some ⟨F, 0, none⟩)]] w fun e w' => RetB e ∧ Below w.heap.size w w' := by
  have c := indexF_any a n cap F ps k hl hn w hP hO hk
  clear hl hP hO hk
  go_enter Try.func26, Try.ntmps26
  go_wp2_with fail
  refine c.mono ?_
  rintro e w2 ⟨⟨r, rfl⟩, hb2⟩
  clear c
  have HB2 : Hid (Below w.heap.size w w2) := hb2
  clear hb2
  go_wp2_with fail
  go_ret
  exact ⟨⟨_, rfl⟩, HB2⟩

/-- The pairs' cells, one behind the other. -/
def flat (ps : List (Value × Value)) : List Value := ps.flatMap fun p => [p.1, p.2]
theorem flat_length (ps : List (Value × Value)) : (flat ps).length = ps.length * 2 := by
  induction ps with
  | nil => rfl
  | cons p r ih => simp only [flat, List.flatMap_cons, List.length_append, List.length_cons, List.length_nil] at ih ⊢; omega
theorem flat_append (a b : List (Value × Value)) : flat (a ++ b) = flat a ++ flat b := by simp [flat]
theorem flat_at (ps : List (Value × Value)) (i : Nat) (h : i < ps.length) : (flat ps)[i * 2]? = some (ps[i]'h).1 ∧ (flat ps)[i * 2 + 1]? = some (ps[i]'h).2 := by
  induction ps generalizing i with
  | nil => simp at h
  | cons p r ih =>
    cases i with
    | zero => simp [flat]
    | succ i =>
      have := ih i (by simpa using h)
      have e : flat (p :: r) = p.1 :: p.2 :: flat r := by simp [flat]
      rw [e, show (i + 1) * 2 = i * 2 + 1 + 1 by omega]
      simpa using this

/-- A row that is owned leads to its pairs. -/
theorem pairs_of_row {w : World} {base e n : Nat} {v : Value} {ps : List (Value × Value)} (h : w.ownsRow base e 2 v n (flat ps)) : ∃ a cap, v = .slice a n cap ∧ ps.length = n ∧ Pairs w a ps ∧ ∀ x, a = some x → base ≤ x.block := by
  have hl := h.1
  rw [flat_length] at hl
  have hn : ps.length = n := by omega
  rcases h.2 with ⟨rfl, rfl⟩ | ⟨g, cap, cur, rfl, hb, hg, hnc, hcm, hcs, ht⟩
  · exact ⟨none, 0, rfl, hn, fun h0 => absurd h0 (by omega), fun x hx => by cases hx⟩
  · refine ⟨_, cap, rfl, hn, fun _ => ⟨g, 0, rfl, fun i hi => ?_⟩, fun x hx => by cases hx; exact hb⟩
    obtain ⟨f1, f2⟩ := flat_at ps i hi
    rw [← ht, List.getElem?_take, if_pos (by omega)] at f1 f2
    rw [Nat.zero_add, cell_of_row w g _ cur e (0, 0) hg, cell_of_row w g _ cur e (0, 0) hg]
    exact ⟨by simpa using f1, by simpa using f2⟩
end Go.Proofs.Qxb6609473a.Shown
