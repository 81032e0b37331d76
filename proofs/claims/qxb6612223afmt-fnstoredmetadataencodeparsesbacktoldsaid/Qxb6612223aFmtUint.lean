import Derived.Test.Qxb6612223aFmtFixed
namespace Go.Proofs.Qxb6612223aFmt
open Go.RowKit

/-- One step of a region that draws its order: an append to the call's own row of bytes. -/
theorem step5 {ops : Array Oper} {o : Oper} {a : Act} {w : World} {K : Act → World → Prop} {Q : Exit → Act → World → Prop} {E : Prop} (hgd : o.guard = none) (s x : Operand)
    (ho : o.op = .call { callee := .builtin .append, args := #[s, x], argTypes := #[22, 22] }) (base : Nat)
    (v : Value) (n : Nat) (xs : List Value) (hs : a.eval s = v) (hown : w.ownsRow base 5 1 v n xs)
    (ad : Addr) (m c : Nat) (news : List Value) (hx : a.eval x = .slice (some ad) m c) (hl : news.length = m) (hnews : ∀ j u, news[j]? = some u → w.cell? (ad.add j) = some u) (h1 : ∀ u ∈ news, u.oneCell' = true)
    (h63 : n + m ≤ 16777216) (hbase : base ≤ w.heap.size)
    (h : ∀ v' w', w'.ownsRow base 5 1 v' (n + m) (xs ++ news) → w.grownBy w' v.ownBlock → K (a.put o.dst v') w') : if Region.wanted o (yielded ops a.tmps) = true then Oper.wp Tryf.prog o a w K Q else E := by
  have hw : Region.wanted o (yielded ops a.tmps) = true := by simp [Region.wanted, hgd]
  rw [if_pos hw]
  obtain ⟨i, hi, hz0, hz1, hz2⟩ := info_parts info5
  obtain ⟨v', w', hrun, r1, r2, _⟩ := run_append_own (P := Tryf.prog) w base 22 o.type 5 i _ 1 1 Tryf.underlying22 hi hz0 hz1 hz2 rfl (by decide) v n xs hown ad m c news (by omega) hnews h1 (by unfold maxLen; omega) (by omega) hbase
  unfold Oper.wp
  simp [execOp, ho, resolve, invoke, builtin, hs, hx, hrun, Result.andThen]
  exact h v' w' r1 r2

/-- The n bytes of v, the highest first. -/
def be (n v : Nat) : List Nat := (List.range n).map fun j => v / 2 ^ (8 * (n - 1 - j)) % 256

theorem be_length (n v : Nat) : (be n v).length = n := by simp [be]
theorem be_take {n v k : Nat} (h : k < n) : (be n v).take (k + 1) = (be n v).take k ++ [v / 2 ^ (8 * (n - 1 - k)) % 256] := by
  rw [List.take_succ_eq_append_getElem (by rw [be_length]; exact h)]
  simp [be]
theorem wrap8 (x : Nat) : IntKind.u8.wrap (x : Int) = ((x % 256 : Nat) : Int) := by
  simp [IntKind.wrap, IntKind.bits, IntKind.signed]
theorem wrap_mul8 {j : Nat} (h : j < 8) : IntKind.i64.wrap (8 * (j : Int)) = 8 * (j : Int) := by
  simp [IntKind.wrap, IntKind.bits, IntKind.signed]; omega
theorem div_nat (v j : Nat) : (v : Int) / 2 ^ (8 * (j : Int)).toNat = ((v / 2 ^ (8 * j) : Nat) : Int) := by
  have : (8 * (j : Int)).toNat = 8 * j := by omega
  rw [this]
  simp

set_option maxRecDepth 100000 in
set_option maxHeartbeats 1000000 in
theorem uint_any (base B n v : Nat) (bs : List Nat) (ev : Value) (w : World) (hW : Wrt base B bs ev w) (hbase : base ≤ w.heap.size) (hl : bs.length ≤ 8388600) (hn : n ≤ 8) :
    Calls Tryf.prog 22 #[.pointer (some ⟨B, 0, none⟩), .int .i64 (n : Int), .int .u64 (v : Int)] w fun e w' => e = .returned (.tuple #[]) ∧ Wrt base B (bs ++ be n v) ev w' ∧ Steps base w w' := by
  have HW := hideT hW
  clear hW
  go_enter Tryf.func22, Tryf.ntmps22
  go_wp2
  go_loopw [6] (fun i wr => ∃ k : Nat, k ≤ n ∧ i = .int .i64 ((n : Int) - 1 - k) ∧ Hid (Wrt base B (bs ++ (be n v).take k) ev wr) ∧ Hid (Steps base w wr)) (fun i _ => (intOf i + 1).toNat)
  case atStart => exact ⟨0, by omega, by simp, by rw [List.take_zero, List.append_nil]; exact HW, Steps.refl _ _⟩
  case round =>
    obtain ⟨k, hk, rfl, HW', HS⟩ := hrel
    by_cases hlt : k < n
    · obtain ⟨vb, hB, ho, hb⟩ := HW'.out
      obtain ⟨j, hj⟩ : ∃ j : Nat, j = n - 1 - k := ⟨_, rfl⟩
      have hj1 : (n : Int) - 1 - k = (j : Int) := by omega
      have hj8 : j < 8 := by omega
      have hdv := div_nat v j
      have hw8 := wrap_mul8 hj8
      have hu8 := wrap8 (v / 2 ^ (8 * j))
      have hbt := be_take (v := v) hlt
      rw [← hj] at hbt
      have hbw : base ≤ wr.heap.size := Nat.le_trans hbase HS.out.below.size
      have hlen : (bs ++ (be n v).take k).length ≤ 8388608 := by
        rw [List.length_append, List.length_take, be_length]; omega
      rw [hj1]
      have HJ := hideT hj1
      clear hj hj1
      generalize v / 2 ^ (8 * j) = x at *
      generalize x % 256 = y at *
      have HBT := hideT hbt
      clear hbt
      generalize eb : bs ++ (be n v).take k = cs at *
      have EB := hideT eb
      clear eb
      obtain ⟨av, cv, rfl⟩ := slice_of_row ho
      have c0 := cell_of_row wr B 0 _ 51 (0, 0) hB
      simp at c0
      have hBw : B < wr.heap.size := block_lt_of_cell c0
      have HB : Hid ((wr.drew.alloc (.cells #[.int .u8 (y : Int)] 5)).heap[B]? = some (.cells #[.slice av cs.length cv, ev] 51 (0, 0))) := (Below.heap_alloc wr.drew _ B hBw).trans hB
      have HO : Hid ((wr.drew.alloc (.cells #[.int .u8 (y : Int)] 5)).ownsRow base 5 1 (.slice av cs.length cv) cs.length (asBytes cs)) := ho.drew.alloc _
      have HZ : Hid (base ≤ (wr.drew.alloc (.cells #[.int .u8 (y : Int)] 5)).heap.size) := by show _ ≤ _; simp; omega
      have HN := hideT (one_news wr.drew (.int .u8 (y : Int)) 5)
      have HT : Hid (Steps base wr (wr.drew.alloc (.cells #[.int .u8 (y : Int)] 5))) := (Steps.refl _ _).drew.alloc hbw _
      clear hB ho
      generalize en : cs.length = m at *
      have EN := hideT en
      clear en
      go_wp2_with fail
      go_region_law (first | (refine step5 rfl (.tmp 17) (.tmp 23) rfl base (.slice av m cv) m (asBytes cs) (by simp [Act.eval]) HO.out ⟨wr.heap.size, 0, none⟩ 1 1 [.int .u8 (y : Int)] (by simp [Act.eval]) rfl HN.out (by simp [Value.oneCell']) (by omega) HZ.out ?_; intro v' w2 ho2 hg2; obtain ⟨a', c', hv⟩ := slice_of_row ho2; subst hv; have B2 := box_kept HB.out HO.out hg2; have z0 := cell_of_row w2 B 0 _ 51 (0, 0) B2; have z1 := frozen_of_row w2 B 0 _ 51 B2; simp at z0; have GO := hideT ho2; have GG := hideT hg2; clear ho2 hg2 B2))
      all_goals
        have PD := hideT (put_done (news := [y]) HB.out (by rw [EN.out]; exact HO.out) GG.out (by rw [EN.out]; exact GO.out) hb HZ.out)
        clear GO GG
        go_wp2_with fail
        go_roundw
        case rel => exact ⟨k + 1, by omega, by have := HJ.out; go_num, by rw [HBT.out, ← List.append_assoc, EB.out]; exact PD.out.1, HS.out.trans (HT.out.trans PD.out.2)⟩
        case measure => have := HJ.out; simp [intOf] <;> omega
    · have hkn : n = k := by omega
      subst hkn
      have HE : Hid (Wrt base B (bs ++ be n v) ev wr) := by have := HW'.out; rwa [List.take_of_length_le (by rw [be_length]; omega)] at this
      go_wp2_with fail
      exact bodyPost_end (v := .tuple #[]) (by simp [results, Tryf.results22, go_sem]) rfl ⟨rfl, HE.out, HS.out⟩
end Go.Proofs.Qxb6612223aFmt
