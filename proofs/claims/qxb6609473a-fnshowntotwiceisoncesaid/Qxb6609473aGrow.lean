import Derived.Test.Qxb6609473aClos
namespace Go.Proofs.Qxb6609473a.Shown
open Go.RowKit

theorem info86 : (Try.prog.info? 86).map (fun i => (i.zero, i.size, i.bytes)) = some (some (.agg #[.string ⟨#[]⟩, .string ⟨#[]⟩]), 2, 32) := by kernel_rfl
theorem info53 : (Try.prog.info? 53).map (fun i => (i.zero, i.size, i.bytes)) = some (some (.agg #[.string ⟨#[]⟩, .slice none 0 0]), 2, 40) := by kernel_rfl

/-- Where an append of one element or more leaves its row: where it lay, or in a new block. -/
theorem append_block {P : Program} (w : World) (base : Nat) (t ty e : TypeId) (i : TypeInfo) (z : Value) (size bytes : Nat) (ht : P.underlying t = some (.slice e)) (hi : P.info? e = some i) (hz : i.zero = some z)
    (hsize : i.size = size) (hby : i.bytes = bytes) (v : Value) (n : Nat) (xs : List Value) (hown : w.ownsRow base e size v n xs)
    (a : Addr) (m c : Nat) (news : List Value) (hl : news.length = m * size) (hnews : ∀ j u, news[j]? = some u → w.cell? (a.add j) = some u) (h1 : ∀ u ∈ news, u.oneCell' = true) (hm : 0 < m)
    (h63 : n + m ≤ maxLen) (hbytes : (n + m) * bytes ≤ 140737488355328) {v' : Value} {w' : World} (hr : (Builtin.append_ #[t, t] ty #[v, .slice (some a) m c]).run P w = .ok v' w') : v'.ownBlock = v.ownBlock ∨ v'.ownBlock = some w.heap.size := by
  subst hsize
  subst hby
  have hsmall : n + m ≤ 9223372036854775807 := by simp only [maxLen] at h63; omega
  rcases hown.2 with ⟨rfl, rfl⟩ | ⟨g, cap, cur, rfl, hbg, hg, hnc, hcm, hcs, htake⟩
  · have h := run_append_nil (P := P) w t ty e i z ht hi hz a m c news hl hnews (by omega) (by omega) (by have hb := hbytes; simp only [Nat.zero_add] at hb; omega)
    rw [h] at hr
    cases hr
    exact Or.inr rfl
  · by_cases hroom : n + m ≤ cap
    · have hfit : n * i.size + news.length ≤ cur.size := by rw [hl, hcs, ← Nat.add_mul]; exact Nat.mul_le_mul_right _ hroom
      have h := run_append_room (P := P) w t ty e i ht hi g n cap cur hg a m c news hl hnews h1 hroom hfit
      rw [h] at hr
      cases hr
      exact Or.inl rfl
    · have holds : ∀ j u, xs[j]? = some u → w.cell? ((⟨g, 0, none⟩ : Addr).add j) = some u := hown.cells (g := g) rfl
      have h := run_append_grow (P := P) w t ty e i z ht hi hz ⟨g, 0, none⟩ n cap xs hown.1 holds a m c news hl hnews (by omega) (by omega) (growslice_fits (by omega) hbytes)
      rw [h] at hr
      cases hr
      exact Or.inr rfl

/-- 'append(v, ..)' of one element or more to a row of the call's own: the library's law, and where the row lies then. -/
theorem wpList_append_at {P : Program} (w : World) {ops : Array Oper} {rest : List Oper} {o : Oper} {a : Act} {Q : Exit → Act → World → Prop} (hgd : o.guard = none) (s x : Operand) (t : TypeId)
    (ho : o.op = .call { callee := .builtin .append, args := #[s, x], argTypes := #[t, t] })
    (base : Nat) (e : TypeId) (i : TypeInfo) (z : Value) (size bytes : Nat) (ht : P.underlying t = some (.slice e)) (hi : P.info? e = some i) (hz : i.zero = some z)
    (hsize : i.size = size) (hby : i.bytes = bytes) (hzs : z.cells.size = size) (hsz : 0 < size)
    (v : Value) (n : Nat) (xs : List Value) (hs : a.eval s = v) (hown : w.ownsRow base e size v n xs)
    (ad : Addr) (m c : Nat) (news : List Value) (hx : a.eval x = .slice (some ad) m c) (hl : news.length = m * size) (hnews : ∀ j u, news[j]? = some u → w.cell? (ad.add j) = some u) (h1 : ∀ u ∈ news, u.oneCell' = true) (hm : 0 < m)
    (h63 : n + m ≤ maxLen) (hbytes : (n + m) * bytes ≤ 140737488355328) (hbase : base ≤ w.heap.size)
    (h : ∀ v' w', w'.ownsRow base e size v' (n + m) (xs ++ news) → w.grownBy w' v.ownBlock → (v'.ownBlock = v.ownBlock ∨ v'.ownBlock = some w.heap.size) → wpList P ops Q rest (a.put o.dst v') w') : wpList P ops Q (o :: rest) a w := by
  refine wpList_plain hgd fun K hK => ?_
  obtain ⟨v', w', hr, h2, h3, _⟩ := run_append_own (P := P) w base t o.type e i z size bytes ht hi hz hsize hby hzs hsz v n xs hown ad m c news hl hnews h1 h63 hbytes hbase
  have h5 := append_block w base t o.type e i z size bytes ht hi hz hsize hby v n xs hown ad m c news hl hnews h1 hm h63 hbytes hr
  unfold Oper.wp execOp
  simp only [ho, resolve, invoke, builtin, Sem.run_bind, Sem.run_pure, Result.andThen_ok, List.map_toArray, List.map_cons, List.map_nil, hs, hx, hr]
  exact hK _ _ (h v' w' h2 h3 h5)

/-- The two laws at this program: the element type's row of the table by one fact. -/
theorem app_own (w : World) {ops : Array Oper} {rest : List Oper} {o : Oper} {a : Act} {Q : Exit → Act → World → Prop} (hgd : o.guard = none) (s x : Operand) (t : TypeId)
    (ho : o.op = .call { callee := .builtin .append, args := #[s, x], argTypes := #[t, t] })
    (base : Nat) (e : TypeId) (z : Value) (size bytes : Nat) (hI : (Try.prog.info? e).map (fun i => (i.zero, i.size, i.bytes)) = some (some z, size, bytes)) (ht : Try.prog.underlying t = some (.slice e)) (hzs : z.cells.size = size) (hsz : 0 < size)
    (v : Value) (n : Nat) (xs : List Value) (hs : a.eval s = v) (hown : w.ownsRow base e size v n xs)
    (ad : Addr) (m c : Nat) (news : List Value) (hx : a.eval x = .slice (some ad) m c) (hl : news.length = m * size) (hnews : ∀ j u, news[j]? = some u → w.cell? (ad.add j) = some u) (h1 : ∀ u ∈ news, u.oneCell' = true)
    (h63 : n + m ≤ 8192) (hb : bytes ≤ 64) (hbase : base ≤ w.heap.size)
    (h : ∀ v' w', w'.ownsRow base e size v' (n + m) (xs ++ news) → w.grownBy w' v.ownBlock → wpList Try.prog ops Q rest (a.put o.dst v') w') : wpList Try.prog ops Q (o :: rest) a w := by
  obtain ⟨i, hi, hz0, hz1, hz2⟩ := info_parts hI
  exact wpList_append_own w hgd s x t ho base e i z size bytes ht hi hz0 hz1 hz2 hzs hsz v n xs hs hown ad m c news hx hl hnews h1 (by unfold maxLen; omega) (Nat.le_trans (Nat.mul_le_mul h63 hb) (by decide)) hbase (fun v' w' h2 h3 _ => h v' w' h2 h3)
theorem app_at (w : World) {ops : Array Oper} {rest : List Oper} {o : Oper} {a : Act} {Q : Exit → Act → World → Prop} (hgd : o.guard = none) (s x : Operand) (t : TypeId)
    (ho : o.op = .call { callee := .builtin .append, args := #[s, x], argTypes := #[t, t] })
    (base : Nat) (e : TypeId) (z : Value) (size bytes : Nat) (hI : (Try.prog.info? e).map (fun i => (i.zero, i.size, i.bytes)) = some (some z, size, bytes)) (ht : Try.prog.underlying t = some (.slice e)) (hzs : z.cells.size = size) (hsz : 0 < size)
    (v : Value) (n : Nat) (xs : List Value) (hs : a.eval s = v) (hown : w.ownsRow base e size v n xs)
    (ad : Addr) (m c : Nat) (news : List Value) (hx : a.eval x = .slice (some ad) m c) (hl : news.length = m * size) (hnews : ∀ j u, news[j]? = some u → w.cell? (ad.add j) = some u) (h1 : ∀ u ∈ news, u.oneCell' = true) (hm : 0 < m)
    (h63 : n + m ≤ 8192) (hb : bytes ≤ 64) (hbase : base ≤ w.heap.size)
    (h : ∀ v' w', w'.ownsRow base e size v' (n + m) (xs ++ news) → w.grownBy w' v.ownBlock → (v'.ownBlock = v.ownBlock ∨ v'.ownBlock = some w.heap.size) → wpList Try.prog ops Q rest (a.put o.dst v') w') : wpList Try.prog ops Q (o :: rest) a w := by
  obtain ⟨i, hi, hz0, hz1, hz2⟩ := info_parts hI
  exact wpList_append_at w hgd s x t ho base e i z size bytes ht hi hz0 hz1 hz2 hzs hsz v n xs hs hown ad m c news hx hl hnews h1 hm (by unfold maxLen; omega) (Nat.le_trans (Nat.mul_le_mul h63 hb) (by decide)) hbase h
theorem add_pl (b o j : Nat) : (⟨b, o, none⟩ : Addr).add j = ⟨b, o + j, none⟩ := by unfold Addr.add; split <;> simp_all
theorem flat_cells {w : World} {x : Addr} {ps : List (Value × Value)} (hP : Pairs w (some x) ps) : ∀ j u, (flat ps)[j]? = some u → w.cell? (x.add j) = some u := fun j u hj => by
  have hlt : j < ps.length * 2 := by rw [← flat_length]; exact (List.getElem?_eq_some_iff.1 hj).1
  obtain ⟨b, off, e, hc⟩ := hP (by omega)
  cases e
  rw [add_pl]
  obtain ⟨f1, f2⟩ := flat_at ps (j / 2) (by omega)
  obtain ⟨c1, c2⟩ := hc (j / 2) (by omega)
  rcases Nat.mod_two_eq_zero_or_one j with h | h
  · have e1 : j / 2 * 2 = j := by omega
    rw [e1] at f1 c1
    rw [c1, ← f1, hj]
  · have e1 : j / 2 * 2 + 1 = j := by omega
    have e2 : off + j / 2 * 2 + 1 = off + j := by omega
    rw [e1] at f2
    rw [e2] at c2
    rw [c2, ← f2, hj]
theorem fields_one {fs : List (Value × Value)} (h : FieldsOk fs) : ∀ u ∈ flat fs, u.oneCell' = true := fun u hu => by
  obtain ⟨p, hp, hm⟩ := List.mem_flatMap.1 hu
  obtain ⟨i, hi, rfl⟩ := List.getElem_of_mem hp
  obtain ⟨k, v, e⟩ := h i hi
  rw [e] at hm
  simp at hm
  rcases hm with rfl | rfl <;> rfl

set_option maxHeartbeats 1000000 in
theorem clone_some (x : Addr) (n cap : Nat) (fs : List (Value × Value)) (hl : fs.length = n) (hn : n ≤ 4096) (w : World) (hF : Pairs w (some x) fs) (hG : FieldsOk fs) :
    Calls Try.prog 25 #[.slice (some x) n cap] w fun e w' => ∃ v, e = .returned v ∧ w'.ownsRow w.heap.size 86 2 v n (flat fs) ∧ Below w.heap.size w w' := by
  have e43 := fun W a n c => Lib.run_eql_slice_nil (P := Try.prog) W 43 86 a n c 0 0 Try.underlying43
  have HF : Hid (Pairs w (some x) fs) := hF
  have HG : Hid (FieldsOk fs) := hG
  have HL : Hid (fs.length = n) := hl
  clear hF hG hl
  go_enter Try.func25, Try.ntmps25
  have HO : Hid ((w.alloc (.cells #[] 86)).ownsRow w.heap.size 86 2 (.slice (some ⟨w.heap.size, 0, none⟩) 0 0) 0 []) := World.ownsRow_made w #[] 0 (Nat.le_refl _) (by decide) rfl
  have HW : Hid (Below w.heap.size w (w.alloc (.cells #[] 86))) := (Below.refl _ w).alloc (Nat.le_refl _) _
  have HN : Hid (∀ j u, (flat fs)[j]? = some u → (w.alloc (.cells #[] 86)).cell? (x.add j) = some u) := flat_cells (HF.out.below HW.out)
  have HS : Hid (w.heap.size ≤ (w.alloc (.cells #[] 86)).heap.size) := HW.out.size
  have H1 : Hid (∀ u ∈ flat fs, u.oneCell' = true) := fields_one HG.out
  have H2 : Hid ((flat fs).length = n * 2) := by show _ = _; rw [flat_length, HL.out]
  go_wp2_with (at_builtin; refine app_own _ rfl (.tmp 5) (.tmp 6) 43 rfl w.heap.size 86 _ 2 32 info86 Try.underlying43 rfl (by decide) _ 0 [] rfl HO.out x n cap (flat fs) rfl H2.out HN.out H1.out (by omega) (by decide) HS.out ?_; intro v' w1 ho hg)
  rw [Nat.zero_add, List.nil_append] at ho
  have R1 : Hid (w1.ownsRow w.heap.size 86 2 v' n (flat fs)) := ho
  have R2 : Hid (Below w.heap.size w w1) := HW.out.grown hg HW.out.size (fun k hk => by cases hk; exact Nat.le_refl _)
  clear ho hg
  go_wp2_with fail
  go_ret
  exact ⟨_, rfl, R1, R2⟩

theorem clone_any (a : Option Addr) (n cap : Nat) (fs : List (Value × Value)) (hl : fs.length = n) (hn : n ≤ 4096) (za : a = none → n = 0 ∧ cap = 0) (w : World) (hF : Pairs w a fs) (hG : FieldsOk fs) :
    Calls Try.prog 25 #[.slice a n cap] w fun e w' => ∃ v, e = .returned v ∧ w'.ownsRow w.heap.size 86 2 v n (flat fs) ∧ Below w.heap.size w w' := by
  rcases a with _ | x
  · obtain ⟨rfl, rfl⟩ := za rfl
    have e43 := fun W a n c => Lib.run_eql_slice_nil (P := Try.prog) W 43 86 a n c 0 0 Try.underlying43
    have HE : Hid (flat fs = []) := by
      show _ = _
      have : fs = [] := List.eq_nil_of_length_eq_zero hl
      rw [this]; rfl
    clear hF hG hl
    go_enter Try.func25, Try.ntmps25
    go_wp2_with fail
    go_ret
    exact ⟨_, rfl, by rw [HE.out]; exact World.ownsRow_nil _ _ _ _, Below.refl _ _⟩
  · exact clone_some x n cap fs hl hn w hF hG
end Go.Proofs.Qxb6609473a.Shown
