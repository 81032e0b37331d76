import Derived.Test.Qxb6609473aStrs
namespace Go.Proofs.Qxb6609473a.Shown
open Go.RowKit

/-- A value that is a slice of strings. -/
def OwnOk (w : World) (v : Value) : Prop := ∃ (a : Option Addr) (ss : List ByteArray) (cap : Nat), v = .slice a ss.length cap ∧ ss.length ≤ 9223372036854775807 ∧ Strs w a ss
theorem OwnOk.below {w w' : World} {v : Value} (h : OwnOk w v) (hb : Below w.heap.size w w') : OwnOk w' v := by
  obtain ⟨a, ss, cap, e, hn, hs⟩ := h
  exact ⟨a, ss, cap, e, hn, hs.below hb⟩
/-- Each pair is two strings. -/
def FieldsOk (ps : List (Value × Value)) : Prop := ∀ i (h : i < ps.length), ∃ k v, ps[i]'h = (.string k, .string v)
/-- Each pair is a string and a slice of strings. -/
def PartiesOk (w : World) (ps : List (Value × Value)) : Prop := ∀ i (h : i < ps.length), ∃ s v, ps[i]'h = (.string s, v) ∧ OwnOk w v
theorem PartiesOk.below {w w' : World} {ps : List (Value × Value)} (h : PartiesOk w ps) (hb : Below w.heap.size w w') : PartiesOk w' ps := fun i hi => by
  obtain ⟨s, v, e, ho⟩ := h i hi
  exact ⟨s, v, e, ho.below hb⟩

set_option maxHeartbeats 400000 in
theorem total_any (a : Option Addr) (n cap : Nat) (ps : List (Value × Value)) (hl : ps.length = n) (hn : n ≤ 9223372036854775807) (w : World) (hP : Pairs w a ps) (hO : PartiesOk w ps) :
    Calls Try.prog 12 #[.slice a n cap] w fun e w' => ∃ r : Int, e = .returned (.int .i64 r) ∧ w' = w := by
  have HL : Hid (ps.length = n) := hl
  have HP : Hid (Pairs w a ps) := hP
  have HO : Hid (PartiesOk w ps) := hO
  clear hl hP hO
  go_enter Try.func12, Try.ntmps12
  go_wp2
  go_loop [3, 4] (fun z i => ∃ (k : Nat) (r : Int), k ≤ n ∧ i = .int .i64 (k : Int) ∧ z = .int .i64 r) (fun _ i => n - (intOf i).toNat)
  case atStart => exact ⟨0, 0, by omega, rfl, rfl⟩
  case round =>
    obtain ⟨k, r, hk, rfl, rfl⟩ := hrel
    by_cases hlt : k < n
    · have hkl : k < ps.length := by rw [HL.out]; exact hlt
      obtain ⟨b, off, rfl, hc⟩ := HP.out (by omega)
      obtain ⟨c1, c2⟩ := hc k hkl
      obtain ⟨s, v, e, ⟨ao, ss, co, rfl, hss, _⟩⟩ := HO.out k hkl
      rw [e] at c1 c2
      clear hc e
      generalize ss.length = m at *
      go_wp2_with fail
      · go_ret
        exact ⟨⟨_, rfl⟩, rfl⟩
      · go_round
        case rel => exact ⟨k + 1, _, by omega, by go_num, rfl⟩
        case measure => simp [intOf]; omega
    · go_wp2_with fail
      go_ret
      exact ⟨⟨_, rfl⟩, rfl⟩

set_option maxRecDepth 100000 in
set_option maxHeartbeats 2000000 in
theorem size_any (kind : ByteArray) (af ap am : Option Addr) (nf cf np cp nm cm : Nat) (fs ps : List (Value × Value)) (ms : List ByteArray) (hf : fs.length = nf) (hp : ps.length = np) (hm : ms.length = nm)
    (bf : nf ≤ 9223372036854775807) (bp : np ≤ 9223372036854775807) (bm : nm ≤ 9223372036854775807) (w : World) (hF : Pairs w af fs) (hG : FieldsOk fs) (hP : Pairs w ap ps) (hO : PartiesOk w ps) (hM : Strs w am ms) :
    Calls Try.prog 11 #[.string kind, .slice af nf cf, .slice ap np cp, .slice am nm cm] w fun e w' => ∃ r : Int, e = .returned (.int .i64 r) ∧ ∃ q, w' = w.drewN q := by
  have LF : Hid (fs.length = nf) := hf
  have LP : Hid (ps.length = np) := hp
  have LM : Hid (ms.length = nm) := hm
  have HF : Hid (Pairs w af fs) := hF
  have HG : Hid (FieldsOk fs) := hG
  have HP : Hid (Pairs w ap ps) := hP
  have HO : Hid (PartiesOk w ps) := hO
  have HM : Hid (Strs w am ms) := hM
  clear hf hp hm hF hG hP hO hM
  go_enter Try.func11, Try.ntmps11
  go_wp2
  · go_ret
    exact ⟨_, rfl, 0, rfl⟩
  -- the fields
  go_loopw [9, 10] (fun z i wr => ∃ (k q : Nat) (r : Int), k ≤ nf ∧ i = .int .i64 (k : Int) ∧ z = .int .i64 r ∧ wr = w.drewN q) (fun _ i _ => nf - (intOf i).toNat)
  case atStart => exact ⟨0, 0, _, by omega, rfl, rfl, rfl⟩
  case round =>
    obtain ⟨k, q, r, hk, rfl, rfl, rfl⟩ := hrel
    by_cases hlt : k < nf
    · have hkl : k < fs.length := by rw [LF.out]; exact hlt
      obtain ⟨b, off, rfl, hc⟩ := HF.out (by omega)
      obtain ⟨c1, c2⟩ := hc k hkl
      obtain ⟨s, v, e⟩ := HG.out k hkl
      rw [e] at c1 c2
      clear hc e
      go_wp2_with fail
      go_quiet (fail)
      go_wp2_with fail
      · go_ret
        exact ⟨_, rfl, _, rfl⟩
      · go_roundw
        case rel => exact ⟨k + 1, _, _, by omega, by go_num, rfl, rfl⟩
        case measure => simp [intOf]; omega
    · go_wp2_with fail
      -- the parties
      go_loopw [9, 11] (fun z i wr => ∃ (k q : Nat) (r : Int), k ≤ np ∧ i = .int .i64 (k : Int) ∧ z = .int .i64 r ∧ wr = w.drewN q) (fun _ i _ => np - (intOf i).toNat)
      case atStart => exact ⟨0, _, _, by omega, rfl, rfl, rfl⟩
      case round =>
        obtain ⟨k2, q2, r2, hk2, rfl, rfl, rfl⟩ := hrel
        by_cases hlt2 : k2 < np
        · have hkl : k2 < ps.length := by rw [LP.out]; exact hlt2
          obtain ⟨b, off, rfl, hc⟩ := HP.out (by omega)
          obtain ⟨c1, c2⟩ := hc k2 hkl
          obtain ⟨s, v, e, ⟨ao, ss, co, rfl, hss, hst⟩⟩ := HO.out k2 hkl
          rw [e] at c1 c2
          have HT : Hid (Strs w ao ss) := hst
          clear hc e hst
          generalize en : ss.length = m at *
          have EN : Hid (ss.length = m) := en
          clear en
          go_wp2_with fail
          go_quiet (fail)
          go_wp2_with fail
          · go_ret
            exact ⟨_, rfl, _, rfl⟩
          · go_loopw [9, 12] (fun z i wr => ∃ (k q : Nat) (r : Int), k ≤ m ∧ i = .int .i64 (k : Int) ∧ z = .int .i64 r ∧ wr = w.drewN q) (fun _ i _ => m - (intOf i).toNat)
            case atStart => exact ⟨0, _, _, by omega, rfl, rfl, rfl⟩
            case round =>
              obtain ⟨k3, q3, r3, hk3, rfl, rfl, rfl⟩ := hrel
              by_cases hlt3 : k3 < m
              · have hkm : k3 < ss.length := by rw [EN.out]; exact hlt3
                obtain ⟨b3, off3, rfl, hc3⟩ := HT.out (by omega)
                have c3 := hc3 k3 hkm
                clear hc3
                generalize ss[k3]'hkm = t at *
                go_wp2_with fail
                · go_ret
                  exact ⟨_, rfl, _, rfl⟩
                · go_roundw
                  case rel => exact ⟨k3 + 1, _, _, by omega, by go_num, rfl, rfl⟩
                  case measure => simp [intOf]; omega
              · go_wp2_with fail
                go_roundw
                case rel => exact ⟨k2 + 1, _, _, by omega, by go_num, rfl, rfl⟩
                case measure => simp [intOf]; omega
        · go_wp2_with fail
          -- mine
          go_loopw [9, 13] (fun z i wr => ∃ (k q : Nat) (r : Int), k ≤ nm ∧ i = .int .i64 (k : Int) ∧ z = .int .i64 r ∧ wr = w.drewN q) (fun _ i _ => nm - (intOf i).toNat)
          case atStart => exact ⟨0, _, _, by omega, rfl, rfl, rfl⟩
          case round =>
            obtain ⟨k4, q4, r4, hk4, rfl, rfl, rfl⟩ := hrel
            by_cases hlt4 : k4 < nm
            · have hkm : k4 < ms.length := by rw [LM.out]; exact hlt4
              obtain ⟨b4, off4, rfl, hc4⟩ := HM.out (by omega)
              have c4 := hc4 k4 hkm
              clear hc4
              generalize ms[k4]'hkm = t at *
              go_wp2_with fail
              · go_ret
                exact ⟨_, rfl, _, rfl⟩
              · go_roundw
                case rel => exact ⟨k4 + 1, _, _, by omega, by go_num, rfl, rfl⟩
                case measure => simp [intOf]; omega
            · go_wp2_with fail
              go_ret
              exact ⟨_, rfl, _, rfl⟩

/-- It returned a bool. -/
def RetB (e : Ending) : Prop := ∃ r : Bool, e = .returned (.bool r)

set_option maxRecDepth 100000 in
set_option maxHeartbeats 2000000 in
theorem bytes_any (kind : ByteArray) (pub : Bool) (af ap am : Option Addr) (nf cf np cp nm cm : Nat) (fs ps : List (Value × Value)) (ms : List ByteArray) (hf : fs.length = nf) (hp : ps.length = np) (hm : ms.length = nm)
    (bf : nf ≤ 9223372036854775807) (bp : np ≤ 9223372036854775807) (bm : nm ≤ 9223372036854775807) (w : World) (hF : Pairs w af fs) (hG : FieldsOk fs) (hP : Pairs w ap ps) (hO : PartiesOk w ps) (hM : Strs w am ms) :
    Calls Try.prog 10 #[.string kind, .slice af nf cf, .bool pub, .slice ap np cp, .slice am nm cm] w fun e w' => RetB e ∧ ∃ q, w' = w.drewN q := by
  have LF : Hid (fs.length = nf) := hf
  have LP : Hid (ps.length = np) := hp
  have LM : Hid (ms.length = nm) := hm
  have HF : Hid (Pairs w af fs) := hF
  have HG : Hid (FieldsOk fs) := hG
  have HP : Hid (Pairs w ap ps) := hP
  have HO : Hid (PartiesOk w ps) := hO
  have HM : Hid (Strs w am ms) := hM
  clear hf hp hm hF hG hP hO hM
  go_enter Try.func10, Try.ntmps10
  go_wp2
  iterate 4 (try (go_ret; exact ⟨⟨_, rfl⟩, 0, rfl⟩))
  -- the fields
  go_loopw [11, 12] (fun z i wr => ∃ (k q : Nat) (r : Int), k ≤ nf ∧ i = .int .i64 (k : Int) ∧ z = .int .i64 r ∧ wr = w.drewN q) (fun _ i _ => nf - (intOf i).toNat)
  case atStart => exact ⟨0, 0, _, by omega, rfl, rfl, rfl⟩
  case round =>
    obtain ⟨k, q, r, hk, rfl, rfl, rfl⟩ := hrel
    by_cases hlt : k < nf
    · have hkl : k < fs.length := by rw [LF.out]; exact hlt
      obtain ⟨b, off, rfl, hc⟩ := HF.out (by omega)
      obtain ⟨c1, c2⟩ := hc k hkl
      obtain ⟨s, v, e⟩ := HG.out k hkl
      rw [e] at c1 c2
      clear hc e
      go_wp2_with fail
      iterate 4 (try (go_ret; exact ⟨⟨_, rfl⟩, _, rfl⟩))
      go_roundw
      case rel => exact ⟨k + 1, _, _, by omega, by go_num, rfl, rfl⟩
      case measure => simp [intOf]; omega
    · go_wp2_with fail
      iterate 2 (try (go_ret; exact ⟨⟨_, rfl⟩, _, rfl⟩))
      -- the parties
      go_loopw [11, 13] (fun z i wr => ∃ (k q : Nat) (r : Int), k ≤ np ∧ i = .int .i64 (k : Int) ∧ z = .int .i64 r ∧ wr = w.drewN q) (fun _ i _ => np - (intOf i).toNat)
      case atStart => exact ⟨0, _, _, by omega, rfl, rfl, rfl⟩
      case round =>
        obtain ⟨k2, q2, r2, hk2, rfl, rfl, rfl⟩ := hrel
        by_cases hlt2 : k2 < np
        · have hkl : k2 < ps.length := by rw [LP.out]; exact hlt2
          obtain ⟨b, off, rfl, hc⟩ := HP.out (by omega)
          obtain ⟨c1, c2⟩ := hc k2 hkl
          obtain ⟨s, v, e, ⟨ao, ss, co, rfl, hss, hst⟩⟩ := HO.out k2 hkl
          rw [e] at c1 c2
          have HT : Hid (Strs w ao ss) := hst
          clear hc e hst
          generalize en : ss.length = m at *
          have EN : Hid (ss.length = m) := en
          clear en
          go_wp2_with fail
          iterate 4 (try (go_ret; exact ⟨⟨_, rfl⟩, _, rfl⟩))
          go_loopw [11, 14] (fun z i wr => ∃ (k q : Nat) (r : Int), k ≤ m ∧ i = .int .i64 (k : Int) ∧ z = .int .i64 r ∧ wr = w.drewN q) (fun _ i _ => m - (intOf i).toNat)
          case atStart => exact ⟨0, _, _, by omega, rfl, rfl, rfl⟩
          case round =>
            obtain ⟨k3, q3, r3, hk3, rfl, rfl, rfl⟩ := hrel
            by_cases hlt3 : k3 < m
            · have hkm : k3 < ss.length := by rw [EN.out]; exact hlt3
              obtain ⟨b3, off3, rfl, hc3⟩ := HT.out (by omega)
              have c3 := hc3 k3 hkm
              clear hc3
              generalize ss[k3]'hkm = t at *
              go_wp2_with fail
              iterate 2 (try (go_ret; exact ⟨⟨_, rfl⟩, _, rfl⟩))
              go_roundw
              case rel => exact ⟨k3 + 1, _, _, by omega, by go_num, rfl, rfl⟩
              case measure => simp [intOf]; omega
            · go_wp2_with fail
              go_roundw
              case rel => exact ⟨k2 + 1, _, _, by omega, by go_num, rfl, rfl⟩
              case measure => simp [intOf]; omega
        · go_wp2_with fail
          iterate 2 (try (go_ret; exact ⟨⟨_, rfl⟩, _, rfl⟩))
          -- mine
          go_loopw [11, 15] (fun z i wr => ∃ (k q : Nat) (r : Int), k ≤ nm ∧ i = .int .i64 (k : Int) ∧ z = .int .i64 r ∧ wr = w.drewN q) (fun _ i _ => nm - (intOf i).toNat)
          case atStart => exact ⟨0, _, _, by omega, rfl, rfl, rfl⟩
          case round =>
            obtain ⟨k4, q4, r4, hk4, rfl, rfl, rfl⟩ := hrel
            by_cases hlt4 : k4 < nm
            · have hkm : k4 < ms.length := by rw [LM.out]; exact hlt4
              obtain ⟨b4, off4, rfl, hc4⟩ := HM.out (by omega)
              have c4 := hc4 k4 hkm
              clear hc4
              generalize ms[k4]'hkm = t at *
              go_wp2_with fail
              iterate 2 (try (go_ret; exact ⟨⟨_, rfl⟩, _, rfl⟩))
              go_roundw
              case rel => exact ⟨k4 + 1, _, _, by omega, by go_num, rfl, rfl⟩
              case measure => simp [intOf]; omega
            · go_wp2_with fail
              go_ret
              exact ⟨⟨_, rfl⟩, _, rfl⟩
end Go.Proofs.Qxb6609473a.Shown
