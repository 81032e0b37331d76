import Derived.Test.Qxb6609252aText
import Derived.ProofKit
import Derived.OpenShut
namespace Go.Proofs.Qxb6609252a
open Go.ChangeShapes Go.WideShapes Go.ChangeAt Go.RowKit

theorem own : ownKnob Try.prog.godebug = none := by kernel_rfl
theorem laidOut : laidOutB Try.prog = true := by kernel_rfl
theorem cells22 : Try.prog.cellsOf 22 = 32 := by kernel_rfl
theorem cells5 : Try.prog.cellsOf 5 = 1 := by kernel_rfl

/-- The byte that a cell holds. -/
def byteOf : Value → UInt8
  | .int _ z => UInt8.ofNat z.toNat
  | _ => 0

/-- An array of 32 bytes that came in: its cells are those of a list of bytes. -/
theorem open_hash {H : Type} {enc : TypeId × Value → H} {W : World} {base : Nat} {v : Value} {d : DataW H} {p : List MemPlace}
    (hv : Value.okWide Try.prog W .any base 22 v) (h : DataW.Trod enc Try.prog W 0 (fun _ => true) true 22 v d p) : ∃ l : List UInt8, v = .agg (cellsOf l) ∧ l.length = 32 := by
  obtain ⟨cs, rfl, hsz, _⟩ : ∃ cs, v = .agg cs ∧ cs.size = Try.prog.cellsOf 22 ∧ Row.okWide Try.prog W .any base 22 cs := by
    simpa [Value.okWide, Try.underlying22] using hv
  rw [cells22] at hsz
  obtain ⟨fuel, hf⟩ := h
  obtain ⟨xs, m, rfl, hx, hl, hxl, hall⟩ := DataW.trod_array Try.underlying22 hf
  refine ⟨cs.toList.map byteOf, ?_, by simp [hsz]⟩
  congr 1
  apply Array.ext_getElem?
  intro i
  by_cases hi : i < 32
  · have h1 := hall i hi
    obtain ⟨b, hb⟩ : ∃ b, xs[i]? = some b := ⟨xs[i]'(by omega), List.getElem?_eq_getElem (by omega)⟩
    rw [hb, cells5, Nat.mul_one] at h1
    obtain ⟨z, hc, _, hw⟩ := DataW.trod_int Try.underlying5 h1
    have h2 : cs[i]? = some (.int .u8 z) := by
      have := congrArg (·[0]?) hc
      simpa [Value.cells, List.getElem?_take, List.getElem?_drop] using this
    obtain ⟨z0, z1⟩ := bounds_u8 hw
    have h3 : (cs.toList.map byteOf)[i]? = some (UInt8.ofNat z.toNat) := by simp [h2, byteOf]
    rw [h2]
    simp only [cellsOf, List.getElem?_toArray, List.getElem?_map] at h3 ⊢
    rw [h3]
    simp only [Option.map_some, Option.some.injEq, Value.int.injEq, true_and]
    rw [UInt8.toNat_ofNat_of_lt' (by show z.toNat < 256; omega)]
    omega
  · rw [Array.getElem?_eq_none (by omega), Array.getElem?_eq_none (by simp [cellsOf]; omega)]
end Go.Proofs.Qxb6609252a
