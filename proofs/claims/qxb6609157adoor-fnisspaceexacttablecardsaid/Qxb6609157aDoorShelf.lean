/-
  DERIVED: THE SHELF's CONTRACTS AT THIS DUMP, IN PLAIN WORDS (tools/lay-plain.mjs out of 'TrydShelf.lean', which tools/lay-shelf.mjs wrote): THE SAME DECLARATIONS UNDER THE SAME NAMES: 'import', 'namespace', 'open', 'def', 'theorem' AND NOTHING ELSE: no command of the shelf's: FOR A HAND-IN. Each laying: the table of numbers ('.._ren') and one theorem, a field a fact of the dump's own or the kernel's comparison; each contract: ONE APPLICATION.
-/
import Derived.Shelf.Unicode.Latin
import Derived.Shelf.Unicode.Is16White
import Derived.Shelf.Unicode.IsSpaceAny
import Derived.Test.Qxb6609157aDoorProg
namespace Go.Proofs
open Go.Shelf
def Tryd.lays199_ren : Go.Shelf.Ren := ⟨fun | 199 => 7 | 261 => 8 | 311 => 9 | 312 => 10 | n => n, fun | 21 => 21 | 4 => 4 | 51 => 23 | 141 => 25 | 0 => 0 | 196 => 29 | 193 => 26 | 3 => 3 | 198 => 32 | 49 => 30 | 194 => 27 | 201 => 35 | 226 => 37 | 46 => 38 | 227 => 39 | n => n, fun | 6 => 0 | n => n⟩
theorem Tryd.lays199 : Go.Proofs.Lays.n199 Tryd.prog Tryd.lays199_ren := {
  mixed := by kernel_rfl
  f199 := Tryd.func7.trans (congrArg some (by kernel_rfl))
  f261 := Tryd.func8.trans (congrArg some (by kernel_rfl))
  f311 := Tryd.func9.trans (congrArg some (by kernel_rfl))
  f312 := Tryd.func10.trans (congrArg some (by kernel_rfl))
  t0 := Tryd.underlying0
  a0 := Tryd.isAgg0
  z0 := Tryd.sizeOf0
  v0 := Tryd.zeroValue0
  t3 := Tryd.underlying3
  a3 := Tryd.isAgg3
  z3 := Tryd.sizeOf3
  v3 := Tryd.zeroValue3
  t4 := Tryd.underlying4
  a4 := Tryd.isAgg4
  z4 := Tryd.sizeOf4
  v4 := Tryd.zeroValue4
  t21 := Tryd.underlying21
  a21 := Tryd.isAgg21
  z21 := Tryd.sizeOf21
  v21 := Tryd.zeroValue21
  t46 := Tryd.underlying38
  a46 := Tryd.isAgg38
  z46 := Tryd.sizeOf38
  v46 := Tryd.zeroValue38
  t49 := Tryd.underlying30
  a49 := Tryd.isAgg30
  z49 := Tryd.sizeOf30
  v49 := Tryd.zeroValue30
  t51 := Tryd.underlying23
  a51 := Tryd.isAgg23
  z51 := Tryd.sizeOf23
  v51 := Tryd.zeroValue23
  t141 := Tryd.underlying25
  a141 := Tryd.isAgg25
  z141 := Tryd.sizeOf25
  v141 := Tryd.zeroValue25
  t193 := Tryd.underlying26
  a193 := Tryd.isAgg26
  z193 := Tryd.sizeOf26
  v193 := Tryd.zeroValue26
  t194 := Tryd.underlying27
  a194 := Tryd.isAgg27
  z194 := Tryd.sizeOf27
  v194 := Tryd.zeroValue27
  t196 := Tryd.underlying29
  a196 := Tryd.isAgg29
  z196 := Tryd.sizeOf29
  v196 := Tryd.zeroValue29
  t198 := Tryd.underlying32
  a198 := Tryd.isAgg32
  z198 := Tryd.sizeOf32
  v198 := Tryd.zeroValue32
  t201 := Tryd.underlying35
  a201 := Tryd.isAgg35
  z201 := Tryd.sizeOf35
  v201 := Tryd.zeroValue35
  t226 := Tryd.underlying37
  a226 := Tryd.isAgg37
  z226 := Tryd.sizeOf37
  v226 := Tryd.zeroValue37
  t227 := Tryd.underlying39
  a227 := Tryd.isAgg39
  z227 := Tryd.sizeOf39
  v227 := Tryd.zeroValue39
  g6 := by kernel_rfl }
open Go.RowKit Go.Lib in
theorem Tryd.unicode_IsSpace (r : Int) (w : World) (h0 : 0 ≤ r) (h : r ≤ 255) :
    Calls Tryd.prog 7 #[.int .i32 r] w fun e w' => e = .returned (.bool (Lib.isSpaceL r)) ∧ w' = w := Any.unicode_IsSpace Tryd.lays199 r w h0 h
def Tryd.lays311_ren : Go.Shelf.Ren := ⟨fun | 311 => 9 | n => n, fun | 193 => 26 | 49 => 30 | 4 => 4 | 3 => 3 | 0 => 0 | 226 => 37 | 198 => 32 | 46 => 38 | n => n, fun | n => n⟩
theorem Tryd.lays311 : Go.Proofs.Lays.n311 Tryd.prog Tryd.lays311_ren := {
  mixed := by kernel_rfl
  f311 := Tryd.func9.trans (congrArg some (by kernel_rfl))
  t0 := Tryd.underlying0
  a0 := Tryd.isAgg0
  z0 := Tryd.sizeOf0
  v0 := Tryd.zeroValue0
  t3 := Tryd.underlying3
  a3 := Tryd.isAgg3
  z3 := Tryd.sizeOf3
  v3 := Tryd.zeroValue3
  t4 := Tryd.underlying4
  a4 := Tryd.isAgg4
  z4 := Tryd.sizeOf4
  v4 := Tryd.zeroValue4
  t46 := Tryd.underlying38
  a46 := Tryd.isAgg38
  z46 := Tryd.sizeOf38
  v46 := Tryd.zeroValue38
  t49 := Tryd.underlying30
  a49 := Tryd.isAgg30
  z49 := Tryd.sizeOf30
  v49 := Tryd.zeroValue30
  t193 := Tryd.underlying26
  a193 := Tryd.isAgg26
  z193 := Tryd.sizeOf26
  v193 := Tryd.zeroValue26
  t198 := Tryd.underlying32
  a198 := Tryd.isAgg32
  z198 := Tryd.sizeOf32
  v198 := Tryd.zeroValue32
  t226 := Tryd.underlying37
  a226 := Tryd.isAgg37
  z226 := Tryd.sizeOf37
  v226 := Tryd.zeroValue37 }
open Go.RowKit Go.Lib in
theorem Tryd.unicode_is16_white (R oR : Nat) (z : Nat) (w : World) (hz : z < 65536) (hz0 : 255 < z) (c6 : w.cell? ⟨R, oR + 6, none⟩ = some (.int .u16 160)) (c7 : w.cell? ⟨R, oR + 7, none⟩ = some (.int .u16 5760)) (c8 : w.cell? ⟨R, oR + 8, none⟩ = some (.int .u16 5600)) (c9 : w.cell? ⟨R, oR + 9, none⟩ = some (.int .u16 8192)) (c10 : w.cell? ⟨R, oR + 10, none⟩ = some (.int .u16 8202)) (c11 : w.cell? ⟨R, oR + 11, none⟩ = some (.int .u16 1)) (c12 : w.cell? ⟨R, oR + 12, none⟩ = some (.int .u16 8232)) (c13 : w.cell? ⟨R, oR + 13, none⟩ = some (.int .u16 8233)) (c14 : w.cell? ⟨R, oR + 14, none⟩ = some (.int .u16 1)) (c15 : w.cell? ⟨R, oR + 15, none⟩ = some (.int .u16 8239)) (c16 : w.cell? ⟨R, oR + 16, none⟩ = some (.int .u16 8287)) (c17 : w.cell? ⟨R, oR + 17, none⟩ = some (.int .u16 48)) (c18 : w.cell? ⟨R, oR + 18, none⟩ = some (.int .u16 12288)) (c19 : w.cell? ⟨R, oR + 19, none⟩ = some (.int .u16 12288)) (c20 : w.cell? ⟨R, oR + 20, none⟩ = some (.int .u16 1)) :
    Calls Tryd.prog 9 #[.slice (some ⟨R, oR + 6, none⟩) 5 5, .int .u16 z] w fun e w' => e = .returned (.bool (Lib.isSpaceR z)) ∧ Below w.heap.size w w' := Any.unicode_is16_white Tryd.lays311 R oR z w hz hz0 c6 c7 c8 c9 c10 c11 c12 c13 c14 c15 c16 c17 c18 c19 c20
def Tryd.lays261_ren : Go.Shelf.Ren := ⟨fun | 261 => 8 | 311 => 9 | 312 => 10 | n => n, fun | 141 => 25 | 21 => 21 | 4 => 4 | 0 => 0 | 196 => 29 | 193 => 26 | 3 => 3 | 51 => 23 | 198 => 32 | 49 => 30 | 194 => 27 | 201 => 35 | 226 => 37 | 46 => 38 | 227 => 39 | n => n, fun | n => n⟩
theorem Tryd.lays261 : Go.Proofs.Lays.n261 Tryd.prog Tryd.lays261_ren := {
  mixed := by kernel_rfl
  f261 := Tryd.func8.trans (congrArg some (by kernel_rfl))
  f311 := Tryd.func9.trans (congrArg some (by kernel_rfl))
  f312 := Tryd.func10.trans (congrArg some (by kernel_rfl))
  t0 := Tryd.underlying0
  a0 := Tryd.isAgg0
  z0 := Tryd.sizeOf0
  v0 := Tryd.zeroValue0
  t3 := Tryd.underlying3
  a3 := Tryd.isAgg3
  z3 := Tryd.sizeOf3
  v3 := Tryd.zeroValue3
  t4 := Tryd.underlying4
  a4 := Tryd.isAgg4
  z4 := Tryd.sizeOf4
  v4 := Tryd.zeroValue4
  t21 := Tryd.underlying21
  a21 := Tryd.isAgg21
  z21 := Tryd.sizeOf21
  v21 := Tryd.zeroValue21
  t46 := Tryd.underlying38
  a46 := Tryd.isAgg38
  z46 := Tryd.sizeOf38
  v46 := Tryd.zeroValue38
  t49 := Tryd.underlying30
  a49 := Tryd.isAgg30
  z49 := Tryd.sizeOf30
  v49 := Tryd.zeroValue30
  t51 := Tryd.underlying23
  a51 := Tryd.isAgg23
  z51 := Tryd.sizeOf23
  v51 := Tryd.zeroValue23
  t141 := Tryd.underlying25
  a141 := Tryd.isAgg25
  z141 := Tryd.sizeOf25
  v141 := Tryd.zeroValue25
  t193 := Tryd.underlying26
  a193 := Tryd.isAgg26
  z193 := Tryd.sizeOf26
  v193 := Tryd.zeroValue26
  t194 := Tryd.underlying27
  a194 := Tryd.isAgg27
  z194 := Tryd.sizeOf27
  v194 := Tryd.zeroValue27
  t196 := Tryd.underlying29
  a196 := Tryd.isAgg29
  z196 := Tryd.sizeOf29
  v196 := Tryd.zeroValue29
  t198 := Tryd.underlying32
  a198 := Tryd.isAgg32
  z198 := Tryd.sizeOf32
  v198 := Tryd.zeroValue32
  t201 := Tryd.underlying35
  a201 := Tryd.isAgg35
  z201 := Tryd.sizeOf35
  v201 := Tryd.zeroValue35
  t226 := Tryd.underlying37
  a226 := Tryd.isAgg37
  z226 := Tryd.sizeOf37
  v226 := Tryd.zeroValue37
  t227 := Tryd.underlying39
  a227 := Tryd.isAgg39
  z227 := Tryd.sizeOf39
  v227 := Tryd.zeroValue39 }
open Go.RowKit Go.Lib in
/-- unicode.isExcludingLatin(White_Space, r), r beyond U+00FF or negative. (LAID: no walk: one application.) -/
theorem Tryd.unicode_isExcludingLatin_white (T oT R oR : Nat) (r : Int) (w : World) (hlo : -2147483648 ≤ r) (hhi : r ≤ 2147483647) (hr : r < 0 ∨ 255 < r) (h2 : w.cell? ⟨T, oT, none⟩ = some (.slice (some ⟨R, oR, none⟩) 7 7)) (h3 : w.cell? ⟨T, oT + 1, none⟩ = some (.slice none 0 0)) (h4 : w.cell? ⟨T, oT + 2, none⟩ = some (.int .i64 2)) (h5 : ∀ i, i < 21 → w.cell? ⟨R, oR + i, none⟩ = some (.int .u16 (whiteT.getD i 0))) :
    Calls Tryd.prog 8 #[.pointer (some ⟨T, oT, none⟩), .int .i32 r] w fun e w' => e = .returned (.bool (Lib.isSpaceZ r)) ∧ Below w.heap.size w w' := Any.unicode_isExcludingLatin_white Tryd.lays261 T oT R oR r w hlo hhi hr h2 h3 h4 h5
open Go.RowKit Go.Lib in
/-- **unicode.IsSpace AT EVERY int32.** (LAID: no walk: one application.) -/
theorem Tryd.unicode_IsSpace_any (r : Int) (w : World) (hlo : -2147483648 ≤ r) (hhi : r ≤ 2147483647) (hW : Lib.WhiteTab 0 w) :
    Calls Tryd.prog 7 #[.int .i32 r] w fun e w' => e = .returned (.bool (Lib.isSpaceZ r)) ∧ Below w.heap.size w w' := Any.unicode_IsSpace_any Tryd.lays199 r w hlo hhi hW
end Go.Proofs
