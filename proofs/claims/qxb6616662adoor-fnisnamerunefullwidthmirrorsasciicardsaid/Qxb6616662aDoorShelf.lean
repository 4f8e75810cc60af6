/-
  DERIVED: THE SHELF's CONTRACTS AT THIS DUMP, IN PLAIN WORDS (tools/lay-plain.mjs out of 'Qxb6616662aDoorShelf.lean', which tools/lay-shelf.mjs wrote): THE SAME DECLARATIONS UNDER THE SAME NAMES: 'import', 'namespace', 'open', 'def', 'theorem' AND NOTHING ELSE: no command of the shelf's: FOR A HAND-IN. Each laying: the table of numbers ('.._ren') and one theorem, a field a fact of the dump's own or the kernel's comparison; each contract: ONE APPLICATION.
-/
import Derived.Shelf.Unicode.Latin
import Derived.Shelf.Unicode.Props
import Derived.Shelf.Unicode.Is16White
import Derived.Shelf.Unicode.IsSpaceAny
import Derived.Shelf.Unicode.Is16Any
import Derived.Shelf.Unicode.Is32Any
import Derived.Shelf.Unicode.ExclAny
import Derived.Shelf.Unicode.PredsAny
import Derived.Shelf.Unicode.PredsPay
import Derived.Test.Qxb6616662aDoorProg
namespace Go.Proofs
open Go.Shelf
def Tryd.lays198_ren : Go.Shelf.Ren := ⟨fun | 198 => 10 | 261 => 11 | 311 => 12 | 312 => 13 | n => n, fun | 21 => 21 | 4 => 4 | 141 => 28 | 0 => 0 | 196 => 32 | 193 => 29 | 3 => 3 | 51 => 25 | 198 => 35 | 49 => 33 | 194 => 30 | 201 => 38 | 226 => 40 | 46 => 41 | 227 => 42 | n => n, fun | 5 => 2 | n => n⟩
theorem Tryd.lays198 : Go.Proofs.Lays.n198 Tryd.prog Tryd.lays198_ren := {
  mixed := by kernel_rfl
  f198 := Tryd.func10.trans (congrArg some (by kernel_rfl))
  f261 := Tryd.func11.trans (congrArg some (by kernel_rfl))
  f311 := Tryd.func12.trans (congrArg some (by kernel_rfl))
  f312 := Tryd.func13.trans (congrArg some (by kernel_rfl))
  t0 := Tryd.underlying0
  a0 := Tryd.isAgg0
  z0 := Tryd.sizeOf0
  v0 := Tryd.zeroValue0
  t3 := Tryd.underlying3
  a3 := Tryd.isAgg3
  z3 := Tryd.sizeOf3
  v3 := Tryd.zeroValue3
  t4 := Tryd.underlying4
  a4 := Tryd.isAgg4
  z4 := Tryd.sizeOf4
  v4 := Tryd.zeroValue4
  t21 := Tryd.underlying21
  a21 := Tryd.isAgg21
  z21 := Tryd.sizeOf21
  v21 := Tryd.zeroValue21
  t46 := Tryd.underlying41
  a46 := Tryd.isAgg41
  z46 := Tryd.sizeOf41
  v46 := Tryd.zeroValue41
  t49 := Tryd.underlying33
  a49 := Tryd.isAgg33
  z49 := Tryd.sizeOf33
  v49 := Tryd.zeroValue33
  t51 := Tryd.underlying25
  a51 := Tryd.isAgg25
  z51 := Tryd.sizeOf25
  v51 := Tryd.zeroValue25
  t141 := Tryd.underlying28
  a141 := Tryd.isAgg28
  z141 := Tryd.sizeOf28
  v141 := Tryd.zeroValue28
  t193 := Tryd.underlying29
  a193 := Tryd.isAgg29
  z193 := Tryd.sizeOf29
  v193 := Tryd.zeroValue29
  t194 := Tryd.underlying30
  a194 := Tryd.isAgg30
  z194 := Tryd.sizeOf30
  v194 := Tryd.zeroValue30
  t196 := Tryd.underlying32
  a196 := Tryd.isAgg32
  z196 := Tryd.sizeOf32
  v196 := Tryd.zeroValue32
  t198 := Tryd.underlying35
  a198 := Tryd.isAgg35
  z198 := Tryd.sizeOf35
  v198 := Tryd.zeroValue35
  t201 := Tryd.underlying38
  a201 := Tryd.isAgg38
  z201 := Tryd.sizeOf38
  v201 := Tryd.zeroValue38
  t226 := Tryd.underlying40
  a226 := Tryd.isAgg40
  z226 := Tryd.sizeOf40
  v226 := Tryd.zeroValue40
  t227 := Tryd.underlying42
  a227 := Tryd.isAgg42
  z227 := Tryd.sizeOf42
  v227 := Tryd.zeroValue42
  g5 := by kernel_rfl }
open Go.RowKit Go.Lib in
theorem Tryd.unicode_IsDigit (r : Int) (w : World) (h : r ≤ 255) :
    Calls Tryd.prog 10 #[.int .i32 r] w fun e w' => e = .returned (.bool (Lib.isDigitL r)) ∧ w' = w := Any.unicode_IsDigit Tryd.lays198 r w h
def Tryd.lays200_ren : Go.Shelf.Ren := ⟨fun | 200 => 9 | 261 => 11 | 311 => 12 | 312 => 13 | n => n, fun | 21 => 21 | 4 => 4 | 51 => 25 | 5 => 5 | 119 => 26 | 0 => 0 | 141 => 28 | 196 => 32 | 193 => 29 | 3 => 3 | 198 => 35 | 49 => 33 | 194 => 30 | 201 => 38 | 226 => 40 | 46 => 41 | 227 => 42 | n => n, fun | 7 => 0 | 8 => 1 | n => n⟩
theorem Tryd.lays200 : Go.Proofs.Lays.n200 Tryd.prog Tryd.lays200_ren := {
  mixed := by kernel_rfl
  f200 := Tryd.func9.trans (congrArg some (by kernel_rfl))
  f261 := Tryd.func11.trans (congrArg some (by kernel_rfl))
  f311 := Tryd.func12.trans (congrArg some (by kernel_rfl))
  f312 := Tryd.func13.trans (congrArg some (by kernel_rfl))
  t0 := Tryd.underlying0
  a0 := Tryd.isAgg0
  z0 := Tryd.sizeOf0
  v0 := Tryd.zeroValue0
  t3 := Tryd.underlying3
  a3 := Tryd.isAgg3
  z3 := Tryd.sizeOf3
  v3 := Tryd.zeroValue3
  t4 := Tryd.underlying4
  a4 := Tryd.isAgg4
  z4 := Tryd.sizeOf4
  v4 := Tryd.zeroValue4
  t5 := Tryd.underlying5
  a5 := Tryd.isAgg5
  z5 := Tryd.sizeOf5
  v5 := Tryd.zeroValue5
  t21 := Tryd.underlying21
  a21 := Tryd.isAgg21
  z21 := Tryd.sizeOf21
  v21 := Tryd.zeroValue21
  t46 := Tryd.underlying41
  a46 := Tryd.isAgg41
  z46 := Tryd.sizeOf41
  v46 := Tryd.zeroValue41
  t49 := Tryd.underlying33
  a49 := Tryd.isAgg33
  z49 := Tryd.sizeOf33
  v49 := Tryd.zeroValue33
  t51 := Tryd.underlying25
  a51 := Tryd.isAgg25
  z51 := Tryd.sizeOf25
  v51 := Tryd.zeroValue25
  t119 := Tryd.underlying26
  a119 := Tryd.isAgg26
  z119 := Tryd.sizeOf26
  t141 := Tryd.underlying28
  a141 := Tryd.isAgg28
  z141 := Tryd.sizeOf28
  v141 := Tryd.zeroValue28
  t193 := Tryd.underlying29
  a193 := Tryd.isAgg29
  z193 := Tryd.sizeOf29
  v193 := Tryd.zeroValue29
  t194 := Tryd.underlying30
  a194 := Tryd.isAgg30
  z194 := Tryd.sizeOf30
  v194 := Tryd.zeroValue30
  t196 := Tryd.underlying32
  a196 := Tryd.isAgg32
  z196 := Tryd.sizeOf32
  v196 := Tryd.zeroValue32
  t198 := Tryd.underlying35
  a198 := Tryd.isAgg35
  z198 := Tryd.sizeOf35
  v198 := Tryd.zeroValue35
  t201 := Tryd.underlying38
  a201 := Tryd.isAgg38
  z201 := Tryd.sizeOf38
  v201 := Tryd.zeroValue38
  t226 := Tryd.underlying40
  a226 := Tryd.isAgg40
  z226 := Tryd.sizeOf40
  v226 := Tryd.zeroValue40
  t227 := Tryd.underlying42
  a227 := Tryd.isAgg42
  z227 := Tryd.sizeOf42
  v227 := Tryd.zeroValue42
  g7 := by kernel_rfl
  g8 := by kernel_rfl }
open Go.RowKit Go.Lib in
theorem Tryd.unicode_IsLetter (c : Nat) (w : World) (hc : c < 256) (htab : Lib.TabIs Tryd.prog w "unicode.properties" .u8 Lib.propertiesTab) :
    Calls Tryd.prog 9 #[.int .i32 c] w fun e w' => e = .returned (.bool (Lib.isLetterL c)) ∧ w' = w := Any.unicode_IsLetter Tryd.lays200 (by kernel_rfl) c w hc htab
def Tryd.lays311_ren : Go.Shelf.Ren := ⟨fun | 311 => 12 | n => n, fun | 193 => 29 | 49 => 33 | 4 => 4 | 3 => 3 | 0 => 0 | 226 => 40 | 198 => 35 | 46 => 41 | n => n, fun | n => n⟩
theorem Tryd.lays311 : Go.Proofs.Lays.n311 Tryd.prog Tryd.lays311_ren := {
  mixed := by kernel_rfl
  f311 := Tryd.func12.trans (congrArg some (by kernel_rfl))
  t0 := Tryd.underlying0
  a0 := Tryd.isAgg0
  z0 := Tryd.sizeOf0
  v0 := Tryd.zeroValue0
  t3 := Tryd.underlying3
  a3 := Tryd.isAgg3
  z3 := Tryd.sizeOf3
  v3 := Tryd.zeroValue3
  t4 := Tryd.underlying4
  a4 := Tryd.isAgg4
  z4 := Tryd.sizeOf4
  v4 := Tryd.zeroValue4
  t46 := Tryd.underlying41
  a46 := Tryd.isAgg41
  z46 := Tryd.sizeOf41
  v46 := Tryd.zeroValue41
  t49 := Tryd.underlying33
  a49 := Tryd.isAgg33
  z49 := Tryd.sizeOf33
  v49 := Tryd.zeroValue33
  t193 := Tryd.underlying29
  a193 := Tryd.isAgg29
  z193 := Tryd.sizeOf29
  v193 := Tryd.zeroValue29
  t198 := Tryd.underlying35
  a198 := Tryd.isAgg35
  z198 := Tryd.sizeOf35
  v198 := Tryd.zeroValue35
  t226 := Tryd.underlying40
  a226 := Tryd.isAgg40
  z226 := Tryd.sizeOf40
  v226 := Tryd.zeroValue40 }
open Go.RowKit Go.Lib in
theorem Tryd.unicode_is16_white (R oR : Nat) (z : Nat) (w : World) (hz : z < 65536) (hz0 : 255 < z) (c6 : w.cell? ⟨R, oR + 6, none⟩ = some (.int .u16 160)) (c7 : w.cell? ⟨R, oR + 7, none⟩ = some (.int .u16 5760)) (c8 : w.cell? ⟨R, oR + 8, none⟩ = some (.int .u16 5600)) (c9 : w.cell? ⟨R, oR + 9, none⟩ = some (.int .u16 8192)) (c10 : w.cell? ⟨R, oR + 10, none⟩ = some (.int .u16 8202)) (c11 : w.cell? ⟨R, oR + 11, none⟩ = some (.int .u16 1)) (c12 : w.cell? ⟨R, oR + 12, none⟩ = some (.int .u16 8232)) (c13 : w.cell? ⟨R, oR + 13, none⟩ = some (.int .u16 8233)) (c14 : w.cell? ⟨R, oR + 14, none⟩ = some (.int .u16 1)) (c15 : w.cell? ⟨R, oR + 15, none⟩ = some (.int .u16 8239)) (c16 : w.cell? ⟨R, oR + 16, none⟩ = some (.int .u16 8287)) (c17 : w.cell? ⟨R, oR + 17, none⟩ = some (.int .u16 48)) (c18 : w.cell? ⟨R, oR + 18, none⟩ = some (.int .u16 12288)) (c19 : w.cell? ⟨R, oR + 19, none⟩ = some (.int .u16 12288)) (c20 : w.cell? ⟨R, oR + 20, none⟩ = some (.int .u16 1)) :
    Calls Tryd.prog 12 #[.slice (some ⟨R, oR + 6, none⟩) 5 5, .int .u16 z] w fun e w' => e = .returned (.bool (Lib.isSpaceR z)) ∧ Below w.heap.size w w' := Any.unicode_is16_white Tryd.lays311 R oR z w hz hz0 c6 c7 c8 c9 c10 c11 c12 c13 c14 c15 c16 c17 c18 c19 c20
def Tryd.lays261_ren : Go.Shelf.Ren := ⟨fun | 261 => 11 | 311 => 12 | 312 => 13 | n => n, fun | 141 => 28 | 21 => 21 | 4 => 4 | 0 => 0 | 196 => 32 | 193 => 29 | 3 => 3 | 51 => 25 | 198 => 35 | 49 => 33 | 194 => 30 | 201 => 38 | 226 => 40 | 46 => 41 | 227 => 42 | n => n, fun | n => n⟩
theorem Tryd.lays261 : Go.Proofs.Lays.n261 Tryd.prog Tryd.lays261_ren := {
  mixed := by kernel_rfl
  f261 := Tryd.func11.trans (congrArg some (by kernel_rfl))
  f311 := Tryd.func12.trans (congrArg some (by kernel_rfl))
  f312 := Tryd.func13.trans (congrArg some (by kernel_rfl))
  t0 := Tryd.underlying0
  a0 := Tryd.isAgg0
  z0 := Tryd.sizeOf0
  v0 := Tryd.zeroValue0
  t3 := Tryd.underlying3
  a3 := Tryd.isAgg3
  z3 := Tryd.sizeOf3
  v3 := Tryd.zeroValue3
  t4 := Tryd.underlying4
  a4 := Tryd.isAgg4
  z4 := Tryd.sizeOf4
  v4 := Tryd.zeroValue4
  t21 := Tryd.underlying21
  a21 := Tryd.isAgg21
  z21 := Tryd.sizeOf21
  v21 := Tryd.zeroValue21
  t46 := Tryd.underlying41
  a46 := Tryd.isAgg41
  z46 := Tryd.sizeOf41
  v46 := Tryd.zeroValue41
  t49 := Tryd.underlying33
  a49 := Tryd.isAgg33
  z49 := Tryd.sizeOf33
  v49 := Tryd.zeroValue33
  t51 := Tryd.underlying25
  a51 := Tryd.isAgg25
  z51 := Tryd.sizeOf25
  v51 := Tryd.zeroValue25
  t141 := Tryd.underlying28
  a141 := Tryd.isAgg28
  z141 := Tryd.sizeOf28
  v141 := Tryd.zeroValue28
  t193 := Tryd.underlying29
  a193 := Tryd.isAgg29
  z193 := Tryd.sizeOf29
  v193 := Tryd.zeroValue29
  t194 := Tryd.underlying30
  a194 := Tryd.isAgg30
  z194 := Tryd.sizeOf30
  v194 := Tryd.zeroValue30
  t196 := Tryd.underlying32
  a196 := Tryd.isAgg32
  z196 := Tryd.sizeOf32
  v196 := Tryd.zeroValue32
  t198 := Tryd.underlying35
  a198 := Tryd.isAgg35
  z198 := Tryd.sizeOf35
  v198 := Tryd.zeroValue35
  t201 := Tryd.underlying38
  a201 := Tryd.isAgg38
  z201 := Tryd.sizeOf38
  v201 := Tryd.zeroValue38
  t226 := Tryd.underlying40
  a226 := Tryd.isAgg40
  z226 := Tryd.sizeOf40
  v226 := Tryd.zeroValue40
  t227 := Tryd.underlying42
  a227 := Tryd.isAgg42
  z227 := Tryd.sizeOf42
  v227 := Tryd.zeroValue42 }
open Go.RowKit Go.Lib in
/-- unicode.isExcludingLatin(White_Space, r), r beyond U+00FF or negative. (LAID: no walk: one application.) -/
theorem Tryd.unicode_isExcludingLatin_white (T oT R oR : Nat) (r : Int) (w : World) (hlo : -2147483648 ≤ r) (hhi : r ≤ 2147483647) (hr : r < 0 ∨ 255 < r) (h2 : w.cell? ⟨T, oT, none⟩ = some (.slice (some ⟨R, oR, none⟩) 7 7)) (h3 : w.cell? ⟨T, oT + 1, none⟩ = some (.slice none 0 0)) (h4 : w.cell? ⟨T, oT + 2, none⟩ = some (.int .i64 2)) (h5 : ∀ i, i < 21 → w.cell? ⟨R, oR + i, none⟩ = some (.int .u16 (whiteT.getD i 0))) :
    Calls Tryd.prog 11 #[.pointer (some ⟨T, oT, none⟩), .int .i32 r] w fun e w' => e = .returned (.bool (Lib.isSpaceZ r)) ∧ Below w.heap.size w w' := Any.unicode_isExcludingLatin_white Tryd.lays261 T oT R oR r w hlo hhi hr h2 h3 h4 h5
open Go.RowKit Go.Lib in
theorem Tryd.unicode_is16_any (T : Array Rg) (R oR cap : Nat) (z : Nat) (w : World) (hz : z < 65536) (hT : RgTab .u16 R oR T w) (hok : RgOk 65536 T) (hn : T.size ≤ 1000000000) :
    Calls Tryd.prog 12 #[.slice (some ⟨R, oR, none⟩) T.size cap, .int .u16 z] w fun e w' => e = .returned (.bool (is16Go T z)) ∧ ∃ q, w' = w.drewN q := Any.unicode_is16_any Tryd.lays311 T R oR cap z w hz hT hok hn
def Tryd.lays312_ren : Go.Shelf.Ren := ⟨fun | 312 => 13 | n => n, fun | 194 => 30 | 51 => 25 | 4 => 4 | 3 => 3 | 0 => 0 | 227 => 42 | 201 => 38 | 46 => 41 | n => n, fun | n => n⟩
theorem Tryd.lays312 : Go.Proofs.Lays.n312 Tryd.prog Tryd.lays312_ren := {
  mixed := by kernel_rfl
  f312 := Tryd.func13.trans (congrArg some (by kernel_rfl))
  t0 := Tryd.underlying0
  a0 := Tryd.isAgg0
  z0 := Tryd.sizeOf0
  v0 := Tryd.zeroValue0
  t3 := Tryd.underlying3
  a3 := Tryd.isAgg3
  z3 := Tryd.sizeOf3
  v3 := Tryd.zeroValue3
  t4 := Tryd.underlying4
  a4 := Tryd.isAgg4
  z4 := Tryd.sizeOf4
  v4 := Tryd.zeroValue4
  t46 := Tryd.underlying41
  a46 := Tryd.isAgg41
  z46 := Tryd.sizeOf41
  v46 := Tryd.zeroValue41
  t51 := Tryd.underlying25
  a51 := Tryd.isAgg25
  z51 := Tryd.sizeOf25
  v51 := Tryd.zeroValue25
  t194 := Tryd.underlying30
  a194 := Tryd.isAgg30
  z194 := Tryd.sizeOf30
  v194 := Tryd.zeroValue30
  t201 := Tryd.underlying38
  a201 := Tryd.isAgg38
  z201 := Tryd.sizeOf38
  v201 := Tryd.zeroValue38
  t227 := Tryd.underlying42
  a227 := Tryd.isAgg42
  z227 := Tryd.sizeOf42
  v227 := Tryd.zeroValue42 }
open Go.RowKit Go.Lib in
theorem Tryd.unicode_is32_any (T : Array Rg) (R oR cap : Nat) (z : Nat) (w : World) (hz : z < 4294967296) (hT : RgTab .u32 R oR T w) (hok : RgOk 4294967296 T) (hn : T.size ≤ 1000000000) :
    Calls Tryd.prog 13 #[.slice (some ⟨R, oR, none⟩) T.size cap, .int .u32 z] w fun e w' => e = .returned (.bool (is32Go T z)) ∧ Below w.heap.size w w' := Any.unicode_is32_any Tryd.lays312 T R oR cap z w hz hT hok hn
open Go.RowKit Go.Lib in
theorem Tryd.unicode_isExcludingLatin_any (Tb oT : Nat) (T : RTab) (r : Int) (w : World) (hlo : -2147483648 ≤ r) (hhi : r ≤ 2147483647) (hA : RTabAt Tb oT T w) (hok : RTabOk T) :
    Calls Tryd.prog 11 #[.pointer (some ⟨Tb, oT, none⟩), .int .i32 r] w fun e w' => e = .returned (.bool (exclGo T r)) ∧ Below w.heap.size w w' := Any.unicode_isExcludingLatin_any Tryd.lays261 Tb oT T r w hlo hhi hA hok
open Go.RowKit Go.Lib in
/-- unicode.IsLetter(r) AT EVERY int32, over whatever table the variable unicode.Letter leads to. (LAID: no walk: one application.) -/
theorem Tryd.unicode_IsLetter_any (T : RTab) (r : Int) (w : World) (hlo : -2147483648 ≤ r) (hhi : r ≤ 2147483647) (htab : Lib.TabIs Tryd.prog w "unicode.properties" .u8 Lib.propertiesTab) (hV : RVar 1 T w) (hok : RTabOk T) :
    Calls Tryd.prog 9 #[.int .i32 r] w fun e w' => e = .returned (.bool (if latin1 r then isLetterL r else exclGo T r)) ∧ Below w.heap.size w w' := Any.unicode_IsLetter_any Tryd.lays200 (by kernel_rfl) T r w hlo hhi htab hV hok
open Go.RowKit Go.Lib in
/-- unicode.IsDigit(r) AT EVERY int32, over whatever table the variable unicode.Digit leads to. (LAID: no walk: one application.) -/
theorem Tryd.unicode_IsDigit_any (T : RTab) (r : Int) (w : World) (hlo : -2147483648 ≤ r) (hhi : r ≤ 2147483647) (hV : RVar 2 T w) (hok : RTabOk T) :
    Calls Tryd.prog 10 #[.int .i32 r] w fun e w' => e = .returned (.bool (if r ≤ 255 then isDigitL r else exclGo T r)) ∧ Below w.heap.size w w' := Any.unicode_IsDigit_any Tryd.lays198 T r w hlo hhi hV hok
open Go.RowKit Go.Lib in
/-- unicode.IsLetter(r) AT EVERY int32, the tables as their initialisers lay them: 'Lib.isLetterU r'. (LAID: no walk: one application.) -/
theorem Tryd.unicode_IsLetter_all (r : Int) (w : World) (hlo : -2147483648 ≤ r) (hhi : r ≤ 2147483647) (htab : Lib.TabIs Tryd.prog w "unicode.properties" .u8 Lib.propertiesTab) (hV : RVar 1 letterT w) :
    Calls Tryd.prog 9 #[.int .i32 r] w fun e w' => e = .returned (.bool (isLetterU r)) ∧ Below w.heap.size w w' := Any.unicode_IsLetter_all Tryd.lays200 (by kernel_rfl) r w hlo hhi htab hV
open Go.RowKit Go.Lib in
/-- unicode.IsDigit(r) AT EVERY int32: 'Lib.isDigitU r'. (LAID: no walk: one application.) -/
theorem Tryd.unicode_IsDigit_all (r : Int) (w : World) (hlo : -2147483648 ≤ r) (hhi : r ≤ 2147483647) (hV : RVar 2 digitT w) :
    Calls Tryd.prog 10 #[.int .i32 r] w fun e w' => e = .returned (.bool (isDigitU r)) ∧ Below w.heap.size w w' := Any.unicode_IsDigit_all Tryd.lays198 r w hlo hhi hV
end Go.Proofs
