/-
  DERIVED: THE SHELF's CONTRACTS AT THIS DUMP, IN PLAIN WORDS (tools/lay-plain.mjs out of 'Qxb6616262aDoorShelf.lean', which tools/lay-shelf.mjs wrote): THE SAME DECLARATIONS UNDER THE SAME NAMES: 'import', 'namespace', 'open', 'def', 'theorem' AND NOTHING ELSE: no command of the shelf's: FOR A HAND-IN. Each laying: the table of numbers ('.._ren') and one theorem, a field a fact of the dump's own or the kernel's comparison; each contract: ONE APPLICATION.
-/
import Derived.Shelf.Strings.Search1
import Derived.Shelf.Strings.Search2
import Derived.Shelf.Strings.Search3
import Derived.Shelf.LaysM
import Derived.Shelf.Strings.Shaped
import Derived.Ground.NamesProg
import Derived.Shelf.Unicode.ValidAny
import Derived.Test.Qxb6616262aDoorProg
namespace Go.Proofs
open Go.Shelf
def Tryd.lays217_ren : Go.Shelf.Ren := ⟨fun | 217 => 13 | 266 => 17 | n => n, fun | 9 => 9 | 5 => 5 | 3 => 3 | n => n, fun | n => n⟩
theorem Tryd.lays217 : Go.Proofs.Lays.n217 Tryd.prog Tryd.lays217_ren := {
  mixed := by kernel_rfl
  f217 := Tryd.func13.trans (congrArg some (by kernel_rfl))
  f266 := Tryd.func17.trans (congrArg some (by kernel_rfl))
  t3 := Tryd.underlying3
  a3 := Tryd.isAgg3
  z3 := Tryd.sizeOf3
  v3 := Tryd.zeroValue3
  t5 := Tryd.underlying5
  a5 := Tryd.isAgg5
  z5 := Tryd.sizeOf5
  v5 := Tryd.zeroValue5
  t9 := Tryd.underlying9
  a9 := Tryd.isAgg9
  z9 := Tryd.sizeOf9
  v9 := Tryd.zeroValue9 }
open Go.RowKit Go.Lib in
/-- internal/stringslite.IndexByte (what strings.IndexByte calls): IT RETURNS 'Lib.indexByte s c'; the world is as it was. (LAID: no walk: one application.) -/
theorem Tryd.stringslite_IndexByte (s : ByteArray) (c : Int) (w : World) :
    Calls Tryd.prog 13 #[.string s, .int .u8 c] w fun e w' => e = .returned (.int .i64 (Lib.indexByte s.data.toList c.toNat.toUInt8)) ∧ w' = w := Any.stringslite_IndexByte Tryd.lays217 s c w
def Tryd.lays224_ren : Go.Shelf.Ren := ⟨fun | 224 => 15 | n => n, fun | 3 => 3 | n => n, fun | n => n⟩
theorem Tryd.lays224 : Go.Proofs.Lays.n224 Tryd.prog Tryd.lays224_ren := {
  mixed := by kernel_rfl
  f224 := Tryd.func15.trans (congrArg some (by kernel_rfl))
  t3 := Tryd.underlying3
  a3 := Tryd.isAgg3
  z3 := Tryd.sizeOf3
  v3 := Tryd.zeroValue3 }
open Go.RowKit Go.Lib in
/-- internal/bytealg.Cutover: "Cutover reports the number of failures of IndexByte we should tolerate before switching over to Index. n is the number of bytes processed so far.": on amd64: (n + 16) / 8. (LAID: no walk: one application.) -/
theorem Tryd.bytealg_Cutover (n : Int) (h0 : 0 ≤ n) (h1 : n < 4611686018427387904) (w : World) :
    Calls Tryd.prog 15 #[.int .i64 n] w fun e w' => e = .returned (.int .i64 ((n + 16) / 8)) ∧ w' = w := Any.bytealg_Cutover Tryd.lays224 n h0 h1 w
def Tryd.lays314_ren : Go.Shelf.Ren := ⟨fun | 314 => 18 | n => n, fun | 9 => 9 | 51 => 35 | 3 => 3 | 4 => 4 | 5 => 5 | 46 => 31 | n => n, fun | n => n⟩
theorem Tryd.lays314 : Go.Proofs.Lays.n314 Tryd.prog Tryd.lays314_ren := {
  mixed := by kernel_rfl
  f314 := Tryd.func18.trans (congrArg some (by kernel_rfl))
  t3 := Tryd.underlying3
  a3 := Tryd.isAgg3
  z3 := Tryd.sizeOf3
  v3 := Tryd.zeroValue3
  t4 := Tryd.underlying4
  a4 := Tryd.isAgg4
  z4 := Tryd.sizeOf4
  v4 := Tryd.zeroValue4
  t5 := Tryd.underlying5
  a5 := Tryd.isAgg5
  z5 := Tryd.sizeOf5
  v5 := Tryd.zeroValue5
  t9 := Tryd.underlying9
  a9 := Tryd.isAgg9
  z9 := Tryd.sizeOf9
  v9 := Tryd.zeroValue9
  t46 := Tryd.underlying31
  a46 := Tryd.isAgg31
  z46 := Tryd.sizeOf31
  v46 := Tryd.zeroValue31
  t51 := Tryd.underlying35
  a51 := Tryd.isAgg35
  z51 := Tryd.sizeOf35
  v51 := Tryd.zeroValue35 }
open Go.RowKit Go.Lib in
/-- hashStr: "returns the hash and the appropriate multiplicative factor for use in Rabin-Karp algorithm": THE HASH OF ALL OF sep, AND 16777619 ^ len(sep), both in uint32. (LAID: no walk: one application.) -/
theorem Tryd.bytealg_hashStr (sep : ByteArray) (hs : sep.size < 4294967281) (w : World) :
    Calls Tryd.prog 18 #[.string sep] w fun e w' => e = .returned (.tuple #[.int .u32 (RK.H sep.data.toList % 4294967296), .int .u32 (16777619 ^ sep.size % 4294967296)]) ∧ w' = w := Any.bytealg_hashStr Tryd.lays314 sep hs w
def Tryd.lays267_ren : Go.Shelf.Ren := ⟨fun | 267 => 16 | 314 => 18 | n => n, fun | 9 => 9 | 3 => 3 | 146 => 36 | 51 => 35 | 4 => 4 | 5 => 5 | 46 => 31 | n => n, fun | n => n⟩
theorem Tryd.lays267 : Go.Proofs.Lays.n267 Tryd.prog Tryd.lays267_ren := {
  mixed := by kernel_rfl
  f267 := Tryd.func16.trans (congrArg some (by kernel_rfl))
  f314 := Tryd.func18.trans (congrArg some (by kernel_rfl))
  t3 := Tryd.underlying3
  a3 := Tryd.isAgg3
  z3 := Tryd.sizeOf3
  v3 := Tryd.zeroValue3
  t4 := Tryd.underlying4
  a4 := Tryd.isAgg4
  z4 := Tryd.sizeOf4
  v4 := Tryd.zeroValue4
  t5 := Tryd.underlying5
  a5 := Tryd.isAgg5
  z5 := Tryd.sizeOf5
  v5 := Tryd.zeroValue5
  t9 := Tryd.underlying9
  a9 := Tryd.isAgg9
  z9 := Tryd.sizeOf9
  v9 := Tryd.zeroValue9
  t46 := Tryd.underlying31
  a46 := Tryd.isAgg31
  z46 := Tryd.sizeOf31
  v46 := Tryd.zeroValue31
  t51 := Tryd.underlying35
  a51 := Tryd.isAgg35
  z51 := Tryd.sizeOf35
  v51 := Tryd.zeroValue35
  t146 := Tryd.underlying36
  a146 := Tryd.isAgg36
  z146 := Tryd.sizeOf36
  v146 := Tryd.zeroValue36 }
open Go.RowKit Go.Lib in
theorem Tryd.bytealg_IndexRabinKarp (s sep : ByteArray) (h1 : 1 ≤ sep.size) (h2 : sep.size ≤ s.size) (hs : s.size < 4294967281) (w : World) :
    Calls Tryd.prog 16 #[.string s, .string sep] w fun e w' => e = .returned (.int .i64 (Lib.index s.data.toList sep.data.toList)) ∧ w' = w := Any.bytealg_IndexRabinKarp Tryd.lays267 s sep h1 h2 hs w
def Tryd.lays219_ren : Go.Shelf.Ren := ⟨fun | 219 => 12 | 217 => 13 | 225 => 14 | 224 => 15 | 267 => 16 | 266 => 17 | 314 => 18 | n => n, fun | 9 => 9 | 3 => 3 | 4 => 4 | 5 => 5 | 46 => 31 | 146 => 36 | 51 => 35 | n => n, fun | 1 => 2 | n => n⟩
theorem Tryd.lays219 : Go.Proofs.Lays.n219 Tryd.prog Tryd.lays219_ren := {
  mixed := by kernel_rfl
  f217 := Tryd.func13.trans (congrArg some (by kernel_rfl))
  f219 := Tryd.func12.trans (congrArg some (by kernel_rfl))
  f224 := Tryd.func15.trans (congrArg some (by kernel_rfl))
  f225 := Tryd.func14.trans (congrArg some (by kernel_rfl))
  f266 := Tryd.func17.trans (congrArg some (by kernel_rfl))
  f267 := Tryd.func16.trans (congrArg some (by kernel_rfl))
  f314 := Tryd.func18.trans (congrArg some (by kernel_rfl))
  t3 := Tryd.underlying3
  a3 := Tryd.isAgg3
  z3 := Tryd.sizeOf3
  v3 := Tryd.zeroValue3
  t4 := Tryd.underlying4
  a4 := Tryd.isAgg4
  z4 := Tryd.sizeOf4
  v4 := Tryd.zeroValue4
  t5 := Tryd.underlying5
  a5 := Tryd.isAgg5
  z5 := Tryd.sizeOf5
  v5 := Tryd.zeroValue5
  t9 := Tryd.underlying9
  a9 := Tryd.isAgg9
  z9 := Tryd.sizeOf9
  v9 := Tryd.zeroValue9
  t46 := Tryd.underlying31
  a46 := Tryd.isAgg31
  z46 := Tryd.sizeOf31
  v46 := Tryd.zeroValue31
  t51 := Tryd.underlying35
  a51 := Tryd.isAgg35
  z51 := Tryd.sizeOf35
  v51 := Tryd.zeroValue35
  t146 := Tryd.underlying36
  a146 := Tryd.isAgg36
  z146 := Tryd.sizeOf36
  v146 := Tryd.zeroValue36
  g1 := by kernel_rfl }
open Go.RowKit Go.Lib in
/-- internal/stringslite.Index (what strings.Index calls) AT A substr OF ONE BYTE c: IT RETURNS 'Lib.indexByte s c'; the world is as it was. (LAID: no walk: one application.) -/
theorem Tryd.stringslite_Index_one (s : ByteArray) (c : UInt8) (w : World) :
    Calls Tryd.prog 12 #[.string s, .string ⟨#[c]⟩] w fun e w' => e = .returned (.int .i64 (Lib.indexByte s.data.toList c)) ∧ w' = w := Any.stringslite_Index_one Tryd.lays219 s c w
open Go.RowKit Go.Lib in
/-- internal/stringslite.Index (what strings.Index calls) AT A substr OF WHATEVER LENGTH: IT RETURNS 'Lib.index s substr'; the world is as it was. 'm': what internal/bytealg.MaxLen holds: whatever. (LAID: no walk: one application.) -/
theorem Tryd.stringslite_Index (s sub : ByteArray) (m : Int) (w : World) (hs : s.size < 4294967281) (hm : w.cell? ⟨2, 0, none⟩ = some (.int .i64 m)) :
    Calls Tryd.prog 12 #[.string s, .string sub] w fun e w' => e = .returned (.int .i64 (Lib.index s.data.toList sub.data.toList)) ∧ w' = w := Any.stringslite_Index Tryd.lays219 s sub m w hs hm
def Tryd.lays143_ren : Go.Shelf.Ren := ⟨fun | 143 => 10 | 219 => 12 | 217 => 13 | 225 => 14 | 224 => 15 | 267 => 16 | 266 => 17 | 314 => 18 | n => n, fun | 9 => 9 | 3 => 3 | 4 => 4 | 5 => 5 | 46 => 31 | 146 => 36 | 51 => 35 | n => n, fun | 1 => 2 | n => n⟩
theorem Tryd.lays143 : Go.Proofs.Lays.n143 Tryd.prog Tryd.lays143_ren := {
  mixed := by kernel_rfl
  f143 := Tryd.func10.trans (congrArg some (by kernel_rfl))
  f217 := Tryd.func13.trans (congrArg some (by kernel_rfl))
  f219 := Tryd.func12.trans (congrArg some (by kernel_rfl))
  f224 := Tryd.func15.trans (congrArg some (by kernel_rfl))
  f225 := Tryd.func14.trans (congrArg some (by kernel_rfl))
  f266 := Tryd.func17.trans (congrArg some (by kernel_rfl))
  f267 := Tryd.func16.trans (congrArg some (by kernel_rfl))
  f314 := Tryd.func18.trans (congrArg some (by kernel_rfl))
  t3 := Tryd.underlying3
  a3 := Tryd.isAgg3
  z3 := Tryd.sizeOf3
  v3 := Tryd.zeroValue3
  t4 := Tryd.underlying4
  a4 := Tryd.isAgg4
  z4 := Tryd.sizeOf4
  v4 := Tryd.zeroValue4
  t5 := Tryd.underlying5
  a5 := Tryd.isAgg5
  z5 := Tryd.sizeOf5
  v5 := Tryd.zeroValue5
  t9 := Tryd.underlying9
  a9 := Tryd.isAgg9
  z9 := Tryd.sizeOf9
  v9 := Tryd.zeroValue9
  t46 := Tryd.underlying31
  a46 := Tryd.isAgg31
  z46 := Tryd.sizeOf31
  v46 := Tryd.zeroValue31
  t51 := Tryd.underlying35
  a51 := Tryd.isAgg35
  z51 := Tryd.sizeOf35
  v51 := Tryd.zeroValue35
  t146 := Tryd.underlying36
  a146 := Tryd.isAgg36
  z146 := Tryd.sizeOf36
  v146 := Tryd.zeroValue36
  g1 := by kernel_rfl }
open Go.RowKit Go.Lib in
/-- strings.Index: "Index returns the index of the first instance of substr in s, or -1 if substr is not present in s.": AT A substr OF ONE BYTE c: IT RETURNS 'Lib.indexByte s c'; the world is as it was. (LAID: no walk: one application.) -/
theorem Tryd.strings_Index_one (s : ByteArray) (c : UInt8) (w : World) :
    Calls Tryd.prog 10 #[.string s, .string ⟨#[c]⟩] w fun e w' => e = .returned (.int .i64 (Lib.indexByte s.data.toList c)) ∧ w' = w := Any.strings_Index_one Tryd.lays143 s c w
open Go.RowKit Go.Lib in
/-- strings.Index: "Index returns the index of the first instance of substr in s, or -1 if substr is not present in s.": IT RETURNS 'Lib.index s substr'; the world is as it was. (LAID: no walk: one application.) -/
theorem Tryd.strings_Index (s sub : ByteArray) (m : Int) (w : World) (hs : s.size < 4294967281) (hm : w.cell? ⟨2, 0, none⟩ = some (.int .i64 m)) :
    Calls Tryd.prog 10 #[.string s, .string sub] w fun e w' => e = .returned (.int .i64 (Lib.index s.data.toList sub.data.toList)) ∧ w' = w := Any.strings_Index Tryd.lays143 s sub m w hs hm
def Tryd.lays144_ren : Go.Shelf.Ren := ⟨fun | 144 => 8 | 143 => 10 | 219 => 12 | 217 => 13 | 225 => 14 | 224 => 15 | 267 => 16 | 266 => 17 | 314 => 18 | n => n, fun | 9 => 9 | 4 => 4 | 3 => 3 | 5 => 5 | 46 => 31 | 146 => 36 | 51 => 35 | n => n, fun | 1 => 2 | n => n⟩
theorem Tryd.lays144 : Go.Proofs.Lays.n144 Tryd.prog Tryd.lays144_ren := {
  mixed := by kernel_rfl
  f143 := Tryd.func10.trans (congrArg some (by kernel_rfl))
  f144 := Tryd.func8.trans (congrArg some (by kernel_rfl))
  f217 := Tryd.func13.trans (congrArg some (by kernel_rfl))
  f219 := Tryd.func12.trans (congrArg some (by kernel_rfl))
  f224 := Tryd.func15.trans (congrArg some (by kernel_rfl))
  f225 := Tryd.func14.trans (congrArg some (by kernel_rfl))
  f266 := Tryd.func17.trans (congrArg some (by kernel_rfl))
  f267 := Tryd.func16.trans (congrArg some (by kernel_rfl))
  f314 := Tryd.func18.trans (congrArg some (by kernel_rfl))
  t3 := Tryd.underlying3
  a3 := Tryd.isAgg3
  z3 := Tryd.sizeOf3
  v3 := Tryd.zeroValue3
  t4 := Tryd.underlying4
  a4 := Tryd.isAgg4
  z4 := Tryd.sizeOf4
  v4 := Tryd.zeroValue4
  t5 := Tryd.underlying5
  a5 := Tryd.isAgg5
  z5 := Tryd.sizeOf5
  v5 := Tryd.zeroValue5
  t9 := Tryd.underlying9
  a9 := Tryd.isAgg9
  z9 := Tryd.sizeOf9
  v9 := Tryd.zeroValue9
  t46 := Tryd.underlying31
  a46 := Tryd.isAgg31
  z46 := Tryd.sizeOf31
  v46 := Tryd.zeroValue31
  t51 := Tryd.underlying35
  a51 := Tryd.isAgg35
  z51 := Tryd.sizeOf35
  v51 := Tryd.zeroValue35
  t146 := Tryd.underlying36
  a146 := Tryd.isAgg36
  z146 := Tryd.sizeOf36
  v146 := Tryd.zeroValue36
  g1 := by kernel_rfl }
open Go.RowKit Go.Lib in
/-- strings.Contains: "Contains reports whether substr is within s.": AT A substr OF ONE BYTE c: IT RETURNS 'decide (0 ≤ Lib.indexByte s c)'; the world is as it was. (LAID: no walk: one application.) -/
theorem Tryd.strings_Contains_one (s : ByteArray) (c : UInt8) (w : World) :
    Calls Tryd.prog 8 #[.string s, .string ⟨#[c]⟩] w fun e w' => e = .returned (.bool (decide (0 ≤ Lib.indexByte s.data.toList c))) ∧ w' = w := Any.strings_Contains_one Tryd.lays144 s c w
open Go.RowKit Go.Lib in
/-- strings.Contains: "Contains reports whether substr is within s.": IT RETURNS 'Lib.contains s substr'; the world is as it was. (LAID: no walk: one application.) -/
theorem Tryd.strings_Contains (s sub : ByteArray) (m : Int) (w : World) (hs : s.size < 4294967281) (hm : w.cell? ⟨2, 0, none⟩ = some (.int .i64 m)) :
    Calls Tryd.prog 8 #[.string s, .string sub] w fun e w' => e = .returned (.bool (Lib.contains s.data.toList sub.data.toList)) ∧ w' = w := Any.strings_Contains Tryd.lays144 s sub m w hs hm
def Tryd.laysM219_ren : Go.Shelf.Ren := ⟨fun | 219 => 12 | 217 => 13 | 225 => 14 | 224 => 15 | 267 => 16 | 266 => 17 | 314 => 18 | n => n, fun | 9 => 9 | 3 => 3 | 4 => 4 | 5 => 5 | 46 => 31 | 146 => 36 | 51 => 35 | n => n, fun | 1 => 2 | n => n⟩
theorem Tryd.laysM219 : Go.Proofs.LaysM.n219 Tryd.prog Tryd.laysM219_ren := {
  mixed := by kernel_rfl
  f217 := Tryd.func13.trans (congrArg some (by kernel_rfl))
  f219 := Tryd.func12.trans (congrArg some (by kernel_rfl))
  f224 := Tryd.func15.trans (congrArg some (by kernel_rfl))
  f225 := Tryd.func14.trans (congrArg some (by kernel_rfl))
  f266 := Tryd.func17.trans (congrArg some (by kernel_rfl))
  f267 := Tryd.func16.trans (congrArg some (by kernel_rfl))
  f314 := Tryd.func18.trans (congrArg some (by kernel_rfl))
  t3 := Tryd.underlying3
  a3 := Tryd.isAgg3
  z3 := Tryd.sizeOf3
  v3 := Tryd.zeroValue3
  t4 := Tryd.underlying4
  a4 := Tryd.isAgg4
  z4 := Tryd.sizeOf4
  v4 := Tryd.zeroValue4
  t5 := Tryd.underlying5
  a5 := Tryd.isAgg5
  z5 := Tryd.sizeOf5
  v5 := Tryd.zeroValue5
  t9 := Tryd.underlying9
  a9 := Tryd.isAgg9
  z9 := Tryd.sizeOf9
  v9 := Tryd.zeroValue9
  t46 := Tryd.underlying31
  a46 := Tryd.isAgg31
  z46 := Tryd.sizeOf31
  v46 := Tryd.zeroValue31
  t51 := Tryd.underlying35
  a51 := Tryd.isAgg35
  z51 := Tryd.sizeOf35
  v51 := Tryd.zeroValue35
  t146 := Tryd.underlying36
  a146 := Tryd.isAgg36
  z146 := Tryd.sizeOf36
  v146 := Tryd.zeroValue36
  g1 := by kernel_rfl
  i3 := by kernel_rfl
  i4 := by kernel_rfl
  i5 := by kernel_rfl
  i9 := by kernel_rfl
  i46 := by kernel_rfl
  i51 := by kernel_rfl
  i146 := by kernel_rfl
  m1 := by kernel_rfl
  s1_3 := fun w h => Go.Proofs.cell_of_shapedOpen_int (zero := #[.int .i64 0]) (t := 3) h (of_decide_eq_true (by kernel_rfl)) (by kernel_rfl) rfl (by kernel_rfl) (by kernel_rfl) Tryd.underlying3 }
open Go.RowKit Go.Lib in
theorem Tryd.stringslite_Index_shaped (s sub : ByteArray) (w : World) (h : w.ShapedOpen Tryd.prog) (hs : s.size < 4294967281) :
    Calls Tryd.prog 12 #[.string s, .string sub] w fun e w' => e = .returned (.int .i64 (Lib.index s.data.toList sub.data.toList)) ∧ w' = w := Any.stringslite_Index_shaped Tryd.laysM219 s sub w h hs
def Tryd.laysM143_ren : Go.Shelf.Ren := ⟨fun | 143 => 10 | 219 => 12 | 217 => 13 | 225 => 14 | 224 => 15 | 267 => 16 | 266 => 17 | 314 => 18 | n => n, fun | 9 => 9 | 3 => 3 | 4 => 4 | 5 => 5 | 46 => 31 | 146 => 36 | 51 => 35 | n => n, fun | 1 => 2 | n => n⟩
theorem Tryd.laysM143 : Go.Proofs.LaysM.n143 Tryd.prog Tryd.laysM143_ren := {
  mixed := by kernel_rfl
  f143 := Tryd.func10.trans (congrArg some (by kernel_rfl))
  f217 := Tryd.func13.trans (congrArg some (by kernel_rfl))
  f219 := Tryd.func12.trans (congrArg some (by kernel_rfl))
  f224 := Tryd.func15.trans (congrArg some (by kernel_rfl))
  f225 := Tryd.func14.trans (congrArg some (by kernel_rfl))
  f266 := Tryd.func17.trans (congrArg some (by kernel_rfl))
  f267 := Tryd.func16.trans (congrArg some (by kernel_rfl))
  f314 := Tryd.func18.trans (congrArg some (by kernel_rfl))
  t3 := Tryd.underlying3
  a3 := Tryd.isAgg3
  z3 := Tryd.sizeOf3
  v3 := Tryd.zeroValue3
  t4 := Tryd.underlying4
  a4 := Tryd.isAgg4
  z4 := Tryd.sizeOf4
  v4 := Tryd.zeroValue4
  t5 := Tryd.underlying5
  a5 := Tryd.isAgg5
  z5 := Tryd.sizeOf5
  v5 := Tryd.zeroValue5
  t9 := Tryd.underlying9
  a9 := Tryd.isAgg9
  z9 := Tryd.sizeOf9
  v9 := Tryd.zeroValue9
  t46 := Tryd.underlying31
  a46 := Tryd.isAgg31
  z46 := Tryd.sizeOf31
  v46 := Tryd.zeroValue31
  t51 := Tryd.underlying35
  a51 := Tryd.isAgg35
  z51 := Tryd.sizeOf35
  v51 := Tryd.zeroValue35
  t146 := Tryd.underlying36
  a146 := Tryd.isAgg36
  z146 := Tryd.sizeOf36
  v146 := Tryd.zeroValue36
  g1 := by kernel_rfl
  i3 := by kernel_rfl
  i4 := by kernel_rfl
  i5 := by kernel_rfl
  i9 := by kernel_rfl
  i46 := by kernel_rfl
  i51 := by kernel_rfl
  i146 := by kernel_rfl
  m1 := by kernel_rfl
  s1_3 := fun w h => Go.Proofs.cell_of_shapedOpen_int (zero := #[.int .i64 0]) (t := 3) h (of_decide_eq_true (by kernel_rfl)) (by kernel_rfl) rfl (by kernel_rfl) (by kernel_rfl) Tryd.underlying3 }
open Go.RowKit Go.Lib in
theorem Tryd.strings_Index_shaped (s sub : ByteArray) (w : World) (h : w.ShapedOpen Tryd.prog) (hs : s.size < 4294967281) :
    Calls Tryd.prog 10 #[.string s, .string sub] w fun e w' => e = .returned (.int .i64 (Lib.index s.data.toList sub.data.toList)) ∧ w' = w := Any.strings_Index_shaped Tryd.laysM143 s sub w h hs
def Tryd.laysM144_ren : Go.Shelf.Ren := ⟨fun | 144 => 8 | 143 => 10 | 219 => 12 | 217 => 13 | 225 => 14 | 224 => 15 | 267 => 16 | 266 => 17 | 314 => 18 | n => n, fun | 9 => 9 | 4 => 4 | 3 => 3 | 5 => 5 | 46 => 31 | 146 => 36 | 51 => 35 | n => n, fun | 1 => 2 | n => n⟩
theorem Tryd.laysM144 : Go.Proofs.LaysM.n144 Tryd.prog Tryd.laysM144_ren := {
  mixed := by kernel_rfl
  f143 := Tryd.func10.trans (congrArg some (by kernel_rfl))
  f144 := Tryd.func8.trans (congrArg some (by kernel_rfl))
  f217 := Tryd.func13.trans (congrArg some (by kernel_rfl))
  f219 := Tryd.func12.trans (congrArg some (by kernel_rfl))
  f224 := Tryd.func15.trans (congrArg some (by kernel_rfl))
  f225 := Tryd.func14.trans (congrArg some (by kernel_rfl))
  f266 := Tryd.func17.trans (congrArg some (by kernel_rfl))
  f267 := Tryd.func16.trans (congrArg some (by kernel_rfl))
  f314 := Tryd.func18.trans (congrArg some (by kernel_rfl))
  t3 := Tryd.underlying3
  a3 := Tryd.isAgg3
  z3 := Tryd.sizeOf3
  v3 := Tryd.zeroValue3
  t4 := Tryd.underlying4
  a4 := Tryd.isAgg4
  z4 := Tryd.sizeOf4
  v4 := Tryd.zeroValue4
  t5 := Tryd.underlying5
  a5 := Tryd.isAgg5
  z5 := Tryd.sizeOf5
  v5 := Tryd.zeroValue5
  t9 := Tryd.underlying9
  a9 := Tryd.isAgg9
  z9 := Tryd.sizeOf9
  v9 := Tryd.zeroValue9
  t46 := Tryd.underlying31
  a46 := Tryd.isAgg31
  z46 := Tryd.sizeOf31
  v46 := Tryd.zeroValue31
  t51 := Tryd.underlying35
  a51 := Tryd.isAgg35
  z51 := Tryd.sizeOf35
  v51 := Tryd.zeroValue35
  t146 := Tryd.underlying36
  a146 := Tryd.isAgg36
  z146 := Tryd.sizeOf36
  v146 := Tryd.zeroValue36
  g1 := by kernel_rfl
  i3 := by kernel_rfl
  i4 := by kernel_rfl
  i5 := by kernel_rfl
  i9 := by kernel_rfl
  i46 := by kernel_rfl
  i51 := by kernel_rfl
  i146 := by kernel_rfl
  m1 := by kernel_rfl
  s1_3 := fun w h => Go.Proofs.cell_of_shapedOpen_int (zero := #[.int .i64 0]) (t := 3) h (of_decide_eq_true (by kernel_rfl)) (by kernel_rfl) rfl (by kernel_rfl) (by kernel_rfl) Tryd.underlying3 }
open Go.RowKit Go.Lib in
theorem Tryd.strings_Contains_shaped (s sub : ByteArray) (w : World) (h : w.ShapedOpen Tryd.prog) (hs : s.size < 4294967281) :
    Calls Tryd.prog 8 #[.string s, .string sub] w fun e w' => e = .returned (.bool (Lib.contains s.data.toList sub.data.toList)) ∧ w' = w := Any.strings_Contains_shaped Tryd.laysM144 s sub w h hs
def Tryd.laysValid_ren : Go.Shelf.Ren := ⟨fun | 196 => 9 | 259 => 11 | n => n, fun | 9 => 9 | 4 => 4 | 3 => 3 | 5 => 5 | 12 => 12 | 119 => 27 | 0 => 0 | 46 => 31 | 139 => 30 | 138 => 29 | 53 => 32 | n => n, fun | 3 => 0 | 4 => 1 | n => n⟩
theorem Tryd.laysValid : Go.Proofs.Lays.n196 Tryd.prog Tryd.laysValid_ren := {
  mixed := by kernel_rfl
  f196 := Tryd.func9.trans (congrArg some (by kernel_rfl))
  f259 := Tryd.func11.trans (congrArg some (by kernel_rfl))
  t0 := Tryd.underlying0
  a0 := Tryd.isAgg0
  z0 := Tryd.sizeOf0
  v0 := Tryd.zeroValue0
  t3 := Tryd.underlying3
  a3 := Tryd.isAgg3
  z3 := Tryd.sizeOf3
  v3 := Tryd.zeroValue3
  t4 := Tryd.underlying4
  a4 := Tryd.isAgg4
  z4 := Tryd.sizeOf4
  v4 := Tryd.zeroValue4
  t5 := Tryd.underlying5
  a5 := Tryd.isAgg5
  z5 := Tryd.sizeOf5
  v5 := Tryd.zeroValue5
  t9 := Tryd.underlying9
  a9 := Tryd.isAgg9
  z9 := Tryd.sizeOf9
  v9 := Tryd.zeroValue9
  t12 := Tryd.underlying12
  a12 := Tryd.isAgg12
  z12 := Tryd.sizeOf12
  v12 := Tryd.zeroValue12
  t46 := Tryd.underlying31
  a46 := Tryd.isAgg31
  z46 := Tryd.sizeOf31
  v46 := Tryd.zeroValue31
  t53 := Tryd.underlying32
  a53 := Tryd.isAgg32
  z53 := Tryd.sizeOf32
  v53 := Tryd.zeroValue32
  t119 := Tryd.underlying27
  a119 := Tryd.isAgg27
  z119 := Tryd.sizeOf27
  t138 := Tryd.underlying29
  a138 := Tryd.isAgg29
  z138 := Tryd.sizeOf29
  v138 := Tryd.zeroValue29
  t139 := Tryd.underlying30
  a139 := Tryd.isAgg30
  z139 := Tryd.sizeOf30
  v139 := Tryd.zeroValue30
  g3 := by kernel_rfl
  g4 := by kernel_rfl }
end Go.Proofs
