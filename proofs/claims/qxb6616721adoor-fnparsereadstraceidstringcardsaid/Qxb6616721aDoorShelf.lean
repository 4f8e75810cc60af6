/-
  DERIVED: THE SHELF's CONTRACTS AT THIS DUMP, IN PLAIN WORDS (tools/lay-plain.mjs out of 'Qxb6616721aDoorShelf.lean', which tools/lay-shelf.mjs wrote): THE SAME DECLARATIONS UNDER THE SAME NAMES: 'import', 'namespace', 'open', 'def', 'theorem' AND NOTHING ELSE: no command of the shelf's: FOR A HAND-IN. Each laying: the table of numbers ('.._ren') and one theorem, a field a fact of the dump's own or the kernel's comparison; each contract: ONE APPLICATION.
-/
import Derived.Shelf.Strings.Builder1
import Derived.Shelf.Strings.Builder2
import Derived.Shelf.Strings.OnBuilder
import Derived.Shelf.Strings.Trim
import Derived.Shelf.Small.Utf8
import Derived.Shelf.Small.Strs
import Derived.Ground.PaProg
import Derived.Shelf.Hex.Tagged
import Derived.Shelf.Utf8.RuneCount
import Derived.Shelf.Strings.Search1
import Derived.Shelf.Strings.Search2
import Derived.Shelf.Strings.Search3
import Derived.Shelf.Strings.Cut
import Derived.Shelf.Strings.Count
import Derived.Shelf.LaysM
import Derived.Shelf.Strings.Shaped
import Derived.Shelf.Strings.Split
import Derived.Shelf.Strings.SplitShaped
import Derived.Shelf.Unicode.Decode
import Derived.Shelf.Strings.Runes
import Derived.Shelf.Strings.RuneCount
import Derived.Shelf.Strings.AsciiSet
import Derived.Shelf.Strings.Explode
import Derived.Shelf.Unicode.DecodeSlow
import Derived.Shelf.Unicode.DecodeAny
import Derived.Shelf.Unicode.DecodeLast
import Derived.Shelf.Slices.Turned
import Derived.Shelf.Hex.Lens
import Derived.Shelf.Hex.Encode
import Derived.Shelf.Hex.Decode
import Derived.Shelf.Hex.More
import Derived.Shelf.Strings.SlTrimAscii
import Derived.Test.Qxb6616721aDoorProg
namespace Go.Proofs
open Go.Shelf
def Tryd.lays169_ren : Go.Shelf.Ren := ⟨fun | 169 => 31 | n => n, fun | 70 => 60 | 9 => 9 | 0 => 0 | 72 => 62 | 37 => 46 | 127 => 79 | 3 => 3 | 5 => 5 | n => n, fun | n => n⟩
theorem Tryd.lays169 : Go.Proofs.Lays.n169 Tryd.prog Tryd.lays169_ren := {
  mixed := by kernel_rfl
  f169 := Tryd.func31.trans (congrArg some (by kernel_rfl))
  t0 := Tryd.underlying0
  a0 := Tryd.isAgg0
  z0 := Tryd.sizeOf0
  v0 := Tryd.zeroValue0
  t3 := Tryd.underlying3
  a3 := Tryd.isAgg3
  z3 := Tryd.sizeOf3
  v3 := Tryd.zeroValue3
  t9 := Tryd.underlying9
  a9 := Tryd.isAgg9
  z9 := Tryd.sizeOf9
  v9 := Tryd.zeroValue9
  t37 := Tryd.underlying46
  a37 := Tryd.isAgg46
  z37 := Tryd.sizeOf46
  v37 := Tryd.zeroValue46
  t70 := Tryd.underlying60
  a70 := Tryd.isAgg60
  z70 := Tryd.sizeOf60
  v70 := Tryd.zeroValue60
  t72 := Tryd.underlying62
  a72 := Tryd.isAgg62
  z72 := Tryd.sizeOf62
  v72 := Tryd.zeroValue62
  t127 := Tryd.underlying79
  a127 := Tryd.isAgg79
  z127 := Tryd.sizeOf79
  v127 := Tryd.zeroValue79 }
theorem Tryd.Builder_Extra_169 : Builder.Extra Tryd.prog Tryd.lays169_ren := {
  sizeBuilder := by kernel_rfl
  liesBuilder := by kernel_rfl
  t5 := Tryd.underlying5
  a5 := Tryd.isAgg5
  z5 := Tryd.sizeOf5
  v5 := Tryd.zeroValue5
  infoByte := by kernel_rfl
  cellsByte := by kernel_rfl
  sizeByte := by kernel_rfl
  neB5 := by decide }
open Go.RowKit in
/-- (*strings.Builder).String: "String returns the accumulated string.": OF A BUILDER THAT HOLDS AT LEAST ONE BYTE. ✋ THE MODEL FREEZES THOSE BYTES IN THE BUFFER: a later write INTO them ends the model's run without an answer; a later append BEHIND them goes on. The statement's order of evaluation is drawn: one draw. (LAID: no walk: one application.) -/
theorem Tryd.Builder_String (B b : Nat) (l : List UInt8) (w : World) (h : Lib.IsBuilder 62 5 B b (Lib.byteCells l) w) (h0 : l ≠ []) :
    Calls Tryd.prog 31 #[.pointer (some ⟨b, 0, none⟩)] w fun e w' => e = .returned (.string ⟨l.toArray⟩) ∧ Below B w w' := Any.Builder_String Tryd.lays169 Tryd.Builder_Extra_169 B b l w h h0
open Go.RowKit in
/-- (*strings.Builder).String OF A BUILDER THAT HOLDS NO BYTE: the empty string. (Its buffer is nil, or a row of which it has taken nothing yet; where that row has NO capacity the model lays one new block.) One draw. (LAID: no walk: one application.) -/
theorem Tryd.Builder_String_empty (B b : Nat) (w : World) (h : Lib.IsBuilder 62 5 B b [] w) (hBw : B ≤ w.heap.size) :
    Calls Tryd.prog 31 #[.pointer (some ⟨b, 0, none⟩)] w fun e w' => e = .returned (.string ⟨#[]⟩) ∧ Below B w w' := Any.Builder_String_empty Tryd.lays169 Tryd.Builder_Extra_169 B b w h hBw
open Go.RowKit in
/-- (*strings.Builder).String: "String returns the accumulated string.": WHATEVER THE BUILDER HOLDS. (LAID: no walk: one application.) -/
theorem Tryd.Builder_String_any (B b : Nat) (l : List UInt8) (w : World) (h : Lib.IsBuilder 62 5 B b (Lib.byteCells l) w) (hBw : B ≤ w.heap.size) :
    Calls Tryd.prog 31 #[.pointer (some ⟨b, 0, none⟩)] w fun e w' => e = .returned (.string ⟨l.toArray⟩) ∧ Below B w w' := Any.Builder_String_any Tryd.lays169 Tryd.Builder_Extra_169 B b l w h hBw
def Tryd.lays241_ren : Go.Shelf.Ren := ⟨fun | 241 => 46 | 277 => 61 | n => n, fun | 70 => 60 | 3 => 3 | 0 => 0 | 72 => 62 | 37 => 46 | 5 => 5 | n => n, fun | n => n⟩
theorem Tryd.lays241 : Go.Proofs.Lays.n241 Tryd.prog Tryd.lays241_ren := {
  mixed := by kernel_rfl
  f241 := Tryd.func46.trans (congrArg some (by kernel_rfl))
  f277 := Tryd.func61.trans (congrArg some (by kernel_rfl))
  t0 := Tryd.underlying0
  a0 := Tryd.isAgg0
  z0 := Tryd.sizeOf0
  v0 := Tryd.zeroValue0
  t3 := Tryd.underlying3
  a3 := Tryd.isAgg3
  z3 := Tryd.sizeOf3
  v3 := Tryd.zeroValue3
  t37 := Tryd.underlying46
  a37 := Tryd.isAgg46
  z37 := Tryd.sizeOf46
  v37 := Tryd.zeroValue46
  t70 := Tryd.underlying60
  a70 := Tryd.isAgg60
  z70 := Tryd.sizeOf60
  v70 := Tryd.zeroValue60
  t72 := Tryd.underlying62
  a72 := Tryd.isAgg62
  z72 := Tryd.sizeOf62
  v72 := Tryd.zeroValue62 }
theorem Tryd.Builder_Extra_241 : Builder.Extra Tryd.prog Tryd.lays241_ren := {
  sizeBuilder := by kernel_rfl
  liesBuilder := by kernel_rfl
  t5 := Tryd.underlying5
  a5 := Tryd.isAgg5
  z5 := Tryd.sizeOf5
  v5 := Tryd.zeroValue5
  infoByte := by kernel_rfl
  cellsByte := by kernel_rfl
  sizeByte := by kernel_rfl
  neB5 := by decide }
open Go.RowKit in
/-- (*strings.Builder).grow (no doc but "grow copies the buffer to a new, larger buffer so that there are at least n bytes of capacity beyond len(b.buf)."): AT A BUILDER WITHOUT A BUFFER: a new row of whatever bytes for its buffer, none of them its own yet. Three draws. (LAID: no walk: one application.) -/
theorem Tryd.Builder_grow_fresh (B b n : Nat) (w : World) (hB : B ≤ b) (hbk : w.heap[b]? = some (.cells #[.pointer (some ⟨b, 0, none⟩), .slice none 0 0] 62 (0, 0))) (hBw : B ≤ w.heap.size) (hn : n ≤ 281474976710656) :
    Calls Tryd.prog 46 #[.pointer (some ⟨b, 0, none⟩), .int .i64 n] w fun e w' => e = .returned (.tuple #[]) ∧ (Lib.BuilderAt 62 5 B b (.pointer (some ⟨b, 0, none⟩)) [] w' ∧ Below B w w') := Any.Builder_grow_fresh Tryd.lays241 Tryd.Builder_Extra_241 B b n w hB hbk hBw hn
def Tryd.lays165_ren : Go.Shelf.Ren := ⟨fun | 165 => 29 | 240 => 45 | 241 => 46 | 276 => 60 | 277 => 61 | n => n, fun | 70 => 60 | 3 => 3 | 0 => 0 | 4 => 4 | 9 => 9 | 20 => 20 | 72 => 62 | 37 => 46 | 164 => 90 | 5 => 5 | n => n, fun | n => n⟩
theorem Tryd.lays165 : Go.Proofs.Lays.n165 Tryd.prog Tryd.lays165_ren := {
  mixed := by kernel_rfl
  f165 := Tryd.func29.trans (congrArg some (by kernel_rfl))
  f240 := Tryd.func45.trans (congrArg some (by kernel_rfl))
  f241 := Tryd.func46.trans (congrArg some (by kernel_rfl))
  f276 := Tryd.func60.trans (congrArg some (by kernel_rfl))
  f277 := Tryd.func61.trans (congrArg some (by kernel_rfl))
  t0 := Tryd.underlying0
  a0 := Tryd.isAgg0
  z0 := Tryd.sizeOf0
  v0 := Tryd.zeroValue0
  t3 := Tryd.underlying3
  a3 := Tryd.isAgg3
  z3 := Tryd.sizeOf3
  v3 := Tryd.zeroValue3
  t4 := Tryd.underlying4
  a4 := Tryd.isAgg4
  z4 := Tryd.sizeOf4
  v4 := Tryd.zeroValue4
  t9 := Tryd.underlying9
  a9 := Tryd.isAgg9
  z9 := Tryd.sizeOf9
  v9 := Tryd.zeroValue9
  t20 := Tryd.underlying20
  a20 := Tryd.isAgg20
  z20 := Tryd.sizeOf20
  v20 := Tryd.zeroValue20
  t37 := Tryd.underlying46
  a37 := Tryd.isAgg46
  z37 := Tryd.sizeOf46
  v37 := Tryd.zeroValue46
  t70 := Tryd.underlying60
  a70 := Tryd.isAgg60
  z70 := Tryd.sizeOf60
  v70 := Tryd.zeroValue60
  t72 := Tryd.underlying62
  a72 := Tryd.isAgg62
  z72 := Tryd.sizeOf62
  v72 := Tryd.zeroValue62
  t164 := Tryd.underlying90
  a164 := Tryd.isAgg90
  z164 := Tryd.sizeOf90
  v164 := Tryd.zeroValue90 }
theorem Tryd.Builder_Extra_165 : Builder.Extra Tryd.prog Tryd.lays165_ren := {
  sizeBuilder := by kernel_rfl
  liesBuilder := by kernel_rfl
  t5 := Tryd.underlying5
  a5 := Tryd.isAgg5
  z5 := Tryd.sizeOf5
  v5 := Tryd.zeroValue5
  infoByte := by kernel_rfl
  cellsByte := by kernel_rfl
  sizeByte := by kernel_rfl
  neB5 := by decide }
open Go.RowKit in
/-- (*strings.Builder).Grow AT A BUILDER THAT HAS NOT BEEN WRITTEN ('var b strings.Builder; b.Grow(n)'): "Grow grows b's capacity, if necessary, to guarantee space for another n bytes.": it holds no byte behind it as before it. (LAID: no walk: one application.) -/
theorem Tryd.Builder_Grow_fresh (B b n : Nat) (w : World) (hB : B ≤ b) (hbk : w.heap[b]? = some (.cells #[.pointer none, .slice none 0 0] 62 (0, 0))) (hBw : B ≤ w.heap.size) (hn : n ≤ 281474976710656) :
    Calls Tryd.prog 29 #[.pointer (some ⟨b, 0, none⟩), .int .i64 n] w fun e w' => e = .returned (.tuple #[]) ∧ (Lib.BuilderAt 62 5 B b (.pointer (some ⟨b, 0, none⟩)) [] w' ∧ Below B w w') := Any.Builder_Grow_fresh Tryd.lays165 Tryd.Builder_Extra_165 B b n w hB hbk hBw hn
def Tryd.lays156_ren : Go.Shelf.Ren := ⟨fun | 156 => 16 | 165 => 29 | 166 => 30 | 169 => 31 | 240 => 45 | 241 => 46 | 276 => 60 | 277 => 61 | n => n, fun | 31 => 22 | 9 => 9 | 3 => 3 | 4 => 4 | 0 => 0 | 20 => 20 | 72 => 62 | 76 => 66 | 70 => 60 | 37 => 46 | 75 => 65 | 127 => 79 | 164 => 90 | 5 => 5 | 80 => 34 | n => n, fun | n => n⟩
theorem Tryd.lays156 : Go.Proofs.Lays.n156 Tryd.prog Tryd.lays156_ren := {
  mixed := by kernel_rfl
  f156 := Tryd.func16.trans (congrArg some (by kernel_rfl))
  f165 := Tryd.func29.trans (congrArg some (by kernel_rfl))
  f166 := Tryd.func30.trans (congrArg some (by kernel_rfl))
  f169 := Tryd.func31.trans (congrArg some (by kernel_rfl))
  f240 := Tryd.func45.trans (congrArg some (by kernel_rfl))
  f241 := Tryd.func46.trans (congrArg some (by kernel_rfl))
  f276 := Tryd.func60.trans (congrArg some (by kernel_rfl))
  f277 := Tryd.func61.trans (congrArg some (by kernel_rfl))
  t0 := Tryd.underlying0
  a0 := Tryd.isAgg0
  z0 := Tryd.sizeOf0
  v0 := Tryd.zeroValue0
  t3 := Tryd.underlying3
  a3 := Tryd.isAgg3
  z3 := Tryd.sizeOf3
  v3 := Tryd.zeroValue3
  t4 := Tryd.underlying4
  a4 := Tryd.isAgg4
  z4 := Tryd.sizeOf4
  v4 := Tryd.zeroValue4
  t9 := Tryd.underlying9
  a9 := Tryd.isAgg9
  z9 := Tryd.sizeOf9
  v9 := Tryd.zeroValue9
  t20 := Tryd.underlying20
  a20 := Tryd.isAgg20
  z20 := Tryd.sizeOf20
  v20 := Tryd.zeroValue20
  t31 := Tryd.underlying22
  a31 := Tryd.isAgg22
  z31 := Tryd.sizeOf22
  v31 := Tryd.zeroValue22
  t37 := Tryd.underlying46
  a37 := Tryd.isAgg46
  z37 := Tryd.sizeOf46
  v37 := Tryd.zeroValue46
  t70 := Tryd.underlying60
  a70 := Tryd.isAgg60
  z70 := Tryd.sizeOf60
  v70 := Tryd.zeroValue60
  t72 := Tryd.underlying62
  a72 := Tryd.isAgg62
  z72 := Tryd.sizeOf62
  v72 := Tryd.zeroValue62
  t75 := Tryd.underlying65
  a75 := Tryd.isAgg65
  z75 := Tryd.sizeOf65
  v75 := Tryd.zeroValue65
  t76 := Tryd.underlying66
  a76 := Tryd.isAgg66
  z76 := Tryd.sizeOf66
  v76 := Tryd.zeroValue66
  t127 := Tryd.underlying79
  a127 := Tryd.isAgg79
  z127 := Tryd.sizeOf79
  v127 := Tryd.zeroValue79
  t164 := Tryd.underlying90
  a164 := Tryd.isAgg90
  z164 := Tryd.sizeOf90
  v164 := Tryd.zeroValue90 }
theorem Tryd.Builder_Extra_156 : Builder.Extra Tryd.prog Tryd.lays156_ren := {
  sizeBuilder := by kernel_rfl
  liesBuilder := by kernel_rfl
  t5 := Tryd.underlying5
  a5 := Tryd.isAgg5
  z5 := Tryd.sizeOf5
  v5 := Tryd.zeroValue5
  infoByte := by kernel_rfl
  cellsByte := by kernel_rfl
  sizeByte := by kernel_rfl
  neB5 := by decide }
open Go.RowKit in
/-- No element: the empty string; the world is as it was. (Whatever the slice's address and capacity: a nil slice too.) (LAID: no walk: one application.) -/
theorem Tryd.strings_Join_none (a : Option Addr) (c : Nat) (sep : ByteArray) (w : World) :
    Calls Tryd.prog 16 #[.slice a 0 c, .string sep] w fun e w' => e = .returned (.string ⟨#[]⟩) ∧ w' = w := Any.strings_Join_none Tryd.lays156 Tryd.Builder_Extra_156 a c sep w
open Go.RowKit in
/-- strings.Join: "Join concatenates the elements of its first argument to create a single string. The separator string sep is placed between elements in the resulting string.": HOWEVER MANY ELEMENTS. Below the heap's end the world is as it was. (LAID: no walk: one application.) -/
theorem Tryd.strings_Join (bk o c : Nat) (xs : List ByteArray) (sep : ByteArray) (w : World) (hcells : ∀ (j : Nat) x, xs[j]? = some x → w.cell? ⟨bk, o + j, none⟩ = some (.string x)) (hbk : bk < w.heap.size) (hN : xs.length ≤ 140737488355328) (hcap : xs.length ≤ c) (hlen : (Lib.join (xs.map (·.data.toList)) sep.data.toList).length ≤ 140737488355328) :
    Calls Tryd.prog 16 #[.slice (some ⟨bk, o, none⟩) xs.length c, .string sep] w fun e w' => e = .returned (.string ⟨(Lib.join (xs.map (·.data.toList)) sep.data.toList).toArray⟩) ∧ Below w.heap.size w w' := Any.strings_Join Tryd.lays156 Tryd.Builder_Extra_156 bk o c xs sep w hcells hbk hN hcap hlen
def Tryd.lays231_ren : Go.Shelf.Ren := ⟨fun | 231 => 48 | n => n, fun | 9 => 9 | 5 => 5 | 3 => 3 | 4 => 4 | n => n, fun | n => n⟩
theorem Tryd.lays231 : Go.Proofs.Lays.n231 Tryd.prog Tryd.lays231_ren := {
  mixed := by kernel_rfl
  f231 := Tryd.func48.trans (congrArg some (by kernel_rfl))
  t3 := Tryd.underlying3
  a3 := Tryd.isAgg3
  z3 := Tryd.sizeOf3
  v3 := Tryd.zeroValue3
  t4 := Tryd.underlying4
  a4 := Tryd.isAgg4
  z4 := Tryd.sizeOf4
  v4 := Tryd.zeroValue4
  t5 := Tryd.underlying5
  a5 := Tryd.isAgg5
  z5 := Tryd.sizeOf5
  v5 := Tryd.zeroValue5
  t9 := Tryd.underlying9
  a9 := Tryd.isAgg9
  z9 := Tryd.sizeOf9
  v9 := Tryd.zeroValue9 }
open Go.RowKit in
/-- strings.trimLeftByte (no doc; what TrimLeft and Trim call at a cutset of one ASCII byte): the leading bytes that are c are cut off. The world is as it was. (LAID: no walk: one application.) -/
theorem Tryd.strings_trimLeftByte (s : ByteArray) (c : UInt8) (w : World) :
    Calls Tryd.prog 48 #[.string s, .int .u8 c.toNat] w fun e w' => e = .returned (.string ⟨(Lib.trimLeftB s.data.toList c).toArray⟩) ∧ w' = w := Any.strings_trimLeftByte Tryd.lays231 s c w
def Tryd.lays232_ren : Go.Shelf.Ren := ⟨fun | 232 => 49 | n => n, fun | 9 => 9 | 5 => 5 | 3 => 3 | 4 => 4 | n => n, fun | n => n⟩
theorem Tryd.lays232 : Go.Proofs.Lays.n232 Tryd.prog Tryd.lays232_ren := {
  mixed := by kernel_rfl
  f232 := Tryd.func49.trans (congrArg some (by kernel_rfl))
  t3 := Tryd.underlying3
  a3 := Tryd.isAgg3
  z3 := Tryd.sizeOf3
  v3 := Tryd.zeroValue3
  t4 := Tryd.underlying4
  a4 := Tryd.isAgg4
  z4 := Tryd.sizeOf4
  v4 := Tryd.zeroValue4
  t5 := Tryd.underlying5
  a5 := Tryd.isAgg5
  z5 := Tryd.sizeOf5
  v5 := Tryd.zeroValue5
  t9 := Tryd.underlying9
  a9 := Tryd.isAgg9
  z9 := Tryd.sizeOf9
  v9 := Tryd.zeroValue9 }
open Go.RowKit in
/-- strings.trimRightByte (no doc; what TrimRight and Trim call at a cutset of one ASCII byte): the trailing bytes that are c are cut off. The world is as it was. ('hs': a string's length is a number that an int holds.) (LAID: no walk: one application.) -/
theorem Tryd.strings_trimRightByte (s : ByteArray) (c : UInt8) (w : World) (hs : s.size ≤ 9223372036854775807) :
    Calls Tryd.prog 49 #[.string s, .int .u8 c.toNat] w fun e w' => e = .returned (.string ⟨(Lib.trimRightB s.data.toList c).toArray⟩) ∧ w' = w := Any.strings_trimRightByte Tryd.lays232 s c w hs
def Tryd.lays160_ren : Go.Shelf.Ren := ⟨fun | 160 => 33 | 232 => 49 | 231 => 48 | 227 => 50 | 234 => 52 | 233 => 51 | 236 => 54 | 235 => 53 | 228 => 65 | 271 => 68 | 151 => 67 | 197 => 66 | 120 => 74 | 152 => 73 | 260 => 72 | 137 => 79 | 119 => 80 | 224 => 77 | 225 => 76 | 217 => 75 | 266 => 81 | n => n, fun | 9 => 9 | 4 => 4 | 3 => 3 | 5 => 5 | 117 => 84 | 116 => 83 | 0 => 0 | 124 => 87 | 21 => 21 | 105 => 95 | 46 => 45 | 119 => 100 | 139 => 103 | 138 => 102 | n => n, fun | 3 => 2 | 4 => 3 | n => n⟩
theorem Tryd.lays160 : Go.Proofs.Lays.n160 Tryd.prog Tryd.lays160_ren := {
  mixed := by kernel_rfl
  f119 := Tryd.func80.trans (congrArg some (by kernel_rfl))
  f120 := Tryd.func74.trans (congrArg some (by kernel_rfl))
  f137 := Tryd.func79.trans (congrArg some (by kernel_rfl))
  f151 := Tryd.func67.trans (congrArg some (by kernel_rfl))
  f152 := Tryd.func73.trans (congrArg some (by kernel_rfl))
  f160 := Tryd.func33.trans (congrArg some (by kernel_rfl))
  f197 := Tryd.func66.trans (congrArg some (by kernel_rfl))
  f217 := Tryd.func75.trans (congrArg some (by kernel_rfl))
  f224 := Tryd.func77.trans (congrArg some (by kernel_rfl))
  f225 := Tryd.func76.trans (congrArg some (by kernel_rfl))
  f227 := Tryd.func50.trans (congrArg some (by kernel_rfl))
  f228 := Tryd.func65.trans (congrArg some (by kernel_rfl))
  f231 := Tryd.func48.trans (congrArg some (by kernel_rfl))
  f232 := Tryd.func49.trans (congrArg some (by kernel_rfl))
  f233 := Tryd.func51.trans (congrArg some (by kernel_rfl))
  f234 := Tryd.func52.trans (congrArg some (by kernel_rfl))
  f235 := Tryd.func53.trans (congrArg some (by kernel_rfl))
  f236 := Tryd.func54.trans (congrArg some (by kernel_rfl))
  f260 := Tryd.func72.trans (congrArg some (by kernel_rfl))
  f266 := Tryd.func81.trans (congrArg some (by kernel_rfl))
  f271 := Tryd.func68.trans (congrArg some (by kernel_rfl))
  t0 := Tryd.underlying0
  a0 := Tryd.isAgg0
  z0 := Tryd.sizeOf0
  v0 := Tryd.zeroValue0
  t3 := Tryd.underlying3
  a3 := Tryd.isAgg3
  z3 := Tryd.sizeOf3
  v3 := Tryd.zeroValue3
  t4 := Tryd.underlying4
  a4 := Tryd.isAgg4
  z4 := Tryd.sizeOf4
  v4 := Tryd.zeroValue4
  t5 := Tryd.underlying5
  a5 := Tryd.isAgg5
  z5 := Tryd.sizeOf5
  v5 := Tryd.zeroValue5
  t9 := Tryd.underlying9
  a9 := Tryd.isAgg9
  z9 := Tryd.sizeOf9
  v9 := Tryd.zeroValue9
  t21 := Tryd.underlying21
  a21 := Tryd.isAgg21
  z21 := Tryd.sizeOf21
  v21 := Tryd.zeroValue21
  t46 := Tryd.underlying45
  a46 := Tryd.isAgg45
  z46 := Tryd.sizeOf45
  v46 := Tryd.zeroValue45
  t105 := Tryd.underlying95
  a105 := Tryd.isAgg95
  z105 := Tryd.sizeOf95
  v105 := Tryd.zeroValue95
  t116 := Tryd.underlying83
  a116 := Tryd.isAgg83
  z116 := Tryd.sizeOf83
  t117 := Tryd.underlying84
  a117 := Tryd.isAgg84
  z117 := Tryd.sizeOf84
  v117 := Tryd.zeroValue84
  t119 := Tryd.underlying100
  a119 := Tryd.isAgg100
  z119 := Tryd.sizeOf100
  t124 := Tryd.underlying87
  a124 := Tryd.isAgg87
  z124 := Tryd.sizeOf87
  v124 := Tryd.zeroValue87
  t138 := Tryd.underlying102
  a138 := Tryd.isAgg102
  z138 := Tryd.sizeOf102
  v138 := Tryd.zeroValue102
  t139 := Tryd.underlying103
  a139 := Tryd.isAgg103
  z139 := Tryd.sizeOf103
  v139 := Tryd.zeroValue103
  g3 := by kernel_rfl
  g4 := by kernel_rfl }
open Go.RowKit in
/-- strings.Trim: "Trim returns a slice of the string s with all leading and trailing Unicode code points contained in cutset removed.": AT A cutset OF ONE ASCII BYTE. THE WORLD BEHIND IT: as it was, or (where s is not empty) with ONE DRAW MORE off the tape: the statement 'return trimLeftByte(trimRightByte(s, c), c)' draws its order of evaluation. (LAID: no walk: one application.) -/
theorem Tryd.strings_Trim_one (s : ByteArray) (c : UInt8) (hc : c.toNat < 128) (w : World) (hs : s.size ≤ 9223372036854775807) :
    Calls Tryd.prog 33 #[.string s, .string ⟨#[c]⟩] w fun e w' => e = .returned (.string ⟨(Lib.trimB s.data.toList c).toArray⟩) ∧ (w' = w ∨ w' = w.drew) := Any.strings_Trim_one Tryd.lays160 s c hc w hs
def Tryd.lays119_ren : Go.Shelf.Ren := ⟨fun | 119 => 80 | n => n, fun | 21 => 21 | 4 => 4 | n => n, fun | n => n⟩
theorem Tryd.lays119 : Go.Proofs.Lays.n119 Tryd.prog Tryd.lays119_ren := {
  mixed := by kernel_rfl
  f119 := Tryd.func80.trans (congrArg some (by kernel_rfl))
  t4 := Tryd.underlying4
  a4 := Tryd.isAgg4
  z4 := Tryd.sizeOf4
  v4 := Tryd.zeroValue4
  t21 := Tryd.underlying21
  a21 := Tryd.isAgg21
  z21 := Tryd.sizeOf21
  v21 := Tryd.zeroValue21 }
/-- utf8.ValidRune: "ValidRune reports whether r can be legally encoded as UTF-8. Code points that are out of range or a surrogate half are illegal.": IT RETURNS 'Lib.validRune r'; the world is as it was. (LAID: no walk: one application.) -/
theorem Tryd.utf8_ValidRune (r : Int) (w : World) :
    Calls Tryd.prog 80 #[.int .i32 r] w fun e w' => e = .returned (.bool (Lib.validRune r)) ∧ w' = w := Any.utf8_ValidRune Tryd.lays119 r w
def Tryd.lays120_ren : Go.Shelf.Ren := ⟨fun | 120 => 74 | n => n, fun | 5 => 5 | 4 => 4 | n => n, fun | n => n⟩
theorem Tryd.lays120 : Go.Proofs.Lays.n120 Tryd.prog Tryd.lays120_ren := {
  mixed := by kernel_rfl
  f120 := Tryd.func74.trans (congrArg some (by kernel_rfl))
  t4 := Tryd.underlying4
  a4 := Tryd.isAgg4
  z4 := Tryd.sizeOf4
  v4 := Tryd.zeroValue4
  t5 := Tryd.underlying5
  a5 := Tryd.isAgg5
  z5 := Tryd.sizeOf5
  v5 := Tryd.zeroValue5 }
/-- utf8.RuneStart: "RuneStart reports whether the byte could be the first byte of an encoded, possibly invalid rune. Second and subsequent bytes always have the top two bits set to 10.": IT RETURNS 'Lib.runeStart b'; the world is as it was. ('h0', 'h1': b is a byte: a caller has it of every byte that it was handed.) (LAID: no walk: one application.) -/
theorem Tryd.utf8_RuneStart (b : Int) (w : World) (h0 : 0 ≤ b) (h1 : b < 256) :
    Calls Tryd.prog 74 #[.int .u8 b] w fun e w' => e = .returned (.bool (Lib.runeStart b)) ∧ w' = w := Any.utf8_RuneStart Tryd.lays120 b w h0 h1
def Tryd.lays137_ren : Go.Shelf.Ren := ⟨fun | 137 => 79 | 217 => 75 | 266 => 81 | n => n, fun | 9 => 9 | 5 => 5 | 3 => 3 | n => n, fun | n => n⟩
theorem Tryd.lays137 : Go.Proofs.Lays.n137 Tryd.prog Tryd.lays137_ren := {
  mixed := by kernel_rfl
  f137 := Tryd.func79.trans (congrArg some (by kernel_rfl))
  f217 := Tryd.func75.trans (congrArg some (by kernel_rfl))
  f266 := Tryd.func81.trans (congrArg some (by kernel_rfl))
  t3 := Tryd.underlying3
  a3 := Tryd.isAgg3
  z3 := Tryd.sizeOf3
  v3 := Tryd.zeroValue3
  t5 := Tryd.underlying5
  a5 := Tryd.isAgg5
  z5 := Tryd.sizeOf5
  v5 := Tryd.zeroValue5
  t9 := Tryd.underlying9
  a9 := Tryd.isAgg9
  z9 := Tryd.sizeOf9
  v9 := Tryd.zeroValue9 }
open Go.RowKit in
/-- strings.IndexByte: "IndexByte returns the index of the first instance of c in s, or -1 if c is not present in s.": IT RETURNS 'Lib.indexByte s c'; the world is as it was. (LAID: no walk: one application.) -/
theorem Tryd.strings_IndexByte (s : ByteArray) (c : Int) (w : World) :
    Calls Tryd.prog 79 #[.string s, .int .u8 c] w fun e w' => e = .returned (.int .i64 (Lib.indexByte s.data.toList c.toNat.toUInt8)) ∧ w' = w := Any.strings_IndexByte Tryd.lays137 s c w
def Tryd.laysPa40_ren : Go.Shelf.Ren := ⟨fun | 40 => 39 | n => n, fun | 30 => 46 | 3 => 3 | 0 => 0 | 5 => 5 | 46 => 45 | 9 => 9 | n => n, fun | n => n⟩
theorem Tryd.laysPa40 : Go.Proofs.Lays.p40 Tryd.prog Tryd.laysPa40_ren := {
  mixed := by kernel_rfl
  f40 := Tryd.func39.trans (congrArg some (by kernel_rfl))
  t0 := Tryd.underlying0
  a0 := Tryd.isAgg0
  z0 := Tryd.sizeOf0
  v0 := Tryd.zeroValue0
  t3 := Tryd.underlying3
  a3 := Tryd.isAgg3
  z3 := Tryd.sizeOf3
  v3 := Tryd.zeroValue3
  t5 := Tryd.underlying5
  a5 := Tryd.isAgg5
  z5 := Tryd.sizeOf5
  v5 := Tryd.zeroValue5
  t9 := Tryd.underlying9
  a9 := Tryd.isAgg9
  z9 := Tryd.sizeOf9
  v9 := Tryd.zeroValue9
  t30 := Tryd.underlying46
  a30 := Tryd.isAgg46
  z30 := Tryd.sizeOf46
  v30 := Tryd.zeroValue46
  t46 := Tryd.underlying45
  a46 := Tryd.isAgg45
  z46 := Tryd.sizeOf45
  v46 := Tryd.zeroValue45 }
open Go.RowKit Go.Lib in
/-- encoding/hex.Encode: "Encode encodes src into EncodedLen(len(src)) bytes of dst. As a convenience, it returns the number of bytes written to dst, but this value is always EncodedLen(len(src)). Encode implements hexadecimal encoding.": dst: nd places from place od on of a row (block bd: N cells of uint8, none frozen, holding 'f'), with room for the digits; src: n cells of ANOTHER block, holding the numbers xs, each a byte's. IT RETURNS n * 2; THE ROW THEN HOLDS 'Hx.row f od (the bytes of src) n': the 2 * n digits of 'Hx.encode' from place od on, else what it held; nothing else has turned ('grownBy'). THE FORM '_tag': THE DESTINATION's BLOCK MAY BEAR WHATEVER TYPE's NUMBER 'T' (the elder form asks uint8's own: true of 'make([]byte, n)', false of 'var buf [3]byte; ..(buf[:], ..)': an array variable's block bears THE ARRAY's number). (LAID: no walk: one application.) -/
theorem Tryd.hex_Encode_tag (T : TypeId) (bd od nd cd N : Nat) (f : Nat → Value) (bs os n cs : Nat) (xs : List Int) (w : World) (hx : xs.length = n) (hr : ∀ i, i < n → 0 ≤ xs.getD i 0 ∧ xs.getD i 0 < 256) (hsrc : ∀ i, i < n → w.cell? ⟨bs, os + i, none⟩ = some (.int .u8 (xs.getD i 0))) (hrow : w.rowIs bd T N f) (hfit : od + nd ≤ N) (hlen : 2 * n ≤ nd) (hne : bd ≠ bs) (hbig : n ≤ 4611686018427387903) :
    Calls Tryd.prog 39 #[.slice (some ⟨bd, od, none⟩) nd cd, .slice (some ⟨bs, os, none⟩) n cs] w fun e w' => e = .returned (.int .i64 ((n : Int) * 2)) ∧ w'.rowIs bd T N (Hx.row f od (Lib.bytesOf xs) n) ∧ w.grownBy w' (some bd) := Any.hex_Encode_tag Tryd.laysPa40 T bd od nd cd N f bs os n cs xs w hx hr hsrc hrow hfit hlen hne hbig
def Tryd.laysPa44_ren : Go.Shelf.Ren := ⟨fun | 44 => 44 | n => n, fun | 30 => 46 | 3 => 3 | 35 => 65 | 4 => 4 | 0 => 0 | 5 => 5 | 9 => 9 | 47 => 89 | 46 => 45 | 45 => 34 | n => n, fun | 0 => 0 | n => n⟩
theorem Tryd.laysPa44 : Go.Proofs.Lays.p44 Tryd.prog Tryd.laysPa44_ren := {
  mixed := by kernel_rfl
  f44 := Tryd.func44.trans (congrArg some (by kernel_rfl))
  t0 := Tryd.underlying0
  a0 := Tryd.isAgg0
  z0 := Tryd.sizeOf0
  v0 := Tryd.zeroValue0
  t3 := Tryd.underlying3
  a3 := Tryd.isAgg3
  z3 := Tryd.sizeOf3
  v3 := Tryd.zeroValue3
  t4 := Tryd.underlying4
  a4 := Tryd.isAgg4
  z4 := Tryd.sizeOf4
  v4 := Tryd.zeroValue4
  t5 := Tryd.underlying5
  a5 := Tryd.isAgg5
  z5 := Tryd.sizeOf5
  v5 := Tryd.zeroValue5
  t9 := Tryd.underlying9
  a9 := Tryd.isAgg9
  z9 := Tryd.sizeOf9
  v9 := Tryd.zeroValue9
  t30 := Tryd.underlying46
  a30 := Tryd.isAgg46
  z30 := Tryd.sizeOf46
  v30 := Tryd.zeroValue46
  t35 := Tryd.underlying65
  a35 := Tryd.isAgg65
  z35 := Tryd.sizeOf65
  v35 := Tryd.zeroValue65
  t45 := Tryd.underlying34
  a45 := Tryd.isAgg34
  z45 := Tryd.sizeOf34
  v45 := Tryd.zeroValue34
  t46 := Tryd.underlying45
  a46 := Tryd.isAgg45
  z46 := Tryd.sizeOf45
  v46 := Tryd.zeroValue45
  t47 := Tryd.underlying89
  a47 := Tryd.isAgg89
  z47 := Tryd.sizeOf89
  v47 := Tryd.zeroValue89
  g0 := by kernel_rfl }
open Go.RowKit Go.Lib in
/-- encoding/hex.Decode, FOR EVERY src THAT IS NOT nil: "Decode decodes src into DecodedLen(len(src)) bytes, returning the actual number of bytes written to dst. Decode expects that src contains only hexadecimal characters and that src has even length. If the input is malformed, Decode returns the number of bytes decoded before the error.": dst: nd places from place od on of a row (block bd), with room for len(src) / 2 bytes; src: n cells of ANOTHER block, holding the numbers xs, each a byte's; 'ev': what the variable encoding/hex.ErrLength holds. IT RETURNS (how many bytes 'Hx.decode' gives, the error by how it ends: nil ¦ InvalidByteError(c) ¦ ErrLength's content); THE ROW THEN HOLDS those bytes from place od on ('Hx.rowP'); nothing else has turned. THE FORM '_tag': THE DESTINATION's BLOCK MAY BEAR WHATEVER TYPE's NUMBER 'T' (the elder form asks uint8's own: true of 'make([]byte, n)', false of 'var buf [3]byte; ..(buf[:], ..)': an array variable's block bears THE ARRAY's number). (LAID: no walk: one application.) -/
theorem Tryd.hex_Decode_tag (T : TypeId) (bd od nd cd N : Nat) (f : Nat → Value) (bs os n cs : Nat) (xs : List Int) (w : World) (ev : Value) (hx : xs.length = n) (hr : ∀ i, i < n → 0 ≤ xs.getD i 0 ∧ xs.getD i 0 < 256) (hsrc : ∀ i, i < n → w.cell? ⟨bs, os + i, none⟩ = some (.int .u8 (xs.getD i 0))) (hrow : w.rowIs bd T N f) (hfit : od + nd ≤ N) (hlen : n / 2 ≤ nd) (hne : bd ≠ bs) (hbig : n ≤ 4611686018427387903) (hE : w.cell? ⟨0, 0, none⟩ = some ev) (hgb : 0 ≠ bd) :
    Calls Tryd.prog 44 #[.slice (some ⟨bd, od, none⟩) nd cd, .slice (some ⟨bs, os, none⟩) n cs] w fun e w' =>
      e = .returned (.tuple #[.int .i64 ((Hx.decode (Lib.bytesOf xs)).1.length : Int), Hx.errVal 89 ev (Hx.decode (Lib.bytesOf xs)).2]) ∧ w'.rowIs bd T N (Hx.rowP f od (Hx.decode (Lib.bytesOf xs)).1) ∧ w.grownBy w' (some bd) := Any.hex_Decode_tag Tryd.laysPa44 T bd od nd cd N f bs os n cs xs w ev hx hr hsrc hrow hfit hlen hne hbig hE hgb
def Tryd.lays195_ren : Go.Shelf.Ren := ⟨fun | 195 => 70 | n => n, fun | 9 => 9 | 3 => 3 | 0 => 0 | 4 => 4 | n => n, fun | n => n⟩
theorem Tryd.lays195 : Go.Proofs.Lays.n195 Tryd.prog Tryd.lays195_ren := {
  mixed := by kernel_rfl
  f195 := Tryd.func70.trans (congrArg some (by kernel_rfl))
  t0 := Tryd.underlying0
  a0 := Tryd.isAgg0
  z0 := Tryd.sizeOf0
  v0 := Tryd.zeroValue0
  t3 := Tryd.underlying3
  a3 := Tryd.isAgg3
  z3 := Tryd.sizeOf3
  v3 := Tryd.zeroValue3
  t4 := Tryd.underlying4
  a4 := Tryd.isAgg4
  z4 := Tryd.sizeOf4
  v4 := Tryd.zeroValue4
  t9 := Tryd.underlying9
  a9 := Tryd.isAgg9
  z9 := Tryd.sizeOf9
  v9 := Tryd.zeroValue9 }
open Go.RowKit in
/-- unicode/utf8.RuneCountInString: "RuneCountInString is like RuneCount but its input is a string." ("RuneCount returns the number of runes in p. Erroneous and short encodings are treated as single runes of width 1 byte."): EVERY STRING, valid UTF-8 or not: 'Lib.runeCount s' (plain Lean over the model's own 'Utf8.decode'; 'Lib.runeCount_le': at most len(s); 'Lib.runeCount_ascii': on ASCII: len(s)). THE ONE CONDITION: len(s) below 2^63 - 1 (the counter does not wrap): the form's reach pays it. THE WORLD BEHIND THE CALL: ONE BLOCK MORE: the model's iterator over s, at its end: all else as it was. (LAID: no walk: one application.) -/
theorem Tryd.utf8_RuneCountInString (s : ByteArray) (w : World) (hs : s.size < 9223372036854775807) :
    Calls Tryd.prog 70 #[.string s] w fun e w' => e = .returned (.int .i64 (Lib.runeCount s)) ∧ ∃ pos, w' = w.iter s pos := Any.utf8_RuneCountInString Tryd.lays195 s w hs
def Tryd.lays217_ren : Go.Shelf.Ren := ⟨fun | 217 => 75 | 266 => 81 | n => n, fun | 9 => 9 | 5 => 5 | 3 => 3 | n => n, fun | n => n⟩
theorem Tryd.lays217 : Go.Proofs.Lays.n217 Tryd.prog Tryd.lays217_ren := {
  mixed := by kernel_rfl
  f217 := Tryd.func75.trans (congrArg some (by kernel_rfl))
  f266 := Tryd.func81.trans (congrArg some (by kernel_rfl))
  t3 := Tryd.underlying3
  a3 := Tryd.isAgg3
  z3 := Tryd.sizeOf3
  v3 := Tryd.zeroValue3
  t5 := Tryd.underlying5
  a5 := Tryd.isAgg5
  z5 := Tryd.sizeOf5
  v5 := Tryd.zeroValue5
  t9 := Tryd.underlying9
  a9 := Tryd.isAgg9
  z9 := Tryd.sizeOf9
  v9 := Tryd.zeroValue9 }
open Go.RowKit Go.Lib in
/-- internal/stringslite.IndexByte (what strings.IndexByte calls): IT RETURNS 'Lib.indexByte s c'; the world is as it was. (LAID: no walk: one application.) -/
theorem Tryd.stringslite_IndexByte (s : ByteArray) (c : Int) (w : World) :
    Calls Tryd.prog 75 #[.string s, .int .u8 c] w fun e w' => e = .returned (.int .i64 (Lib.indexByte s.data.toList c.toNat.toUInt8)) ∧ w' = w := Any.stringslite_IndexByte Tryd.lays217 s c w
def Tryd.lays224_ren : Go.Shelf.Ren := ⟨fun | 224 => 77 | n => n, fun | 3 => 3 | n => n, fun | n => n⟩
theorem Tryd.lays224 : Go.Proofs.Lays.n224 Tryd.prog Tryd.lays224_ren := {
  mixed := by kernel_rfl
  f224 := Tryd.func77.trans (congrArg some (by kernel_rfl))
  t3 := Tryd.underlying3
  a3 := Tryd.isAgg3
  z3 := Tryd.sizeOf3
  v3 := Tryd.zeroValue3 }
open Go.RowKit Go.Lib in
/-- internal/bytealg.Cutover: "Cutover reports the number of failures of IndexByte we should tolerate before switching over to Index. n is the number of bytes processed so far.": on amd64: (n + 16) / 8. (LAID: no walk: one application.) -/
theorem Tryd.bytealg_Cutover (n : Int) (h0 : 0 ≤ n) (h1 : n < 4611686018427387904) (w : World) :
    Calls Tryd.prog 77 #[.int .i64 n] w fun e w' => e = .returned (.int .i64 ((n + 16) / 8)) ∧ w' = w := Any.bytealg_Cutover Tryd.lays224 n h0 h1 w
def Tryd.lays314_ren : Go.Shelf.Ren := ⟨fun | 314 => 82 | n => n, fun | 9 => 9 | 51 => 105 | 3 => 3 | 4 => 4 | 5 => 5 | 46 => 45 | n => n, fun | n => n⟩
theorem Tryd.lays314 : Go.Proofs.Lays.n314 Tryd.prog Tryd.lays314_ren := {
  mixed := by kernel_rfl
  f314 := Tryd.func82.trans (congrArg some (by kernel_rfl))
  t3 := Tryd.underlying3
  a3 := Tryd.isAgg3
  z3 := Tryd.sizeOf3
  v3 := Tryd.zeroValue3
  t4 := Tryd.underlying4
  a4 := Tryd.isAgg4
  z4 := Tryd.sizeOf4
  v4 := Tryd.zeroValue4
  t5 := Tryd.underlying5
  a5 := Tryd.isAgg5
  z5 := Tryd.sizeOf5
  v5 := Tryd.zeroValue5
  t9 := Tryd.underlying9
  a9 := Tryd.isAgg9
  z9 := Tryd.sizeOf9
  v9 := Tryd.zeroValue9
  t46 := Tryd.underlying45
  a46 := Tryd.isAgg45
  z46 := Tryd.sizeOf45
  v46 := Tryd.zeroValue45
  t51 := Tryd.underlying105
  a51 := Tryd.isAgg105
  z51 := Tryd.sizeOf105
  v51 := Tryd.zeroValue105 }
open Go.RowKit Go.Lib in
/-- hashStr: "returns the hash and the appropriate multiplicative factor for use in Rabin-Karp algorithm": THE HASH OF ALL OF sep, AND 16777619 ^ len(sep), both in uint32. (LAID: no walk: one application.) -/
theorem Tryd.bytealg_hashStr (sep : ByteArray) (hs : sep.size < 4294967281) (w : World) :
    Calls Tryd.prog 82 #[.string sep] w fun e w' => e = .returned (.tuple #[.int .u32 (RK.H sep.data.toList % 4294967296), .int .u32 (16777619 ^ sep.size % 4294967296)]) ∧ w' = w := Any.bytealg_hashStr Tryd.lays314 sep hs w
def Tryd.lays267_ren : Go.Shelf.Ren := ⟨fun | 267 => 78 | 314 => 82 | n => n, fun | 9 => 9 | 3 => 3 | 146 => 106 | 51 => 105 | 4 => 4 | 5 => 5 | 46 => 45 | n => n, fun | n => n⟩
theorem Tryd.lays267 : Go.Proofs.Lays.n267 Tryd.prog Tryd.lays267_ren := {
  mixed := by kernel_rfl
  f267 := Tryd.func78.trans (congrArg some (by kernel_rfl))
  f314 := Tryd.func82.trans (congrArg some (by kernel_rfl))
  t3 := Tryd.underlying3
  a3 := Tryd.isAgg3
  z3 := Tryd.sizeOf3
  v3 := Tryd.zeroValue3
  t4 := Tryd.underlying4
  a4 := Tryd.isAgg4
  z4 := Tryd.sizeOf4
  v4 := Tryd.zeroValue4
  t5 := Tryd.underlying5
  a5 := Tryd.isAgg5
  z5 := Tryd.sizeOf5
  v5 := Tryd.zeroValue5
  t9 := Tryd.underlying9
  a9 := Tryd.isAgg9
  z9 := Tryd.sizeOf9
  v9 := Tryd.zeroValue9
  t46 := Tryd.underlying45
  a46 := Tryd.isAgg45
  z46 := Tryd.sizeOf45
  v46 := Tryd.zeroValue45
  t51 := Tryd.underlying105
  a51 := Tryd.isAgg105
  z51 := Tryd.sizeOf105
  v51 := Tryd.zeroValue105
  t146 := Tryd.underlying106
  a146 := Tryd.isAgg106
  z146 := Tryd.sizeOf106
  v146 := Tryd.zeroValue106 }
open Go.RowKit Go.Lib in
theorem Tryd.bytealg_IndexRabinKarp (s sep : ByteArray) (h1 : 1 ≤ sep.size) (h2 : sep.size ≤ s.size) (hs : s.size < 4294967281) (w : World) :
    Calls Tryd.prog 78 #[.string s, .string sep] w fun e w' => e = .returned (.int .i64 (Lib.index s.data.toList sep.data.toList)) ∧ w' = w := Any.bytealg_IndexRabinKarp Tryd.lays267 s sep h1 h2 hs w
def Tryd.lays219_ren : Go.Shelf.Ren := ⟨fun | 219 => 69 | 217 => 75 | 225 => 76 | 224 => 77 | 267 => 78 | 266 => 81 | 314 => 82 | n => n, fun | 9 => 9 | 3 => 3 | 4 => 4 | 5 => 5 | 46 => 45 | 146 => 106 | 51 => 105 | n => n, fun | 1 => 1 | n => n⟩
theorem Tryd.lays219 : Go.Proofs.Lays.n219 Tryd.prog Tryd.lays219_ren := {
  mixed := by kernel_rfl
  f217 := Tryd.func75.trans (congrArg some (by kernel_rfl))
  f219 := Tryd.func69.trans (congrArg some (by kernel_rfl))
  f224 := Tryd.func77.trans (congrArg some (by kernel_rfl))
  f225 := Tryd.func76.trans (congrArg some (by kernel_rfl))
  f266 := Tryd.func81.trans (congrArg some (by kernel_rfl))
  f267 := Tryd.func78.trans (congrArg some (by kernel_rfl))
  f314 := Tryd.func82.trans (congrArg some (by kernel_rfl))
  t3 := Tryd.underlying3
  a3 := Tryd.isAgg3
  z3 := Tryd.sizeOf3
  v3 := Tryd.zeroValue3
  t4 := Tryd.underlying4
  a4 := Tryd.isAgg4
  z4 := Tryd.sizeOf4
  v4 := Tryd.zeroValue4
  t5 := Tryd.underlying5
  a5 := Tryd.isAgg5
  z5 := Tryd.sizeOf5
  v5 := Tryd.zeroValue5
  t9 := Tryd.underlying9
  a9 := Tryd.isAgg9
  z9 := Tryd.sizeOf9
  v9 := Tryd.zeroValue9
  t46 := Tryd.underlying45
  a46 := Tryd.isAgg45
  z46 := Tryd.sizeOf45
  v46 := Tryd.zeroValue45
  t51 := Tryd.underlying105
  a51 := Tryd.isAgg105
  z51 := Tryd.sizeOf105
  v51 := Tryd.zeroValue105
  t146 := Tryd.underlying106
  a146 := Tryd.isAgg106
  z146 := Tryd.sizeOf106
  v146 := Tryd.zeroValue106
  g1 := by kernel_rfl }
open Go.RowKit Go.Lib in
/-- internal/stringslite.Index (what strings.Index calls) AT A substr OF ONE BYTE c: IT RETURNS 'Lib.indexByte s c'; the world is as it was. (LAID: no walk: one application.) -/
theorem Tryd.stringslite_Index_one (s : ByteArray) (c : UInt8) (w : World) :
    Calls Tryd.prog 69 #[.string s, .string ⟨#[c]⟩] w fun e w' => e = .returned (.int .i64 (Lib.indexByte s.data.toList c)) ∧ w' = w := Any.stringslite_Index_one Tryd.lays219 s c w
open Go.RowKit Go.Lib in
/-- internal/stringslite.Index (what strings.Index calls) AT A substr OF WHATEVER LENGTH: IT RETURNS 'Lib.index s substr'; the world is as it was. 'm': what internal/bytealg.MaxLen holds: whatever. (LAID: no walk: one application.) -/
theorem Tryd.stringslite_Index (s sub : ByteArray) (m : Int) (w : World) (hs : s.size < 4294967281) (hm : w.cell? ⟨1, 0, none⟩ = some (.int .i64 m)) :
    Calls Tryd.prog 69 #[.string s, .string sub] w fun e w' => e = .returned (.int .i64 (Lib.index s.data.toList sub.data.toList)) ∧ w' = w := Any.stringslite_Index Tryd.lays219 s sub m w hs hm
def Tryd.lays143_ren : Go.Shelf.Ren := ⟨fun | 143 => 64 | 219 => 69 | 217 => 75 | 225 => 76 | 224 => 77 | 267 => 78 | 266 => 81 | 314 => 82 | n => n, fun | 9 => 9 | 3 => 3 | 4 => 4 | 5 => 5 | 46 => 45 | 146 => 106 | 51 => 105 | n => n, fun | 1 => 1 | n => n⟩
theorem Tryd.lays143 : Go.Proofs.Lays.n143 Tryd.prog Tryd.lays143_ren := {
  mixed := by kernel_rfl
  f143 := Tryd.func64.trans (congrArg some (by kernel_rfl))
  f217 := Tryd.func75.trans (congrArg some (by kernel_rfl))
  f219 := Tryd.func69.trans (congrArg some (by kernel_rfl))
  f224 := Tryd.func77.trans (congrArg some (by kernel_rfl))
  f225 := Tryd.func76.trans (congrArg some (by kernel_rfl))
  f266 := Tryd.func81.trans (congrArg some (by kernel_rfl))
  f267 := Tryd.func78.trans (congrArg some (by kernel_rfl))
  f314 := Tryd.func82.trans (congrArg some (by kernel_rfl))
  t3 := Tryd.underlying3
  a3 := Tryd.isAgg3
  z3 := Tryd.sizeOf3
  v3 := Tryd.zeroValue3
  t4 := Tryd.underlying4
  a4 := Tryd.isAgg4
  z4 := Tryd.sizeOf4
  v4 := Tryd.zeroValue4
  t5 := Tryd.underlying5
  a5 := Tryd.isAgg5
  z5 := Tryd.sizeOf5
  v5 := Tryd.zeroValue5
  t9 := Tryd.underlying9
  a9 := Tryd.isAgg9
  z9 := Tryd.sizeOf9
  v9 := Tryd.zeroValue9
  t46 := Tryd.underlying45
  a46 := Tryd.isAgg45
  z46 := Tryd.sizeOf45
  v46 := Tryd.zeroValue45
  t51 := Tryd.underlying105
  a51 := Tryd.isAgg105
  z51 := Tryd.sizeOf105
  v51 := Tryd.zeroValue105
  t146 := Tryd.underlying106
  a146 := Tryd.isAgg106
  z146 := Tryd.sizeOf106
  v146 := Tryd.zeroValue106
  g1 := by kernel_rfl }
open Go.RowKit Go.Lib in
/-- strings.Index: "Index returns the index of the first instance of substr in s, or -1 if substr is not present in s.": AT A substr OF ONE BYTE c: IT RETURNS 'Lib.indexByte s c'; the world is as it was. (LAID: no walk: one application.) -/
theorem Tryd.strings_Index_one (s : ByteArray) (c : UInt8) (w : World) :
    Calls Tryd.prog 64 #[.string s, .string ⟨#[c]⟩] w fun e w' => e = .returned (.int .i64 (Lib.indexByte s.data.toList c)) ∧ w' = w := Any.strings_Index_one Tryd.lays143 s c w
open Go.RowKit Go.Lib in
/-- strings.Index: "Index returns the index of the first instance of substr in s, or -1 if substr is not present in s.": IT RETURNS 'Lib.index s substr'; the world is as it was. (LAID: no walk: one application.) -/
theorem Tryd.strings_Index (s sub : ByteArray) (m : Int) (w : World) (hs : s.size < 4294967281) (hm : w.cell? ⟨1, 0, none⟩ = some (.int .i64 m)) :
    Calls Tryd.prog 64 #[.string s, .string sub] w fun e w' => e = .returned (.int .i64 (Lib.index s.data.toList sub.data.toList)) ∧ w' = w := Any.strings_Index Tryd.lays143 s sub m w hs hm
def Tryd.lays220_ren : Go.Shelf.Ren := ⟨fun | 220 => 55 | 219 => 69 | 217 => 75 | 225 => 76 | 224 => 77 | 267 => 78 | 266 => 81 | 314 => 82 | n => n, fun | 9 => 9 | 4 => 4 | 3 => 3 | 5 => 5 | 46 => 45 | 146 => 106 | 51 => 105 | n => n, fun | 1 => 1 | n => n⟩
theorem Tryd.lays220 : Go.Proofs.Lays.n220 Tryd.prog Tryd.lays220_ren := {
  mixed := by kernel_rfl
  f217 := Tryd.func75.trans (congrArg some (by kernel_rfl))
  f219 := Tryd.func69.trans (congrArg some (by kernel_rfl))
  f220 := Tryd.func55.trans (congrArg some (by kernel_rfl))
  f224 := Tryd.func77.trans (congrArg some (by kernel_rfl))
  f225 := Tryd.func76.trans (congrArg some (by kernel_rfl))
  f266 := Tryd.func81.trans (congrArg some (by kernel_rfl))
  f267 := Tryd.func78.trans (congrArg some (by kernel_rfl))
  f314 := Tryd.func82.trans (congrArg some (by kernel_rfl))
  t3 := Tryd.underlying3
  a3 := Tryd.isAgg3
  z3 := Tryd.sizeOf3
  v3 := Tryd.zeroValue3
  t4 := Tryd.underlying4
  a4 := Tryd.isAgg4
  z4 := Tryd.sizeOf4
  v4 := Tryd.zeroValue4
  t5 := Tryd.underlying5
  a5 := Tryd.isAgg5
  z5 := Tryd.sizeOf5
  v5 := Tryd.zeroValue5
  t9 := Tryd.underlying9
  a9 := Tryd.isAgg9
  z9 := Tryd.sizeOf9
  v9 := Tryd.zeroValue9
  t46 := Tryd.underlying45
  a46 := Tryd.isAgg45
  z46 := Tryd.sizeOf45
  v46 := Tryd.zeroValue45
  t51 := Tryd.underlying105
  a51 := Tryd.isAgg105
  z51 := Tryd.sizeOf105
  v51 := Tryd.zeroValue105
  t146 := Tryd.underlying106
  a146 := Tryd.isAgg106
  z146 := Tryd.sizeOf106
  v146 := Tryd.zeroValue106
  g1 := by kernel_rfl }
open Go.RowKit Go.Lib in
/-- internal/stringslite.Cut (what strings.Cut calls): IT RETURNS 'Lib.cut s sep'; the world is as it was but for the count of draws. (LAID: no walk: one application.) -/
theorem Tryd.stringslite_Cut (s sep : ByteArray) (m : Int) (w : World) (hs : s.size < 4294967281) (hm : w.cell? ⟨1, 0, none⟩ = some (.int .i64 m)) :
    Calls Tryd.prog 55 #[.string s, .string sep] w fun e w' => e = .returned (.tuple #[.string ⟨(Lib.cut s.data.toList sep.data.toList).1.toArray⟩, .string ⟨(Lib.cut s.data.toList sep.data.toList).2.1.toArray⟩, .bool (Lib.cut s.data.toList sep.data.toList).2.2]) ∧ ∃ n, w' = w.drewN n := Any.stringslite_Cut Tryd.lays220 s sep m w hs hm
def Tryd.lays145_ren : Go.Shelf.Ren := ⟨fun | 145 => 34 | 220 => 55 | 219 => 69 | 217 => 75 | 225 => 76 | 224 => 77 | 267 => 78 | 266 => 81 | 314 => 82 | n => n, fun | 9 => 9 | 4 => 4 | 59 => 54 | 3 => 3 | 5 => 5 | 46 => 45 | 146 => 106 | 51 => 105 | n => n, fun | 1 => 1 | n => n⟩
theorem Tryd.lays145 : Go.Proofs.Lays.n145 Tryd.prog Tryd.lays145_ren := {
  mixed := by kernel_rfl
  f145 := Tryd.func34.trans (congrArg some (by kernel_rfl))
  f217 := Tryd.func75.trans (congrArg some (by kernel_rfl))
  f219 := Tryd.func69.trans (congrArg some (by kernel_rfl))
  f220 := Tryd.func55.trans (congrArg some (by kernel_rfl))
  f224 := Tryd.func77.trans (congrArg some (by kernel_rfl))
  f225 := Tryd.func76.trans (congrArg some (by kernel_rfl))
  f266 := Tryd.func81.trans (congrArg some (by kernel_rfl))
  f267 := Tryd.func78.trans (congrArg some (by kernel_rfl))
  f314 := Tryd.func82.trans (congrArg some (by kernel_rfl))
  t3 := Tryd.underlying3
  a3 := Tryd.isAgg3
  z3 := Tryd.sizeOf3
  v3 := Tryd.zeroValue3
  t4 := Tryd.underlying4
  a4 := Tryd.isAgg4
  z4 := Tryd.sizeOf4
  v4 := Tryd.zeroValue4
  t5 := Tryd.underlying5
  a5 := Tryd.isAgg5
  z5 := Tryd.sizeOf5
  v5 := Tryd.zeroValue5
  t9 := Tryd.underlying9
  a9 := Tryd.isAgg9
  z9 := Tryd.sizeOf9
  v9 := Tryd.zeroValue9
  t46 := Tryd.underlying45
  a46 := Tryd.isAgg45
  z46 := Tryd.sizeOf45
  v46 := Tryd.zeroValue45
  t51 := Tryd.underlying105
  a51 := Tryd.isAgg105
  z51 := Tryd.sizeOf105
  v51 := Tryd.zeroValue105
  t59 := Tryd.underlying54
  a59 := Tryd.isAgg54
  z59 := Tryd.sizeOf54
  v59 := Tryd.zeroValue54
  t146 := Tryd.underlying106
  a146 := Tryd.isAgg106
  z146 := Tryd.sizeOf106
  v146 := Tryd.zeroValue106
  g1 := by kernel_rfl }
open Go.RowKit Go.Lib in
/-- strings.Cut: "Cut slices s around the first instance of sep, returning the text before and after sep. The found result reports whether sep appears in s. If sep does not appear in s, cut returns s, "", false.": IT RETURNS 'Lib.cut s sep'; the world is as it was but for the count of draws. (LAID: no walk: one application.) -/
theorem Tryd.strings_Cut (s sep : ByteArray) (m : Int) (w : World) (hs : s.size < 4294967281) (hm : w.cell? ⟨1, 0, none⟩ = some (.int .i64 m)) :
    Calls Tryd.prog 34 #[.string s, .string sep] w fun e w' => e = .returned (.tuple #[.string ⟨(Lib.cut s.data.toList sep.data.toList).1.toArray⟩, .string ⟨(Lib.cut s.data.toList sep.data.toList).2.1.toArray⟩, .bool (Lib.cut s.data.toList sep.data.toList).2.2]) ∧ ∃ n, w' = w.drewN n := Any.strings_Cut Tryd.lays145 s sep m w hs hm
def Tryd.lays138_ren : Go.Shelf.Ren := ⟨fun | 138 => 63 | 195 => 70 | 218 => 71 | 143 => 64 | 219 => 69 | 217 => 75 | 225 => 76 | 224 => 77 | 267 => 78 | 266 => 81 | 314 => 82 | n => n, fun | 9 => 9 | 3 => 3 | 4 => 4 | 5 => 5 | 0 => 0 | 46 => 45 | 146 => 106 | 51 => 105 | n => n, fun | 1 => 1 | n => n⟩
theorem Tryd.lays138 : Go.Proofs.Lays.n138 Tryd.prog Tryd.lays138_ren := {
  mixed := by kernel_rfl
  f138 := Tryd.func63.trans (congrArg some (by kernel_rfl))
  f143 := Tryd.func64.trans (congrArg some (by kernel_rfl))
  f195 := Tryd.func70.trans (congrArg some (by kernel_rfl))
  f217 := Tryd.func75.trans (congrArg some (by kernel_rfl))
  f218 := Tryd.func71.trans (congrArg some (by kernel_rfl))
  f219 := Tryd.func69.trans (congrArg some (by kernel_rfl))
  f224 := Tryd.func77.trans (congrArg some (by kernel_rfl))
  f225 := Tryd.func76.trans (congrArg some (by kernel_rfl))
  f266 := Tryd.func81.trans (congrArg some (by kernel_rfl))
  f267 := Tryd.func78.trans (congrArg some (by kernel_rfl))
  f314 := Tryd.func82.trans (congrArg some (by kernel_rfl))
  t0 := Tryd.underlying0
  a0 := Tryd.isAgg0
  z0 := Tryd.sizeOf0
  v0 := Tryd.zeroValue0
  t3 := Tryd.underlying3
  a3 := Tryd.isAgg3
  z3 := Tryd.sizeOf3
  v3 := Tryd.zeroValue3
  t4 := Tryd.underlying4
  a4 := Tryd.isAgg4
  z4 := Tryd.sizeOf4
  v4 := Tryd.zeroValue4
  t5 := Tryd.underlying5
  a5 := Tryd.isAgg5
  z5 := Tryd.sizeOf5
  v5 := Tryd.zeroValue5
  t9 := Tryd.underlying9
  a9 := Tryd.isAgg9
  z9 := Tryd.sizeOf9
  v9 := Tryd.zeroValue9
  t46 := Tryd.underlying45
  a46 := Tryd.isAgg45
  z46 := Tryd.sizeOf45
  v46 := Tryd.zeroValue45
  t51 := Tryd.underlying105
  a51 := Tryd.isAgg105
  z51 := Tryd.sizeOf105
  v51 := Tryd.zeroValue105
  t146 := Tryd.underlying106
  a146 := Tryd.isAgg106
  z146 := Tryd.sizeOf106
  v146 := Tryd.zeroValue106
  g1 := by kernel_rfl }
open Go.RowKit Go.Lib in
/-- strings.Count AT A substr OF ONE BYTE ('hp'): "Count counts the number of non-overlapping instances of substr in s.": IT RETURNS 'Lib.countByte s (that byte)'; the world is as it was. ✋ NO CONTRACT HERE YET at an empty substr (utf8.RuneCountInString) or at a longer one (a loop over strings.Index). (LAID: no walk: one application.) -/
theorem Tryd.strings_Count_one (s : ByteArray) (c : UInt8) (w : World) :
    Calls Tryd.prog 63 #[.string s, .string ⟨#[c]⟩] w fun e w' => e = .returned (.int .i64 (Lib.countByte s.data.toList c)) ∧ w' = w := Any.strings_Count_one Tryd.lays138 s c w
open Go.RowKit Go.Lib in
/-- strings.Count AT A substr OF TWO BYTES OR MORE: "Count counts the number of non-overlapping instances of substr in s.": IT RETURNS 'Lib.count s substr'; the world is as it was. (LAID: no walk: one application.) -/
theorem Tryd.strings_Count (s sub : ByteArray) (m : Int) (w : World) (hs : s.size < 4294967281) (hm : w.cell? ⟨1, 0, none⟩ = some (.int .i64 m)) (h2 : 2 ≤ sub.size) :
    Calls Tryd.prog 63 #[.string s, .string sub] w fun e w' => e = .returned (.int .i64 (Lib.countB s sub)) ∧ w' = w := Any.strings_Count Tryd.lays138 s sub m w hs hm h2
def Tryd.laysM219_ren : Go.Shelf.Ren := ⟨fun | 219 => 69 | 217 => 75 | 225 => 76 | 224 => 77 | 267 => 78 | 266 => 81 | 314 => 82 | n => n, fun | 9 => 9 | 3 => 3 | 4 => 4 | 5 => 5 | 46 => 45 | 146 => 106 | 51 => 105 | n => n, fun | 1 => 1 | n => n⟩
theorem Tryd.laysM219 : Go.Proofs.LaysM.n219 Tryd.prog Tryd.laysM219_ren := {
  mixed := by kernel_rfl
  f217 := Tryd.func75.trans (congrArg some (by kernel_rfl))
  f219 := Tryd.func69.trans (congrArg some (by kernel_rfl))
  f224 := Tryd.func77.trans (congrArg some (by kernel_rfl))
  f225 := Tryd.func76.trans (congrArg some (by kernel_rfl))
  f266 := Tryd.func81.trans (congrArg some (by kernel_rfl))
  f267 := Tryd.func78.trans (congrArg some (by kernel_rfl))
  f314 := Tryd.func82.trans (congrArg some (by kernel_rfl))
  t3 := Tryd.underlying3
  a3 := Tryd.isAgg3
  z3 := Tryd.sizeOf3
  v3 := Tryd.zeroValue3
  t4 := Tryd.underlying4
  a4 := Tryd.isAgg4
  z4 := Tryd.sizeOf4
  v4 := Tryd.zeroValue4
  t5 := Tryd.underlying5
  a5 := Tryd.isAgg5
  z5 := Tryd.sizeOf5
  v5 := Tryd.zeroValue5
  t9 := Tryd.underlying9
  a9 := Tryd.isAgg9
  z9 := Tryd.sizeOf9
  v9 := Tryd.zeroValue9
  t46 := Tryd.underlying45
  a46 := Tryd.isAgg45
  z46 := Tryd.sizeOf45
  v46 := Tryd.zeroValue45
  t51 := Tryd.underlying105
  a51 := Tryd.isAgg105
  z51 := Tryd.sizeOf105
  v51 := Tryd.zeroValue105
  t146 := Tryd.underlying106
  a146 := Tryd.isAgg106
  z146 := Tryd.sizeOf106
  v146 := Tryd.zeroValue106
  g1 := by kernel_rfl
  i3 := by kernel_rfl
  i4 := by kernel_rfl
  i5 := by kernel_rfl
  i9 := by kernel_rfl
  i46 := by kernel_rfl
  i51 := by kernel_rfl
  i146 := by kernel_rfl
  m1 := by kernel_rfl
  s1_3 := fun w h => Go.Proofs.cell_of_shapedOpen_int (zero := #[.int .i64 0]) (t := 3) h (of_decide_eq_true (by kernel_rfl)) (by kernel_rfl) rfl (by kernel_rfl) (by kernel_rfl) Tryd.underlying3 }
open Go.RowKit Go.Lib in
theorem Tryd.stringslite_Index_shaped (s sub : ByteArray) (w : World) (h : w.ShapedOpen Tryd.prog) (hs : s.size < 4294967281) :
    Calls Tryd.prog 69 #[.string s, .string sub] w fun e w' => e = .returned (.int .i64 (Lib.index s.data.toList sub.data.toList)) ∧ w' = w := Any.stringslite_Index_shaped Tryd.laysM219 s sub w h hs
def Tryd.laysM143_ren : Go.Shelf.Ren := ⟨fun | 143 => 64 | 219 => 69 | 217 => 75 | 225 => 76 | 224 => 77 | 267 => 78 | 266 => 81 | 314 => 82 | n => n, fun | 9 => 9 | 3 => 3 | 4 => 4 | 5 => 5 | 46 => 45 | 146 => 106 | 51 => 105 | n => n, fun | 1 => 1 | n => n⟩
theorem Tryd.laysM143 : Go.Proofs.LaysM.n143 Tryd.prog Tryd.laysM143_ren := {
  mixed := by kernel_rfl
  f143 := Tryd.func64.trans (congrArg some (by kernel_rfl))
  f217 := Tryd.func75.trans (congrArg some (by kernel_rfl))
  f219 := Tryd.func69.trans (congrArg some (by kernel_rfl))
  f224 := Tryd.func77.trans (congrArg some (by kernel_rfl))
  f225 := Tryd.func76.trans (congrArg some (by kernel_rfl))
  f266 := Tryd.func81.trans (congrArg some (by kernel_rfl))
  f267 := Tryd.func78.trans (congrArg some (by kernel_rfl))
  f314 := Tryd.func82.trans (congrArg some (by kernel_rfl))
  t3 := Tryd.underlying3
  a3 := Tryd.isAgg3
  z3 := Tryd.sizeOf3
  v3 := Tryd.zeroValue3
  t4 := Tryd.underlying4
  a4 := Tryd.isAgg4
  z4 := Tryd.sizeOf4
  v4 := Tryd.zeroValue4
  t5 := Tryd.underlying5
  a5 := Tryd.isAgg5
  z5 := Tryd.sizeOf5
  v5 := Tryd.zeroValue5
  t9 := Tryd.underlying9
  a9 := Tryd.isAgg9
  z9 := Tryd.sizeOf9
  v9 := Tryd.zeroValue9
  t46 := Tryd.underlying45
  a46 := Tryd.isAgg45
  z46 := Tryd.sizeOf45
  v46 := Tryd.zeroValue45
  t51 := Tryd.underlying105
  a51 := Tryd.isAgg105
  z51 := Tryd.sizeOf105
  v51 := Tryd.zeroValue105
  t146 := Tryd.underlying106
  a146 := Tryd.isAgg106
  z146 := Tryd.sizeOf106
  v146 := Tryd.zeroValue106
  g1 := by kernel_rfl
  i3 := by kernel_rfl
  i4 := by kernel_rfl
  i5 := by kernel_rfl
  i9 := by kernel_rfl
  i46 := by kernel_rfl
  i51 := by kernel_rfl
  i146 := by kernel_rfl
  m1 := by kernel_rfl
  s1_3 := fun w h => Go.Proofs.cell_of_shapedOpen_int (zero := #[.int .i64 0]) (t := 3) h (of_decide_eq_true (by kernel_rfl)) (by kernel_rfl) rfl (by kernel_rfl) (by kernel_rfl) Tryd.underlying3 }
open Go.RowKit Go.Lib in
theorem Tryd.strings_Index_shaped (s sub : ByteArray) (w : World) (h : w.ShapedOpen Tryd.prog) (hs : s.size < 4294967281) :
    Calls Tryd.prog 64 #[.string s, .string sub] w fun e w' => e = .returned (.int .i64 (Lib.index s.data.toList sub.data.toList)) ∧ w' = w := Any.strings_Index_shaped Tryd.laysM143 s sub w h hs
def Tryd.laysM220_ren : Go.Shelf.Ren := ⟨fun | 220 => 55 | 219 => 69 | 217 => 75 | 225 => 76 | 224 => 77 | 267 => 78 | 266 => 81 | 314 => 82 | n => n, fun | 9 => 9 | 4 => 4 | 3 => 3 | 5 => 5 | 46 => 45 | 146 => 106 | 51 => 105 | n => n, fun | 1 => 1 | n => n⟩
theorem Tryd.laysM220 : Go.Proofs.LaysM.n220 Tryd.prog Tryd.laysM220_ren := {
  mixed := by kernel_rfl
  f217 := Tryd.func75.trans (congrArg some (by kernel_rfl))
  f219 := Tryd.func69.trans (congrArg some (by kernel_rfl))
  f220 := Tryd.func55.trans (congrArg some (by kernel_rfl))
  f224 := Tryd.func77.trans (congrArg some (by kernel_rfl))
  f225 := Tryd.func76.trans (congrArg some (by kernel_rfl))
  f266 := Tryd.func81.trans (congrArg some (by kernel_rfl))
  f267 := Tryd.func78.trans (congrArg some (by kernel_rfl))
  f314 := Tryd.func82.trans (congrArg some (by kernel_rfl))
  t3 := Tryd.underlying3
  a3 := Tryd.isAgg3
  z3 := Tryd.sizeOf3
  v3 := Tryd.zeroValue3
  t4 := Tryd.underlying4
  a4 := Tryd.isAgg4
  z4 := Tryd.sizeOf4
  v4 := Tryd.zeroValue4
  t5 := Tryd.underlying5
  a5 := Tryd.isAgg5
  z5 := Tryd.sizeOf5
  v5 := Tryd.zeroValue5
  t9 := Tryd.underlying9
  a9 := Tryd.isAgg9
  z9 := Tryd.sizeOf9
  v9 := Tryd.zeroValue9
  t46 := Tryd.underlying45
  a46 := Tryd.isAgg45
  z46 := Tryd.sizeOf45
  v46 := Tryd.zeroValue45
  t51 := Tryd.underlying105
  a51 := Tryd.isAgg105
  z51 := Tryd.sizeOf105
  v51 := Tryd.zeroValue105
  t146 := Tryd.underlying106
  a146 := Tryd.isAgg106
  z146 := Tryd.sizeOf106
  v146 := Tryd.zeroValue106
  g1 := by kernel_rfl
  i3 := by kernel_rfl
  i4 := by kernel_rfl
  i5 := by kernel_rfl
  i9 := by kernel_rfl
  i46 := by kernel_rfl
  i51 := by kernel_rfl
  i146 := by kernel_rfl
  m1 := by kernel_rfl
  s1_3 := fun w h => Go.Proofs.cell_of_shapedOpen_int (zero := #[.int .i64 0]) (t := 3) h (of_decide_eq_true (by kernel_rfl)) (by kernel_rfl) rfl (by kernel_rfl) (by kernel_rfl) Tryd.underlying3 }
open Go.RowKit Go.Lib in
theorem Tryd.stringslite_Cut_shaped (s sep : ByteArray) (w : World) (h : w.ShapedOpen Tryd.prog) (hs : s.size < 4294967281) :
    Calls Tryd.prog 55 #[.string s, .string sep] w fun e w' => e = .returned (.tuple #[.string ⟨(Lib.cut s.data.toList sep.data.toList).1.toArray⟩, .string ⟨(Lib.cut s.data.toList sep.data.toList).2.1.toArray⟩, .bool (Lib.cut s.data.toList sep.data.toList).2.2]) ∧ ∃ n, w' = w.drewN n := Any.stringslite_Cut_shaped Tryd.laysM220 s sep w h hs
def Tryd.laysM145_ren : Go.Shelf.Ren := ⟨fun | 145 => 34 | 220 => 55 | 219 => 69 | 217 => 75 | 225 => 76 | 224 => 77 | 267 => 78 | 266 => 81 | 314 => 82 | n => n, fun | 9 => 9 | 4 => 4 | 59 => 54 | 3 => 3 | 5 => 5 | 46 => 45 | 146 => 106 | 51 => 105 | n => n, fun | 1 => 1 | n => n⟩
theorem Tryd.laysM145 : Go.Proofs.LaysM.n145 Tryd.prog Tryd.laysM145_ren := {
  mixed := by kernel_rfl
  f145 := Tryd.func34.trans (congrArg some (by kernel_rfl))
  f217 := Tryd.func75.trans (congrArg some (by kernel_rfl))
  f219 := Tryd.func69.trans (congrArg some (by kernel_rfl))
  f220 := Tryd.func55.trans (congrArg some (by kernel_rfl))
  f224 := Tryd.func77.trans (congrArg some (by kernel_rfl))
  f225 := Tryd.func76.trans (congrArg some (by kernel_rfl))
  f266 := Tryd.func81.trans (congrArg some (by kernel_rfl))
  f267 := Tryd.func78.trans (congrArg some (by kernel_rfl))
  f314 := Tryd.func82.trans (congrArg some (by kernel_rfl))
  t3 := Tryd.underlying3
  a3 := Tryd.isAgg3
  z3 := Tryd.sizeOf3
  v3 := Tryd.zeroValue3
  t4 := Tryd.underlying4
  a4 := Tryd.isAgg4
  z4 := Tryd.sizeOf4
  v4 := Tryd.zeroValue4
  t5 := Tryd.underlying5
  a5 := Tryd.isAgg5
  z5 := Tryd.sizeOf5
  v5 := Tryd.zeroValue5
  t9 := Tryd.underlying9
  a9 := Tryd.isAgg9
  z9 := Tryd.sizeOf9
  v9 := Tryd.zeroValue9
  t46 := Tryd.underlying45
  a46 := Tryd.isAgg45
  z46 := Tryd.sizeOf45
  v46 := Tryd.zeroValue45
  t51 := Tryd.underlying105
  a51 := Tryd.isAgg105
  z51 := Tryd.sizeOf105
  v51 := Tryd.zeroValue105
  t59 := Tryd.underlying54
  a59 := Tryd.isAgg54
  z59 := Tryd.sizeOf54
  v59 := Tryd.zeroValue54
  t146 := Tryd.underlying106
  a146 := Tryd.isAgg106
  z146 := Tryd.sizeOf106
  v146 := Tryd.zeroValue106
  g1 := by kernel_rfl
  i3 := by kernel_rfl
  i4 := by kernel_rfl
  i5 := by kernel_rfl
  i9 := by kernel_rfl
  i46 := by kernel_rfl
  i51 := by kernel_rfl
  i59 := by kernel_rfl
  i146 := by kernel_rfl
  m1 := by kernel_rfl
  s1_3 := fun w h => Go.Proofs.cell_of_shapedOpen_int (zero := #[.int .i64 0]) (t := 3) h (of_decide_eq_true (by kernel_rfl)) (by kernel_rfl) rfl (by kernel_rfl) (by kernel_rfl) Tryd.underlying3 }
open Go.RowKit Go.Lib in
theorem Tryd.strings_Cut_shaped (s sep : ByteArray) (w : World) (h : w.ShapedOpen Tryd.prog) (hs : s.size < 4294967281) :
    Calls Tryd.prog 34 #[.string s, .string sep] w fun e w' => e = .returned (.tuple #[.string ⟨(Lib.cut s.data.toList sep.data.toList).1.toArray⟩, .string ⟨(Lib.cut s.data.toList sep.data.toList).2.1.toArray⟩, .bool (Lib.cut s.data.toList sep.data.toList).2.2]) ∧ ∃ n, w' = w.drewN n := Any.strings_Cut_shaped Tryd.laysM145 s sep w h hs
def Tryd.laysM138_ren : Go.Shelf.Ren := ⟨fun | 138 => 63 | 195 => 70 | 218 => 71 | 143 => 64 | 219 => 69 | 217 => 75 | 225 => 76 | 224 => 77 | 267 => 78 | 266 => 81 | 314 => 82 | n => n, fun | 9 => 9 | 3 => 3 | 4 => 4 | 5 => 5 | 0 => 0 | 46 => 45 | 146 => 106 | 51 => 105 | n => n, fun | 1 => 1 | n => n⟩
theorem Tryd.laysM138 : Go.Proofs.LaysM.n138 Tryd.prog Tryd.laysM138_ren := {
  mixed := by kernel_rfl
  f138 := Tryd.func63.trans (congrArg some (by kernel_rfl))
  f143 := Tryd.func64.trans (congrArg some (by kernel_rfl))
  f195 := Tryd.func70.trans (congrArg some (by kernel_rfl))
  f217 := Tryd.func75.trans (congrArg some (by kernel_rfl))
  f218 := Tryd.func71.trans (congrArg some (by kernel_rfl))
  f219 := Tryd.func69.trans (congrArg some (by kernel_rfl))
  f224 := Tryd.func77.trans (congrArg some (by kernel_rfl))
  f225 := Tryd.func76.trans (congrArg some (by kernel_rfl))
  f266 := Tryd.func81.trans (congrArg some (by kernel_rfl))
  f267 := Tryd.func78.trans (congrArg some (by kernel_rfl))
  f314 := Tryd.func82.trans (congrArg some (by kernel_rfl))
  t0 := Tryd.underlying0
  a0 := Tryd.isAgg0
  z0 := Tryd.sizeOf0
  v0 := Tryd.zeroValue0
  t3 := Tryd.underlying3
  a3 := Tryd.isAgg3
  z3 := Tryd.sizeOf3
  v3 := Tryd.zeroValue3
  t4 := Tryd.underlying4
  a4 := Tryd.isAgg4
  z4 := Tryd.sizeOf4
  v4 := Tryd.zeroValue4
  t5 := Tryd.underlying5
  a5 := Tryd.isAgg5
  z5 := Tryd.sizeOf5
  v5 := Tryd.zeroValue5
  t9 := Tryd.underlying9
  a9 := Tryd.isAgg9
  z9 := Tryd.sizeOf9
  v9 := Tryd.zeroValue9
  t46 := Tryd.underlying45
  a46 := Tryd.isAgg45
  z46 := Tryd.sizeOf45
  v46 := Tryd.zeroValue45
  t51 := Tryd.underlying105
  a51 := Tryd.isAgg105
  z51 := Tryd.sizeOf105
  v51 := Tryd.zeroValue105
  t146 := Tryd.underlying106
  a146 := Tryd.isAgg106
  z146 := Tryd.sizeOf106
  v146 := Tryd.zeroValue106
  g1 := by kernel_rfl
  i0 := by kernel_rfl
  i3 := by kernel_rfl
  i4 := by kernel_rfl
  i5 := by kernel_rfl
  i9 := by kernel_rfl
  i46 := by kernel_rfl
  i51 := by kernel_rfl
  i146 := by kernel_rfl
  m1 := by kernel_rfl
  s1_3 := fun w h => Go.Proofs.cell_of_shapedOpen_int (zero := #[.int .i64 0]) (t := 3) h (of_decide_eq_true (by kernel_rfl)) (by kernel_rfl) rfl (by kernel_rfl) (by kernel_rfl) Tryd.underlying3 }
open Go.RowKit Go.Lib in
theorem Tryd.strings_Count_shaped (s sub : ByteArray) (w : World) (h : w.ShapedOpen Tryd.prog) (hs : s.size < 4294967281) (h2 : 2 ≤ sub.size) :
    Calls Tryd.prog 63 #[.string s, .string sub] w fun e w' => e = .returned (.int .i64 (Lib.countB s sub)) ∧ w' = w := Any.strings_Count_shaped Tryd.laysM138 s sub w h hs h2
open Go.RowKit Go.Lib in
/-- strings.Count at whatever sep that is not empty: the two roads under one statement. (LAID: no walk: one application.) -/
theorem Tryd.strings_Count_any (s sep : ByteArray) (m : Int) (w : World) (hs : s.size < 4294967281) (hm : w.cell? ⟨1, 0, none⟩ = some (.int .i64 m)) (h1 : 1 ≤ sep.size) :
    Calls Tryd.prog 63 #[.string s, .string sep] w fun e w' => e = .returned (.int .i64 (Lib.countB s sep)) ∧ w' = w := Any.strings_Count_any Tryd.lays138 s sep m w hs hm h1
def Tryd.lays221_ren : Go.Shelf.Ren := ⟨fun | 221 => 47 | 268 => 62 | 138 => 63 | 143 => 64 | 195 => 70 | 197 => 66 | 218 => 71 | 219 => 69 | 260 => 72 | 217 => 75 | 225 => 76 | 224 => 77 | 267 => 78 | 266 => 81 | 314 => 82 | n => n, fun | 9 => 9 | 3 => 3 | 31 => 22 | 4 => 4 | 0 => 0 | 105 => 95 | 21 => 21 | 5 => 5 | 46 => 45 | 119 => 100 | 139 => 103 | 138 => 102 | 146 => 106 | 51 => 105 | n => n, fun | 1 => 1 | 3 => 2 | 4 => 3 | n => n⟩
theorem Tryd.lays221 : Go.Proofs.Lays.n221 Tryd.prog Tryd.lays221_ren := {
  mixed := by kernel_rfl
  f138 := Tryd.func63.trans (congrArg some (by kernel_rfl))
  f143 := Tryd.func64.trans (congrArg some (by kernel_rfl))
  f195 := Tryd.func70.trans (congrArg some (by kernel_rfl))
  f197 := Tryd.func66.trans (congrArg some (by kernel_rfl))
  f217 := Tryd.func75.trans (congrArg some (by kernel_rfl))
  f218 := Tryd.func71.trans (congrArg some (by kernel_rfl))
  f219 := Tryd.func69.trans (congrArg some (by kernel_rfl))
  f221 := Tryd.func47.trans (congrArg some (by kernel_rfl))
  f224 := Tryd.func77.trans (congrArg some (by kernel_rfl))
  f225 := Tryd.func76.trans (congrArg some (by kernel_rfl))
  f260 := Tryd.func72.trans (congrArg some (by kernel_rfl))
  f266 := Tryd.func81.trans (congrArg some (by kernel_rfl))
  f267 := Tryd.func78.trans (congrArg some (by kernel_rfl))
  f268 := Tryd.func62.trans (congrArg some (by kernel_rfl))
  f314 := Tryd.func82.trans (congrArg some (by kernel_rfl))
  t0 := Tryd.underlying0
  a0 := Tryd.isAgg0
  z0 := Tryd.sizeOf0
  v0 := Tryd.zeroValue0
  t3 := Tryd.underlying3
  a3 := Tryd.isAgg3
  z3 := Tryd.sizeOf3
  v3 := Tryd.zeroValue3
  t4 := Tryd.underlying4
  a4 := Tryd.isAgg4
  z4 := Tryd.sizeOf4
  v4 := Tryd.zeroValue4
  t5 := Tryd.underlying5
  a5 := Tryd.isAgg5
  z5 := Tryd.sizeOf5
  v5 := Tryd.zeroValue5
  t9 := Tryd.underlying9
  a9 := Tryd.isAgg9
  z9 := Tryd.sizeOf9
  v9 := Tryd.zeroValue9
  t21 := Tryd.underlying21
  a21 := Tryd.isAgg21
  z21 := Tryd.sizeOf21
  v21 := Tryd.zeroValue21
  t31 := Tryd.underlying22
  a31 := Tryd.isAgg22
  z31 := Tryd.sizeOf22
  v31 := Tryd.zeroValue22
  t46 := Tryd.underlying45
  a46 := Tryd.isAgg45
  z46 := Tryd.sizeOf45
  v46 := Tryd.zeroValue45
  t51 := Tryd.underlying105
  a51 := Tryd.isAgg105
  z51 := Tryd.sizeOf105
  v51 := Tryd.zeroValue105
  t105 := Tryd.underlying95
  a105 := Tryd.isAgg95
  z105 := Tryd.sizeOf95
  v105 := Tryd.zeroValue95
  t119 := Tryd.underlying100
  a119 := Tryd.isAgg100
  z119 := Tryd.sizeOf100
  t138 := Tryd.underlying102
  a138 := Tryd.isAgg102
  z138 := Tryd.sizeOf102
  v138 := Tryd.zeroValue102
  t139 := Tryd.underlying103
  a139 := Tryd.isAgg103
  z139 := Tryd.sizeOf103
  v139 := Tryd.zeroValue103
  t146 := Tryd.underlying106
  a146 := Tryd.isAgg106
  z146 := Tryd.sizeOf106
  v146 := Tryd.zeroValue106
  g1 := by kernel_rfl
  g3 := by kernel_rfl
  g4 := by kernel_rfl }
open Go.RowKit Go.Lib in
theorem Tryd.strings_genSplit (s sep : ByteArray) (sv : Nat) (n : Int) (N : Nat) (m : Int) (w : World) (hs : s.size < 4294967281) (hm : w.cell? ⟨1, 0, none⟩ = some (.int .i64 m)) (h1 : 1 ≤ sep.size) (hsv : sv ≤ sep.size) (hn0 : n ≠ 0) (hn63 : n ≤ 9223372036854775807) (hN : (N : Int) = min (if n < 0 then (Lib.countB s sep : Int) + 1 else n) ((s.size : Int) + 1)) :
    Calls Tryd.prog 47 #[.string s, .string sep, .int .i64 sv, .int .i64 n] w fun e w' =>
      e = .returned (.slice (some ⟨w.heap.size, 0, none⟩) (Lib.splitB sep sv (N - 1) s).length N) ∧ w' = w.alloc (.cells (Lib.cellsOf (Lib.splitB sep sv (N - 1) s) N) 9) := Any.strings_genSplit Tryd.lays221 (by kernel_rfl) s sep sv n N m w hs hm h1 hsv hn0 hn63 hN
def Tryd.lays146_ren : Go.Shelf.Ren := ⟨fun | 146 => 32 | 221 => 47 | 268 => 62 | 138 => 63 | 143 => 64 | 195 => 70 | 197 => 66 | 218 => 71 | 219 => 69 | 260 => 72 | 217 => 75 | 225 => 76 | 224 => 77 | 267 => 78 | 266 => 81 | 314 => 82 | n => n, fun | 9 => 9 | 31 => 22 | 3 => 3 | 4 => 4 | 0 => 0 | 105 => 95 | 21 => 21 | 5 => 5 | 46 => 45 | 119 => 100 | 139 => 103 | 138 => 102 | 146 => 106 | 51 => 105 | n => n, fun | 1 => 1 | 3 => 2 | 4 => 3 | n => n⟩
theorem Tryd.lays146 : Go.Proofs.Lays.n146 Tryd.prog Tryd.lays146_ren := {
  mixed := by kernel_rfl
  f138 := Tryd.func63.trans (congrArg some (by kernel_rfl))
  f143 := Tryd.func64.trans (congrArg some (by kernel_rfl))
  f146 := Tryd.func32.trans (congrArg some (by kernel_rfl))
  f195 := Tryd.func70.trans (congrArg some (by kernel_rfl))
  f197 := Tryd.func66.trans (congrArg some (by kernel_rfl))
  f217 := Tryd.func75.trans (congrArg some (by kernel_rfl))
  f218 := Tryd.func71.trans (congrArg some (by kernel_rfl))
  f219 := Tryd.func69.trans (congrArg some (by kernel_rfl))
  f221 := Tryd.func47.trans (congrArg some (by kernel_rfl))
  f224 := Tryd.func77.trans (congrArg some (by kernel_rfl))
  f225 := Tryd.func76.trans (congrArg some (by kernel_rfl))
  f260 := Tryd.func72.trans (congrArg some (by kernel_rfl))
  f266 := Tryd.func81.trans (congrArg some (by kernel_rfl))
  f267 := Tryd.func78.trans (congrArg some (by kernel_rfl))
  f268 := Tryd.func62.trans (congrArg some (by kernel_rfl))
  f314 := Tryd.func82.trans (congrArg some (by kernel_rfl))
  t0 := Tryd.underlying0
  a0 := Tryd.isAgg0
  z0 := Tryd.sizeOf0
  v0 := Tryd.zeroValue0
  t3 := Tryd.underlying3
  a3 := Tryd.isAgg3
  z3 := Tryd.sizeOf3
  v3 := Tryd.zeroValue3
  t4 := Tryd.underlying4
  a4 := Tryd.isAgg4
  z4 := Tryd.sizeOf4
  v4 := Tryd.zeroValue4
  t5 := Tryd.underlying5
  a5 := Tryd.isAgg5
  z5 := Tryd.sizeOf5
  v5 := Tryd.zeroValue5
  t9 := Tryd.underlying9
  a9 := Tryd.isAgg9
  z9 := Tryd.sizeOf9
  v9 := Tryd.zeroValue9
  t21 := Tryd.underlying21
  a21 := Tryd.isAgg21
  z21 := Tryd.sizeOf21
  v21 := Tryd.zeroValue21
  t31 := Tryd.underlying22
  a31 := Tryd.isAgg22
  z31 := Tryd.sizeOf22
  v31 := Tryd.zeroValue22
  t46 := Tryd.underlying45
  a46 := Tryd.isAgg45
  z46 := Tryd.sizeOf45
  v46 := Tryd.zeroValue45
  t51 := Tryd.underlying105
  a51 := Tryd.isAgg105
  z51 := Tryd.sizeOf105
  v51 := Tryd.zeroValue105
  t105 := Tryd.underlying95
  a105 := Tryd.isAgg95
  z105 := Tryd.sizeOf95
  v105 := Tryd.zeroValue95
  t119 := Tryd.underlying100
  a119 := Tryd.isAgg100
  z119 := Tryd.sizeOf100
  t138 := Tryd.underlying102
  a138 := Tryd.isAgg102
  z138 := Tryd.sizeOf102
  v138 := Tryd.zeroValue102
  t139 := Tryd.underlying103
  a139 := Tryd.isAgg103
  z139 := Tryd.sizeOf103
  v139 := Tryd.zeroValue103
  t146 := Tryd.underlying106
  a146 := Tryd.isAgg106
  z146 := Tryd.sizeOf106
  v146 := Tryd.zeroValue106
  g1 := by kernel_rfl
  g3 := by kernel_rfl
  g4 := by kernel_rfl }
open Go.RowKit Go.Lib in
/-- strings.Split. (LAID: no walk: one application.) -/
theorem Tryd.strings_Split (s sep : ByteArray) (m : Int) (w : World) (hs : s.size < 4294967281) (hm : w.cell? ⟨1, 0, none⟩ = some (.int .i64 m)) (h1 : 1 ≤ sep.size) :
    Calls Tryd.prog 32 #[.string s, .string sep] w fun e w' =>
      e = .returned (.slice (some ⟨w.heap.size, 0, none⟩) (Lib.countB s sep + 1) (Lib.countB s sep + 1)) ∧ w' = w.alloc (.cells ((Lib.splitB sep 0 (Lib.countB s sep) s).map Value.string).toArray 9) := Any.strings_Split Tryd.lays146 (by kernel_rfl) s sep m w hs hm h1
def Tryd.laysM146_ren : Go.Shelf.Ren := ⟨fun | 146 => 32 | 221 => 47 | 268 => 62 | 138 => 63 | 143 => 64 | 195 => 70 | 197 => 66 | 218 => 71 | 219 => 69 | 260 => 72 | 217 => 75 | 225 => 76 | 224 => 77 | 267 => 78 | 266 => 81 | 314 => 82 | n => n, fun | 9 => 9 | 31 => 22 | 3 => 3 | 4 => 4 | 0 => 0 | 105 => 95 | 21 => 21 | 5 => 5 | 46 => 45 | 119 => 100 | 139 => 103 | 138 => 102 | 146 => 106 | 51 => 105 | n => n, fun | 1 => 1 | 3 => 2 | 4 => 3 | n => n⟩
theorem Tryd.laysM146 : Go.Proofs.LaysM.n146 Tryd.prog Tryd.laysM146_ren := {
  mixed := by kernel_rfl
  f138 := Tryd.func63.trans (congrArg some (by kernel_rfl))
  f143 := Tryd.func64.trans (congrArg some (by kernel_rfl))
  f146 := Tryd.func32.trans (congrArg some (by kernel_rfl))
  f195 := Tryd.func70.trans (congrArg some (by kernel_rfl))
  f197 := Tryd.func66.trans (congrArg some (by kernel_rfl))
  f217 := Tryd.func75.trans (congrArg some (by kernel_rfl))
  f218 := Tryd.func71.trans (congrArg some (by kernel_rfl))
  f219 := Tryd.func69.trans (congrArg some (by kernel_rfl))
  f221 := Tryd.func47.trans (congrArg some (by kernel_rfl))
  f224 := Tryd.func77.trans (congrArg some (by kernel_rfl))
  f225 := Tryd.func76.trans (congrArg some (by kernel_rfl))
  f260 := Tryd.func72.trans (congrArg some (by kernel_rfl))
  f266 := Tryd.func81.trans (congrArg some (by kernel_rfl))
  f267 := Tryd.func78.trans (congrArg some (by kernel_rfl))
  f268 := Tryd.func62.trans (congrArg some (by kernel_rfl))
  f314 := Tryd.func82.trans (congrArg some (by kernel_rfl))
  t0 := Tryd.underlying0
  a0 := Tryd.isAgg0
  z0 := Tryd.sizeOf0
  v0 := Tryd.zeroValue0
  t3 := Tryd.underlying3
  a3 := Tryd.isAgg3
  z3 := Tryd.sizeOf3
  v3 := Tryd.zeroValue3
  t4 := Tryd.underlying4
  a4 := Tryd.isAgg4
  z4 := Tryd.sizeOf4
  v4 := Tryd.zeroValue4
  t5 := Tryd.underlying5
  a5 := Tryd.isAgg5
  z5 := Tryd.sizeOf5
  v5 := Tryd.zeroValue5
  t9 := Tryd.underlying9
  a9 := Tryd.isAgg9
  z9 := Tryd.sizeOf9
  v9 := Tryd.zeroValue9
  t21 := Tryd.underlying21
  a21 := Tryd.isAgg21
  z21 := Tryd.sizeOf21
  v21 := Tryd.zeroValue21
  t31 := Tryd.underlying22
  a31 := Tryd.isAgg22
  z31 := Tryd.sizeOf22
  v31 := Tryd.zeroValue22
  t46 := Tryd.underlying45
  a46 := Tryd.isAgg45
  z46 := Tryd.sizeOf45
  v46 := Tryd.zeroValue45
  t51 := Tryd.underlying105
  a51 := Tryd.isAgg105
  z51 := Tryd.sizeOf105
  v51 := Tryd.zeroValue105
  t105 := Tryd.underlying95
  a105 := Tryd.isAgg95
  z105 := Tryd.sizeOf95
  v105 := Tryd.zeroValue95
  t119 := Tryd.underlying100
  a119 := Tryd.isAgg100
  z119 := Tryd.sizeOf100
  t138 := Tryd.underlying102
  a138 := Tryd.isAgg102
  z138 := Tryd.sizeOf102
  v138 := Tryd.zeroValue102
  t139 := Tryd.underlying103
  a139 := Tryd.isAgg103
  z139 := Tryd.sizeOf103
  v139 := Tryd.zeroValue103
  t146 := Tryd.underlying106
  a146 := Tryd.isAgg106
  z146 := Tryd.sizeOf106
  v146 := Tryd.zeroValue106
  g1 := by kernel_rfl
  g3 := by kernel_rfl
  g4 := by kernel_rfl
  i0 := by kernel_rfl
  i3 := by kernel_rfl
  i4 := by kernel_rfl
  i5 := by kernel_rfl
  i9 := by kernel_rfl
  i21 := by kernel_rfl
  i31 := by kernel_rfl
  i46 := by kernel_rfl
  i51 := by kernel_rfl
  i105 := by kernel_rfl
  i138 := by kernel_rfl
  i139 := by kernel_rfl
  i146 := by kernel_rfl
  m1 := by kernel_rfl
  s1_3 := fun w h => Go.Proofs.cell_of_shapedOpen_int (zero := #[.int .i64 0]) (t := 3) h (of_decide_eq_true (by kernel_rfl)) (by kernel_rfl) rfl (by kernel_rfl) (by kernel_rfl) Tryd.underlying3
  m3 := by kernel_rfl
  m4 := by kernel_rfl }
open Go.RowKit Go.Lib in
/-- strings.Split, sep not empty. (LAID: no walk: one application.) -/
theorem Tryd.strings_Split_shaped (s sep : ByteArray) (w : World) (h : w.ShapedOpen Tryd.prog) (hs : s.size < 4294967281) (h1 : 1 ≤ sep.size) :
    Calls Tryd.prog 32 #[.string s, .string sep] w fun e w' =>
      e = .returned (.slice (some ⟨w.heap.size, 0, none⟩) (Lib.countB s sep + 1) (Lib.countB s sep + 1)) ∧ w' = w.alloc (.cells ((Lib.splitB sep 0 (Lib.countB s sep) s).map Value.string).toArray 9) := Any.strings_Split_shaped Tryd.laysM146 s sep w h hs h1
def Tryd.lays197_ren : Go.Shelf.Ren := ⟨fun | 197 => 66 | 260 => 72 | n => n, fun | 9 => 9 | 21 => 21 | 3 => 3 | 4 => 4 | 5 => 5 | 105 => 95 | 119 => 100 | 0 => 0 | 46 => 45 | 139 => 103 | 138 => 102 | n => n, fun | 3 => 2 | 4 => 3 | n => n⟩
theorem Tryd.lays197 : Go.Proofs.Lays.n197 Tryd.prog Tryd.lays197_ren := {
  mixed := by kernel_rfl
  f197 := Tryd.func66.trans (congrArg some (by kernel_rfl))
  f260 := Tryd.func72.trans (congrArg some (by kernel_rfl))
  t0 := Tryd.underlying0
  a0 := Tryd.isAgg0
  z0 := Tryd.sizeOf0
  v0 := Tryd.zeroValue0
  t3 := Tryd.underlying3
  a3 := Tryd.isAgg3
  z3 := Tryd.sizeOf3
  v3 := Tryd.zeroValue3
  t4 := Tryd.underlying4
  a4 := Tryd.isAgg4
  z4 := Tryd.sizeOf4
  v4 := Tryd.zeroValue4
  t5 := Tryd.underlying5
  a5 := Tryd.isAgg5
  z5 := Tryd.sizeOf5
  v5 := Tryd.zeroValue5
  t9 := Tryd.underlying9
  a9 := Tryd.isAgg9
  z9 := Tryd.sizeOf9
  v9 := Tryd.zeroValue9
  t21 := Tryd.underlying21
  a21 := Tryd.isAgg21
  z21 := Tryd.sizeOf21
  v21 := Tryd.zeroValue21
  t46 := Tryd.underlying45
  a46 := Tryd.isAgg45
  z46 := Tryd.sizeOf45
  v46 := Tryd.zeroValue45
  t105 := Tryd.underlying95
  a105 := Tryd.isAgg95
  z105 := Tryd.sizeOf95
  v105 := Tryd.zeroValue95
  t119 := Tryd.underlying100
  a119 := Tryd.isAgg100
  z119 := Tryd.sizeOf100
  t138 := Tryd.underlying102
  a138 := Tryd.isAgg102
  z138 := Tryd.sizeOf102
  v138 := Tryd.zeroValue102
  t139 := Tryd.underlying103
  a139 := Tryd.isAgg103
  z139 := Tryd.sizeOf103
  v139 := Tryd.zeroValue103
  g3 := by kernel_rfl
  g4 := by kernel_rfl }
open Go.RowKit Go.Lib in
/-- unicode/utf8.DecodeRuneInString: "DecodeRuneInString is like DecodeRune but its input is a string.": ("DecodeRune unpacks the first UTF-8 encoding in p and returns the rune and its width in bytes."): WHERE s BEGINS WITH AN ASCII BYTE x: (x, 1). (LAID: no walk: one application.) -/
theorem Tryd.utf8_DecodeRuneInString_ascii (s : ByteArray) (x : UInt8) (w : World) (h0 : s.data.toList[0]? = some x) (hx : x.toNat < 128) :
    Calls Tryd.prog 66 #[.string s] w fun e w' => e = .returned (.tuple #[.int .i32 x.toNat, .int .i64 1]) ∧ w' = w := Any.utf8_DecodeRuneInString_ascii Tryd.lays197 s x w h0 hx
def Tryd.lays152_ren : Go.Shelf.Ren := ⟨fun | 152 => 73 | 137 => 79 | 119 => 80 | 224 => 77 | 225 => 76 | 217 => 75 | 266 => 81 | n => n, fun | 9 => 9 | 21 => 21 | 3 => 3 | 4 => 4 | 5 => 5 | 0 => 0 | 46 => 45 | n => n, fun | n => n⟩
theorem Tryd.lays152 : Go.Proofs.Lays.n152 Tryd.prog Tryd.lays152_ren := {
  mixed := by kernel_rfl
  f119 := Tryd.func80.trans (congrArg some (by kernel_rfl))
  f137 := Tryd.func79.trans (congrArg some (by kernel_rfl))
  f152 := Tryd.func73.trans (congrArg some (by kernel_rfl))
  f217 := Tryd.func75.trans (congrArg some (by kernel_rfl))
  f224 := Tryd.func77.trans (congrArg some (by kernel_rfl))
  f225 := Tryd.func76.trans (congrArg some (by kernel_rfl))
  f266 := Tryd.func81.trans (congrArg some (by kernel_rfl))
  t0 := Tryd.underlying0
  a0 := Tryd.isAgg0
  z0 := Tryd.sizeOf0
  v0 := Tryd.zeroValue0
  t3 := Tryd.underlying3
  a3 := Tryd.isAgg3
  z3 := Tryd.sizeOf3
  v3 := Tryd.zeroValue3
  t4 := Tryd.underlying4
  a4 := Tryd.isAgg4
  z4 := Tryd.sizeOf4
  v4 := Tryd.zeroValue4
  t5 := Tryd.underlying5
  a5 := Tryd.isAgg5
  z5 := Tryd.sizeOf5
  v5 := Tryd.zeroValue5
  t9 := Tryd.underlying9
  a9 := Tryd.isAgg9
  z9 := Tryd.sizeOf9
  v9 := Tryd.zeroValue9
  t21 := Tryd.underlying21
  a21 := Tryd.isAgg21
  z21 := Tryd.sizeOf21
  v21 := Tryd.zeroValue21
  t46 := Tryd.underlying45
  a46 := Tryd.isAgg45
  z46 := Tryd.sizeOf45
  v46 := Tryd.zeroValue45 }
open Go.RowKit Go.Lib in
theorem Tryd.strings_IndexRune_ascii (s : ByteArray) (r : Int) (w : World) (h0 : 0 ≤ r) (h1 : r < 128) :
    Calls Tryd.prog 73 #[.string s, .int .i32 r] w fun e w' => e = .returned (.int .i64 (Lib.indexByte s.data.toList r.toNat.toUInt8)) ∧ w' = w := Any.strings_IndexRune_ascii Tryd.lays152 s r w h0 h1
def Tryd.lays151_ren : Go.Shelf.Ren := ⟨fun | 151 => 67 | 152 => 73 | 137 => 79 | 119 => 80 | 224 => 77 | 225 => 76 | 217 => 75 | 266 => 81 | n => n, fun | 9 => 9 | 21 => 21 | 4 => 4 | 3 => 3 | 5 => 5 | 0 => 0 | 46 => 45 | n => n, fun | n => n⟩
theorem Tryd.lays151 : Go.Proofs.Lays.n151 Tryd.prog Tryd.lays151_ren := {
  mixed := by kernel_rfl
  f119 := Tryd.func80.trans (congrArg some (by kernel_rfl))
  f137 := Tryd.func79.trans (congrArg some (by kernel_rfl))
  f151 := Tryd.func67.trans (congrArg some (by kernel_rfl))
  f152 := Tryd.func73.trans (congrArg some (by kernel_rfl))
  f217 := Tryd.func75.trans (congrArg some (by kernel_rfl))
  f224 := Tryd.func77.trans (congrArg some (by kernel_rfl))
  f225 := Tryd.func76.trans (congrArg some (by kernel_rfl))
  f266 := Tryd.func81.trans (congrArg some (by kernel_rfl))
  t0 := Tryd.underlying0
  a0 := Tryd.isAgg0
  z0 := Tryd.sizeOf0
  v0 := Tryd.zeroValue0
  t3 := Tryd.underlying3
  a3 := Tryd.isAgg3
  z3 := Tryd.sizeOf3
  v3 := Tryd.zeroValue3
  t4 := Tryd.underlying4
  a4 := Tryd.isAgg4
  z4 := Tryd.sizeOf4
  v4 := Tryd.zeroValue4
  t5 := Tryd.underlying5
  a5 := Tryd.isAgg5
  z5 := Tryd.sizeOf5
  v5 := Tryd.zeroValue5
  t9 := Tryd.underlying9
  a9 := Tryd.isAgg9
  z9 := Tryd.sizeOf9
  v9 := Tryd.zeroValue9
  t21 := Tryd.underlying21
  a21 := Tryd.isAgg21
  z21 := Tryd.sizeOf21
  v21 := Tryd.zeroValue21
  t46 := Tryd.underlying45
  a46 := Tryd.isAgg45
  z46 := Tryd.sizeOf45
  v46 := Tryd.zeroValue45 }
open Go.RowKit Go.Lib in
theorem Tryd.strings_ContainsRune_ascii (s : ByteArray) (r : Int) (w : World) (h0 : 0 ≤ r) (h1 : r < 128) :
    Calls Tryd.prog 67 #[.string s, .int .i32 r] w fun e w' => e = .returned (.bool (decide (0 ≤ Lib.indexByte s.data.toList r.toNat.toUInt8))) ∧ w' = w := Any.strings_ContainsRune_ascii Tryd.lays151 s r w h0 h1
open Go.RowKit Go.Lib in
theorem Tryd.utf8_RuneCountInString_ascii (s : ByteArray) (w : World) (hs : s.size < 4294967281) (hascii : ∀ (j : Nat) b, s.data.toList[j]? = some b → b.toNat < 128) :
    Calls Tryd.prog 70 #[.string s] w fun e w' => e = .returned (.int .i64 s.size) ∧ w' = w.iter s s.size := Any.utf8_RuneCountInString_ascii Tryd.lays195 s w hs hascii
def Tryd.lays227_ren : Go.Shelf.Ren := ⟨fun | 227 => 50 | n => n, fun | 9 => 9 | 116 => 83 | 4 => 4 | 0 => 0 | 3 => 3 | 5 => 5 | n => n, fun | n => n⟩
theorem Tryd.lays227 : Go.Proofs.Lays.n227 Tryd.prog Tryd.lays227_ren := {
  mixed := by kernel_rfl
  f227 := Tryd.func50.trans (congrArg some (by kernel_rfl))
  t0 := Tryd.underlying0
  a0 := Tryd.isAgg0
  z0 := Tryd.sizeOf0
  v0 := Tryd.zeroValue0
  t3 := Tryd.underlying3
  a3 := Tryd.isAgg3
  z3 := Tryd.sizeOf3
  v3 := Tryd.zeroValue3
  t4 := Tryd.underlying4
  a4 := Tryd.isAgg4
  z4 := Tryd.sizeOf4
  v4 := Tryd.zeroValue4
  t5 := Tryd.underlying5
  a5 := Tryd.isAgg5
  z5 := Tryd.sizeOf5
  v5 := Tryd.zeroValue5
  t9 := Tryd.underlying9
  a9 := Tryd.isAgg9
  z9 := Tryd.sizeOf9
  v9 := Tryd.zeroValue9
  t116 := Tryd.underlying83
  a116 := Tryd.isAgg83
  z116 := Tryd.sizeOf83 }
open Go.RowKit Go.Lib in
theorem Tryd.strings_makeASCIISet (hv116 : ∀ w, (zeroValue 83).run Tryd.prog w = .ok (.agg (Array.replicate 256 (.bool false))) w) (chars : ByteArray) (w : World) (hs : chars.size < 4294967281) (hascii : ∀ (j : Nat) b, chars.data.toList[j]? = some b → b.toNat < 128) :
    Calls Tryd.prog 50 #[.string chars] w fun e w' => e = .returned (.tuple #[.agg (Lib.setCells chars.data.toList), .bool true]) ∧ w' = w.alloc (.cells (Lib.setCells chars.data.toList) 83) := Any.strings_makeASCIISet Tryd.lays227 hv116 (by kernel_rfl) chars w hs hascii
def Tryd.lays228_ren : Go.Shelf.Ren := ⟨fun | 228 => 65 | n => n, fun | 124 => 87 | 5 => 5 | 4 => 4 | 0 => 0 | 116 => 83 | n => n, fun | n => n⟩
theorem Tryd.lays228 : Go.Proofs.Lays.n228 Tryd.prog Tryd.lays228_ren := {
  mixed := by kernel_rfl
  f228 := Tryd.func65.trans (congrArg some (by kernel_rfl))
  t0 := Tryd.underlying0
  a0 := Tryd.isAgg0
  z0 := Tryd.sizeOf0
  v0 := Tryd.zeroValue0
  t4 := Tryd.underlying4
  a4 := Tryd.isAgg4
  z4 := Tryd.sizeOf4
  v4 := Tryd.zeroValue4
  t5 := Tryd.underlying5
  a5 := Tryd.isAgg5
  z5 := Tryd.sizeOf5
  v5 := Tryd.zeroValue5
  t116 := Tryd.underlying83
  a116 := Tryd.isAgg83
  z116 := Tryd.sizeOf83
  t124 := Tryd.underlying87
  a124 := Tryd.isAgg87
  z124 := Tryd.sizeOf87
  v124 := Tryd.zeroValue87 }
open Go.RowKit Go.Lib in
/-- '(as *asciiSet) contains(c)': 'as[c]': the set lies at block b, whole. (LAID: no walk: one application.) -/
theorem Tryd.asciiSet_contains (b : Nat) (x : UInt8) (v : Bool) (w : World) (hc : w.cell? ⟨b, x.toNat, none⟩ = some (.bool v)) :
    Calls Tryd.prog 65 #[.pointer (some ⟨b, 0, none⟩), .int .u8 x.toNat] w fun e w' => e = .returned (.bool v) ∧ w' = w := Any.asciiSet_contains Tryd.lays228 b x v w hc
def Tryd.lays268_ren : Go.Shelf.Ren := ⟨fun | 268 => 62 | 195 => 70 | 197 => 66 | 260 => 72 | n => n, fun | 9 => 9 | 3 => 3 | 31 => 22 | 4 => 4 | 105 => 95 | 21 => 21 | 0 => 0 | 5 => 5 | 119 => 100 | 46 => 45 | 139 => 103 | 138 => 102 | n => n, fun | 3 => 2 | 4 => 3 | n => n⟩
theorem Tryd.lays268 : Go.Proofs.Lays.n268 Tryd.prog Tryd.lays268_ren := {
  mixed := by kernel_rfl
  f195 := Tryd.func70.trans (congrArg some (by kernel_rfl))
  f197 := Tryd.func66.trans (congrArg some (by kernel_rfl))
  f260 := Tryd.func72.trans (congrArg some (by kernel_rfl))
  f268 := Tryd.func62.trans (congrArg some (by kernel_rfl))
  t0 := Tryd.underlying0
  a0 := Tryd.isAgg0
  z0 := Tryd.sizeOf0
  v0 := Tryd.zeroValue0
  t3 := Tryd.underlying3
  a3 := Tryd.isAgg3
  z3 := Tryd.sizeOf3
  v3 := Tryd.zeroValue3
  t4 := Tryd.underlying4
  a4 := Tryd.isAgg4
  z4 := Tryd.sizeOf4
  v4 := Tryd.zeroValue4
  t5 := Tryd.underlying5
  a5 := Tryd.isAgg5
  z5 := Tryd.sizeOf5
  v5 := Tryd.zeroValue5
  t9 := Tryd.underlying9
  a9 := Tryd.isAgg9
  z9 := Tryd.sizeOf9
  v9 := Tryd.zeroValue9
  t21 := Tryd.underlying21
  a21 := Tryd.isAgg21
  z21 := Tryd.sizeOf21
  v21 := Tryd.zeroValue21
  t31 := Tryd.underlying22
  a31 := Tryd.isAgg22
  z31 := Tryd.sizeOf22
  v31 := Tryd.zeroValue22
  t46 := Tryd.underlying45
  a46 := Tryd.isAgg45
  z46 := Tryd.sizeOf45
  v46 := Tryd.zeroValue45
  t105 := Tryd.underlying95
  a105 := Tryd.isAgg95
  z105 := Tryd.sizeOf95
  v105 := Tryd.zeroValue95
  t119 := Tryd.underlying100
  a119 := Tryd.isAgg100
  z119 := Tryd.sizeOf100
  t138 := Tryd.underlying102
  a138 := Tryd.isAgg102
  z138 := Tryd.sizeOf102
  v138 := Tryd.zeroValue102
  t139 := Tryd.underlying103
  a139 := Tryd.isAgg103
  z139 := Tryd.sizeOf103
  v139 := Tryd.zeroValue103
  g3 := by kernel_rfl
  g4 := by kernel_rfl }
open Go.RowKit Go.Lib in
theorem Tryd.strings_explode_all (s : ByteArray) (n : Int) (w : World) (hn : n < 0) (hs : s.size < 4294967281) (hascii : ∀ (j : Nat) b, s.data.toList[j]? = some b → b.toNat < 128) :
    Calls Tryd.prog 62 #[.string s, .int .i64 n] w fun e w' =>
      e = .returned (.slice (some ⟨(w.iter s s.size).heap.size, 0, none⟩) s.size s.size) ∧ w' = (w.iter s s.size).alloc (.cells ((Lib.charsB s).map Value.string).toArray 9) := Any.strings_explode_all Tryd.lays268 (by kernel_rfl) s n w hn hs hascii
open Go.RowKit Go.Lib in
/-- strings.genSplit at sep == "", n < 0: 'return explode(s, n)'. (LAID: no walk: one application.) -/
theorem Tryd.strings_genSplit_chars (s sep : ByteArray) (sv n : Int) (w : World) (h0 : sep.size = 0) (hn : n < 0) (hs : s.size < 4294967281) (hascii : ∀ (j : Nat) b, s.data.toList[j]? = some b → b.toNat < 128) :
    Calls Tryd.prog 47 #[.string s, .string sep, .int .i64 sv, .int .i64 n] w fun e w' =>
      e = .returned (.slice (some ⟨(w.iter s s.size).heap.size, 0, none⟩) s.size s.size) ∧ w' = (w.iter s s.size).alloc (.cells ((Lib.charsB s).map Value.string).toArray 9) := Any.strings_genSplit_chars Tryd.lays221 (by kernel_rfl) s sep sv n w h0 hn hs hascii
open Go.RowKit Go.Lib in
/-- strings.Split(s, ""), s ASCII: a piece a byte. (LAID: no walk: one application.) -/
theorem Tryd.strings_Split_chars (s sep : ByteArray) (w : World) (h0 : sep.size = 0) (hs : s.size < 4294967281) (hascii : ∀ (j : Nat) b, s.data.toList[j]? = some b → b.toNat < 128) :
    Calls Tryd.prog 32 #[.string s, .string sep] w fun e w' =>
      e = .returned (.slice (some ⟨(w.iter s s.size).heap.size, 0, none⟩) s.size s.size) ∧ w' = (w.iter s s.size).alloc (.cells ((Lib.charsB s).map Value.string).toArray 9) := Any.strings_Split_chars Tryd.lays146 (by kernel_rfl) s sep w h0 hs hascii
def Tryd.lays260_ren : Go.Shelf.Ren := ⟨fun | 260 => 72 | n => n, fun | 9 => 9 | 21 => 21 | 3 => 3 | 4 => 4 | 5 => 5 | 119 => 100 | 0 => 0 | 46 => 45 | 139 => 103 | 138 => 102 | n => n, fun | 3 => 2 | 4 => 3 | n => n⟩
theorem Tryd.lays260 : Go.Proofs.Lays.n260 Tryd.prog Tryd.lays260_ren := {
  mixed := by kernel_rfl
  f260 := Tryd.func72.trans (congrArg some (by kernel_rfl))
  t0 := Tryd.underlying0
  a0 := Tryd.isAgg0
  z0 := Tryd.sizeOf0
  v0 := Tryd.zeroValue0
  t3 := Tryd.underlying3
  a3 := Tryd.isAgg3
  z3 := Tryd.sizeOf3
  v3 := Tryd.zeroValue3
  t4 := Tryd.underlying4
  a4 := Tryd.isAgg4
  z4 := Tryd.sizeOf4
  v4 := Tryd.zeroValue4
  t5 := Tryd.underlying5
  a5 := Tryd.isAgg5
  z5 := Tryd.sizeOf5
  v5 := Tryd.zeroValue5
  t9 := Tryd.underlying9
  a9 := Tryd.isAgg9
  z9 := Tryd.sizeOf9
  v9 := Tryd.zeroValue9
  t21 := Tryd.underlying21
  a21 := Tryd.isAgg21
  z21 := Tryd.sizeOf21
  v21 := Tryd.zeroValue21
  t46 := Tryd.underlying45
  a46 := Tryd.isAgg45
  z46 := Tryd.sizeOf45
  v46 := Tryd.zeroValue45
  t119 := Tryd.underlying100
  a119 := Tryd.isAgg100
  z119 := Tryd.sizeOf100
  t138 := Tryd.underlying102
  a138 := Tryd.isAgg102
  z138 := Tryd.sizeOf102
  v138 := Tryd.zeroValue102
  t139 := Tryd.underlying103
  a139 := Tryd.isAgg103
  z139 := Tryd.sizeOf103
  v139 := Tryd.zeroValue103
  g3 := by kernel_rfl
  g4 := by kernel_rfl }
open Go.RowKit Go.Lib in
theorem Tryd.utf8_decodeRuneInStringSlow (s : ByteArray) (w : World) (hT : Lib.Utf8Tabs 2 3 w) :
    Calls Tryd.prog 72 #[.string s] w fun e w' => e = .returned (.tuple #[.int .i32 (Lib.decodeGo s).1, .int .i64 (Lib.decodeGo s).2]) ∧ Below w.heap.size w w' := Any.utf8_decodeRuneInStringSlow Tryd.lays260 s w hT
open Go.RowKit Go.Lib in
/-- **unicode/utf8.DecodeRuneInString AT EVERY STRING.** (LAID: no walk: one application.) -/
theorem Tryd.utf8_DecodeRuneInString (s : ByteArray) (w : World) (hT : Lib.Utf8Tabs 2 3 w) :
    Calls Tryd.prog 66 #[.string s] w fun e w' => e = .returned (.tuple #[.int .i32 (Lib.decodeGo s).1, .int .i64 (Lib.decodeGo s).2]) ∧ Below w.heap.size w w' := Any.utf8_DecodeRuneInString Tryd.lays197 s w hT
def Tryd.lays271_ren : Go.Shelf.Ren := ⟨fun | 271 => 68 | 120 => 74 | 197 => 66 | 260 => 72 | n => n, fun | 9 => 9 | 21 => 21 | 3 => 3 | 4 => 4 | 5 => 5 | 105 => 95 | 119 => 100 | 0 => 0 | 46 => 45 | 139 => 103 | 138 => 102 | n => n, fun | 3 => 2 | 4 => 3 | n => n⟩
theorem Tryd.lays271 : Go.Proofs.Lays.n271 Tryd.prog Tryd.lays271_ren := {
  mixed := by kernel_rfl
  f120 := Tryd.func74.trans (congrArg some (by kernel_rfl))
  f197 := Tryd.func66.trans (congrArg some (by kernel_rfl))
  f260 := Tryd.func72.trans (congrArg some (by kernel_rfl))
  f271 := Tryd.func68.trans (congrArg some (by kernel_rfl))
  t0 := Tryd.underlying0
  a0 := Tryd.isAgg0
  z0 := Tryd.sizeOf0
  v0 := Tryd.zeroValue0
  t3 := Tryd.underlying3
  a3 := Tryd.isAgg3
  z3 := Tryd.sizeOf3
  v3 := Tryd.zeroValue3
  t4 := Tryd.underlying4
  a4 := Tryd.isAgg4
  z4 := Tryd.sizeOf4
  v4 := Tryd.zeroValue4
  t5 := Tryd.underlying5
  a5 := Tryd.isAgg5
  z5 := Tryd.sizeOf5
  v5 := Tryd.zeroValue5
  t9 := Tryd.underlying9
  a9 := Tryd.isAgg9
  z9 := Tryd.sizeOf9
  v9 := Tryd.zeroValue9
  t21 := Tryd.underlying21
  a21 := Tryd.isAgg21
  z21 := Tryd.sizeOf21
  v21 := Tryd.zeroValue21
  t46 := Tryd.underlying45
  a46 := Tryd.isAgg45
  z46 := Tryd.sizeOf45
  v46 := Tryd.zeroValue45
  t105 := Tryd.underlying95
  a105 := Tryd.isAgg95
  z105 := Tryd.sizeOf95
  v105 := Tryd.zeroValue95
  t119 := Tryd.underlying100
  a119 := Tryd.isAgg100
  z119 := Tryd.sizeOf100
  t138 := Tryd.underlying102
  a138 := Tryd.isAgg102
  z138 := Tryd.sizeOf102
  v138 := Tryd.zeroValue102
  t139 := Tryd.underlying103
  a139 := Tryd.isAgg103
  z139 := Tryd.sizeOf103
  v139 := Tryd.zeroValue103
  g3 := by kernel_rfl
  g4 := by kernel_rfl }
open Go.RowKit Go.Lib in
/-- **unicode/utf8.DecodeLastRuneInString AT EVERY STRING.** (LAID: no walk: one application.) -/
theorem Tryd.utf8_DecodeLastRuneInString (s : ByteArray) (w : World) (hs : s.size ≤ 9223372036854775807) (hT : Lib.Utf8Tabs 2 3 w) :
    Calls Tryd.prog 68 #[.string s] w fun e w' => e = .returned (.tuple #[.int .i32 (Lib.decodeLastL s.data.toList).1, .int .i64 (Lib.decodeLastL s.data.toList).2]) ∧ Below w.heap.size w w' := Any.utf8_DecodeLastRuneInString Tryd.lays271 s w hs hT
def Tryd.lays109_ren : Go.Shelf.Ren := ⟨fun | 109 => 57 | n => n, fun | 31 => 22 | 9 => 9 | 3 => 3 | 0 => 0 | 4 => 4 | n => n, fun | n => n⟩
theorem Tryd.lays109 : Go.Proofs.Lays.n109 Tryd.prog Tryd.lays109_ren := {
  mixed := by kernel_rfl
  f109 := Tryd.func57.trans (congrArg some (by kernel_rfl))
  t0 := Tryd.underlying0
  a0 := Tryd.isAgg0
  z0 := Tryd.sizeOf0
  v0 := Tryd.zeroValue0
  t3 := Tryd.underlying3
  a3 := Tryd.isAgg3
  z3 := Tryd.sizeOf3
  v3 := Tryd.zeroValue3
  t4 := Tryd.underlying4
  a4 := Tryd.isAgg4
  z4 := Tryd.sizeOf4
  v4 := Tryd.zeroValue4
  t9 := Tryd.underlying9
  a9 := Tryd.isAgg9
  z9 := Tryd.sizeOf9
  v9 := Tryd.zeroValue9
  t31 := Tryd.underlying22
  a31 := Tryd.isAgg22
  z31 := Tryd.sizeOf22
  v31 := Tryd.zeroValue22 }
open Go.Lib in
/-- slices.Index at []string: "Index returns the index of the first occurrence of v in s, or -1 if not present.": IT RETURNS 'Lib.idxOfS (the elements) v'; the world is as it was. 'zs': what the cells behind the slice's address hold (its spare capacity too, if you have it); 'zs.take n': its elements. (LAID: no walk: one application.) -/
theorem Tryd.slices_Index_string (b off n c : Nat) (zs : List ByteArray) (x : ByteArray) (w : World) (hz : n ≤ zs.length) (hbig : n ≤ 9223372036854775807) (hc : ∀ j, j < zs.length → w.cell? ⟨b, off + j, none⟩ = some (.string (zs.getD j ByteArray.empty))) :
    Calls Tryd.prog 57 #[.slice (some ⟨b, off, none⟩) n c, .string x] w fun e w' => e = .returned (.int .i64 (Lib.idxOfS (zs.take n) x)) ∧ w' = w := Any.slices_Index_string Tryd.lays109 b off n c zs x w hz hbig hc
open Go.Lib in
/-- The same at a slice of length 0, a nil one too: no cell is known, none is asked for. (LAID: no walk: one application.) -/
theorem Tryd.slices_Index_string_empty (a : Option Addr) (c : Nat) (x : ByteArray) (w : World) :
    Calls Tryd.prog 57 #[.slice a 0 c, .string x] w fun e w' => e = .returned (.int .i64 (Lib.idxOfS [] x)) ∧ w' = w := Any.slices_Index_string_empty Tryd.lays109 a c x w
def Tryd.lays110_ren : Go.Shelf.Ren := ⟨fun | 110 => 37 | 109 => 57 | n => n, fun | 31 => 22 | 9 => 9 | 4 => 4 | 3 => 3 | 0 => 0 | n => n, fun | n => n⟩
theorem Tryd.lays110 : Go.Proofs.Lays.n110 Tryd.prog Tryd.lays110_ren := {
  mixed := by kernel_rfl
  f109 := Tryd.func57.trans (congrArg some (by kernel_rfl))
  f110 := Tryd.func37.trans (congrArg some (by kernel_rfl))
  t0 := Tryd.underlying0
  a0 := Tryd.isAgg0
  z0 := Tryd.sizeOf0
  v0 := Tryd.zeroValue0
  t3 := Tryd.underlying3
  a3 := Tryd.isAgg3
  z3 := Tryd.sizeOf3
  v3 := Tryd.zeroValue3
  t4 := Tryd.underlying4
  a4 := Tryd.isAgg4
  z4 := Tryd.sizeOf4
  v4 := Tryd.zeroValue4
  t9 := Tryd.underlying9
  a9 := Tryd.isAgg9
  z9 := Tryd.sizeOf9
  v9 := Tryd.zeroValue9
  t31 := Tryd.underlying22
  a31 := Tryd.isAgg22
  z31 := Tryd.sizeOf22
  v31 := Tryd.zeroValue22 }
open Go.Lib in
/-- slices.Contains at []string: "Contains reports whether v is present in s.": IT RETURNS 'Lib.containsS (the elements) v', which is true just where v is among them ('Lib.containsS_iff'); the world is as it was. ITS CALLEE slices.Index IS MET BY ITS OWN CONTRACT OFF THE SHELF (lay that first): no loop is walked here. (LAID: no walk: one application.) -/
theorem Tryd.slices_Contains_string (b off n c : Nat) (zs : List ByteArray) (x : ByteArray) (w : World) (hz : n ≤ zs.length) (hbig : n ≤ 9223372036854775807) (hc : ∀ j, j < zs.length → w.cell? ⟨b, off + j, none⟩ = some (.string (zs.getD j ByteArray.empty))) :
    Calls Tryd.prog 37 #[.slice (some ⟨b, off, none⟩) n c, .string x] w fun e w' => e = .returned (.bool (Lib.containsS (zs.take n) x)) ∧ w' = w := Any.slices_Contains_string Tryd.lays110 b off n c zs x w hz hbig hc
open Go.Lib in
/-- The same at a slice of length 0, a nil one too. (LAID: no walk: one application.) -/
theorem Tryd.slices_Contains_string_empty (a : Option Addr) (c : Nat) (x : ByteArray) (w : World) :
    Calls Tryd.prog 37 #[.slice a 0 c, .string x] w fun e w' => e = .returned (.bool false) ∧ w' = w := Any.slices_Contains_string_empty Tryd.lays110 a c x w
def Tryd.laysPa41_ren : Go.Shelf.Ren := ⟨fun | 41 => 38 | n => n, fun | 3 => 3 | n => n, fun | n => n⟩
theorem Tryd.laysPa41 : Go.Proofs.Lays.p41 Tryd.prog Tryd.laysPa41_ren := {
  mixed := by kernel_rfl
  f41 := Tryd.func38.trans (congrArg some (by kernel_rfl))
  t3 := Tryd.underlying3
  a3 := Tryd.isAgg3
  z3 := Tryd.sizeOf3
  v3 := Tryd.zeroValue3 }
open Go.RowKit Go.Lib in
/-- encoding/hex.EncodedLen: "EncodedLen returns the length of an encoding of n source bytes. Specifically, it returns n * 2.": for 0 ≤ n < 2^62 (beyond it int's product wraps). (LAID: no walk: one application.) -/
theorem Tryd.hex_EncodedLen (n : Int) (h0 : 0 ≤ n) (h1 : n < 4611686018427387904) (w : World) :
    Calls Tryd.prog 38 #[.int .i64 n] w fun e w' => e = .returned (.int .i64 (n * 2)) ∧ w' = w := Any.hex_EncodedLen Tryd.laysPa41 n h0 h1 w
open Go.RowKit Go.Lib in
/-- encoding/hex.Encode: "Encode encodes src into EncodedLen(len(src)) bytes of dst. As a convenience, it returns the number of bytes written to dst, but this value is always EncodedLen(len(src)). Encode implements hexadecimal encoding.": dst: nd places from place od on of a row (block bd: N cells of uint8, none frozen, holding 'f'), with room for the digits; src: n cells of ANOTHER block, holding the numbers xs, each a byte's. IT RETURNS n * 2; THE ROW THEN HOLDS 'Hx.row f od (the bytes of src) n': the 2 * n digits of 'Hx.encode' from place od on, else what it held; nothing else has turned ('grownBy'). (LAID: no walk: one application.) -/
theorem Tryd.hex_Encode (bd od nd cd N : Nat) (f : Nat → Value) (bs os n cs : Nat) (xs : List Int) (w : World) (hx : xs.length = n) (hr : ∀ i, i < n → 0 ≤ xs.getD i 0 ∧ xs.getD i 0 < 256) (hsrc : ∀ i, i < n → w.cell? ⟨bs, os + i, none⟩ = some (.int .u8 (xs.getD i 0))) (hrow : w.rowIs bd 5 N f) (hfit : od + nd ≤ N) (hlen : 2 * n ≤ nd) (hne : bd ≠ bs) (hbig : n ≤ 4611686018427387903) :
    Calls Tryd.prog 39 #[.slice (some ⟨bd, od, none⟩) nd cd, .slice (some ⟨bs, os, none⟩) n cs] w fun e w' => e = .returned (.int .i64 ((n : Int) * 2)) ∧ w'.rowIs bd 5 N (Hx.row f od (Lib.bytesOf xs) n) ∧ w.grownBy w' (some bd) := Any.hex_Encode Tryd.laysPa40 bd od nd cd N f bs os n cs xs w hx hr hsrc hrow hfit hlen hne hbig
def Tryd.laysPah39_ren : Go.Shelf.Ren := ⟨fun | 39 => 18 | 41 => 38 | 40 => 39 | n => n, fun | 30 => 46 | 9 => 9 | 3 => 3 | 0 => 0 | 5 => 5 | 46 => 45 | n => n, fun | n => n⟩
theorem Tryd.laysPah39 : Go.Proofs.Lays.ph39 Tryd.prog Tryd.laysPah39_ren := {
  mixed := by kernel_rfl
  f39 := Tryd.func18.trans (congrArg some (by kernel_rfl))
  f40 := Tryd.func39.trans (congrArg some (by kernel_rfl))
  f41 := Tryd.func38.trans (congrArg some (by kernel_rfl))
  t0 := Tryd.underlying0
  a0 := Tryd.isAgg0
  z0 := Tryd.sizeOf0
  v0 := Tryd.zeroValue0
  t3 := Tryd.underlying3
  a3 := Tryd.isAgg3
  z3 := Tryd.sizeOf3
  v3 := Tryd.zeroValue3
  t5 := Tryd.underlying5
  a5 := Tryd.isAgg5
  z5 := Tryd.sizeOf5
  v5 := Tryd.zeroValue5
  t9 := Tryd.underlying9
  a9 := Tryd.isAgg9
  z9 := Tryd.sizeOf9
  v9 := Tryd.zeroValue9
  t30 := Tryd.underlying46
  a30 := Tryd.isAgg46
  z30 := Tryd.sizeOf46
  v30 := Tryd.zeroValue46
  t46 := Tryd.underlying45
  a46 := Tryd.isAgg45
  z46 := Tryd.sizeOf45
  v46 := Tryd.zeroValue45
  info5 := by kernel_rfl }
open Go.RowKit Go.Lib in
/-- encoding/hex.EncodeToString: "EncodeToString returns the hexadecimal encoding of src.": src: n cells holding the numbers xs, each a byte's. IT RETURNS THE STRING OF 'Hx.encode (the bytes of src)'; what was there before the call is as it was ('Below': the call lays one new block). IT ASKS 2 * n ≤ 2^48 (makeslice's own limit). (LAID: no walk: one application.) -/
theorem Tryd.hex_EncodeToString (bs os n cs : Nat) (xs : List Int) (w : World) (hx : xs.length = n) (hr : ∀ i, i < n → 0 ≤ xs.getD i 0 ∧ xs.getD i 0 < 256) (hsrc : ∀ i, i < n → w.cell? ⟨bs, os + i, none⟩ = some (.int .u8 (xs.getD i 0))) (hb : bs < w.heap.size) (hbig : 2 * n ≤ 281474976710656) :
    Calls Tryd.prog 18 #[.slice (some ⟨bs, os, none⟩) n cs] w fun e w' => e = .returned (.string ⟨(Hx.encode (Lib.bytesOf xs)).toArray⟩) ∧ Below w.heap.size w w' := Any.hex_EncodeToString Tryd.laysPah39 bs os n cs xs w hx hr hsrc hb hbig
open Go.RowKit Go.Lib in
/-- encoding/hex.Encode AT A src THAT IS nil: nothing is written; it returns 0. (dst: whatever value.) (LAID: no walk: one application.) -/
theorem Tryd.hex_Encode_nil (dst : Value) (w : World) :
    Calls Tryd.prog 39 #[dst, .slice none 0 0] w fun e w' => e = .returned (.int .i64 0) ∧ w' = w := Any.hex_Encode_nil Tryd.laysPa40 dst w
open Go.RowKit Go.Lib in
/-- encoding/hex.EncodeToString AT A src THAT IS nil: IT RETURNS ""; what was there before the call is as it was. (LAID: no walk: one application.) -/
theorem Tryd.hex_EncodeToString_nil (w : World) :
    Calls Tryd.prog 18 #[.slice none 0 0] w fun e w' => e = .returned (.string ⟨#[]⟩) ∧ Below w.heap.size w w' := Any.hex_EncodeToString_nil Tryd.laysPah39 w
open Go.RowKit Go.Lib in
/-- encoding/hex.Decode, FOR EVERY src THAT IS NOT nil: "Decode decodes src into DecodedLen(len(src)) bytes, returning the actual number of bytes written to dst. Decode expects that src contains only hexadecimal characters and that src has even length. If the input is malformed, Decode returns the number of bytes decoded before the error.": dst: nd places from place od on of a row (block bd), with room for len(src) / 2 bytes; src: n cells of ANOTHER block, holding the numbers xs, each a byte's; 'ev': what the variable encoding/hex.ErrLength holds. IT RETURNS (how many bytes 'Hx.decode' gives, the error by how it ends: nil ¦ InvalidByteError(c) ¦ ErrLength's content); THE ROW THEN HOLDS those bytes from place od on ('Hx.rowP'); nothing else has turned. (LAID: no walk: one application.) -/
theorem Tryd.hex_Decode (bd od nd cd N : Nat) (f : Nat → Value) (bs os n cs : Nat) (xs : List Int) (w : World) (ev : Value) (hx : xs.length = n) (hr : ∀ i, i < n → 0 ≤ xs.getD i 0 ∧ xs.getD i 0 < 256) (hsrc : ∀ i, i < n → w.cell? ⟨bs, os + i, none⟩ = some (.int .u8 (xs.getD i 0))) (hrow : w.rowIs bd 5 N f) (hfit : od + nd ≤ N) (hlen : n / 2 ≤ nd) (hne : bd ≠ bs) (hbig : n ≤ 4611686018427387903) (hE : w.cell? ⟨0, 0, none⟩ = some ev) (hgb : 0 ≠ bd) :
    Calls Tryd.prog 44 #[.slice (some ⟨bd, od, none⟩) nd cd, .slice (some ⟨bs, os, none⟩) n cs] w fun e w' =>
      e = .returned (.tuple #[.int .i64 ((Hx.decode (Lib.bytesOf xs)).1.length : Int), Hx.errVal 89 ev (Hx.decode (Lib.bytesOf xs)).2]) ∧ w'.rowIs bd 5 N (Hx.rowP f od (Hx.decode (Lib.bytesOf xs)).1) ∧ w.grownBy w' (some bd) := Any.hex_Decode Tryd.laysPa44 bd od nd cd N f bs os n cs xs w ev hx hr hsrc hrow hfit hlen hne hbig hE hgb
open Go.RowKit Go.Lib in
/-- encoding/hex.Decode AT A src THAT IS nil: nothing is written; it returns (0, nil). (dst: whatever value.) (LAID: no walk: one application.) -/
theorem Tryd.hex_Decode_nil (dst : Value) (w : World) :
    Calls Tryd.prog 44 #[dst, .slice none 0 0] w fun e w' => e = .returned (.tuple #[.int .i64 0, .nilIface]) ∧ w' = w := Any.hex_Decode_nil Tryd.laysPa44 dst w
open Go.RowKit Go.Lib in
/-- encoding/hex.EncodeToString, the slice's content held AS BYTES. (LAID: no walk: one application.) -/
theorem Tryd.hex_EncodeToString_bytes (bs os cs : Nat) (l : List UInt8) (w : World) (hsrc : ∀ i (h : i < l.length), w.cell? ⟨bs, os + i, none⟩ = some (.int .u8 ((l[i]'h).toNat : Int))) (hb : bs < w.heap.size) (hbig : 2 * l.length ≤ 281474976710656) :
    Calls Tryd.prog 18 #[.slice (some ⟨bs, os, none⟩) l.length cs] w fun e w' => e = .returned (.string ⟨(Hx.encode l).toArray⟩) ∧ Below w.heap.size w w' := Any.hex_EncodeToString_bytes Tryd.laysPah39 bs os cs l w hsrc hb hbig
open Go.RowKit in
theorem Tryd.strings_Trim_empty (s cutset : ByteArray) (w : World) (h : s.size = 0 ∨ cutset.size = 0) :
    Calls Tryd.prog 33 #[.string s, .string cutset] w fun e w' => e = .returned (.string s) ∧ w' = w := Any.strings_Trim_empty Tryd.lays160 s cutset w h
end Go.Proofs
