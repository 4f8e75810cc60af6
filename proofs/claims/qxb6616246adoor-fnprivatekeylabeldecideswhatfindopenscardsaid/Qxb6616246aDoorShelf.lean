/-
  DERIVED: THE SHELF's CONTRACTS AT THIS DUMP, IN PLAIN WORDS (tools/lay-plain.mjs out of 'Qxb6616246aDoorShelf.lean', which tools/lay-shelf.mjs wrote): THE SAME DECLARATIONS UNDER THE SAME NAMES: 'import', 'namespace', 'open', 'def', 'theorem' AND NOTHING ELSE: no command of the shelf's: FOR A HAND-IN. Each laying: the table of numbers ('.._ren') and one theorem, a field a fact of the dump's own or the kernel's comparison; each contract: ONE APPLICATION.
-/
import Derived.Shelf.Small.Utf8
import Derived.Shelf.Strings.Search1
import Derived.Shelf.Bytes.SlIndexSmall
import Derived.Shelf.Bytes.SlIndexAt
import Derived.Shelf.Bytes.SlSearch0
import Derived.Shelf.Bytes.SlSearch1
import Derived.Shelf.Bytes.SlSearch2
import Derived.Shelf.Bytes.SlIndexWhole
import Derived.Shelf.LaysM
import Derived.Shelf.Bytes.SlSmallAll
import Derived.Shelf.Bytes.SlEqualAll
import Derived.Shelf.Bytes.Small
import Derived.Shelf.Bytes.IndexByte
import Derived.Ground.SlbvProg
import Derived.Shelf.Bytes.SlTrim
import Derived.Test.Qxb6616246aDoorProg
namespace Go.Proofs
open Go.Shelf
def Tryd.lays120_ren : Go.Shelf.Ren := ⟨fun | 120 => 54 | n => n, fun | 5 => 5 | 4 => 4 | n => n, fun | n => n⟩
theorem Tryd.lays120 : Go.Proofs.Lays.n120 Tryd.prog Tryd.lays120_ren := {
  mixed := by kernel_rfl
  f120 := Tryd.func54.trans (congrArg some (by kernel_rfl))
  t4 := Tryd.underlying4
  a4 := Tryd.isAgg4
  z4 := Tryd.sizeOf4
  v4 := Tryd.zeroValue4
  t5 := Tryd.underlying5
  a5 := Tryd.isAgg5
  z5 := Tryd.sizeOf5
  v5 := Tryd.zeroValue5 }
/-- utf8.RuneStart: "RuneStart reports whether the byte could be the first byte of an encoded, possibly invalid rune. Second and subsequent bytes always have the top two bits set to 10.": IT RETURNS 'Lib.runeStart b'; the world is as it was. ('h0', 'h1': b is a byte: a caller has it of every byte that it was handed.) (LAID: no walk: one application.) -/
theorem Tryd.utf8_RuneStart (b : Int) (w : World) (h0 : 0 ≤ b) (h1 : b < 256) :
    Calls Tryd.prog 54 #[.int .u8 b] w fun e w' => e = .returned (.bool (Lib.runeStart b)) ∧ w' = w := Any.utf8_RuneStart Tryd.lays120 b w h0 h1
def Tryd.lays224_ren : Go.Shelf.Ren := ⟨fun | 224 => 41 | n => n, fun | 3 => 3 | n => n, fun | n => n⟩
theorem Tryd.lays224 : Go.Proofs.Lays.n224 Tryd.prog Tryd.lays224_ren := {
  mixed := by kernel_rfl
  f224 := Tryd.func41.trans (congrArg some (by kernel_rfl))
  t3 := Tryd.underlying3
  a3 := Tryd.isAgg3
  z3 := Tryd.sizeOf3
  v3 := Tryd.zeroValue3 }
open Go.RowKit Go.Lib in
/-- internal/bytealg.Cutover: "Cutover reports the number of failures of IndexByte we should tolerate before switching over to Index. n is the number of bytes processed so far.": on amd64: (n + 16) / 8. (LAID: no walk: one application.) -/
theorem Tryd.bytealg_Cutover (n : Int) (h0 : 0 ≤ n) (h1 : n < 4611686018427387904) (w : World) :
    Calls Tryd.prog 41 #[.int .i64 n] w fun e w' => e = .returned (.int .i64 ((n + 16) / 8)) ∧ w' = w := Any.bytealg_Cutover Tryd.lays224 n h0 h1 w
def Tryd.lays185_ren : Go.Shelf.Ren := ⟨fun | 185 => 32 | 187 => 34 | 115 => 39 | 253 => 40 | 224 => 41 | 254 => 42 | 255 => 44 | 291 => 50 | n => n, fun | 37 => 22 | 3 => 3 | 4 => 4 | 0 => 0 | 5 => 5 | 46 => 53 | 9 => 9 | 146 => 62 | 51 => 61 | n => n, fun | 1 => 0 | n => n⟩
theorem Tryd.lays185 : Go.Proofs.Lays.n185 Tryd.prog Tryd.lays185_ren := {
  mixed := by kernel_rfl
  f115 := Tryd.func39.trans (congrArg some (by kernel_rfl))
  f185 := Tryd.func32.trans (congrArg some (by kernel_rfl))
  f187 := Tryd.func34.trans (congrArg some (by kernel_rfl))
  f224 := Tryd.func41.trans (congrArg some (by kernel_rfl))
  f253 := Tryd.func40.trans (congrArg some (by kernel_rfl))
  f254 := Tryd.func42.trans (congrArg some (by kernel_rfl))
  f255 := Tryd.func44.trans (congrArg some (by kernel_rfl))
  f291 := Tryd.func50.trans (congrArg some (by kernel_rfl))
  t0 := Tryd.underlying0
  a0 := Tryd.isAgg0
  z0 := Tryd.sizeOf0
  v0 := Tryd.zeroValue0
  t3 := Tryd.underlying3
  a3 := Tryd.isAgg3
  z3 := Tryd.sizeOf3
  v3 := Tryd.zeroValue3
  t4 := Tryd.underlying4
  a4 := Tryd.isAgg4
  z4 := Tryd.sizeOf4
  v4 := Tryd.zeroValue4
  t5 := Tryd.underlying5
  a5 := Tryd.isAgg5
  z5 := Tryd.sizeOf5
  v5 := Tryd.zeroValue5
  t9 := Tryd.underlying9
  a9 := Tryd.isAgg9
  z9 := Tryd.sizeOf9
  v9 := Tryd.zeroValue9
  t37 := Tryd.underlying22
  a37 := Tryd.isAgg22
  z37 := Tryd.sizeOf22
  v37 := Tryd.zeroValue22
  t46 := Tryd.underlying53
  a46 := Tryd.isAgg53
  z46 := Tryd.sizeOf53
  v46 := Tryd.zeroValue53
  t51 := Tryd.underlying61
  a51 := Tryd.isAgg61
  z51 := Tryd.sizeOf61
  v51 := Tryd.zeroValue61
  t146 := Tryd.underlying62
  a146 := Tryd.isAgg62
  z146 := Tryd.sizeOf62
  v146 := Tryd.zeroValue62
  g1 := by kernel_rfl }
open Go.RowKit Go.Lib in
/-- bytes.Index at a separator of one byte: "Index returns the index of the first instance of sep in s, or -1 if sep is not present in s.": 'Lib.indexByte' of s's bytes and that byte; the world is as it was. 'xs': s's elements; 'cv': the separator's one byte. (LAID: no walk: one application.) -/
theorem Tryd.bytes_Index_one (b o n c b2 o2 d : Nat) (xs : List Int) (cv : Int) (w : World) (hx : xs.length = n) (hc : ∀ i, i < n → w.cell? ⟨b, o + i, none⟩ = some (.int .u8 (xs.getD i 0))) (hc2 : w.cell? ⟨b2, o2, none⟩ = some (.int .u8 cv)) :
    Calls Tryd.prog 32 #[.slice (some ⟨b, o, none⟩) n c, .slice (some ⟨b2, o2, none⟩) 1 d] w fun e w' => e = .returned (.int .i64 (Lib.indexByte (Lib.bytesOf xs) cv.toNat.toUInt8)) ∧ w' = w := Any.bytes_Index_one Tryd.lays185 b o n c b2 o2 d xs cv w hx hc hc2
open Go.RowKit Go.Lib in
/-- The same where s is nil: -1. (LAID: no walk: one application.) -/
theorem Tryd.bytes_Index_one_nil (b2 o2 d : Nat) (cv : Int) (w : World) (hc2 : w.cell? ⟨b2, o2, none⟩ = some (.int .u8 cv)) :
    Calls Tryd.prog 32 #[.slice none 0 0, .slice (some ⟨b2, o2, none⟩) 1 d] w fun e w' => e = .returned (.int .i64 (-1)) ∧ w' = w := Any.bytes_Index_one_nil Tryd.lays185 b2 o2 d cv w hc2
open Go.RowKit Go.Lib in
/-- bytes.Index at a separator of no byte (nil too): 0, whatever s. (LAID: no walk: one application.) -/
theorem Tryd.bytes_Index_none (p q : Option Addr) (n c d : Nat) (w : World) :
    Calls Tryd.prog 32 #[.slice p n c, .slice q 0 d] w fun e w' => e = .returned (.int .i64 0) ∧ w' = w := Any.bytes_Index_none Tryd.lays185 p q n c d w
open Go.RowKit Go.Lib in
/-- bytes.Index at a separator of two bytes or more that is longer than s: -1; no cell is read. (LAID: no walk: one application.) -/
theorem Tryd.bytes_Index_longer (p q : Option Addr) (n c m d : Nat) (w : World) (h2 : 2 ≤ m) (hnm : n < m) (hm : m ≤ 9223372036854775807) :
    Calls Tryd.prog 32 #[.slice p n c, .slice q m d] w fun e w' => e = .returned (.int .i64 (-1)) ∧ w' = w := Any.bytes_Index_longer Tryd.lays185 p q n c m d w h2 hnm hm
open Go.RowKit Go.Lib in
/-- bytes.Index at a separator of two bytes or more that is JUST AS LONG as s: 0 where the two hold the same bytes, else -1. (LAID: no walk: one application.) -/
theorem Tryd.bytes_Index_same (b o c b2 o2 d n : Nat) (xs ys : List Int) (w : World) (h2 : 2 ≤ n) (hm : n ≤ 9223372036854775807) (hx : xs.length = n) (hy : ys.length = n) (hc : ∀ i, i < n → w.cell? ⟨b, o + i, none⟩ = some (.int .u8 (xs.getD i 0))) (hc2 : ∀ i, i < n → w.cell? ⟨b2, o2 + i, none⟩ = some (.int .u8 (ys.getD i 0))) :
    Calls Tryd.prog 32 #[.slice (some ⟨b, o, none⟩) n c, .slice (some ⟨b2, o2, none⟩) n d] w fun e w' => e = .returned (.int .i64 (if Lib.bytesOf ys == Lib.bytesOf xs then 0 else -1)) ∧ w' = w := Any.bytes_Index_same Tryd.lays185 b o c b2 o2 d n xs ys w h2 hm hx hy hc hc2
def Tryd.lays187_ren : Go.Shelf.Ren := ⟨fun | 187 => 34 | 255 => 44 | n => n, fun | 37 => 22 | 5 => 5 | 3 => 3 | n => n, fun | n => n⟩
theorem Tryd.lays187 : Go.Proofs.Lays.n187 Tryd.prog Tryd.lays187_ren := {
  mixed := by kernel_rfl
  f187 := Tryd.func34.trans (congrArg some (by kernel_rfl))
  f255 := Tryd.func44.trans (congrArg some (by kernel_rfl))
  t3 := Tryd.underlying3
  a3 := Tryd.isAgg3
  z3 := Tryd.sizeOf3
  v3 := Tryd.zeroValue3
  t5 := Tryd.underlying5
  a5 := Tryd.isAgg5
  z5 := Tryd.sizeOf5
  v5 := Tryd.zeroValue5
  t37 := Tryd.underlying22
  a37 := Tryd.isAgg22
  z37 := Tryd.sizeOf22
  v37 := Tryd.zeroValue22 }
open Go.RowKit Go.Lib in
/-- bytes.IndexByte, b at whatever address: "IndexByte returns the index of the first instance of c in b, or -1 if c is not present in b." (LAID: no walk: one application.) -/
theorem Tryd.bytes_IndexByte_at (a : Addr) (n c : Nat) (xs : List Int) (cv : Int) (w : World) (hx : xs.length = n) (hc : ∀ i, i < n → w.cell? (a.add i) = some (.int .u8 (xs.getD i 0))) :
    Calls Tryd.prog 34 #[.slice (some a) n c, .int .u8 cv] w fun e w' => e = .returned (.int .i64 (Lib.indexByte (Lib.bytesOf xs) cv.toNat.toUInt8)) ∧ w' = w := Any.bytes_IndexByte_at Tryd.lays187 a n c xs cv w hx hc
open Go.RowKit Go.Lib in
/-- bytes.Index at a separator of one byte, s at whatever address. (LAID: no walk: one application.) -/
theorem Tryd.bytes_Index_one_at (a : Addr) (n c b2 o2 d : Nat) (xs : List Int) (cv : Int) (w : World) (hx : xs.length = n) (hc : ∀ i, i < n → w.cell? (a.add i) = some (.int .u8 (xs.getD i 0))) (hc2 : w.cell? ⟨b2, o2, none⟩ = some (.int .u8 cv)) :
    Calls Tryd.prog 32 #[.slice (some a) n c, .slice (some ⟨b2, o2, none⟩) 1 d] w fun e w' => e = .returned (.int .i64 (Lib.indexByte (Lib.bytesOf xs) cv.toNat.toUInt8)) ∧ w' = w := Any.bytes_Index_one_at Tryd.lays185 a n c b2 o2 d xs cv w hx hc hc2
open Go.Proofs Go.RowKit Go.Lib in
/-- bytes.IndexByte, the slice's bytes told by a ByteArray. (LAID: no walk: one application.) -/
theorem Tryd.bytes_IndexByte_bytes (b o cap : Nat) (t : ByteArray) (cv : Int) (w : World) (hc : Lib.Bytes w b o t) :
    Calls Tryd.prog 34 #[.slice (some ⟨b, o, none⟩) t.size cap, .int .u8 cv] w fun e w' => e = .returned (.int .i64 (Lib.indexByte t.data.toList cv.toNat.toUInt8)) ∧ w' = w := Any.bytes_IndexByte_bytes Tryd.lays187 b o cap t cv w hc
def Tryd.lays115_ren : Go.Shelf.Ren := ⟨fun | 115 => 39 | n => n, fun | 37 => 22 | 4 => 4 | 9 => 9 | 5 => 5 | n => n, fun | n => n⟩
theorem Tryd.lays115 : Go.Proofs.Lays.n115 Tryd.prog Tryd.lays115_ren := {
  mixed := by kernel_rfl
  f115 := Tryd.func39.trans (congrArg some (by kernel_rfl))
  t4 := Tryd.underlying4
  a4 := Tryd.isAgg4
  z4 := Tryd.sizeOf4
  v4 := Tryd.zeroValue4
  t9 := Tryd.underlying9
  a9 := Tryd.isAgg9
  z9 := Tryd.sizeOf9
  v9 := Tryd.zeroValue9
  t37 := Tryd.underlying22
  a37 := Tryd.isAgg22
  z37 := Tryd.sizeOf22
  v37 := Tryd.zeroValue22 }
open Go.Proofs Go.RowKit Go.Lib in
/-- bytes.Equal, each argument with what 'string(..)' of it gives. (LAID: no walk: one application.) -/
theorem Tryd.bytes_Equal_strs (v1 v2 : Value) (t1 t2 : ByteArray) (w : World) (h1 : (convert 22 9 v1).run Tryd.prog w = .ok (.string t1) w) (h2 : (convert 22 9 v2).run Tryd.prog w = .ok (.string t2) w) :
    Calls Tryd.prog 39 #[v1, v2] w fun e w' => e = .returned (.bool (t1.toList == t2.toList)) ∧ w' = w := Any.bytes_Equal_strs Tryd.lays115 v1 v2 t1 t2 w h1 h2
def Tryd.lays291_ren : Go.Shelf.Ren := ⟨fun | 291 => 50 | n => n, fun | 37 => 22 | 51 => 61 | 3 => 3 | 4 => 4 | 0 => 0 | 5 => 5 | 46 => 53 | n => n, fun | n => n⟩
theorem Tryd.lays291 : Go.Proofs.Lays.n291 Tryd.prog Tryd.lays291_ren := {
  mixed := by kernel_rfl
  f291 := Tryd.func50.trans (congrArg some (by kernel_rfl))
  t0 := Tryd.underlying0
  a0 := Tryd.isAgg0
  z0 := Tryd.sizeOf0
  v0 := Tryd.zeroValue0
  t3 := Tryd.underlying3
  a3 := Tryd.isAgg3
  z3 := Tryd.sizeOf3
  v3 := Tryd.zeroValue3
  t4 := Tryd.underlying4
  a4 := Tryd.isAgg4
  z4 := Tryd.sizeOf4
  v4 := Tryd.zeroValue4
  t5 := Tryd.underlying5
  a5 := Tryd.isAgg5
  z5 := Tryd.sizeOf5
  v5 := Tryd.zeroValue5
  t37 := Tryd.underlying22
  a37 := Tryd.isAgg22
  z37 := Tryd.sizeOf22
  v37 := Tryd.zeroValue22
  t46 := Tryd.underlying53
  a46 := Tryd.isAgg53
  z46 := Tryd.sizeOf53
  v46 := Tryd.zeroValue53
  t51 := Tryd.underlying61
  a51 := Tryd.isAgg61
  z51 := Tryd.sizeOf61
  v51 := Tryd.zeroValue61 }
open Go.RowKit Go.Lib in
/-- hashStr at []byte: "returns the hash and the appropriate multiplicative factor for use in Rabin-Karp algorithm": THE HASH OF ALL OF sep, AND 16777619 ^ len(sep), both in uint32. THE SLICE's BYTES ARE TOLD BY A ByteArray: cell i holds 'sep[i]': so the laws that were typed for strings (Derived/Lib/RabinKarpLaws.lean) serve as they lie. (LAID: no walk: one application.) -/
theorem Tryd.bytealg_hashStr_bytes (b o c : Nat) (sep : ByteArray) (hs : sep.size < 4294967281) (w : World) (hc : Lib.Bytes w b o sep) :
    Calls Tryd.prog 50 #[.slice (some ⟨b, o, none⟩) sep.size c] w fun e w' => e = .returned (.tuple #[.int .u32 (RK.H sep.data.toList % 4294967296), .int .u32 (16777619 ^ sep.size % 4294967296)]) ∧ w' = w := Any.bytealg_hashStr_bytes Tryd.lays291 b o c sep hs w hc
def Tryd.lays254_ren : Go.Shelf.Ren := ⟨fun | 254 => 42 | 291 => 50 | n => n, fun | 37 => 22 | 3 => 3 | 146 => 62 | 51 => 61 | 4 => 4 | 0 => 0 | 5 => 5 | 9 => 9 | 46 => 53 | n => n, fun | n => n⟩
theorem Tryd.lays254 : Go.Proofs.Lays.n254 Tryd.prog Tryd.lays254_ren := {
  mixed := by kernel_rfl
  f254 := Tryd.func42.trans (congrArg some (by kernel_rfl))
  f291 := Tryd.func50.trans (congrArg some (by kernel_rfl))
  t0 := Tryd.underlying0
  a0 := Tryd.isAgg0
  z0 := Tryd.sizeOf0
  v0 := Tryd.zeroValue0
  t3 := Tryd.underlying3
  a3 := Tryd.isAgg3
  z3 := Tryd.sizeOf3
  v3 := Tryd.zeroValue3
  t4 := Tryd.underlying4
  a4 := Tryd.isAgg4
  z4 := Tryd.sizeOf4
  v4 := Tryd.zeroValue4
  t5 := Tryd.underlying5
  a5 := Tryd.isAgg5
  z5 := Tryd.sizeOf5
  v5 := Tryd.zeroValue5
  t9 := Tryd.underlying9
  a9 := Tryd.isAgg9
  z9 := Tryd.sizeOf9
  v9 := Tryd.zeroValue9
  t37 := Tryd.underlying22
  a37 := Tryd.isAgg22
  z37 := Tryd.sizeOf22
  v37 := Tryd.zeroValue22
  t46 := Tryd.underlying53
  a46 := Tryd.isAgg53
  z46 := Tryd.sizeOf53
  v46 := Tryd.zeroValue53
  t51 := Tryd.underlying61
  a51 := Tryd.isAgg61
  z51 := Tryd.sizeOf61
  v51 := Tryd.zeroValue61
  t146 := Tryd.underlying62
  a146 := Tryd.isAgg62
  z146 := Tryd.sizeOf62
  v146 := Tryd.zeroValue62 }
open Go.RowKit Go.Lib in
/-- IndexRabinKarp at []byte: "IndexRabinKarp uses the Rabin-Karp search algorithm to return the index of the first occurrence of sep in s, or -1 if not present.": 'Lib.index' of the two lists of bytes; the world is as it was but for the count of draws (the test 'h == hashss && string(..) == string(sep)' draws its order). After a hand of the authors' house's 'Any.bytealg_IndexRabinKarp' (Derived/Shelf/Strings/Search1.lean): the invariants and the closings are that text's. (LAID: no walk: one application.) -/
theorem Tryd.bytealg_IndexRabinKarp_bytes (b1 o1 c1 b2 o2 c2 : Nat) (s sep : ByteArray) (h1 : 1 ≤ sep.size) (h2 : sep.size ≤ s.size) (hs : s.size < 4294967281) (w : World) (hc1 : Lib.Bytes w b1 o1 s) (hc2 : Lib.Bytes w b2 o2 sep) (hcap : s.size ≤ c1) :
    Calls Tryd.prog 42 #[.slice (some ⟨b1, o1, none⟩) s.size c1, .slice (some ⟨b2, o2, none⟩) sep.size c2] w fun e w' => e = .returned (.int .i64 (Lib.index s.data.toList sep.data.toList)) ∧ ∃ q, w' = w.drewN q := Any.bytealg_IndexRabinKarp_bytes Tryd.lays254 b1 o1 c1 b2 o2 c2 s sep h1 h2 hs w hc1 hc2 hcap
open Go.RowKit Go.Lib in
/-- bytes.Index: "Index returns the index of the first instance of sep in s, or -1 if sep is not present in s.": 'Lib.index' of the two lists of bytes. (LAID: no walk: one application.) -/
theorem Tryd.bytes_Index_search (b1 o1 c1 b2 o2 c2 : Nat) (s sub : ByteArray) (m : Int) (w : World) (hs : s.size < 4294967281) (hm : w.cell? ⟨0, 0, none⟩ = some (.int .i64 m)) (hc1 : Lib.Bytes w b1 o1 s) (hc2 : Lib.Bytes w b2 o2 sub) (hcap : s.size ≤ c1) (hn2 : 2 ≤ sub.size) (hls : sub.size < s.size) :
    Calls Tryd.prog 32 #[.slice (some ⟨b1, o1, none⟩) s.size c1, .slice (some ⟨b2, o2, none⟩) sub.size c2] w fun e w' => e = .returned (.int .i64 (Lib.index s.data.toList sub.data.toList)) ∧ ∃ q, w' = w.drewN q := Any.bytes_Index_search Tryd.lays185 b1 o1 c1 b2 o2 c2 s sub m w hs hm hc1 hc2 hcap hn2 hls
open Go.Proofs Go.RowKit Go.Lib in
/-- bytes.Index, WHOLE: "Index returns the index of the first instance of sep in s, or -1 if sep is not present in s.": 'Lib.index' of the two lists of bytes. (LAID: no walk: one application.) -/
theorem Tryd.bytes_Index_at (a1 a2 : Addr) (n c1 k c2 : Nat) (xs ys : List Int) (m : Int) (w : World) (hx : xs.length = n) (hy : ys.length = k) (hr1 : ∀ x ∈ xs, 0 ≤ x ∧ x < 256) (hr2 : ∀ y ∈ ys, 0 ≤ y ∧ y < 256) (hc1 : ∀ i, i < n → w.cell? (a1.add i) = some (.int .u8 (xs.getD i 0))) (hc2 : ∀ i, i < k → w.cell? (a2.add i) = some (.int .u8 (ys.getD i 0))) (hcap : n ≤ c1) (hs : n < 4294967281) (hk : k ≤ 9223372036854775807) (hm : w.cell? ⟨0, 0, none⟩ = some (.int .i64 m)) :
    Calls Tryd.prog 32 #[.slice (some a1) n c1, .slice (some a2) k c2] w fun e w' => e = .returned (.int .i64 (Lib.index (Lib.bytesOf xs) (Lib.bytesOf ys))) ∧ ∃ q, w' = w.drewN q := Any.bytes_Index_at Tryd.lays185 a1 a2 n c1 k c2 xs ys m w hx hy hr1 hr2 hc1 hc2 hcap hs hk hm
open Go.Proofs Go.RowKit Go.Lib in
/-- bytes.Index where s is nil: 0 at a separator of no byte, else -1. (LAID: no walk: one application.) -/
theorem Tryd.bytes_Index_nil (p2 : Option Addr) (k c2 : Nat) (w : World) (hk : k ≤ 9223372036854775807) (h1 : k = 1 → ∃ b2 o2 cv, p2 = some ⟨b2, o2, none⟩ ∧ w.cell? ⟨b2, o2, none⟩ = some (.int .u8 cv)) :
    Calls Tryd.prog 32 #[.slice none 0 0, .slice p2 k c2] w fun e w' => e = .returned (.int .i64 (if k = 0 then 0 else -1)) ∧ w' = w := Any.bytes_Index_nil Tryd.lays185 p2 k c2 w hk h1
def Tryd.laysM185_ren : Go.Shelf.Ren := ⟨fun | 185 => 32 | 187 => 34 | 115 => 39 | 253 => 40 | 224 => 41 | 254 => 42 | 255 => 44 | 291 => 50 | n => n, fun | 37 => 22 | 3 => 3 | 4 => 4 | 0 => 0 | 5 => 5 | 46 => 53 | 9 => 9 | 146 => 62 | 51 => 61 | n => n, fun | 1 => 0 | n => n⟩
theorem Tryd.laysM185 : Go.Proofs.LaysM.n185 Tryd.prog Tryd.laysM185_ren := {
  mixed := by kernel_rfl
  f115 := Tryd.func39.trans (congrArg some (by kernel_rfl))
  f185 := Tryd.func32.trans (congrArg some (by kernel_rfl))
  f187 := Tryd.func34.trans (congrArg some (by kernel_rfl))
  f224 := Tryd.func41.trans (congrArg some (by kernel_rfl))
  f253 := Tryd.func40.trans (congrArg some (by kernel_rfl))
  f254 := Tryd.func42.trans (congrArg some (by kernel_rfl))
  f255 := Tryd.func44.trans (congrArg some (by kernel_rfl))
  f291 := Tryd.func50.trans (congrArg some (by kernel_rfl))
  t0 := Tryd.underlying0
  a0 := Tryd.isAgg0
  z0 := Tryd.sizeOf0
  v0 := Tryd.zeroValue0
  t3 := Tryd.underlying3
  a3 := Tryd.isAgg3
  z3 := Tryd.sizeOf3
  v3 := Tryd.zeroValue3
  t4 := Tryd.underlying4
  a4 := Tryd.isAgg4
  z4 := Tryd.sizeOf4
  v4 := Tryd.zeroValue4
  t5 := Tryd.underlying5
  a5 := Tryd.isAgg5
  z5 := Tryd.sizeOf5
  v5 := Tryd.zeroValue5
  t9 := Tryd.underlying9
  a9 := Tryd.isAgg9
  z9 := Tryd.sizeOf9
  v9 := Tryd.zeroValue9
  t37 := Tryd.underlying22
  a37 := Tryd.isAgg22
  z37 := Tryd.sizeOf22
  v37 := Tryd.zeroValue22
  t46 := Tryd.underlying53
  a46 := Tryd.isAgg53
  z46 := Tryd.sizeOf53
  v46 := Tryd.zeroValue53
  t51 := Tryd.underlying61
  a51 := Tryd.isAgg61
  z51 := Tryd.sizeOf61
  v51 := Tryd.zeroValue61
  t146 := Tryd.underlying62
  a146 := Tryd.isAgg62
  z146 := Tryd.sizeOf62
  v146 := Tryd.zeroValue62
  g1 := by kernel_rfl
  i0 := by kernel_rfl
  i3 := by kernel_rfl
  i4 := by kernel_rfl
  i5 := by kernel_rfl
  i9 := by kernel_rfl
  i37 := by kernel_rfl
  i46 := by kernel_rfl
  i51 := by kernel_rfl
  i146 := by kernel_rfl
  m1 := by kernel_rfl
  s1_3 := fun w h => Go.Proofs.cell_of_shapedOpen_int (zero := #[.int .i64 0]) (t := 3) h (of_decide_eq_true (by kernel_rfl)) (by kernel_rfl) rfl (by kernel_rfl) (by kernel_rfl) Tryd.underlying3 }
open Go.Proofs Go.RowKit Go.Lib in
/-- .. AT A ROW's OWN FIRST WORLD: 'World.ShapedOpen P' in the place of the word on internal/bytealg.MaxLen's cell (after a hand of the authors' house's Derived/Shelf/Strings/Shaped.lean). ✋ BEHIND AN ALLOCATION (a separator typed as '[]byte("..")') the world is the first no more: take 'let ⟨m, hm⟩ := L.s1_3 W h' at the first world and carry the cell over ('Lib.cell?_alloc_marked'), then the form above. (LAID: no walk: one application.) -/
theorem Tryd.bytes_Index_at_shaped (a1 a2 : Addr) (n c1 k c2 : Nat) (xs ys : List Int) (w : World) (hx : xs.length = n) (hy : ys.length = k) (hr1 : ∀ x ∈ xs, 0 ≤ x ∧ x < 256) (hr2 : ∀ y ∈ ys, 0 ≤ y ∧ y < 256) (hc1 : ∀ i, i < n → w.cell? (a1.add i) = some (.int .u8 (xs.getD i 0))) (hc2 : ∀ i, i < k → w.cell? (a2.add i) = some (.int .u8 (ys.getD i 0))) (hcap : n ≤ c1) (hs : n < 4294967281) (hk : k ≤ 9223372036854775807) (h : w.ShapedOpen Tryd.prog) :
    Calls Tryd.prog 32 #[.slice (some a1) n c1, .slice (some a2) k c2] w fun e w' => e = .returned (.int .i64 (Lib.index (Lib.bytesOf xs) (Lib.bytesOf ys))) ∧ ∃ q, w' = w.drewN q := Any.bytes_Index_at_shaped Tryd.laysM185 a1 a2 n c1 k c2 xs ys w hx hy hr1 hr2 hc1 hc2 hcap hs hk h
def Tryd.laysnb116_ren : Go.Shelf.Ren := ⟨fun | 116 => 49 | 115 => 39 | n => n, fun | 37 => 22 | 4 => 4 | 3 => 3 | 9 => 9 | 5 => 5 | n => n, fun | n => n⟩
theorem Tryd.laysnb116 : Go.Proofs.Lays.nb116 Tryd.prog Tryd.laysnb116_ren := {
  mixed := by kernel_rfl
  f115 := Tryd.func39.trans (congrArg some (by kernel_rfl))
  f116 := Tryd.func49.trans (congrArg some (by kernel_rfl))
  t3 := Tryd.underlying3
  a3 := Tryd.isAgg3
  z3 := Tryd.sizeOf3
  v3 := Tryd.zeroValue3
  t4 := Tryd.underlying4
  a4 := Tryd.isAgg4
  z4 := Tryd.sizeOf4
  v4 := Tryd.zeroValue4
  t9 := Tryd.underlying9
  a9 := Tryd.isAgg9
  z9 := Tryd.sizeOf9
  v9 := Tryd.zeroValue9
  t37 := Tryd.underlying22
  a37 := Tryd.isAgg22
  z37 := Tryd.sizeOf22
  v37 := Tryd.zeroValue22
  t5 := Tryd.underlying5
  a5 := Tryd.isAgg5
  z5 := Tryd.sizeOf5
  v5 := Tryd.zeroValue5 }
theorem Tryd.bytes_HasPrefix_e2 (p1 p2 : Option Addr) (n c d : Nat) (w : World) :
    Calls Tryd.prog 49 #[.slice p1 n c, .slice p2 0 d] w fun e w' => e = .returned (.bool true) ∧ w' = w := Any.bytes_HasPrefix_e2 Tryd.laysnb116 p1 p2 n c d w
theorem Tryd.bytes_HasPrefix_e1 (p1 p2 : Option Addr) (c m d : Nat) (hm : 0 < m) (w : World) :
    Calls Tryd.prog 49 #[.slice p1 0 c, .slice p2 m d] w fun e w' => e = .returned (.bool false) ∧ w' = w := Any.bytes_HasPrefix_e1 Tryd.laysnb116 p1 p2 c m d hm w
def Tryd.laysnb117_ren : Go.Shelf.Ren := ⟨fun | 117 => 31 | 115 => 39 | n => n, fun | 37 => 22 | 4 => 4 | 3 => 3 | 9 => 9 | 5 => 5 | n => n, fun | n => n⟩
theorem Tryd.laysnb117 : Go.Proofs.Lays.nb117 Tryd.prog Tryd.laysnb117_ren := {
  mixed := by kernel_rfl
  f115 := Tryd.func39.trans (congrArg some (by kernel_rfl))
  f117 := Tryd.func31.trans (congrArg some (by kernel_rfl))
  t3 := Tryd.underlying3
  a3 := Tryd.isAgg3
  z3 := Tryd.sizeOf3
  v3 := Tryd.zeroValue3
  t4 := Tryd.underlying4
  a4 := Tryd.isAgg4
  z4 := Tryd.sizeOf4
  v4 := Tryd.zeroValue4
  t9 := Tryd.underlying9
  a9 := Tryd.isAgg9
  z9 := Tryd.sizeOf9
  v9 := Tryd.zeroValue9
  t37 := Tryd.underlying22
  a37 := Tryd.isAgg22
  z37 := Tryd.sizeOf22
  v37 := Tryd.zeroValue22
  t5 := Tryd.underlying5
  a5 := Tryd.isAgg5
  z5 := Tryd.sizeOf5
  v5 := Tryd.zeroValue5 }
theorem Tryd.bytes_HasSuffix_e2 (p1 p2 : Option Addr) (n c d : Nat) (_hnc : n ≤ c) (hbig : n ≤ 9223372036854775807) (w : World) :
    Calls Tryd.prog 31 #[.slice p1 n c, .slice p2 0 d] w fun e w' => e = .returned (.bool true) ∧ w' = w := Any.bytes_HasSuffix_e2 Tryd.laysnb117 p1 p2 n c d _hnc hbig w
theorem Tryd.bytes_HasSuffix_e1 (p1 p2 : Option Addr) (c m d : Nat) (hm : 0 < m) (w : World) :
    Calls Tryd.prog 31 #[.slice p1 0 c, .slice p2 m d] w fun e w' => e = .returned (.bool false) ∧ w' = w := Any.bytes_HasSuffix_e1 Tryd.laysnb117 p1 p2 c m d hm w
def Tryd.laysnb139_ren : Go.Shelf.Ren := ⟨fun | 139 => 37 | 116 => 49 | 115 => 39 | n => n, fun | 37 => 22 | 4 => 4 | 3 => 3 | 9 => 9 | 5 => 5 | n => n, fun | n => n⟩
theorem Tryd.laysnb139 : Go.Proofs.Lays.nb139 Tryd.prog Tryd.laysnb139_ren := {
  mixed := by kernel_rfl
  f115 := Tryd.func39.trans (congrArg some (by kernel_rfl))
  f116 := Tryd.func49.trans (congrArg some (by kernel_rfl))
  f139 := Tryd.func37.trans (congrArg some (by kernel_rfl))
  t3 := Tryd.underlying3
  a3 := Tryd.isAgg3
  z3 := Tryd.sizeOf3
  v3 := Tryd.zeroValue3
  t4 := Tryd.underlying4
  a4 := Tryd.isAgg4
  z4 := Tryd.sizeOf4
  v4 := Tryd.zeroValue4
  t9 := Tryd.underlying9
  a9 := Tryd.isAgg9
  z9 := Tryd.sizeOf9
  v9 := Tryd.zeroValue9
  t37 := Tryd.underlying22
  a37 := Tryd.isAgg22
  z37 := Tryd.sizeOf22
  v37 := Tryd.zeroValue22
  t5 := Tryd.underlying5
  a5 := Tryd.isAgg5
  z5 := Tryd.sizeOf5
  v5 := Tryd.zeroValue5 }
theorem Tryd.bytes_TrimPrefix_e2 (p1 p2 : Option Addr) (n c d : Nat) (_hnc : n ≤ c) (w : World) :
    Calls Tryd.prog 37 #[.slice p1 n c, .slice p2 0 d] w fun e w' => e = .returned (.slice p1 n c) ∧ w' = w := Any.bytes_TrimPrefix_e2 Tryd.laysnb139 p1 p2 n c d _hnc w
theorem Tryd.bytes_TrimPrefix_e1 (p1 p2 : Option Addr) (c m d : Nat) (hm : 0 < m) (w : World) :
    Calls Tryd.prog 37 #[.slice p1 0 c, .slice p2 m d] w fun e w' => e = .returned (.slice p1 0 c) ∧ w' = w := Any.bytes_TrimPrefix_e1 Tryd.laysnb139 p1 p2 c m d hm w
def Tryd.laysnb140_ren : Go.Shelf.Ren := ⟨fun | 140 => 30 | 117 => 31 | 115 => 39 | n => n, fun | 37 => 22 | 4 => 4 | 3 => 3 | 9 => 9 | 5 => 5 | n => n, fun | n => n⟩
theorem Tryd.laysnb140 : Go.Proofs.Lays.nb140 Tryd.prog Tryd.laysnb140_ren := {
  mixed := by kernel_rfl
  f115 := Tryd.func39.trans (congrArg some (by kernel_rfl))
  f117 := Tryd.func31.trans (congrArg some (by kernel_rfl))
  f140 := Tryd.func30.trans (congrArg some (by kernel_rfl))
  t3 := Tryd.underlying3
  a3 := Tryd.isAgg3
  z3 := Tryd.sizeOf3
  v3 := Tryd.zeroValue3
  t4 := Tryd.underlying4
  a4 := Tryd.isAgg4
  z4 := Tryd.sizeOf4
  v4 := Tryd.zeroValue4
  t9 := Tryd.underlying9
  a9 := Tryd.isAgg9
  z9 := Tryd.sizeOf9
  v9 := Tryd.zeroValue9
  t37 := Tryd.underlying22
  a37 := Tryd.isAgg22
  z37 := Tryd.sizeOf22
  v37 := Tryd.zeroValue22
  t5 := Tryd.underlying5
  a5 := Tryd.isAgg5
  z5 := Tryd.sizeOf5
  v5 := Tryd.zeroValue5 }
theorem Tryd.bytes_TrimSuffix_e2 (p1 p2 : Option Addr) (n c d : Nat) (hnc : n ≤ c) (hbig : n ≤ 9223372036854775807) (w : World) :
    Calls Tryd.prog 30 #[.slice p1 n c, .slice p2 0 d] w fun e w' => e = .returned (.slice p1 n c) ∧ w' = w := Any.bytes_TrimSuffix_e2 Tryd.laysnb140 p1 p2 n c d hnc hbig w
theorem Tryd.bytes_TrimSuffix_e1 (p1 p2 : Option Addr) (c m d : Nat) (hm : 0 < m) (w : World) :
    Calls Tryd.prog 30 #[.slice p1 0 c, .slice p2 m d] w fun e w' => e = .returned (.slice p1 0 c) ∧ w' = w := Any.bytes_TrimSuffix_e1 Tryd.laysnb140 p1 p2 c m d hm w
def Tryd.laysnb142_ren : Go.Shelf.Ren := ⟨fun | 142 => 35 | 117 => 31 | 115 => 39 | n => n, fun | 37 => 22 | 4 => 4 | 3 => 3 | 9 => 9 | 5 => 5 | n => n, fun | n => n⟩
theorem Tryd.laysnb142 : Go.Proofs.Lays.nb142 Tryd.prog Tryd.laysnb142_ren := {
  mixed := by kernel_rfl
  f115 := Tryd.func39.trans (congrArg some (by kernel_rfl))
  f117 := Tryd.func31.trans (congrArg some (by kernel_rfl))
  f142 := Tryd.func35.trans (congrArg some (by kernel_rfl))
  t3 := Tryd.underlying3
  a3 := Tryd.isAgg3
  z3 := Tryd.sizeOf3
  v3 := Tryd.zeroValue3
  t4 := Tryd.underlying4
  a4 := Tryd.isAgg4
  z4 := Tryd.sizeOf4
  v4 := Tryd.zeroValue4
  t9 := Tryd.underlying9
  a9 := Tryd.isAgg9
  z9 := Tryd.sizeOf9
  v9 := Tryd.zeroValue9
  t37 := Tryd.underlying22
  a37 := Tryd.isAgg22
  z37 := Tryd.sizeOf22
  v37 := Tryd.zeroValue22
  t5 := Tryd.underlying5
  a5 := Tryd.isAgg5
  z5 := Tryd.sizeOf5
  v5 := Tryd.zeroValue5 }
theorem Tryd.bytes_CutSuffix_e2 (p1 p2 : Option Addr) (n c d : Nat) (hnc : n ≤ c) (hbig : n ≤ 9223372036854775807) (w : World) :
    Calls Tryd.prog 35 #[.slice p1 n c, .slice p2 0 d] w fun e w' => e = .returned (.tuple #[.slice p1 n c, .bool true]) ∧ w' = w := Any.bytes_CutSuffix_e2 Tryd.laysnb142 p1 p2 n c d hnc hbig w
theorem Tryd.bytes_CutSuffix_e1 (p1 p2 : Option Addr) (c m d : Nat) (hm : 0 < m) (w : World) :
    Calls Tryd.prog 35 #[.slice p1 0 c, .slice p2 m d] w fun e w' => e = .returned (.tuple #[.slice p1 0 c, .bool false]) ∧ w' = w := Any.bytes_CutSuffix_e1 Tryd.laysnb142 p1 p2 c m d hm w
/-- bytes.HasPrefix: WHOLE: each argument nil, or of no byte at whatever address, or at an address with its cells. (LAID: no walk: one application.) -/
theorem Tryd.bytes_HasPrefix_all (p1 p2 : Option Addr) (n c m d : Nat) (xs ys : List Int) (w : World) (hx : xs.length = n) (hy : ys.length = m) (hnc : n ≤ c) (h1 : Lib.BytesIn w p1 n xs) (h2 : Lib.BytesIn w p2 m ys) :
    Calls Tryd.prog 49 #[.slice p1 n c, .slice p2 m d] w fun e w' => e = .returned (.bool (Lib.hasPrefix (Lib.bytesOf xs) (Lib.bytesOf ys))) ∧ w' = w := Any.bytes_HasPrefix_all Tryd.laysnb116 p1 p2 n c m d xs ys w hx hy hnc h1 h2
/-- bytes.HasSuffix: WHOLE: each argument nil, or of no byte at whatever address, or at an address with its cells. (LAID: no walk: one application.) -/
theorem Tryd.bytes_HasSuffix_all (p1 p2 : Option Addr) (n c m d : Nat) (xs ys : List Int) (w : World) (hx : xs.length = n) (hy : ys.length = m) (hnc : n ≤ c) (hbig : n ≤ 9223372036854775807) (h1 : Lib.BytesIn w p1 n xs) (h2 : Lib.BytesIn w p2 m ys) :
    Calls Tryd.prog 31 #[.slice p1 n c, .slice p2 m d] w fun e w' => e = .returned (.bool (Lib.hasSuffix (Lib.bytesOf xs) (Lib.bytesOf ys))) ∧ w' = w := Any.bytes_HasSuffix_all Tryd.laysnb117 p1 p2 n c m d xs ys w hx hy hnc hbig h1 h2
/-- bytes.TrimPrefix: WHOLE. (LAID: no walk: one application.) -/
theorem Tryd.bytes_TrimPrefix_all (p1 p2 : Option Addr) (n c m d : Nat) (xs ys : List Int) (w : World) (hx : xs.length = n) (hy : ys.length = m) (hnc : n ≤ c) (h1 : Lib.BytesIn w p1 n xs) (h2 : Lib.BytesIn w p2 m ys) :
    Calls Tryd.prog 37 #[.slice p1 n c, .slice p2 m d] w fun e w' => e = .returned (Lib.trimPrefixV p1 n c xs ys) ∧ w' = w := Any.bytes_TrimPrefix_all Tryd.laysnb139 p1 p2 n c m d xs ys w hx hy hnc h1 h2
/-- bytes.TrimSuffix: WHOLE. (LAID: no walk: one application.) -/
theorem Tryd.bytes_TrimSuffix_all (p1 p2 : Option Addr) (n c m d : Nat) (xs ys : List Int) (w : World) (hx : xs.length = n) (hy : ys.length = m) (hnc : n ≤ c) (hbig : n ≤ 9223372036854775807) (h1 : Lib.BytesIn w p1 n xs) (h2 : Lib.BytesIn w p2 m ys) :
    Calls Tryd.prog 30 #[.slice p1 n c, .slice p2 m d] w fun e w' => e = .returned (Lib.trimSuffixV p1 n c xs ys) ∧ w' = w := Any.bytes_TrimSuffix_all Tryd.laysnb140 p1 p2 n c m d xs ys w hx hy hnc hbig h1 h2
/-- bytes.CutSuffix: WHOLE. (LAID: no walk: one application.) -/
theorem Tryd.bytes_CutSuffix_all (p1 p2 : Option Addr) (n c m d : Nat) (xs ys : List Int) (w : World) (hx : xs.length = n) (hy : ys.length = m) (hnc : n ≤ c) (hbig : n ≤ 9223372036854775807) (h1 : Lib.BytesIn w p1 n xs) (h2 : Lib.BytesIn w p2 m ys) :
    Calls Tryd.prog 35 #[.slice p1 n c, .slice p2 m d] w fun e w' => e = .returned (.tuple #[Lib.trimSuffixV p1 n c xs ys, .bool (Lib.hasSuffix (Lib.bytesOf xs) (Lib.bytesOf ys))]) ∧ w' = w := Any.bytes_CutSuffix_all Tryd.laysnb142 p1 p2 n c m d xs ys w hx hy hnc hbig h1 h2
def Tryd.laysnb115_ren : Go.Shelf.Ren := ⟨fun | 115 => 39 | n => n, fun | 37 => 22 | 4 => 4 | 9 => 9 | 5 => 5 | n => n, fun | n => n⟩
theorem Tryd.laysnb115 : Go.Proofs.Lays.nb115 Tryd.prog Tryd.laysnb115_ren := {
  mixed := by kernel_rfl
  f115 := Tryd.func39.trans (congrArg some (by kernel_rfl))
  t4 := Tryd.underlying4
  a4 := Tryd.isAgg4
  z4 := Tryd.sizeOf4
  v4 := Tryd.zeroValue4
  t9 := Tryd.underlying9
  a9 := Tryd.isAgg9
  z9 := Tryd.sizeOf9
  v9 := Tryd.zeroValue9
  t37 := Tryd.underlying22
  a37 := Tryd.isAgg22
  z37 := Tryd.sizeOf22
  v37 := Tryd.zeroValue22
  t5 := Tryd.underlying5
  a5 := Tryd.isAgg5
  z5 := Tryd.sizeOf5
  v5 := Tryd.zeroValue5 }
/-- bytes.Equal: WHOLE. (LAID: no walk: one application.) -/
theorem Tryd.bytes_Equal_all (p1 p2 : Option Addr) (n c m d : Nat) (xs ys : List Int) (w : World) (hx : xs.length = n) (hy : ys.length = m) (h1 : Lib.BytesIn w p1 n xs) (h2 : Lib.BytesIn w p2 m ys) :
    Calls Tryd.prog 39 #[.slice p1 n c, .slice p2 m d] w fun e w' => e = .returned (.bool (Lib.bytesOf xs == Lib.bytesOf ys)) ∧ w' = w := Any.bytes_Equal_all Tryd.laysnb115 p1 p2 n c m d xs ys w hx hy h1 h2
/-- bytes.Equal: "Equal reports whether a and b are the same length and contain the same bytes. A nil argument is equivalent to an empty slice.": IT RETURNS 'the bytes of the one == the bytes of the other'; the world is as it was. THE TWO ARGUMENTS COME AS WHATEVER VALUES, each with the one fact that the walk wants of it: what 'string(..)' of it gives: for a slice whose cells you know: 'run_convert_bytes_arg' (Derived/Laws/BytesArg.lean) hands that fact; for a nil one: 'run_convert_bytes_nil' (with xs := []). (LAID: no walk: one application.) -/
theorem Tryd.bytes_Equal (v1 v2 : Value) (xs ys : List Int) (w : World) (h1 : (convert 22 9 v1).run Tryd.prog w = .ok (.string (strOfNums xs)) w) (h2 : (convert 22 9 v2).run Tryd.prog w = .ok (.string (strOfNums ys)) w) :
    Calls Tryd.prog 39 #[v1, v2] w fun e w' => e = .returned (.bool (Lib.bytesOf xs == Lib.bytesOf ys)) ∧ w' = w := Any.bytes_Equal Tryd.lays115 v1 v2 xs ys w h1 h2
/-- bytes.HasPrefix: "HasPrefix reports whether the byte slice s begins with prefix.": IT RETURNS 'Lib.hasPrefix (the bytes of s) (the bytes of prefix)'; the world is as it was. ITS CALLEE bytes.Equal IS MET BY ITS OWN CONTRACT OFF THE SHELF (lay that first). 'xs', 'ys': the numbers that the two slices' cells hold. (LAID: no walk: one application.) -/
theorem Tryd.bytes_HasPrefix (b1 o1 n c b2 o2 m d : Nat) (xs ys : List Int) (w : World) (hx : xs.length = n) (hy : ys.length = m) (hnc : n ≤ c) (hc1 : ∀ i, i < n → w.cell? ⟨b1, o1 + i, none⟩ = some (.int .u8 (xs.getD i 0))) (hc2 : ∀ i, i < m → w.cell? ⟨b2, o2 + i, none⟩ = some (.int .u8 (ys.getD i 0))) :
    Calls Tryd.prog 49 #[.slice (some ⟨b1, o1, none⟩) n c, .slice (some ⟨b2, o2, none⟩) m d] w fun e w' => e = .returned (.bool (Lib.hasPrefix (Lib.bytesOf xs) (Lib.bytesOf ys))) ∧ w' = w := Any.bytes_HasPrefix Tryd.laysnb116 b1 o1 n c b2 o2 m d xs ys w hx hy hnc hc1 hc2
/-- bytes.HasSuffix: "HasSuffix reports whether the byte slice s ends with suffix.": IT RETURNS 'Lib.hasSuffix (the bytes of s) (the bytes of suffix)'; the world is as it was. ITS CALLEE bytes.Equal IS MET BY ITS OWN CONTRACT OFF THE SHELF (lay that first). (An empty suffix too: there the model's slicing may keep the slice's address, where the cut falls at its very capacity: the value bears an 'if': 'gA' pays both arms.) (LAID: no walk: one application.) -/
theorem Tryd.bytes_HasSuffix (b1 o1 n c b2 o2 m d : Nat) (xs ys : List Int) (w : World) (hx : xs.length = n) (hy : ys.length = m) (hnc : n ≤ c) (hbig : n ≤ 9223372036854775807) (hc1 : ∀ i, i < n → w.cell? ⟨b1, o1 + i, none⟩ = some (.int .u8 (xs.getD i 0))) (hc2 : ∀ i, i < m → w.cell? ⟨b2, o2 + i, none⟩ = some (.int .u8 (ys.getD i 0))) :
    Calls Tryd.prog 31 #[.slice (some ⟨b1, o1, none⟩) n c, .slice (some ⟨b2, o2, none⟩) m d] w fun e w' => e = .returned (.bool (Lib.hasSuffix (Lib.bytesOf xs) (Lib.bytesOf ys))) ∧ w' = w := Any.bytes_HasSuffix Tryd.laysnb117 b1 o1 n c b2 o2 m d xs ys w hx hy hnc hbig hc1 hc2
/-- bytes.TrimPrefix: "TrimPrefix returns s without the provided leading prefix string. If s doesn't start with prefix, s is returned unchanged.": IT RETURNS 'Lib.bytesTrimPrefix': s[len(prefix):] OF THE ARGUMENT's OWN MEMORY where s begins with prefix, else s itself; the world is as it was. ITS CALLEE bytes.HasPrefix IS MET BY ITS OWN CONTRACT OFF THE SHELF (lay that first). (LAID: no walk: one application.) -/
theorem Tryd.bytes_TrimPrefix (b1 o1 n c b2 o2 m d : Nat) (xs ys : List Int) (w : World) (hx : xs.length = n) (hy : ys.length = m) (hnc : n ≤ c) (hc1 : ∀ i, i < n → w.cell? ⟨b1, o1 + i, none⟩ = some (.int .u8 (xs.getD i 0))) (hc2 : ∀ i, i < m → w.cell? ⟨b2, o2 + i, none⟩ = some (.int .u8 (ys.getD i 0))) :
    Calls Tryd.prog 37 #[.slice (some ⟨b1, o1, none⟩) n c, .slice (some ⟨b2, o2, none⟩) m d] w fun e w' => e = .returned (Lib.bytesTrimPrefix b1 o1 n c xs ys) ∧ w' = w := Any.bytes_TrimPrefix Tryd.laysnb139 b1 o1 n c b2 o2 m d xs ys w hx hy hnc hc1 hc2
/-- bytes.TrimSuffix: "TrimSuffix returns s without the provided trailing suffix string. If s doesn't end with suffix, s is returned unchanged.": IT RETURNS 'Lib.bytesTrimSuffix': s[:len(s)-len(suffix)] OF THE ARGUMENT's OWN MEMORY where s ends with suffix, else s itself; the world is as it was. (LAID: no walk: one application.) -/
theorem Tryd.bytes_TrimSuffix (b1 o1 n c b2 o2 m d : Nat) (xs ys : List Int) (w : World) (hx : xs.length = n) (hy : ys.length = m) (hnc : n ≤ c) (hbig : n ≤ 9223372036854775807) (hc1 : ∀ i, i < n → w.cell? ⟨b1, o1 + i, none⟩ = some (.int .u8 (xs.getD i 0))) (hc2 : ∀ i, i < m → w.cell? ⟨b2, o2 + i, none⟩ = some (.int .u8 (ys.getD i 0))) :
    Calls Tryd.prog 30 #[.slice (some ⟨b1, o1, none⟩) n c, .slice (some ⟨b2, o2, none⟩) m d] w fun e w' => e = .returned (Lib.bytesTrimSuffix b1 o1 n c xs ys) ∧ w' = w := Any.bytes_TrimSuffix Tryd.laysnb140 b1 o1 n c b2 o2 m d xs ys w hx hy hnc hbig hc1 hc2
/-- bytes.CutSuffix: "CutSuffix returns s without the provided ending suffix byte slice and reports whether it found the suffix. If s doesn't end with suffix, CutSuffix returns s, false. If suffix is the empty byte slice, CutSuffix returns s, true.": IT RETURNS ('Lib.bytesTrimSuffix', 'Lib.hasSuffix'): the first a slice OF THE ARGUMENT's OWN MEMORY ("CutSuffix returns slices of the original slice s, not copies."); the world is as it was. (LAID: no walk: one application.) -/
theorem Tryd.bytes_CutSuffix (b1 o1 n c b2 o2 m d : Nat) (xs ys : List Int) (w : World) (hx : xs.length = n) (hy : ys.length = m) (hnc : n ≤ c) (hbig : n ≤ 9223372036854775807) (hc1 : ∀ i, i < n → w.cell? ⟨b1, o1 + i, none⟩ = some (.int .u8 (xs.getD i 0))) (hc2 : ∀ i, i < m → w.cell? ⟨b2, o2 + i, none⟩ = some (.int .u8 (ys.getD i 0))) :
    Calls Tryd.prog 35 #[.slice (some ⟨b1, o1, none⟩) n c, .slice (some ⟨b2, o2, none⟩) m d] w fun e w' => e = .returned (.tuple #[Lib.bytesTrimSuffix b1 o1 n c xs ys, .bool (Lib.hasSuffix (Lib.bytesOf xs) (Lib.bytesOf ys))]) ∧ w' = w := Any.bytes_CutSuffix Tryd.laysnb142 b1 o1 n c b2 o2 m d xs ys w hx hy hnc hbig hc1 hc2
/-- bytes.IndexByte: "IndexByte returns the index of the first instance of c in b, or -1 if c is not present in b.": IT RETURNS 'Lib.indexByte (the bytes of b) c'; the world is as it was. 'xs': the numbers that the slice's cells hold. (LAID: no walk: one application.) -/
theorem Tryd.bytes_IndexByte (b o n c : Nat) (xs : List Int) (cv : Int) (w : World) (hx : xs.length = n) (hc : ∀ i, i < n → w.cell? ⟨b, o + i, none⟩ = some (.int .u8 (xs.getD i 0))) :
    Calls Tryd.prog 34 #[.slice (some ⟨b, o, none⟩) n c, .int .u8 cv] w fun e w' => e = .returned (.int .i64 (Lib.indexByte (Lib.bytesOf xs) cv.toNat.toUInt8)) ∧ w' = w := Any.bytes_IndexByte Tryd.lays187 b o n c xs cv w hx hc
/-- bytes.IndexByte AT nil: -1. (LAID: no walk: one application.) -/
theorem Tryd.bytes_IndexByte_nil (cv : Int) (w : World) :
    Calls Tryd.prog 34 #[.slice none 0 0, .int .u8 cv] w fun e w' => e = .returned (.int .i64 (-1)) ∧ w' = w := Any.bytes_IndexByte_nil Tryd.lays187 cv w
def Tryd.laysTrimRight_ren : Go.Shelf.Ren := ⟨fun | 7 => 36 | 10 => 45 | 11 => 46 | 13 => 47 | 15 => 48 | 16 => 51 | 19 => 52 | 18 => 53 | 21 => 54 | 17 => 55 | 20 => 56 | n => n, fun | 22 => 22 | 9 => 9 | 3 => 3 | 4 => 4 | 5 => 5 | 28 => 57 | 27 => 56 | 0 => 0 | 31 => 60 | 21 => 21 | 33 => 64 | 36 => 67 | 37 => 53 | 40 => 70 | 39 => 69 | n => n, fun | 0 => 1 | 1 => 2 | n => n⟩
theorem Tryd.laysTrimRight : Go.Proofs.SlLaysV.n7 Tryd.prog Tryd.laysTrimRight_ren := {
  mixed := by kernel_rfl
  f7 := Tryd.func36.trans (congrArg some (by kernel_rfl))
  f10 := Tryd.func45.trans (congrArg some (by kernel_rfl))
  f11 := Tryd.func46.trans (congrArg some (by kernel_rfl))
  f13 := Tryd.func47.trans (congrArg some (by kernel_rfl))
  f15 := Tryd.func48.trans (congrArg some (by kernel_rfl))
  f16 := Tryd.func51.trans (congrArg some (by kernel_rfl))
  f17 := Tryd.func55.trans (congrArg some (by kernel_rfl))
  f18 := Tryd.func53.trans (congrArg some (by kernel_rfl))
  f19 := Tryd.func52.trans (congrArg some (by kernel_rfl))
  f20 := Tryd.func56.trans (congrArg some (by kernel_rfl))
  f21 := Tryd.func54.trans (congrArg some (by kernel_rfl))
  t0 := Tryd.underlying0
  a0 := Tryd.isAgg0
  z0 := Tryd.sizeOf0
  v0 := Tryd.zeroValue0
  t3 := Tryd.underlying3
  a3 := Tryd.isAgg3
  z3 := Tryd.sizeOf3
  v3 := Tryd.zeroValue3
  t4 := Tryd.underlying4
  a4 := Tryd.isAgg4
  z4 := Tryd.sizeOf4
  v4 := Tryd.zeroValue4
  t5 := Tryd.underlying5
  a5 := Tryd.isAgg5
  z5 := Tryd.sizeOf5
  v5 := Tryd.zeroValue5
  t9 := Tryd.underlying9
  a9 := Tryd.isAgg9
  z9 := Tryd.sizeOf9
  v9 := Tryd.zeroValue9
  t21 := Tryd.underlying21
  a21 := Tryd.isAgg21
  z21 := Tryd.sizeOf21
  v21 := Tryd.zeroValue21
  t22 := Tryd.underlying22
  a22 := Tryd.isAgg22
  z22 := Tryd.sizeOf22
  v22 := Tryd.zeroValue22
  t27 := Tryd.underlying56
  a27 := Tryd.isAgg56
  z27 := Tryd.sizeOf56
  t28 := Tryd.underlying57
  a28 := Tryd.isAgg57
  z28 := Tryd.sizeOf57
  v28 := Tryd.zeroValue57
  t31 := Tryd.underlying60
  a31 := Tryd.isAgg60
  z31 := Tryd.sizeOf60
  v31 := Tryd.zeroValue60
  t33 := Tryd.underlying64
  a33 := Tryd.isAgg64
  z33 := Tryd.sizeOf64
  v33 := Tryd.zeroValue64
  t36 := Tryd.underlying67
  a36 := Tryd.isAgg67
  z36 := Tryd.sizeOf67
  t37 := Tryd.underlying53
  a37 := Tryd.isAgg53
  z37 := Tryd.sizeOf53
  v37 := Tryd.zeroValue53
  t39 := Tryd.underlying69
  a39 := Tryd.isAgg69
  z39 := Tryd.sizeOf69
  v39 := Tryd.zeroValue69
  t40 := Tryd.underlying70
  a40 := Tryd.isAgg70
  z40 := Tryd.sizeOf70
  v40 := Tryd.zeroValue70 }
end Go.Proofs
