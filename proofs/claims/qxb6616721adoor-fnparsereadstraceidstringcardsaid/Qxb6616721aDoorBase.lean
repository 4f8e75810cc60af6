/-
  Seat b6616721aD: zzBytes, zzHexOfByte, TraceID.String.
-/
import Derived.Test.Qxb6616721aDoorRows
import Derived.Test.Qxb6616721aDoorShelf
import Derived.WalkKit
import Derived.WalkSpells
import Derived.WalkLawsBesides
import Derived.Handy
import Derived.Lib.SlBytesRow
import Derived.RegionTactic
import Derived.StillTactics
import Derived.Laws.Pointers
import Derived.Deep.RegionHeld3
import Derived.Deep.MidRow
import Derived.Deep.DrawnRows
namespace Go.Proofs.Qxb6616721aDoor
open Go.RowKit Go.Lib

theorem hid {p : Prop} (h : p) : Hid p := h

set_option maxRecDepth 100000 in
theorem bytes_any (az : Array Value) (v : Int) (bs : Array Value) (fl : Int) (tail : ByteArray) (w : World) (h : tail.size ≤ 65536) :
    Calls Tryd.prog 8 #[.agg az, .int .u8 v, .agg bs, .int .u8 fl, .string tail] w fun e w' => e = .returned (.bool true) ∧ Below w.heap.size w w' := by
  have h' : (tail.size : Int) ≤ 1048576 := by omega
  go_enter Tryd.func8, Tryd.ntmps8
  go_wp2_with fail
  go_ret
  exact ⟨rfl, ((Below.refl w.heap.size w).alloc (Nat.le_refl _) _).alloc (by simp) _⟩

def dig (d : Int) : Int := ((Hx.digit d.toNat).toNat : Int)

theorem tab_at (d : Nat) (h : d < Hx.tab.size) : Hx.tab[d]'h = Hx.digit d := by
  have h' : d < Hx.tab.data.toList.length := by simpa using h
  show Hx.tab.data[d] = (Hx.tab.data.toList[d]?).getD 0
  rw [List.getElem?_eq_getElem h']
  simp

theorem encode_one (x : Int) (h0 : 0 ≤ x) (h1 : x < 256) (ha : (x / 16).toNat < Hx.tab.size) (hb : (x % 16).toNat < Hx.tab.size) :
    [Hx.tab[(x / 16).toNat]'ha, Hx.tab[(x % 16).toNat]'hb] = Hx.encode [UInt8.ofNat x.toNat] := by
  have e := Hx.byte_toNat x h0 h1
  rw [tab_at, tab_at, Hx.encode_cons, e, show (x / 16).toNat = x.toNat / 16 by omega, show (x % 16).toNat = x.toNat % 16 by omega]
  rfl

theorem bytes2 (w : World) (b : Nat) (x y : UInt8) (h0 : w.cell? ⟨b, 0, none⟩ = some (.int .u8 (x.toNat : Int))) (h1 : w.cell? ⟨b, 1, none⟩ = some (.int .u8 (y.toNat : Int))) : Lib.Bytes w b 0 ⟨#[x, y]⟩ := by
  intro i h
  have : i < 2 := h
  match i, this with
  | 0, _ => exact h0
  | 1, _ => exact h1

set_option maxRecDepth 100000 in
theorem hexOfByte_any (v : Int) (w : World) (h0 : 0 ≤ v) (h1 : v < 256) :
    Calls Tryd.prog 9 #[.int .u8 v] w fun e w' => e = .returned (.string ⟨(Hx.encode [UInt8.ofNat v.toNat]).toArray⟩) ∧ Below w.heap.size w w' := by
  have a0 : 0 ≤ v / 16 := by omega
  have a1 : v / 16 < 16 := by omega
  have b0 : 0 ≤ v % 16 := by omega
  have b1 : v % 16 < 16 := by omega
  go_enter Tryd.func9, Tryd.ntmps9
  have hcv : ∀ x y : UInt8, (convert 46 9 (.slice (some ⟨w.heap.size, 0, none⟩) 2 2)).run Tryd.prog (w.alloc (.cells #[.int .u8 (x.toNat : Int), .int .u8 (y.toNat : Int)] 5)).drew = .ok (.string ⟨#[x, y]⟩) (w.alloc (.cells #[.int .u8 (x.toNat : Int), .int .u8 (y.toNat : Int)] 5)).drew := fun x y =>
    Lib.run_convert_whole (P := Tryd.prog) _ 46 5 9 Tryd.underlying46 Tryd.underlying5 Tryd.underlying9 w.heap.size 0 ⟨#[x, y]⟩ (bytes2 _ _ x y (by simp [go_sem]) (by simp [go_sem])) 2
  go_wp2_with fail
  go_region
  go_wp2_with fail
  go_ret
  refine ⟨congrArg (fun x => Ending.returned (Value.string ⟨x⟩)) (congrArg List.toArray (encode_one v h0 h1 (by show (v / 16).toNat < 16; omega) (by show (v % 16).toNat < 16; omega))), ((Below.refl w.heap.size w).alloc (Nat.le_refl _) _).drew⟩

theorem cell_byteCells (l : List UInt8) (w : World) (t : TypeId) (i : Nat) (h : i < l.length) :
    (w.alloc (.cells (Lib.byteCells l).toArray t)).cell? ⟨w.heap.size, 0 + i, none⟩ = some (.int .u8 ((l[i]'h).toNat : Int)) := by
  simp [World.cell?_alloc_at, Lib.byteCells, h]

set_option maxRecDepth 100000 in
theorem string_any (l : List UInt8) (hl : l.length = 16) (w : World)  :
    Calls Tryd.prog 10 #[.agg (Lib.byteCells l).toArray] w fun e w' => e = .returned (.string ⟨(Hx.encode l).toArray⟩) ∧ Below w.heap.size w w' := by
  have h := Tryd.hex_EncodeToString_bytes w.heap.size 0 16 l (w.alloc (.cells (Lib.byteCells l).toArray 25)) (fun i h => cell_byteCells l w 25 i h) (by simp) (by omega)
  rw [hl] at h
  have H := hid h
  clear h
  go_enter Tryd.func10, Tryd.ntmps10
  go_wp2_with fail
  refine H.out.mono ?_
  rintro e w1 ⟨rfl, hb⟩
  go_wp2_with fail
  go_ret
  exact ⟨rfl, ((Below.refl w.heap.size w).alloc (Nat.le_refl _) _).trans (hb.mono (by simp))⟩
end Go.Proofs.Qxb6616721aDoor
