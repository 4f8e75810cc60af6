/-
  Seat b6616721aD: the law at every tail.
-/
import Derived.Test.Qxb6616721aDoorLaw
namespace Go.Proofs.Qxb6616721aDoor
open Go.RowKit Go.Lib

set_option maxRecDepth 100000 in
set_option maxHeartbeats 3200000 in
theorem law_long (v fl : UInt8) (id pa : List UInt8) (tail : ByteArray) (w : World) (h16 : id.length = 16) (h8 : pa.length = 8) (ht : (65536 : Int) < (tail.size : Int)) :
    Calls Tryd.prog 4 #[.agg (Lib.byteCells id).toArray, .int .u8 (v.toNat : Int), .agg (Lib.byteCells pa).toArray, .int .u8 (fl.toNat : Int), .string tail] w
      fun e w' => e = .returned (.bool true) ∧ Below w.heap.size w w' := by
  obtain ⟨X, hX⟩ : ∃ X : Array Value, X = (Lib.byteCells id).toArray := ⟨_, rfl⟩
  obtain ⟨Y, hY⟩ : ∃ Y : Array Value, Y = (Lib.byteCells pa).toArray := ⟨_, rfl⟩
  rw [← hX, ← hY]
  have X24 : Hid ((Tryd.prog.info? 24).map (·.size) = some X.toList.length) := by rw [Hid, hX, Tryd.size24]; simp [Lib.byteCells_length, h16]
  have Y31 : Hid ((Tryd.prog.info? 31).map (·.size) = some Y.toList.length) := by rw [Hid, hY, Tryd.size31]; simp [Lib.byteCells_length, h8]
  have RX0 : Hid (((w.alloc (.cells X 24)).alloc (.cells Y 31)).rangeAt w.heap.size 0 X.toList) := by
    refine World.rangeAt_alloc ?_ _
    rw [hX]; exact range_byteCells id w 24
  have RY0 : Hid (((w.alloc (.cells X 24)).alloc (.cells Y 31)).rangeAt (w.heap.size + 1) 0 Y.toList) := by
    have := range_byteCells pa (w.alloc (.cells X 24)) 31
    rw [Hid, hY]; simpa using this
  clear hX hY h16 h8
  by_cases h2 : (tail.size : Int) ≤ 1048576
  · have HB := hid fun w' => bytes_yes X (v.toNat : Int) Y (fl.toNat : Int) tail w' h2
    go_enter Tryd.func4, Tryd.ntmps4
    go_wp2_with (first | (refine wpList_load_mid rfl 24 _ rfl w.heap.size 0 rfl X.toList _ RX0.out Tryd.underlying24 rfl X24.out ?_) | (refine wpList_load_mid rfl 31 _ rfl (w.heap.size + 1) 0 rfl Y.toList _ RY0.out Tryd.underlying31 rfl Y31.out ?_))
    refine (HB.out _).mono ?_
    rintro e W1 ⟨rfl, hb1⟩
    go_wp2_with fail
    go_ret
    exact ⟨rfl, (((Below.refl w.heap.size w).alloc (Nat.le_refl _) _).alloc (by simp) _).trans (hb1.mono (by simp; omega))⟩
  · have HB := hid fun w' => bytes_no X (v.toNat : Int) Y (fl.toNat : Int) tail w' (by omega)
    go_enter Tryd.func4, Tryd.ntmps4
    go_wp2_with (first | (refine wpList_load_mid rfl 24 _ rfl w.heap.size 0 rfl X.toList _ RX0.out Tryd.underlying24 rfl X24.out ?_) | (refine wpList_load_mid rfl 31 _ rfl (w.heap.size + 1) 0 rfl Y.toList _ RY0.out Tryd.underlying31 rfl Y31.out ?_))
    refine (HB.out _).mono ?_
    rintro e W1 ⟨rfl, hb1⟩
    go_wp2_with fail
    go_ret
    exact ⟨rfl, (((Below.refl w.heap.size w).alloc (Nat.le_refl _) _).alloc (by simp) _).trans (hb1.mono (by simp; omega))⟩

theorem law_any (v fl : UInt8) (id pa : List UInt8) (tail : ByteArray) (w : World) (ev : Value) (m : Int) (h16 : id.length = 16) (h8 : pa.length = 8)
    (hE : w.cell? ⟨0, 0, none⟩ = some ev) (hm : w.cell? ⟨1, 0, none⟩ = some (.int .i64 m)) :
    Calls Tryd.prog 4 #[.agg (Lib.byteCells id).toArray, .int .u8 (v.toNat : Int), .agg (Lib.byteCells pa).toArray, .int .u8 (fl.toNat : Int), .string tail] w
      fun e w' => e = .returned (.bool true) ∧ Below w.heap.size w w' := by
  by_cases h : (tail.size : Int) ≤ 65536
  · exact law_short v fl id pa tail w ev m h16 h8 hE hm h
  · exact law_long v fl id pa tail w h16 h8 (by omega)
end Go.Proofs.Qxb6616721aDoor
