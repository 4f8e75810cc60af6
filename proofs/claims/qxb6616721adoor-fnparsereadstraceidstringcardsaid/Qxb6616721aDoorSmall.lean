/-
  Seat b6616721aD: IsValid, members of the empty state.
-/
import Derived.Test.Qxb6616721aDoorArr
namespace Go.Proofs.Qxb6616721aDoor
open Go.RowKit Go.Lib

theorem range_byteCells (l : List UInt8) (w : World) (t : TypeId) : (w.alloc (.cells (Lib.byteCells l).toArray t)).rangeAt w.heap.size 0 (Lib.byteCells l) := fun j v hv => by
  simpa [World.cell?_alloc_at] using hv

theorem Tryd.size24 : (Tryd.prog.info? 24).map (·.size) = some 16 := by kernel_rfl
theorem Tryd.size25 : (Tryd.prog.info? 25).map (·.size) = some 16 := by kernel_rfl
theorem Tryd.size31 : (Tryd.prog.info? 31).map (·.size) = some 8 := by kernel_rfl
theorem Tryd.size57 : (Tryd.prog.info? 57).map (·.size) = some 8 := by kernel_rfl
theorem Tryd.size28 : (Tryd.prog.info? 28).map (·.size) = some 18 := by kernel_rfl

theorem eq16 (t : TypeId) (ht : Tryd.prog.underlying t = some (.array 16 5)) (xs ys : List UInt8) (hx : xs.length = 16) (hy : ys.length = 16) (w : World) :
    (Op.equalIn 10000 t (.agg (Lib.byteCells xs).toArray) (.agg (Lib.byteCells ys).toArray)).run Tryd.prog w = .ok (xs == ys) w :=
  run_equalIn_bytes w 9998 t 5 16 ht Tryd.underlying5 Tryd.isAgg5 Tryd.sizeOf5 xs ys hx hy

theorem eq8 (t : TypeId) (ht : Tryd.prog.underlying t = some (.array 8 5)) (xs ys : List UInt8) (hx : xs.length = 8) (hy : ys.length = 8) (w : World) :
    (Op.equalIn 10000 t (.agg (Lib.byteCells xs).toArray) (.agg (Lib.byteCells ys).toArray)).run Tryd.prog w = .ok (xs == ys) w :=
  run_equalIn_bytes w 9998 t 5 8 ht Tryd.underlying5 Tryd.isAgg5 Tryd.sizeOf5 xs ys hx hy

def z16 : List UInt8 := List.replicate 16 0
def z8 : List UInt8 := List.replicate 8 0

set_option maxRecDepth 100000 in
theorem isValid_any (l : List UInt8) (hl : l.length = 16) (w : World) :
    Calls Tryd.prog 28 #[.agg (Lib.byteCells l).toArray] w fun e w' => e = .returned (.bool (!(l == z16))) ∧ Below w.heap.size w w' := by
  have hr := range_byteCells l w 25
  have hsz : (Tryd.prog.info? 25).map (·.size) = some (Lib.byteCells l).length := by rw [Tryd.size25, Lib.byteCells_length, hl]
  have heq : ∀ w, (Op.equalIn 10000 25 (.agg (Lib.byteCells l).toArray) (.agg #[.int .u8 0, .int .u8 0, .int .u8 0, .int .u8 0, .int .u8 0, .int .u8 0, .int .u8 0, .int .u8 0, .int .u8 0, .int .u8 0, .int .u8 0, .int .u8 0, .int .u8 0, .int .u8 0, .int .u8 0, .int .u8 0])).run Tryd.prog w = .ok (l == z16) w := fun w => eq16 25 Tryd.underlying25 l z16 hl rfl w
  have HR := hid hr
  have HS := hid hsz
  clear hr hsz
  go_enter Tryd.func28, Tryd.ntmps28
  go_wp2_with (refine wpList_load_mid rfl 25 _ rfl w.heap.size 0 rfl (Lib.byteCells l) _ HR.out Tryd.underlying25 rfl HS.out ?_)
  go_ret
  exact ⟨rfl, (Below.refl w.heap.size w).alloc (Nat.le_refl _) _⟩

theorem split_c : Lib.countB ⟨#[]⟩ ⟨#[44]⟩ = 0 := by decide
theorem split_v : Lib.splitB ⟨#[44]⟩ 0 0 ⟨#[]⟩ = [⟨#[]⟩] := by decide

set_option maxRecDepth 100000 in
theorem members_empty (w : World) (m : Int) (hm : w.cell? ⟨1, 0, none⟩ = some (.int .i64 m)) :
    Calls Tryd.prog 17 #[.string ⟨#[]⟩] w fun e w' => e = .returned (.tuple #[.int .i64 0, .bool true]) ∧ Below w.heap.size w w' := by
  have h1 := Tryd.strings_Split ⟨#[]⟩ ⟨#[44]⟩ m w (by decide) hm (by decide)
  rw [split_c, split_v] at h1
  have H1 := hid h1
  have H2 : Hid (∀ w, _) := hid fun w => Tryd.strings_Trim_empty ⟨#[]⟩ ⟨#[32, 9]⟩ w (.inl rfl)
  clear h1
  go_enter Tryd.func17, Tryd.ntmps17
  go_wp2_with fail
  refine H1.out.mono ?_
  rintro e w1 ⟨rfl, rfl⟩
  go_wp2_with fail
  refine wp_loop_rounds 2 ?_
  rw [rounds_succ]
  go_wp2_with fail
  refine (H2.out _).mono ?_
  rintro e w2 ⟨rfl, rfl⟩
  go_wp2_with fail
  rw [rounds_succ]
  go_wp2_with fail
  go_ret2
  exact ⟨rfl, (Below.refl w.heap.size w).alloc (Nat.le_refl _) _⟩
end Go.Proofs.Qxb6616721aDoor
