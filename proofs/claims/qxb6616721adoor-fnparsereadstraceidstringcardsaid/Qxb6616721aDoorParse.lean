/-
  Seat b6616721aD: Parse, at what parseTraceparent answered.
-/
import Derived.Test.Qxb6616721aDoorTr
namespace Go.Proofs.Qxb6616721aDoor
open Go.RowKit Go.Lib

theorem Tryd.results7' : Tryd.f7.results = #[ResultVar.cell 4 28, ResultVar.tmp 5] := by kernel_rfl

theorem res7 (tmps : Array Value) (W : World) (H : Nat) (cs : List Value) (x : Value) (h2 : tmps.getD 4 undef = .pointer (some ⟨H, 0, none⟩)) (hr : W.rangeAt H 0 cs) (hl : cs.length = 18) (h3 : tmps.getD 5 undef = x) :
    (results Tryd.f7 tmps).run Tryd.prog W = .ok (.tuple #[.agg cs.toArray, x]) W := by
  have hl := run_loadVar_mid (P := Tryd.prog) W H 0 28 cs _ hr Tryd.underlying28 rfl (by rw [Tryd.size28, hl])
  generalize cs.toArray = c at hl
  rw [Array.getD_eq_getD_getElem?] at h2 h3
  simp only [results, Tryd.results7']
  simp [h2, h3, hl, asAddr, Array.mapM_eq_mapM_toList]

theorem and1_fin : ∀ x : Fin 256, bits BinOp.and IntKind.u8 ((x.val : Nat) : Int) 1 = ((x.val : Nat) : Int) % 2 := by decide +kernel

theorem and1 (x : Int) (h0 : 0 ≤ x) (h1 : x < 256) : bits BinOp.and IntKind.u8 x 1 = x % 2 := by
  have := and1_fin ⟨x.toNat, by omega⟩
  rwa [show ((x.toNat : Nat) : Int) = x by omega] at this

abbrev lit18 : Array Value := #[.int .u8 0, .int .u8 0, .int .u8 0, .int .u8 0, .int .u8 0, .int .u8 0, .int .u8 0, .int .u8 0, .int .u8 0, .int .u8 0, .int .u8 0, .int .u8 0, .int .u8 0, .int .u8 0, .int .u8 0, .int .u8 0, .int .u8 0, .string ⟨#[]⟩]
abbrev lit16 : Array Value := #[.int .u8 0, .int .u8 0, .int .u8 0, .int .u8 0, .int .u8 0, .int .u8 0, .int .u8 0, .int .u8 0, .int .u8 0, .int .u8 0, .int .u8 0, .int .u8 0, .int .u8 0, .int .u8 0, .int .u8 0, .int .u8 0]

set_option maxRecDepth 100000 in
set_option maxHeartbeats 3200000 in
theorem parse_bad (b : Nat) (s : ByteArray) (l : List UInt8) (hl : l.length = 16) (x : Int) (w : World) (hc : w.cell? ⟨b, 0, none⟩ = some (.string s))
    (hT : Calls Tryd.prog 15 #[.string s] (w.alloc (.cells lit18 28)) fun e w' => e = .returned (.tuple #[.agg (Lib.byteCells l).toArray, .int .u8 x, .bool false]) ∧ Below (w.heap.size + 1) (w.alloc (.cells lit18 28)) w') :
    Calls Tryd.prog 7 #[.slice (some ⟨b, 0, none⟩) 1 1, .slice none 0 0] w fun e w' => e = .returned (.tuple #[.agg (trL z16 0 ⟨#[]⟩).toArray, .bool false]) ∧ Below w.heap.size w w' := by
  have hnn : ∀ o, (w.alloc o).cell? ⟨b, 0, none⟩ = some (.string s) := fun o => (((Below.refl w.heap.size w).alloc (Nat.le_refl _) o).cell (World.block_lt_of_cell? w _ hc)).trans hc
  have HT := hid hT
  have T0 := hid (there_new w lit18 28 18 rfl)
  obtain ⟨X, hX⟩ : ∃ X : Array Value, X = (Lib.byteCells l).toArray := ⟨_, rfl⟩
  have XS : Hid (X.size = 16) := by rw [Hid, hX]; simp [Lib.byteCells_length, hl]
  have XI : Hid ((Tryd.prog.info? 25).map (·.size) = some X.size) := by rw [Hid, XS.out]; exact Tryd.size25
  have X1 : Hid (X.all (·.oneCell') = true) := by rw [Hid, hX]; exact all_oneCell_toArray (Lib.byteCells_one l)
  obtain ⟨Z, hZ⟩ : ∃ Z : Array Value, Z = (trL z16 0 ⟨#[]⟩).toArray := ⟨_, rfl⟩
  have HZ : Hid (Z = lit18) := hZ
  have ZS : Hid ((Tryd.prog.info? 28).map (·.size) = some Z.size) := by rw [Hid, hZ]; exact Tryd.size28
  have Z1 : Hid (Z.all (·.oneCell') = true) := by rw [Hid, hZ]; exact all_oneCell_toArray (trL_one z16 0 _)
  have ZL : Hid (Z.toList = trL z16 0 ⟨#[]⟩) := by rw [Hid, hZ]
  have ZZ : Hid (Z.size = 18) := by rw [Hid, hZ]; rfl
  rw [← hX] at HT
  clear hT hZ hX hl
  go_enter Tryd.func7, Tryd.ntmps7
  go_wp2_with fail
  refine HT.out.mono ?_
  rintro e W1 ⟨rfl, hb1⟩
  have T1 : Hid (W1.there w.heap.size 0 18) := there_of_block (hb1.block _ (by omega)) T0.out
  have B1 : Hid (Below w.heap.size w W1) := ((Below.refl w.heap.size w).alloc (Nat.le_refl _) _).trans (hb1.mono (by omega))
  have S1 : Hid (w.heap.size + 1 ≤ W1.heap.size) := by have := hb1.size; rw [Hid]; simpa using this
  have N1 : Hid ((W1.alloc (.cells lit16 25)).there W1.heap.size 0 X.size) := by rw [Hid, XS.out]; exact there_new W1 lit16 25 16 rfl
  have N2 : Hid ((W1.alloc (.cells lit16 25)).there w.heap.size 0 18) := World.there_alloc T1.out _
  clear hb1 hnn hc
  go_wp2_with (refine wpList_store_as rfl 25 _ _ rfl W1.heap.size X rfl rfl N1.out XI.out X1.out ?_)
  intro W2 hr2 hg2 ht2
  have T2 : Hid (W2.there w.heap.size 0 Z.size) := by rw [Hid, ZZ.out]; exact there_of_block (hg2.block _ (by have := S1.out; simp; omega) (by have := S1.out; simp; omega)) N2.out
  have B2 : Hid (Below w.heap.size w W2) := (B1.out.alloc (by have := S1.out; omega) _).grown hg2 (by have := S1.out; simp; omega) (fun k hk => by cases hk; have := S1.out; omega)
  clear hr2 hg2 ht2
  go_wp2_with (refine wpList_store_as rfl 28 _ _ rfl w.heap.size Z rfl (congrArg Value.agg HZ.out.symm) T2.out ZS.out Z1.out ?_)
  intro W3 hr3 hg3 ht3
  have R3 : Hid (W3.rangeAt w.heap.size 0 (trL z16 0 ⟨#[]⟩)) := by rw [Hid, ← ZL.out]; exact hr3
  have B3 : Hid (Below w.heap.size w W3) := B2.out.grown hg3 (by have := there_lt T2.out (by rw [ZZ.out]; omega); omega) (fun k hk => by cases hk; omega)
  clear hr3 hg3 ht3
  go_wp2_with fail
  exact bodyPost_ret (v := .tuple #[.agg (trL z16 0 ⟨#[]⟩).toArray, .bool false]) (res7 _ _ w.heap.size _ _ rfl R3.out (trL_length z16 rfl _ _) rfl) rfl ⟨rfl, B3.out⟩

set_option maxRecDepth 100000 in
set_option maxHeartbeats 3200000 in
theorem parse_ok (b : Nat) (s : ByteArray) (l : List UInt8) (hl : l.length = 16) (x m : Int) (h0 : 0 ≤ x) (h1 : x < 256) (w : World) (hc : w.cell? ⟨b, 0, none⟩ = some (.string s)) (hm : w.cell? ⟨1, 0, none⟩ = some (.int .i64 m))
    (hT : Calls Tryd.prog 15 #[.string s] (w.alloc (.cells lit18 28)) fun e w' => e = .returned (.tuple #[.agg (Lib.byteCells l).toArray, .int .u8 x, .bool true]) ∧ Below (w.heap.size + 1) (w.alloc (.cells lit18 28)) w') :
    Calls Tryd.prog 7 #[.slice (some ⟨b, 0, none⟩) 1 1, .slice none 0 0] w fun e w' => e = .returned (.tuple #[.agg (trL l (x % 2) ⟨#[]⟩).toArray, .bool true]) ∧ Below w.heap.size w w' := by
  have hnn : ∀ o, (w.alloc o).cell? ⟨b, 0, none⟩ = some (.string s) := fun o => (((Below.refl w.heap.size w).alloc (Nat.le_refl _) o).cell (World.block_lt_of_cell? w _ hc)).trans hc
  have hand := and1 x h0 h1
  have HT := hid hT
  have HM := hid hm
  have T0 := hid (there_new w lit18 28 18 rfl)
  obtain ⟨X, hX⟩ : ∃ X : Array Value, X = (Lib.byteCells l).toArray := ⟨_, rfl⟩
  have XS : Hid (X.size = 16) := by rw [Hid, hX]; simp [Lib.byteCells_length, hl]
  have XI : Hid ((Tryd.prog.info? 25).map (·.size) = some X.size) := by rw [Hid, XS.out]; exact Tryd.size25
  have XJ : Hid ((Tryd.prog.info? 25).map (·.size) = some X.toList.length) := by rw [Hid]; simpa using XI.out
  have X1 : Hid (X.all (·.oneCell') = true) := by rw [Hid, hX]; exact all_oneCell_toArray (Lib.byteCells_one l)
  obtain ⟨Z, hZ⟩ : ∃ Z : Array Value, Z = (trL l (x % 2) ⟨#[]⟩).toArray := ⟨_, rfl⟩
  have ZZ : Hid (Z.size = 18) := by rw [Hid, hZ]; exact trL_length l hl _ _
  have ZS : Hid ((Tryd.prog.info? 28).map (·.size) = some Z.size) := by rw [Hid, ZZ.out]; exact Tryd.size28
  have ZJ : Hid ((Tryd.prog.info? 28).map (·.size) = some Z.toList.length) := by rw [Hid]; simpa using ZS.out
  have Z1 : Hid (Z.all (·.oneCell') = true) := by rw [Hid, hZ]; exact all_oneCell_toArray (trL_one l _ _)
  have ZL : Hid (Z.toList = trL l (x % 2) ⟨#[]⟩) := by rw [Hid, hZ]
  have HBD : Hid (∀ w, (Instr.build 28 #[(0, .agg X), (1, .int .u8 (x % 2))]).run Tryd.prog w = .ok (.agg Z) w) := fun w => by
    rw [hX, hZ]; exact run_build (P := Tryd.prog) w 28 _ _ (built28 l hl (x % 2))
  rw [← hX] at HT
  have HL := hid hl
  clear hT hZ hX hl hm
  go_enter Tryd.func7, Tryd.ntmps7
  go_wp2_with fail
  refine HT.out.mono ?_
  rintro e W1 ⟨rfl, hb1⟩
  have T1 : Hid (W1.there w.heap.size 0 18) := there_of_block (hb1.block _ (by omega)) T0.out
  have B1 : Hid (Below w.heap.size w W1) := ((Below.refl w.heap.size w).alloc (Nat.le_refl _) _).trans (hb1.mono (by omega))
  have S1 : Hid (w.heap.size + 1 ≤ W1.heap.size) := by have := hb1.size; rw [Hid]; simpa using this
  have N1 : Hid ((W1.alloc (.cells lit16 25)).there W1.heap.size 0 X.size) := by rw [Hid, XS.out]; exact there_new W1 lit16 25 16 rfl
  have N2 : Hid ((W1.alloc (.cells lit16 25)).there w.heap.size 0 18) := World.there_alloc T1.out _
  clear hb1 hnn hc
  go_wp2_with (refine wpList_store_as rfl 25 _ _ rfl W1.heap.size X rfl rfl N1.out XI.out X1.out ?_)
  intro W2 hr2 hg2 ht2
  have T2 : Hid (W2.there w.heap.size 0 18) := there_of_block (hg2.block _ (by have := S1.out; simp; omega) (by have := S1.out; simp; omega)) N2.out
  have B2 : Hid (Below w.heap.size w W2) := (B1.out.alloc (by have := S1.out; omega) _).grown hg2 (by have := S1.out; simp; omega) (fun k hk => by cases hk; have := S1.out; omega)
  have R2 := hid hr2
  have S2 : Hid (w.heap.size < W2.heap.size) := there_lt T2.out (by omega)
  have N3 : Hid ((W2.alloc (.cells lit18 28)).there W2.heap.size 0 Z.size) := by rw [Hid, ZZ.out]; exact there_new W2 lit18 28 18 rfl
  have N4 : Hid ((W2.alloc (.cells lit18 28)).there w.heap.size 0 18) := World.there_alloc T2.out _
  clear hr2 hg2 ht2
  go_wp2_with (first | (refine wpList_load_mid rfl 25 _ rfl W1.heap.size 0 rfl X.toList _ R2.out Tryd.underlying25 rfl XJ.out ?_) | (refine wpList_build rfl 28 [(0, Operand.tmp 28), (1, Operand.tmp 30)] rfl [(0, .agg X), (1, .int .u8 (x % 2))] rfl (.agg Z) (HBD.out _) ?_) | (refine wpList_store_as rfl 28 _ _ rfl W2.heap.size Z rfl rfl N3.out ZS.out Z1.out ?_))
  intro W3 hr3 hg3 ht3
  have T3 : Hid (W3.there w.heap.size 0 18) := there_of_block (hg3.block _ (by have := S2.out; simp; omega) (by have := S2.out; simp; omega)) N4.out
  have B3 : Hid (Below w.heap.size w W3) := (B2.out.alloc (by have := S2.out; omega) _).grown hg3 (by have := S2.out; simp; omega) (fun k hk => by cases hk; have := S2.out; omega)
  have R3 := hid hr3
  have L3 : Hid (W2.heap.size < W3.heap.size) := there_lt ht3 (by rw [ZZ.out]; omega)
  have J3 := hid (Tryd.strings_Join_none none 0 ⟨#[44]⟩ W3)
  have M3 := hid (members_empty W3 m ((B3.out.cell (World.block_lt_of_cell? w _ HM.out)).trans HM.out))
  clear hr3 hg3 ht3
  go_wp2_with fail
  refine J3.out.mono ?_
  rintro e W3' ⟨rfl, rfl⟩
  go_wp2_with fail
  refine M3.out.mono ?_
  rintro e W4 ⟨rfl, hb4⟩
  have T4 : Hid (W4.there w.heap.size 0 Z.size) := by rw [Hid, ZZ.out]; exact there_of_block (hb4.block _ (by have := there_lt T3.out (by omega); omega)) T3.out
  have R4 : Hid (W4.rangeAt W2.heap.size 0 Z.toList) := range_of_block (hb4.block _ L3.out) R3.out
  have B4 : Hid (Below w.heap.size w W4) := B3.out.trans (hb4.mono (by have := there_lt T3.out (by omega); omega))
  clear hb4
  go_wp2_with (first | (refine wpList_load_mid rfl 28 _ rfl W2.heap.size 0 rfl Z.toList _ R4.out Tryd.underlying28 rfl ZJ.out ?_) | (refine wpList_store_as rfl 28 _ _ rfl w.heap.size Z rfl rfl T4.out ZS.out Z1.out ?_))
  intro W5 hr5 hg5 ht5
  have R5 : Hid (W5.rangeAt w.heap.size 0 (trL l (x % 2) ⟨#[]⟩)) := by rw [Hid, ← ZL.out]; exact hr5
  have B5 : Hid (Below w.heap.size w W5) := B4.out.grown hg5 (by have := there_lt T4.out (by rw [ZZ.out]; omega); omega) (fun k hk => by cases hk; omega)
  clear hr5 hg5 ht5
  go_wp2_with fail
  exact bodyPost_ret (v := .tuple #[.agg (trL l (x % 2) ⟨#[]⟩).toArray, .bool true]) (res7 _ _ w.heap.size _ _ rfl R5.out (trL_length l HL.out _ _) rfl) rfl ⟨rfl, B5.out⟩
end Go.Proofs.Qxb6616721aDoor
