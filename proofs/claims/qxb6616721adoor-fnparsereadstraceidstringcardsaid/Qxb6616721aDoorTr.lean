/-
  Seat b6616721aD: the struct Trace, as eighteen cells.
-/
import Derived.Test.Qxb6616721aDoorSmall
import Derived.Lib.BufferWrite
import Derived.Laws.Tables
namespace Go.Proofs.Qxb6616721aDoor
open Go.RowKit Go.Lib

def trL (l : List UInt8) (x : Int) (t : ByteArray) : List Value := Lib.byteCells l ++ [.int .u8 x, .string t]

theorem trL_length (l : List UInt8) (hl : l.length = 16) (x : Int) (t : ByteArray) : (trL l x t).length = 18 := by simp [trL, Lib.byteCells_length, hl]

theorem trL_one (l : List UInt8) (x : Int) (t : ByteArray) : ∀ v ∈ trL l x t, v.oneCell' = true := by
  intro v hv
  simp only [trL, List.mem_append, List.mem_cons, List.not_mem_nil, or_false] at hv
  rcases hv with h | rfl | rfl
  · exact Lib.byteCells_one l v h
  · rfl
  · rfl

theorem built28x (a0 a1 a2 a3 a4 a5 a6 a7 a8 a9 a10 a11 a12 a13 a14 a15 : UInt8) (x : Int) : Tryd.prog.built 28 [(0, .agg (Lib.byteCells [a0, a1, a2, a3, a4, a5, a6, a7, a8, a9, a10, a11, a12, a13, a14, a15]).toArray), (1, .int .u8 x)] = some (trL [a0, a1, a2, a3, a4, a5, a6, a7, a8, a9, a10, a11, a12, a13, a14, a15] x ⟨#[]⟩).toArray := by kernel_rfl

theorem built28 (l : List UInt8) (hl : l.length = 16) (x : Int) : Tryd.prog.built 28 [(0, .agg (Lib.byteCells l).toArray), (1, .int .u8 x)] = some (trL l x ⟨#[]⟩).toArray :=
  match l, hl with
  | [a0, a1, a2, a3, a4, a5, a6, a7, a8, a9, a10, a11, a12, a13, a14, a15], _ => built28x a0 a1 a2 a3 a4 a5 a6 a7 a8 a9 a10 a11 a12 a13 a14 a15 x

theorem fields28 : Tryd.prog.underlying 28 = some (.struct (Tryd.prog.fieldsOf 28)) := by kernel_rfl
theorem held28 : Tryd.prog.stoodInHeld 28 = false := by kernel_rfl
theorem fl28 : (Tryd.prog.fieldsOf 28).toList.map (fun f => (f.name, f.type, f.offset)) = [("ID", 25, 0), ("Flags", 26, 16), ("State", 9, 17)] := by kernel_rfl

theorem part25 (l : List UInt8) (hl : l.length = 16) (x : Int) (t : ByteArray) (w : World) : (part 25 (trL l x t).toArray 0).run Tryd.prog w = .ok (.agg (Lib.byteCells l).toArray) w := by
  have e : (trL l x t).toArray.extract 0 (0 + 16) = (Lib.byteCells l).toArray := by
    apply Array.ext'
    have : (Lib.byteCells l).length = 16 := by rw [Lib.byteCells_length, hl]
    simp [trL, this]
  simp only [part, Sem.run_bind, Tryd.isAgg25, Tryd.sizeOf25, Result.andThen_ok, if_true, Sem.run_pure, e]

theorem part26 (l : List UInt8) (hl : l.length = 16) (x : Int) (t : ByteArray) (w : World) : (part 26 (trL l x t).toArray 16).run Tryd.prog w = .ok (.int .u8 x) w := by
  have e : (trL l x t).toArray[16]? = some (.int .u8 x) := by
    have : (Lib.byteCells l).length = 16 := by rw [Lib.byteCells_length, hl]
    rw [trL, List.getElem?_toArray, List.getElem?_append_right (by omega), this]; rfl
  simp only [part, Sem.run_bind, Tryd.isAgg26, Result.andThen_ok, Bool.false_eq_true, if_false, Sem.run_pure, e]

theorem part9 (l : List UInt8) (hl : l.length = 16) (x : Int) (t : ByteArray) (w : World) : (part 9 (trL l x t).toArray 17).run Tryd.prog w = .ok (.string t) w := by
  have e : (trL l x t).toArray[17]? = some (.string t) := by
    have : (Lib.byteCells l).length = 16 := by rw [Lib.byteCells_length, hl]
    rw [trL, List.getElem?_toArray, List.getElem?_append_right (by omega), this]; rfl
  simp only [part, Sem.run_bind, Tryd.isAgg9, Result.andThen_ok, Bool.false_eq_true, if_false, Sem.run_pure, e]

theorem eq28 (xs ys : List UInt8) (hx : xs.length = 16) (hy : ys.length = 16) (a b : Int) (s : ByteArray) (w : World) :
    (Op.equalIn 10000 28 (.agg (trL xs a s).toArray) (.agg (trL ys b s).toArray)).run Tryd.prog w = .ok (xs == ys && a == b) w := by
  rw [run_equalIn_struct w 9999 28 _ _ fields28 held28]
  have hf := fl28
  generalize (Tryd.prog.fieldsOf 28).toList = fs at hf
  have hlen : fs.length = 3 := by have := congrArg List.length hf; simpa using this
  match fs, hlen, hf with
  | [f0, f1, f2], _, hf =>
    simp only [List.map_cons, List.map_nil, List.cons.injEq, Prod.mk.injEq, and_true] at hf
    obtain ⟨⟨n0, t0, o0⟩, ⟨n1, t1, o1⟩, ⟨n2, t2, o2⟩⟩ := hf
    have q := run_equalIn_bytes (P := Tryd.prog) w 9997 25 5 16 Tryd.underlying25 Tryd.underlying5 Tryd.isAgg5 Tryd.sizeOf5 xs ys hx hy
    have q1 := run_equalIn_int (P := Tryd.prog) w 9998 26 .u8 .u8 a b Tryd.underlying26
    have q2 := run_equalIn_string (P := Tryd.prog) w 9998 9 s s Tryd.underlying9
    simp only [Op.eqFields, n0, t0, o0, n1, t1, o1, n2, t2, o2, Sem.run_bind, Sem.run_ite, part25 _ hx, part25 _ hy, part26 _ hx, part26 _ hy, part9 _ hx, part9 _ hy, Result.andThen_ok, q, q1, q2]
    cases h1 : (xs == ys) <;> cases h2 : (a == b) <;> simp

theorem grownBy_setCells (b : Nat) : ∀ (vs : List Value) (o : Nat) (W : World), W.grownBy (W.setCells b o vs) (some b)
  | [], _, _ => Hx.grownBy_refl _ _
  | v :: vs, o, W => by
    have h1 : W.grownBy (W.setCell ⟨b, o, none⟩ v) (some b) := Hx.grownBy_set (Hx.grownBy_refl W _) ⟨b, o, none⟩ rfl v
    have h2 := grownBy_setCells b vs (o + 1) (W.setCell ⟨b, o, none⟩ v)
    exact ⟨h2.os.trans h1.os, h2.tape.trans h1.tape, h2.output.trans h1.output, Nat.le_trans h1.size h2.size, fun k hk hne => (h2.block k (Nat.lt_of_lt_of_le hk h1.size) hne).trans (h1.block k hk hne)⟩

theorem wpList_store_as {P : Program} {ops : Array Oper} {rest : List Oper} {op : Oper} {a : Act} {w : World} {Q : Exit → Act → World → Prop} (hgd : op.guard = none) (ty : TypeId) (x y : Operand) (ho : op.op = .store ty x y)
    (b : Nat) (cells : Array Value) (hx : a.eval x = .pointer (some ⟨b, 0, none⟩)) (hy : a.eval y = .agg cells)
    (ht : w.there b 0 cells.size) (hi : (P.info? ty).map (·.size) = some cells.size) (h1 : cells.all (·.oneCell') = true)
    (h : ∀ W', W'.rangeAt b 0 cells.toList → w.grownBy W' (some b) → W'.there b 0 cells.size → wpList P ops Q rest (a.put op.dst undef) W') : wpList P ops Q (op :: rest) a w :=
  wpList_store_mid hgd ty x y ho b 0 cells hx hy ht hi h1 (h _ (World.rangeAt_setCells_same _ _ _ _ (by simpa using ht)) (grownBy_setCells b _ _ _) (World.there_setCells ht _ _ _))

theorem wpList_build {P : Program} {ops : Array Oper} {rest : List Oper} {op : Oper} {a : Act} {w : World} {Q : Exit → Act → World → Prop} (hgd : op.guard = none) (ty : TypeId) (parts : List (Nat × Operand)) (ho : op.op = .build ty parts.toArray)
    (vs : List (Nat × Value)) (hv : (parts.map fun (i, x) => (i, a.eval x)) = vs) (v : Value) (hr : (Instr.build ty vs.toArray).run P w = .ok v w)
    (h : wpList P ops Q rest (a.put op.dst v) w) : wpList P ops Q (op :: rest) a w :=
  wpList_plain hgd fun _ hK => by
    unfold Oper.wp execOp
    simp only [ho, List.map_toArray, hv, Sem.run_bind, hr, Result.andThen_ok, Sem.run_pure]
    exact hK _ _ h

theorem there_of_block {W W' : World} {b n : Nat} (h : W'.heap[b]? = W.heap[b]?) (ht : W.there b 0 n) : W'.there b 0 n := fun j hj => by
  rw [World.cell?_of_block (w := W) (a := ⟨b, 0 + j, none⟩) h, World.frozen?_of_block (w := W) (a := ⟨b, 0 + j, none⟩) h]
  exact ht j hj

theorem range_of_block {W W' : World} {b : Nat} {cs : List Value} (h : W'.heap[b]? = W.heap[b]?) (ht : W.rangeAt b 0 cs) : W'.rangeAt b 0 cs := fun j x hx => by
  rw [World.cell?_of_block (w := W) (a := ⟨b, 0 + j, none⟩) h]
  exact ht j x hx

theorem there_lt {W : World} {b n : Nat} (ht : W.there b 0 n) (hn : 0 < n) : b < W.heap.size := by
  have := (ht 0 hn).1
  obtain ⟨x, hx⟩ := Option.isSome_iff_exists.1 this
  exact World.block_lt_of_cell? W _ hx

theorem range_lt {W : World} {b : Nat} {cs : List Value} (ht : W.rangeAt b 0 cs) (hn : 0 < cs.length) : b < W.heap.size :=
  World.block_lt_of_cell? W _ (ht 0 _ (List.getElem?_eq_getElem hn))

theorem there_new (w : World) (C : Array Value) (t : TypeId) (n : Nat) (h : C.size = n) : (w.alloc (.cells C t)).there w.heap.size 0 n := fun j hj => by
  have hj' : j < C.size := by omega
  rw [Nat.zero_add, World.cell?_alloc_at _ _ _ _ rfl, World.frozen?_alloc_at _ _ _ _ rfl]
  exact ⟨by simp [hj'], rfl⟩
end Go.Proofs.Qxb6616721aDoor
