/-
  Seat b6616721aD: parseTraceparent at a header of four encoded fields.
-/
import Derived.Test.Qxb6616721aDoorSmall
namespace Go.Proofs.Qxb6616721aDoor
open Go.RowKit Go.Lib

attribute [local go_sem ↓] Go.wp_at_zero Go.wp_at_succ

def rowOf (l : List UInt8) : Nat → Value := fun j => .int .u8 ((l[j]?.getD 0).toNat : Int)
def zeros : Nat → Value := fun _ => .int .u8 0

/-- The five variables of parseTraceparent, as they lie. -/
def St (H : Nat) (w W : World) (ev : Value) (a b c d : Nat → Value) : Prop :=
  (W.rowIs (H + 1) 56 1 a ∧ W.rowIs (H + 1 + 1) 56 1 b ∧ W.rowIs (H + 1 + 1 + 1) 25 16 c ∧ W.rowIs (H + 1 + 1 + 1 + 1) 57 8 d ∧ W.rowIs H 25 16 zeros) ∧ W.cell? ⟨0, 0, none⟩ = some ev ∧ Below H w W

theorem rowIs_block {W W' : World} {b : Nat} {t : TypeId} {n : Nat} {f : Nat → Value} (h : W'.heap[b]? = W.heap[b]?) (hr : W.rowIs b t n f) : W'.rowIs b t n f := by
  obtain ⟨c, h1, h2⟩ := hr
  exact ⟨c, h.trans h1, h2⟩

theorem rowIs_lt {W : World} {b : Nat} {t : TypeId} {n : Nat} {f : Nat → Value} (hr : W.rowIs b t n f) : b < W.heap.size := by
  obtain ⟨c, h1, h2⟩ := hr
  exact (Array.getElem?_eq_some_iff.1 h1).1

theorem rowIs_grown {W W' : World} {b bd : Nat} {t : TypeId} {n : Nat} {f : Nat → Value} (hg : W.grownBy W' (some bd)) (hne : b ≠ bd) (hr : W.rowIs b t n f) : W'.rowIs b t n f :=
  rowIs_block (hg.block b (rowIs_lt hr) (by simpa using hne)) hr

theorem cell_grown {W W' : World} {bd : Nat} {x : Value} (hg : W.grownBy W' (some bd)) (hne : 0 ≠ bd) (h : W.cell? ⟨0, 0, none⟩ = some x) : W'.cell? ⟨0, 0, none⟩ = some x := by
  rw [← h]
  have := hg.block 0 (World.block_lt_of_cell? W _ h) (by simpa using hne)
  unfold World.cell?
  simp only [this]

theorem St.drew {H : Nat} {w W : World} {ev : Value} {a b c d : Nat → Value} (h : St H w W ev a b c d) : St H w W.drew ev a b c d := ⟨h.1, by simpa using h.2.1, h.2.2.drew⟩

theorem St.call1 {H : Nat} {w W : World} {ev : Value} {a b c d : Nat → Value} (hS : St H w W ev a b c d) (h0 : 0 < H) (l : List UInt8) (s : ByteArray) (hl : l.length = 1) (hs : s = ⟨(Hx.encode l).toArray⟩) :
    Calls Tryd.prog 27 #[.slice (some ⟨H + 1, 0, none⟩) 1 1, .string s] W fun e W' => e = .returned (.bool true) ∧ St H w W' ev (rowOf l) b c d := by
  obtain ⟨⟨h1, h2, h3, h4, h5⟩, h6, h7⟩ := hS
  refine (lower_any 56 (H + 1) 1 a l s W ev hl hs (by omega) h1 h6 (by omega)).mono ?_
  rintro e W' ⟨rfl, hr, hg⟩
  exact ⟨rfl, ⟨hr, rowIs_grown hg (by omega) h2, rowIs_grown hg (by omega) h3, rowIs_grown hg (by omega) h4, rowIs_grown hg (by omega) h5⟩, cell_grown hg (by omega) h6, h7.grown hg (by have := rowIs_lt h5; omega) (fun k hk => by cases hk; omega)⟩

theorem St.call2 {H : Nat} {w W : World} {ev : Value} {a b c d : Nat → Value} (hS : St H w W ev a b c d) (h0 : 0 < H) (l : List UInt8) (s : ByteArray) (hl : l.length = 1) (hs : s = ⟨(Hx.encode l).toArray⟩) :
    Calls Tryd.prog 27 #[.slice (some ⟨H + 1 + 1, 0, none⟩) 1 1, .string s] W fun e W' => e = .returned (.bool true) ∧ St H w W' ev a (rowOf l) c d := by
  obtain ⟨⟨h1, h2, h3, h4, h5⟩, h6, h7⟩ := hS
  refine (lower_any 56 (H + 1 + 1) 1 b l s W ev hl hs (by omega) h2 h6 (by omega)).mono ?_
  rintro e W' ⟨rfl, hr, hg⟩
  exact ⟨rfl, ⟨rowIs_grown hg (by omega) h1, hr, rowIs_grown hg (by omega) h3, rowIs_grown hg (by omega) h4, rowIs_grown hg (by omega) h5⟩, cell_grown hg (by omega) h6, h7.grown hg (by have := rowIs_lt h5; omega) (fun k hk => by cases hk; omega)⟩

theorem St.call3 {H : Nat} {w W : World} {ev : Value} {a b c d : Nat → Value} (hS : St H w W ev a b c d) (h0 : 0 < H) (l : List UInt8) (s : ByteArray) (hl : l.length = 16) (hs : s = ⟨(Hx.encode l).toArray⟩) :
    Calls Tryd.prog 27 #[.slice (some ⟨H + 1 + 1 + 1, 0, none⟩) 16 16, .string s] W fun e W' => e = .returned (.bool true) ∧ St H w W' ev a b (rowOf l) d := by
  obtain ⟨⟨h1, h2, h3, h4, h5⟩, h6, h7⟩ := hS
  refine (lower_any 25 (H + 1 + 1 + 1) 16 c l s W ev hl hs (by omega) h3 h6 (by omega)).mono ?_
  rintro e W' ⟨rfl, hr, hg⟩
  exact ⟨rfl, ⟨rowIs_grown hg (by omega) h1, rowIs_grown hg (by omega) h2, hr, rowIs_grown hg (by omega) h4, rowIs_grown hg (by omega) h5⟩, cell_grown hg (by omega) h6, h7.grown hg (by have := rowIs_lt h5; omega) (fun k hk => by cases hk; omega)⟩

theorem St.call4 {H : Nat} {w W : World} {ev : Value} {a b c d : Nat → Value} (hS : St H w W ev a b c d) (h0 : 0 < H) (l : List UInt8) (s : ByteArray) (hl : l.length = 8) (hs : s = ⟨(Hx.encode l).toArray⟩) :
    Calls Tryd.prog 27 #[.slice (some ⟨H + 1 + 1 + 1 + 1, 0, none⟩) 8 8, .string s] W fun e W' => e = .returned (.bool true) ∧ St H w W' ev a b c (rowOf l) := by
  obtain ⟨⟨h1, h2, h3, h4, h5⟩, h6, h7⟩ := hS
  refine (lower_any 57 (H + 1 + 1 + 1 + 1) 8 d l s W ev hl hs (by omega) h4 h6 (by omega)).mono ?_
  rintro e W' ⟨rfl, hr, hg⟩
  exact ⟨rfl, ⟨rowIs_grown hg (by omega) h1, rowIs_grown hg (by omega) h2, rowIs_grown hg (by omega) h3, hr, rowIs_grown hg (by omega) h5⟩, cell_grown hg (by omega) h6, h7.grown hg (by have := rowIs_lt h5; omega) (fun k hk => by cases hk; omega)⟩

abbrev u0 : Value := .int .u8 0

theorem hp_new (w : World) (o : Obj) (n : Nat) (h : n = w.heap.size) : (w.alloc o).heap[n]? = some o := by subst h; exact heap_alloc_new w o
theorem hp_old (w : World) (o : Obj) (k : Nat) (h : k < w.heap.size) : (w.alloc o).heap[k]? = w.heap[k]? := Below.heap_alloc _ _ _ (by omega)

theorem St.init (w : World) (ev : Value) (hE : w.cell? ⟨0, 0, none⟩ = some ev) :
    St w.heap.size w (((((w.alloc (.cells #[u0, u0, u0, u0, u0, u0, u0, u0, u0, u0, u0, u0, u0, u0, u0, u0] 25)).alloc (.cells #[u0] 56)).alloc (.cells #[u0] 56)).alloc (.cells #[u0, u0, u0, u0, u0, u0, u0, u0, u0, u0, u0, u0, u0, u0, u0, u0] 25)).alloc (.cells #[u0, u0, u0, u0, u0, u0, u0, u0] 57)) ev zeros zeros zeros zeros := by
  have hlt := World.block_lt_of_cell? w _ hE
  have hb : Below w.heap.size w (((((w.alloc (.cells #[u0, u0, u0, u0, u0, u0, u0, u0, u0, u0, u0, u0, u0, u0, u0, u0] 25)).alloc (.cells #[u0] 56)).alloc (.cells #[u0] 56)).alloc (.cells #[u0, u0, u0, u0, u0, u0, u0, u0, u0, u0, u0, u0, u0, u0, u0, u0] 25)).alloc (.cells #[u0, u0, u0, u0, u0, u0, u0, u0] 57)) :=
    (((((Below.refl w.heap.size w).alloc (Nat.le_refl _) _).alloc (by simp) _).alloc (by simp; omega) _).alloc (by simp; omega) _).alloc (by simp; omega) _
  have z : ∀ (n : Nat) (c : Array Value), c = Array.replicate n u0 → ∀ i, i < n → c[i]? = some u0 := by
    intro n c hc i hi
    subst hc
    simp [hi]
  refine ⟨⟨⟨#[u0], ?_, rfl, z 1 _ rfl⟩, ⟨#[u0], ?_, rfl, z 1 _ rfl⟩, ⟨_, ?_, rfl, z 16 _ rfl⟩, ⟨_, ?_, rfl, z 8 _ rfl⟩, ⟨_, ?_, rfl, z 16 _ rfl⟩⟩, ?_, ?_⟩
  · rw [hp_old _ _ _ (by simp), hp_old _ _ _ (by simp), hp_old _ _ _ (by simp), hp_new _ _ _ (by simp)]
  · rw [hp_old _ _ _ (by simp), hp_old _ _ _ (by simp), hp_new _ _ _ (by simp)]
  · rw [hp_old _ _ _ (by simp), hp_new _ _ _ (by simp)]; rfl
  · rw [hp_new _ _ _ (by simp)]; rfl
  · rw [hp_old _ _ _ (by simp; omega), hp_old _ _ _ (by simp; omega), hp_old _ _ _ (by simp; omega), hp_old _ _ _ (by simp), hp_new _ _ _ rfl]; rfl
  · exact (hb.cell hlt).trans hE
  · exact hb
end Go.Proofs.Qxb6616721aDoor
