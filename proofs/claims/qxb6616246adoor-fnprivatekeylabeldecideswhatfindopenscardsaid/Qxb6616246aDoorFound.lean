/-
  Seat b6616246aD: the closure that is told of the first block.
-/
import Derived.Test.Qxb6616246aDoorCalls
namespace Go.Proofs.Qxb6616246aDoor
open Go.RowKit Go.Lib

theorem Tryd.info3 : (Tryd.prog.info? 3).map (fun i => (i.zero, i.size, i.bytes)) = some (some (.int .i64 0), 1, 8) := by kernel_rfl

/-- A slice of one int, as the closure leaves it. -/
def OneInt (w : World) (v : Value) (x : Int) : Prop := ∃ g cap, v = .slice (some ⟨g, 0, none⟩) 1 cap ∧ w.cell? ⟨g, 0, none⟩ = some (.int .i64 x)

theorem oneInt_of_own {w : World} {B : Nat} {v : Value} {x : Int} (h : w.ownsRow B 3 1 v 1 [.int .i64 x]) : OneInt w v x ∧ ∀ g c, v = .slice (some ⟨g, 0, none⟩) 1 c → B ≤ g ∧ g < w.heap.size := by
  rcases h.2 with ⟨_, h0⟩ | ⟨g, cap, cur, rfl, hB, hg, _, _, hsz, htk⟩
  · cases h0
  · have hc : w.cell? ⟨g, 0, none⟩ = some (.int .i64 x) := by
      rw [cell_of_row w g 0 cur 3 (0, 0) hg]
      have : cur.toList[0]? = some (.int .i64 x) := by
        have e := congrArg (fun l : List Value => l[0]?) htk
        simpa [List.getElem?_take] using e
      simpa using this
    refine ⟨⟨g, cap, rfl, hc⟩, ?_⟩
    intro g' c' e
    simp only [Value.slice.injEq, Option.some.injEq, Addr.mk.injEq] at e
    obtain ⟨⟨rfl, _⟩, _⟩ := e
    exact ⟨hB, World.block_lt_of_cell? w _ hc⟩

theorem addr_ne {a b : Nat} (h : a ≠ b) : (⟨a, 0, none⟩ : Addr) ≠ ⟨b, 0, none⟩ := fun e => h (congrArg Addr.block e)

/-- What is as it was: every block but the two boxes. -/
structure Kept2 (sB eB : Nat) (w w' : World) : Prop where
  os : w'.os = w.os
  tape : w'.tape = w.tape
  output : w'.output = w.output
  size : w.heap.size ≤ w'.heap.size
  block : ∀ k, k < w.heap.size → k ≠ sB → k ≠ eB → w'.heap[k]? = w.heap[k]?

set_option maxHeartbeats 1000000 in
theorem found_first (sB eB : Nat) (x y : Int) (w : World) (hse : sB ≠ eB)
    (hs : w.cell? ⟨sB, 0, none⟩ = some (.slice none 0 0)) (hsf : w.frozen? ⟨sB, 0, none⟩ = false)
    (he : w.cell? ⟨eB, 0, none⟩ = some (.slice none 0 0)) (hef : w.frozen? ⟨eB, 0, none⟩ = false) :
    Calls Tryd.prog 20 #[.int .i64 x, .int .i64 y, .pointer (some ⟨sB, 0, none⟩), .pointer (some ⟨eB, 0, none⟩)] w
      fun e w' => e = .returned (.tuple #[]) ∧ ∃ vs ve, w'.cell? ⟨sB, 0, none⟩ = some vs ∧ w'.cell? ⟨eB, 0, none⟩ = some ve ∧ OneInt w' vs x ∧ OneInt w' ve y ∧ Kept2 sB eB w w' ∧ w'.frozen? ⟨sB, 0, none⟩ = false ∧ w'.frozen? ⟨eB, 0, none⟩ = false := by
  obtain ⟨i0, hi, hz0, hz1, hz2⟩ := info_parts Tryd.info3
  go_enter Tryd.func20, Tryd.ntmps20
  go_wp2_with (at_builtin; refine wpList_append_own _ rfl _ _ 26 rfl w.heap.size 3 i0 (.int .i64 0) 1 8 Tryd.underlying26 hi hz0 hz1 hz2 rfl (by decide) (.slice none 0 0) 0 [] rfl (World.ownsRow_nil _ _ _ _) ⟨w.heap.size, 0, none⟩ 1 1 [.int .i64 x] rfl rfl ?c1 ?c2 ?c3 ?c4 ?c5 ?_)
  case c1 =>
    intro j u hj
    match j, hj with
    | 0, hj => simp at hj; subst hj; simp [Addr.add]
  case c2 => intro u hu; simp at hu; subst hu; rfl
  case c3 => unfold maxLen; omega
  case c4 => omega
  case c5 => simp
  intro v1 w1 hown1 hgr1 _
  obtain ⟨⟨g1, q1, hv1, hx1⟩, hgb⟩ := oneInt_of_own hown1
  obtain ⟨hgB, hgs⟩ := hgb g1 q1 hv1
  have hk1 : Below w.heap.size w w1 := ((Below.refl _ w).alloc (Nat.le_refl _) _).grown hgr1 (by simp) (fun k hk => by simp [Value.ownBlock] at hk)
  have hsl : sB < w.heap.size := World.block_lt_of_cell? w _ hs
  have hel : eB < w.heap.size := World.block_lt_of_cell? w _ he
  have hs1 : w1.cell? ⟨sB, 0, none⟩ = some (.slice none 0 0) := (hk1.cell (by exact hsl)).trans hs
  have hsf1 : w1.frozen? ⟨sB, 0, none⟩ = false := (hk1.frozen (by exact hsl)).trans hsf
  have he1 : w1.cell? ⟨eB, 0, none⟩ = some (.slice none 0 0) := (hk1.cell (by exact hel)).trans he
  have hef1 : w1.frozen? ⟨eB, 0, none⟩ = false := (hk1.frozen (by exact hel)).trans hef
  have HX1 := hid hx1
  have HK1 := hid hk1
  rw [hv1]
  clear hown1 hgr1 hgb hx1 hk1 hs he hsf hef hv1
  go_wp2_with (at_builtin; refine wpList_append_own _ rfl _ _ 26 rfl w1.heap.size 3 i0 (.int .i64 0) 1 8 Tryd.underlying26 hi hz0 hz1 hz2 rfl (by decide) (.slice none 0 0) 0 [] rfl (World.ownsRow_nil _ _ _ _) ⟨w1.heap.size, 0, none⟩ 1 1 [.int .i64 y] rfl rfl ?c1 ?c2 ?c3 ?c4 ?c5 ?_)
  case c1 =>
    intro j u hj
    match j, hj with
    | 0, hj =>
      simp at hj; subst hj
      rw [Addr.add_lit, World.cell?_alloc_at _ _ _ _ (by simp)]
      rfl
  case c2 => intro u hu; simp at hu; subst hu; rfl
  case c3 => unfold maxLen; omega
  case c4 => omega
  case c5 => simp
  intro v2 w2 hown2 hgr2 _
  obtain ⟨⟨g2, q2, hv2, hx2⟩, hgb2⟩ := oneInt_of_own hown2
  obtain ⟨hgB2, hgs2⟩ := hgb2 g2 q2 hv2
  have hk2 : Below w1.heap.size (w1.setCell ⟨sB, 0, none⟩ (.slice (some ⟨g1, 0, none⟩) 1 q1)) w2 :=
    ((Below.refl _ _).alloc (by simp) _).grown hgr2 (by simp) (fun k hk => by simp [Value.ownBlock] at hk)
  have hb1 := HK1.out.size
  have hs2 : w2.cell? ⟨sB, 0, none⟩ = some (.slice (some ⟨g1, 0, none⟩) 1 q1) := (hk2.cell (by show sB < _; omega)).trans (World.cell?_setCell_same _ _ _ hs1)
  have he2 : w2.cell? ⟨eB, 0, none⟩ = some (.slice none 0 0) := (hk2.cell (by show eB < _; omega)).trans ((World.cell?_setCell_other _ _ _ _ (addr_ne hse)).trans he1)
  have hef2 : w2.frozen? ⟨eB, 0, none⟩ = false := (hk2.frozen (by show eB < _; omega)).trans ((World.frozen?_setCell _ _ _ _).trans hef1)
  have hsf2 : w2.frozen? ⟨sB, 0, none⟩ = false := (hk2.frozen (by show sB < _; omega)).trans ((World.frozen?_setCell _ _ _ _).trans hsf1)
  have HSF2 := hid hsf2
  have hx12 : w2.cell? ⟨g1, 0, none⟩ = some (.int .i64 x) := (hk2.cell (by exact hgs)).trans ((World.cell?_setCell_other _ _ _ _ (addr_ne (by omega))).trans HX1.out)
  have HX12 := hid hx12
  have HX2 := hid hx2
  have HK2 := hid hk2
  have HS2 := hid hs2
  rw [hv2]
  clear hown2 hgr2 hgb2 hx2 hx12 hk2 hs1 he1 hsf1 hef1 hv2 hs2 hsf2
  go_wp2_with fail
  go_end0
  refine ⟨rfl, _, _, ?_, World.cell?_setCell_same _ _ _ he2, ⟨g1, q1, rfl, ?_⟩, ⟨g2, q2, rfl, ?_⟩, ?_, (World.frozen?_setCell _ _ _ _).trans HSF2.out, (World.frozen?_setCell _ _ _ _).trans hef2⟩
  · rw [World.cell?_setCell_other _ _ _ _ (addr_ne hse.symm)]
    exact HS2.out
  · rw [World.cell?_setCell_other _ _ _ _ (addr_ne (by omega))]
    exact HX12.out
  · rw [World.cell?_setCell_other _ _ _ _ (addr_ne (by omega))]
    exact HX2.out
  · have k1 := HK1.out
    have k2 := HK2.out
    refine ⟨k2.os.trans k1.os, k2.tape.trans k1.tape, k2.output.trans k1.output, ?_, fun k hk h1 h2 => ?_⟩
    · have := k2.size
      simp [World.setCell] at this ⊢
      omega
    · rw [Below.heap_setCell _ _ _ _ (by exact h2), k2.block k (by omega), Below.heap_setCell _ _ _ _ (by exact h1), k1.block k hk]

end Go.Proofs.Qxb6616246aDoor
