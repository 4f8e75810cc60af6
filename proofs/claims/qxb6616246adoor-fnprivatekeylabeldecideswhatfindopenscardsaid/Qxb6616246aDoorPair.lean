/-
  Seat b6616246aD: ZZfind, ZZclosing, findOnPair.
-/
import Derived.Test.Qxb6616246aDoorFind
import Derived.Test.Qxb6616246aDoorApp
namespace Go.Proofs.Qxb6616246aDoor
open Go.RowKit Go.Lib

theorem two_boxes (w1 : World) (N : Nat) (vs ve : Value) {a b : Value} (h0 : w1.cell? ⟨N, 0, none⟩ = some a) (h1 : w1.cell? ⟨N + 1, 0, none⟩ = some b) :
    ((w1.setCell ⟨N, 0, none⟩ vs).setCell ⟨N + 1, 0, none⟩ ve).cell? ⟨N, 0, none⟩ = some vs ∧ ((w1.setCell ⟨N, 0, none⟩ vs).setCell ⟨N + 1, 0, none⟩ ve).cell? ⟨N + 1, 0, none⟩ = some ve := by
  constructor
  · rw [World.cell?_setCell_other _ _ _ _ (addr_ne (by omega))]; exact World.cell?_setCell_same _ _ _ h0
  · exact World.cell?_setCell_same _ _ _ ((World.cell?_setCell_other _ _ _ _ (addr_ne (by omega))).trans h1)

set_option maxHeartbeats 1000000 in
theorem ZZfind_none (pb b o n c : Nat) (p : List UInt8) (m : Int) (w : World) (hp : p.length = n) (hnc : n ≤ c) (hcm : c ≤ 9223372036854775807) (hn : n ≤ 2097152) (hn0 : 0 < n)
    (hc : ∀ i, i < n → w.cell? ⟨b, o + i, none⟩ = some (.int .u8 ((nI p).getD i 0))) (hm : w.cell? ⟨0, 0, none⟩ = some (.int .i64 m))
    (hpb : w.cell? ⟨pb, 0, none⟩ = some (.slice none 0 0)) (hfz : w.frozen? ⟨pb, 0, none⟩ = false)
    (hno : ∀ i, opensAt p i = none) :
    Calls Tryd.prog 7 #[.pointer (some ⟨pb, 0, none⟩), .slice (some ⟨b, o, none⟩) n c] w
      fun e w' => e = .returned (.tuple #[.slice none 0 0, .slice none 0 0]) ∧ w'.cell? ⟨pb, 0, none⟩ = some (.slice none 0 0) ∧ Below pb w w' := by
  have hmf : ∀ (fn : Fn) (first cap : Array Value) (w : World), (Instr.makeFunc fn first cap).run Tryd.prog w = .ok (.func fn first cap) w := fun _ _ _ _ => rfl
  have hlt : pb < w.heap.size := World.block_lt_of_cell? w _ hpb
  have hbl : Below w.heap.size w ((w.alloc (.cells #[.slice none 0 0] 26)).alloc (.cells #[.slice none 0 0] 26)) := ((Below.refl _ _).alloc (Nat.le_refl _) _).alloc (by simp) _
  have hF := Find_none pb b o n c (.func (.func 20) #[] #[.pointer (some ⟨w.heap.size, 0, none⟩), .pointer (some ⟨w.heap.size + 1, 0, none⟩)]) p m
    ((w.alloc (.cells #[.slice none 0 0] 26)).alloc (.cells #[.slice none 0 0] 26)) hp hnc hcm hn hn0 (fun i hi => bcell hbl (hc i hi)) (bcell hbl hm) (bcell hbl hpb) (bfrozen hbl hpb hfz) hno
  have HF := hid hF
  have HB := hid hbl
  clear hF hbl hc hp hm hno hpb hfz
  go_enter Tryd.func7, Tryd.ntmps7
  go_wp2_with fail
  refine HF.out.mono ?_
  rintro e w1 ⟨rfl, hg, hpb1⟩
  have hs1 : w1.cell? ⟨w.heap.size, 0, none⟩ = some (.slice none 0 0) := hg.cell (by
    rw [World.cell?_alloc_past _ _ _ (by simp), World.cell?_alloc_at _ _ _ _ rfl]; rfl) (by simp; omega)
  have he1 : w1.cell? ⟨w.heap.size + 1, 0, none⟩ = some (.slice none 0 0) := hg.cell (by
    rw [World.cell?_alloc_at _ _ _ _ (by simp)]; rfl) (by simp; omega)
  have hsf1 : w1.frozen? ⟨w.heap.size, 0, none⟩ = false := by
    rw [World.frozen?_of_block (w := ((w.alloc (.cells #[.slice none 0 0] 26)).alloc (.cells #[.slice none 0 0] 26))) (hg.block w.heap.size (by simp; omega) (by simp; omega))]
    rw [World.frozen?_alloc_past _ _ _ (by simp), World.frozen?_alloc_at _ _ _ _ rfl]
  have hef1 : w1.frozen? ⟨w.heap.size + 1, 0, none⟩ = false := by
    rw [World.frozen?_of_block (w := ((w.alloc (.cells #[.slice none 0 0] 26)).alloc (.cells #[.slice none 0 0] 26))) (hg.block (w.heap.size + 1) (by simp) (by simp; omega))]
    rw [World.frozen?_alloc_at _ _ _ _ (by simp)]
  go_wp2_with fail
  go_region
  go_wp2
  obtain ⟨q0, q1⟩ := two_boxes w1 w.heap.size (.slice none 0 0) (.slice none 0 0) hs1 he1
  refine bodyPost_ret (v := .tuple #[.slice none 0 0, .slice none 0 0]) (by simp [results, Tryd.results7, go_sem, q0, q1]) rfl ⟨rfl, ?_, ?_⟩
  · show ((w1.setCell ⟨w.heap.size, 0, none⟩ (.slice none 0 0)).setCell ⟨w.heap.size + 1, 0, none⟩ (.slice none 0 0)).cell? ⟨pb, 0, none⟩ = _
    rw [cell_setCell_block _ (by show pb ≠ _; omega), cell_setCell_block _ (by show pb ≠ _; omega)]
    exact hpb1
  · have hbw := HB.out
    refine (((((hbw.mono (by omega)).trans ?_)).setCell (by show pb ≤ w.heap.size; omega) _).setCell (by show pb ≤ w.heap.size + 1; omega) _).drew
    exact ⟨hg.os, hg.tape, hg.output, hg.size, fun k hk => hg.block k (by simp; omega) (by simp; omega)⟩

set_option maxHeartbeats 1000000 in
theorem ZZfind_one (pb b o n c K i1 : Nat) (p lab : List UInt8) (m : Int) (w : World) (hp : p.length = n) (hnc : n ≤ c) (hcm : c ≤ 9223372036854775807) (hn : n ≤ 2097152)
    (hc : ∀ i, i < n → w.cell? ⟨b, o + i, none⟩ = some (.int .u8 ((nI p).getD i 0))) (hm : w.cell? ⟨0, 0, none⟩ = some (.int .i64 m))
    (hpb : w.cell? ⟨pb, 0, none⟩ = some (.slice none 0 0)) (hfz : w.frozen? ⟨pb, 0, none⟩ = false) (hbp : b ≠ pb) (h0p : 0 ≠ pb)
    (ho0 : opensAt p 0 = some lab) (ho1 : ∀ i, 1 ≤ i → opensAt p i = none) (hK : (lineOf p).length = K) (hKi : K ≤ i1) (hin : i1 + (kE ++ lab ++ d5).length + 1 = n)
    (hidx : index (p.drop K) (kE ++ lab ++ d5) = (i1 : Int) - (K : Int)) (hsl : slB (nI p) i1 = true) (hel : elB ((nI p).drop (i1 + (kE ++ lab ++ d5).length)) = true) :
    Calls Tryd.prog 7 #[.pointer (some ⟨pb, 0, none⟩), .slice (some ⟨b, o, none⟩) n c] w
      fun e w' => ∃ vs ve, e = .returned (.tuple #[vs, ve]) ∧ OneInt w' vs 0 ∧ OneInt w' ve ((n : Int) - 1) ∧ w'.cell? ⟨pb, 0, none⟩ = some (.slice none 0 0) ∧ Below pb w w' := by
  have hmf : ∀ (fn : Fn) (first cap : Array Value) (w : World), (Instr.makeFunc fn first cap).run Tryd.prog w = .ok (.func fn first cap) w := fun _ _ _ _ => rfl
  have hlt : pb < w.heap.size := World.block_lt_of_cell? w _ hpb
  have hltb : b < w.heap.size := World.block_lt_of_cell? w _ (hc 0 (by omega))
  have hlt0 : 0 < w.heap.size := World.block_lt_of_cell? w _ hm
  have hbl : Below w.heap.size w ((w.alloc (.cells #[.slice none 0 0] 26)).alloc (.cells #[.slice none 0 0] 26)) := ((Below.refl _ _).alloc (Nat.le_refl _) _).alloc (by simp) _
  have hF := Find_one pb w.heap.size (w.heap.size + 1) b o n c K i1 p lab m ((w.alloc (.cells #[.slice none 0 0] 26)).alloc (.cells #[.slice none 0 0] 26))
    hp hnc hcm hn (fun i hi => bcell hbl (hc i hi)) (bcell hbl hm) (bcell hbl hpb) (bfrozen hbl hpb hfz)
    (by rw [World.cell?_alloc_past _ _ _ (by simp), World.cell?_alloc_at _ _ _ _ rfl]; rfl)
    (by rw [World.frozen?_alloc_past _ _ _ (by simp), World.frozen?_alloc_at _ _ _ _ rfl])
    (by rw [World.cell?_alloc_at _ _ _ _ (by simp)]; rfl)
    (by rw [World.frozen?_alloc_at _ _ _ _ (by simp)])
    ⟨hbp, h0p, by omega, by omega, by omega⟩ ⟨by omega, by omega, by omega, by omega⟩ ho0 ho1 hK hKi hin hidx hsl hel
  have HF := hid hF
  have HB := hid hbl
  clear hF hbl hc hp hm hpb hfz ho0 ho1 hK hKi hin hidx hsl hel
  go_enter Tryd.func7, Tryd.ntmps7
  go_wp2_with fail
  refine HF.out.mono ?_
  rintro e w1 ⟨rfl, vs, ve, hs1, he1, ⟨gs, qs, hvs, hxs⟩, ⟨ge, qe, hve, hxe⟩, hpb1, hkp, hsf1, hef1⟩
  have hb1 := hkp pb (Nat.le_refl _) (by omega) (by omega) (by simp; omega)
  have hsz : w.heap.size + 2 ≤ w1.heap.size := by have := hb1.size; simp at this; omega
  have HXS := hid hxs
  have HXE := hid hxe
  have HB1 := hid hb1
  rw [hvs] at hs1
  rw [hve] at he1
  clear hxs hxe hkp hb1
  go_wp2_with fail
  go_region
  go_wp2
  obtain ⟨q0, q1⟩ := two_boxes w1 w.heap.size (.slice (some ⟨gs, 0, none⟩) 1 qs) (.slice (some ⟨ge, 0, none⟩) 1 qe) hs1 he1
  have keep : ∀ {g q : Nat} {x : Int}, w1.cell? ⟨g, 0, none⟩ = some (.int .i64 x) →
      OneInt ((w1.setCell ⟨w.heap.size, 0, none⟩ (.slice (some ⟨gs, 0, none⟩) 1 qs)).setCell ⟨w.heap.size + 1, 0, none⟩ (.slice (some ⟨ge, 0, none⟩) 1 qe)).drew (.slice (some ⟨g, 0, none⟩) 1 q) x := fun {g q x} h => ⟨g, q, rfl, by
    show ((w1.setCell ⟨w.heap.size, 0, none⟩ (.slice (some ⟨gs, 0, none⟩) 1 qs)).setCell ⟨w.heap.size + 1, 0, none⟩ (.slice (some ⟨ge, 0, none⟩) 1 qe)).cell? ⟨g, 0, none⟩ = _
    rw [World.cell?_setCell_other _ _ _ _ (fun e => by rw [← e, he1] at h; cases h), World.cell?_setCell_other _ _ _ _ (fun e => by rw [← e, hs1] at h; cases h)]
    exact h⟩
  refine bodyPost_ret (v := .tuple #[.slice (some ⟨gs, 0, none⟩) 1 qs, .slice (some ⟨ge, 0, none⟩) 1 qe]) (by simp [results, Tryd.results7, go_sem, q0, q1]) rfl ⟨_, _, rfl, keep HXS.out, keep HXE.out, ?_, ?_⟩
  · show ((w1.setCell ⟨w.heap.size, 0, none⟩ (.slice (some ⟨gs, 0, none⟩) 1 qs)).setCell ⟨w.heap.size + 1, 0, none⟩ (.slice (some ⟨ge, 0, none⟩) 1 qe)).cell? ⟨pb, 0, none⟩ = _
    rw [cell_setCell_block _ (by show pb ≠ _; omega), cell_setCell_block _ (by show pb ≠ _; omega)]
    exact hpb1
  · exact (((((HB.out.mono (by omega)).trans HB1.out)).setCell (by show pb ≤ w.heap.size; omega) _).setCell (by show pb ≤ w.heap.size + 1; omega) _).drew

end Go.Proofs.Qxb6616246aDoor
