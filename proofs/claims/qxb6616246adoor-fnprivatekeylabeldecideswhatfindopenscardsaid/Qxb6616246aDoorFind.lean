/-
  Seat b6616246aD: (*KeyBlocks).Find, the closure that is told of each block, ZZfind.
-/
import Derived.Test.Qxb6616246aDoorOpen
import Derived.Test.Qxb6616246aDoorClosed
import Derived.Test.Qxb6616246aDoorFound
namespace Go.Proofs.Qxb6616246aDoor
open Go.RowKit Go.Lib

theorem bcell {W w1 : World} (hb : Below W.heap.size W w1) {a : Addr} {v : Value} (h : W.cell? a = some v) : w1.cell? a = some v :=
  (hb.cell (World.block_lt_of_cell? W _ h)).trans h
theorem bfrozen {W w1 : World} (hb : Below W.heap.size W w1) {a : Addr} {v : Value} (h : W.cell? a = some v) (hf : W.frozen? a = false) : w1.frozen? a = false :=
  (hb.frozen (World.block_lt_of_cell? W _ h)).trans hf

theorem grownBy_of_below {w w' : World} (hb : Below w.heap.size w w') (r : Option Nat) : w.grownBy w' r :=
  ⟨hb.os, hb.tape, hb.output, hb.size, fun k hk _ => hb.block k hk⟩

theorem grownBy_setCell {w w' : World} {pb : Nat} (h : w.grownBy w' (some pb)) (v : Value) : w.grownBy (w'.setCell ⟨pb, 0, none⟩ v) (some pb) :=
  ⟨h.os, h.tape, h.output, by have := h.size; simpa [World.setCell] using this, fun k hk hne => by
    rw [Below.heap_setCell _ _ _ _ (by intro e; exact hne (by rw [e]))]; exact h.block k hk hne⟩

theorem eql_nil (W : World) (a : Option Addr) (l c : Nat) : (binOp .eql 22 (.slice a l c) (.slice none 0 0)).run Tryd.prog W = .ok (.bool a.isNone) W :=
  Lib.run_eql_slice_nil (P := Tryd.prog) W 22 5 a l c 0 0 Tryd.underlying22

set_option maxHeartbeats 1000000 in
theorem Find_none (pb b o n c : Nat) (fv : Value) (p : List UInt8) (m : Int) (w : World) (hp : p.length = n) (hnc : n ≤ c) (hcm : c ≤ 9223372036854775807) (hn : n ≤ 2097152) (hn0 : 0 < n)
    (hc : ∀ i, i < n → w.cell? ⟨b, o + i, none⟩ = some (.int .u8 ((nI p).getD i 0))) (hm : w.cell? ⟨0, 0, none⟩ = some (.int .i64 m))
    (hpb : w.cell? ⟨pb, 0, none⟩ = some (.slice none 0 0)) (hfz : w.frozen? ⟨pb, 0, none⟩ = false)
    (hno : ∀ i, opensAt p i = none) :
    Calls Tryd.prog 19 #[.pointer (some ⟨pb, 0, none⟩), .slice (some ⟨b, o, none⟩) n c, fv] w
      fun e w' => e = .returned (.tuple #[]) ∧ w.grownBy w' (some pb) ∧ w'.cell? ⟨pb, 0, none⟩ = some (.slice none 0 0) := by
  have hO := keyOpening_any b o n c 0 p m w hp hnc hcm hn (Nat.zero_le _) hc hm
  have HO := hid hO
  have HN := hid hno
  clear hO hno hc hp hm
  have hnil := eql_nil
  go_enter Tryd.func19, Tryd.ntmps19
  go_wp2
  refine wp_loop_rounds 1 ?_
  rw [rounds_succ]
  go_wp2_with fail
  refine HO.out.mono ?_
  rintro e w1 ⟨hb, ⟨rfl, _⟩ | ⟨i, lab, _, _, _, _, hos, _⟩⟩
  · have h1 := bcell hb hpb
    have h2 := bfrozen hb hpb hfz
    go_wp2_with fail
    refine bodyPost_ret (results_none rfl _ _ _) rfl ?_
    exact ⟨rfl, grownBy_setCell (grownBy_of_below hb _) _, World.cell?_setCell_same _ _ _ h1⟩
  · rw [HN.out i] at hos
    cases hos

theorem cell_setCell_block {w : World} {a : Addr} {pb : Nat} (v : Value) (h : a.block ≠ pb) : (w.setCell ⟨pb, 0, none⟩ v).cell? a = w.cell? a :=
  World.cell?_setCell_other _ _ _ _ (fun e => h (by rw [← e]))

set_option maxHeartbeats 1000000 in
theorem Find_one (pb sB eB b o n c K i1 : Nat) (p lab : List UInt8) (m : Int) (w : World) (hp : p.length = n) (hnc : n ≤ c) (hcm : c ≤ 9223372036854775807) (hn : n ≤ 2097152)
    (hc : ∀ i, i < n → w.cell? ⟨b, o + i, none⟩ = some (.int .u8 ((nI p).getD i 0))) (hm : w.cell? ⟨0, 0, none⟩ = some (.int .i64 m))
    (hpb : w.cell? ⟨pb, 0, none⟩ = some (.slice none 0 0)) (hfz : w.frozen? ⟨pb, 0, none⟩ = false)
    (hs : w.cell? ⟨sB, 0, none⟩ = some (.slice none 0 0)) (hsf : w.frozen? ⟨sB, 0, none⟩ = false)
    (he : w.cell? ⟨eB, 0, none⟩ = some (.slice none 0 0)) (hef : w.frozen? ⟨eB, 0, none⟩ = false)
    (hne : b ≠ pb ∧ 0 ≠ pb ∧ sB ≠ pb ∧ eB ≠ pb ∧ sB ≠ eB) (hne2 : b ≠ sB ∧ b ≠ eB ∧ 0 ≠ sB ∧ 0 ≠ eB)
    (ho0 : opensAt p 0 = some lab) (ho1 : ∀ i, 1 ≤ i → opensAt p i = none) (hK : (lineOf p).length = K) (hKi : K ≤ i1) (hin : i1 + (kE ++ lab ++ d5).length + 1 = n)
    (hidx : index (p.drop K) (kE ++ lab ++ d5) = (i1 : Int) - (K : Int)) (hsl : slB (nI p) i1 = true) (hel : elB ((nI p).drop (i1 + (kE ++ lab ++ d5).length)) = true) :
    Calls Tryd.prog 19 #[.pointer (some ⟨pb, 0, none⟩), .slice (some ⟨b, o, none⟩) n c, .func (.func 20) #[] #[.pointer (some ⟨sB, 0, none⟩), .pointer (some ⟨eB, 0, none⟩)]] w
      fun e w' => e = .returned (.tuple #[]) ∧ ∃ vs ve, w'.cell? ⟨sB, 0, none⟩ = some vs ∧ w'.cell? ⟨eB, 0, none⟩ = some ve ∧ OneInt w' vs 0 ∧ OneInt w' ve ((n : Int) - 1) ∧
        w'.cell? ⟨pb, 0, none⟩ = some (.slice none 0 0) ∧ (∀ B, B ≤ pb → B ≤ sB → B ≤ eB → B ≤ w.heap.size → Below B w w') ∧ w'.frozen? ⟨sB, 0, none⟩ = false ∧ w'.frozen? ⟨eB, 0, none⟩ = false := by
  have hO := keyOpening_any b o n c 0 p m w hp hnc hcm hn (Nat.zero_le _) hc hm
  have HO := hid hO
  have HO0 := hid ho0
  have HO1 := hid ho1
  have HC := hid hc
  have HP := hid hp
  have HM := hid hm
  have HK := hid hK
  have hn0 : 0 < n := by omega
  obtain ⟨cl, hcl⟩ : ∃ cl, cl = kE ++ lab ++ d5 := ⟨_, rfl⟩
  rw [← hcl] at hin hidx hel
  have HI := hid hidx
  have HE := hid hel
  have HL := hid hsl
  have HCL := hid hcl
  have HIN := hid hin
  clear hO ho0 ho1 hc hp hm hidx hel hsl hcl hK hin
  have hnil := eql_nil
  go_enter Tryd.func19, Tryd.ntmps19
  go_wp2
  refine wp_loop_rounds 2 ?_
  rw [rounds_succ]
  go_wp2_with fail
  refine HO.out.mono ?_
  rintro e w1 ⟨hb, ⟨rfl, hno⟩ | ⟨i, lab', g, cap, _, hfst, hos, rfl, hcap, hg, hin1⟩⟩
  · exact absurd (hno 0 (Nat.le_refl _)) (by rw [HO0.out]; simp)
  obtain rfl : i = 0 := by
    rcases Nat.eq_zero_or_pos i with h | h
    · exact h
    · have := hfst 0 (Nat.le_refl _) h
      rw [HO0.out] at this
      cases this
  obtain rfl : lab = lab' := Option.some.inj (HO0.out.symm.trans hos)
  rw [List.drop_zero, Nat.zero_add, HK.out, ← HCL.out]
  rw [← HCL.out] at hcap hin1
  clear hfst hos HO
  have h1 := bcell hb hpb
  have h2 := bfrozen hb hpb hfz
  have hclen : cl.length ≤ 2097152 := by have := HIN.out; omega
  -- the call of closed
  have hgpb : g ≠ pb := by have := World.block_lt_of_cell? w _ hpb; simp at this; omega
  obtain ⟨b2, o2, e2, hc2⟩ := hin1 (by rw [HCL.out]; simp [kE])
  obtain ⟨rfl, rfl⟩ : g = b2 ∧ 0 = o2 := by simpa using e2
  have hcl1 := closed_hit pb b o n c K i1 g cap p cl m (w1.setCell ⟨pb, 0, none⟩ (.slice (some ⟨g, 0, none⟩) cl.length cap)) HP.out hnc hn hclen (by have := HIN.out; omega) hKi (by have := HIN.out; omega)
    (fun i hi => by rw [cell_setCell_block _ hne.1]; exact bcell hb (HC.out i hi)) (by rw [cell_setCell_block _ hne.2.1]; exact bcell hb HM.out)
    (fun i hi => by rw [cell_setCell_block _ hgpb]; exact hc2 i hi) (World.cell?_setCell_same _ _ _ h1) ((World.frozen?_setCell _ _ _ _).trans h2) HI.out HL.out HE.out
  have HCC := hid hcl1
  clear hcl1 hc2 hin1 e2
  go_wp2_with fail
  refine HCC.out.mono ?_
  rintro e w2 ⟨rfl, hgr, hpb2, hfz2⟩
  clear HCC
  have gc : ∀ {k : Nat} {j : Nat} {v : Value}, k ≠ pb → w.cell? ⟨k, j, none⟩ = some v → w2.cell? ⟨k, j, none⟩ = some v := fun {k j v} hk h => by
    have h' := bcell hb h
    have h'' : (w1.setCell ⟨pb, 0, none⟩ (.slice (some ⟨g, 0, none⟩) cl.length cap)).cell? ⟨k, j, none⟩ = some v := by rw [cell_setCell_block _ hk]; exact h'
    exact hgr.cell h'' (by simpa using hk)
  have gf : ∀ {k : Nat} {v : Value}, k ≠ pb → w.cell? ⟨k, 0, none⟩ = some v → w.frozen? ⟨k, 0, none⟩ = false → w2.frozen? ⟨k, 0, none⟩ = false := fun {k v} hk h hf => by
    have h' := bfrozen hb h hf
    have hlt := World.block_lt_of_cell? w1 _ (bcell hb h)
    rw [World.frozen?_of_block (w := (w1.setCell ⟨pb, 0, none⟩ (.slice (some ⟨g, 0, none⟩) cl.length cap))) (hgr.block k (by simpa [World.setCell] using hlt) (by simpa using hk)), World.frozen?_setCell]
    exact h'
  have hk2 : ∀ B, B ≤ pb → B ≤ w.heap.size → Below B w w2 := fun B hB hBw => by
    refine (hb.mono hBw).trans ?_
    refine ⟨hgr.os, hgr.tape, hgr.output, by have := hgr.size; simpa [World.setCell] using this, fun k hk => ?_⟩
    have hsz := hb.size
    rw [hgr.block k (by simp [World.setCell]; omega) (by simp; omega), Below.heap_setCell _ _ _ _ (by simp; omega)]
  have hfd := found_first sB eB 0 ((i1 : Int) + (cl.length : Int)) w2 hne.2.2.2.2 (gc hne.2.2.1 hs) (gf hne.2.2.1 hs hsf) (gc hne.2.2.2.1 he) (gf hne.2.2.2.1 he hef)
  have HFD := hid hfd
  have HC2 : Hid (∀ i, i < n → w2.cell? ⟨b, o + i, none⟩ = some (.int .u8 ((nI p).getD i 0))) := fun i hi => gc hne.1 (HC.out i hi)
  have HM2 : Hid (w2.cell? ⟨0, 0, none⟩ = some (.int .i64 m)) := gc hne.2.1 HM.out
  have HK2 := hid hk2
  clear gc gf hfd hk2 hgr hb h1 h2 HC HM
  go_wp2_with fail
  refine HFD.out.mono ?_
  rintro e w3 ⟨rfl, vs, ve, hvs, hve, hos3, hoe3, hk3, hsf3, hef3⟩
  have kc3 : ∀ {k : Nat} {j : Nat} {v : Value}, k ≠ sB → k ≠ eB → w2.cell? ⟨k, j, none⟩ = some v → w3.cell? ⟨k, j, none⟩ = some v := fun {k j v} h1 h2 h =>
    (World.cell?_of_block (a := ⟨k, j, none⟩) (hk3.block k (World.block_lt_of_cell? w2 _ h) h1 h2)).trans h
  have hpb3 : w3.cell? ⟨pb, 0, none⟩ = some (.slice none 0 0) := kc3 (Ne.symm hne.2.2.1) (Ne.symm hne.2.2.2.1) hpb2
  have hfz3 : w3.frozen? ⟨pb, 0, none⟩ = false :=
    (World.frozen?_of_block (a := ⟨pb, 0, none⟩) (hk3.block pb (World.block_lt_of_cell? w2 _ hpb2) (Ne.symm hne.2.2.1) (Ne.symm hne.2.2.2.1))).trans hfz2
  have hO3 := keyOpening_any b o n c (i1 + cl.length) p m w3 HP.out hnc hcm hn (by have := HIN.out; omega) (fun i hi => kc3 hne2.1 hne2.2.1 (HC2.out i hi)) (kc3 hne2.2.2.1 hne2.2.2.2 HM2.out)
  rw [Int.natCast_add] at hO3
  have HO3 := hid hO3
  have HVS := hid hvs
  have HVE := hid hve
  have HS3 := hid hos3
  have HE3 := hid hoe3
  have HSF := hid hsf3
  have HEF := hid hef3
  have HK3 : Hid (∀ B, B ≤ pb → B ≤ sB → B ≤ eB → B ≤ w.heap.size → Below B w w3) := fun B h1 h2 h3 h4 =>
    (HK2.out B h1 h4).trans ⟨hk3.os, hk3.tape, hk3.output, hk3.size, fun k hk => hk3.block k (by have := (HK2.out B h1 h4).size; omega) (by omega) (by omega)⟩
  clear kc3 hO3 hvs hve hos3 hoe3 hk3 hsf3 hef3 HC2 HM2 HK2 HFD hpb2 hfz2 hs hsf he hef hpb hfz
  have hlt3 : (i1 : Int) + (cl.length : Int) < (n : Int) := by have := HIN.out; omega
  go_wp2_with fail
  rw [rounds_succ]
  go_wp2_with fail
  refine HO3.out.mono ?_
  rintro e w4 ⟨hb4, ⟨rfl, _⟩ | ⟨i, lab', _, _, hi, _, hos, _⟩⟩
  · have h1 := bcell hb4 hpb3
    have h2 := bfrozen hb4 hpb3 hfz3
    go_wp2_with fail
    refine bodyPost_ret (results_none rfl _ _ _) rfl ?_
    have keep : ∀ {v : Value} {x : Int}, OneInt w3 v x → OneInt (w4.setCell ⟨pb, 0, none⟩ (.slice none 0 0)) v x := fun {v x} ⟨g, cap, hv, hx⟩ => ⟨g, cap, hv, by
      rw [World.cell?_setCell_other _ _ _ _ (fun e => by rw [← e, hpb3] at hx; cases hx)]
      exact bcell hb4 hx⟩
    refine ⟨rfl, vs, ve, ?_, ?_, keep HS3.out, keep ?_, World.cell?_setCell_same _ _ _ h1, fun B k1 k2 k3 k4 => ?_, (World.frozen?_setCell _ _ _ _).trans (bfrozen hb4 HVS.out HSF.out), (World.frozen?_setCell _ _ _ _).trans (bfrozen hb4 HVE.out HEF.out)⟩
    · rw [cell_setCell_block _ hne.2.2.1]; exact bcell hb4 HVS.out
    · rw [cell_setCell_block _ hne.2.2.2.1]; exact bcell hb4 HVE.out
    · rw [show (n : Int) - 1 = (i1 : Int) + (cl.length : Int) by have := HIN.out; omega]; exact HE3.out
    · have hw := HK3.out B k1 k2 k3 k4
      exact (hw.trans (hb4.mono (by have := hw.size; omega))).setCell k1 _
  · have := HO1.out i (by have := HIN.out; rw [HCL.out] at hi; simp [kE] at hi; omega)
    rw [this] at hos
    cases hos

end Go.Proofs.Qxb6616246aDoor
