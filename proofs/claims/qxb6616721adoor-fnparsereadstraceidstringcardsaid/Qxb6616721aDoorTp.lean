/-
  Seat b6616721aD: parseTraceparent at a header of four encoded fields: the walk.
-/
import Derived.Test.Qxb6616721aDoorPar
import Derived.Lib.BufferWrite
namespace Go.Proofs.Qxb6616721aDoor
open Go.RowKit Go.Lib

attribute [local go_sem ↓] Go.wp_at_zero Go.wp_at_succ

theorem one16 (l : List UInt8) : (Lib.byteCells l).toArray.all (·.oneCell') = true := all_oneCell_toArray (Lib.byteCells_one l)

theorem res15 (tmps : Array Value) (W : World) (H : Nat) (l : List UInt8) (x y : Value) (h2 : tmps.getD 2 undef = .pointer (some ⟨H, 0, none⟩)) (hr : W.rangeAt H 0 (Lib.byteCells l)) (hl : l.length = 16) (h3 : tmps.getD 3 undef = x) (h4 : tmps.getD 4 undef = y) :
    (results Tryd.f15 tmps).run Tryd.prog W = .ok (.tuple #[.agg (Lib.byteCells l).toArray, x, y]) W := by
  have hl := run_loadVar_mid (P := Tryd.prog) W H 0 25 (Lib.byteCells l) _ hr Tryd.underlying25 rfl (by rw [Tryd.size25, Lib.byteCells_length, hl])
  generalize (Lib.byteCells l).toArray = c at hl
  rw [Array.getD_eq_getD_getElem?] at h2 h3 h4
  simp only [results, Tryd.results15]
  simp [h2, h3, h4, hl, asAddr, Array.mapM_eq_mapM_toList]

theorem byte_at (s : ByteArray) (i : Nat) (h : i < s.size) : s.data.toList[i]? = some s[i] := by
  have h' : i < s.data.toList.length := by simpa using h
  rw [List.getElem?_eq_getElem h']
  rfl

theorem cell_setCells {W : World} {b b' o : Nat} {x : Value} {vs : List Value} (hne : b' ≠ b) (h : W.cell? ⟨b', 0, none⟩ = some x) : (W.setCells b o vs).cell? ⟨b', 0, none⟩ = some x := by
  have h' : W.rangeAt b' 0 [x] := fun j v hv => by
    match j, hv with
    | 0, hv => cases hv; exact h
  exact World.rangeAt_setCells_apart h' b o vs (Or.inl hne) 0 x rfl

theorem there_below {W W' : World} {b n : Nat} (h : W.there b 0 n) (hb : Below W.heap.size W W') (hlt : b < W.heap.size) : W'.there b 0 n := fun j hj => by
  rw [hb.cell (p := ⟨b, 0 + j, none⟩) hlt, hb.frozen (p := ⟨b, 0 + j, none⟩) hlt]
  exact h j hj

theorem range_below {W W' : World} {b : Nat} {cs : List Value} (h : W.rangeAt b 0 cs) (hb : Below W.heap.size W W') (hlt : b < W.heap.size) : W'.rangeAt b 0 cs := fun j x hx => by
  rw [hb.cell (p := ⟨b, 0 + j, none⟩) hlt]
  exact h j x hx

theorem rowIs_cell {W : World} {b : Nat} {t : TypeId} {n : Nat} {f : Nat → Value} (hr : W.rowIs b t n f) (i : Nat) (h : i < n) : W.cell? ⟨b, i, none⟩ = some (f i) := by
  obtain ⟨c, h1, h2, h3⟩ := hr
  rw [cell_of_row W b i c t (0, 0) h1]
  exact h3 i h

theorem rowIs_range {W : World} {b : Nat} {t : TypeId} {n : Nat} {l : List UInt8} (hr : W.rowIs b t n (rowOf l)) (hl : l.length = n) : W.rangeAt b 0 (Lib.byteCells l) := fun j x hx => by
  have hj : j < l.length := by
    have := (List.getElem?_eq_some_iff.1 hx).1
    rwa [Lib.byteCells_length] at this
  rw [Nat.zero_add, rowIs_cell hr j (by omega), ← hx]
  simp [rowOf, Lib.byteCells, hj]

theorem rowIs_there {W : World} {b : Nat} {t : TypeId} {n : Nat} {f : Nat → Value} (hr : W.rowIs b t n f) : W.there b 0 n := fun j hj => by
  have hc := rowIs_cell hr j hj
  obtain ⟨c, h1, h2, h3⟩ := hr
  rw [Nat.zero_add]
  refine ⟨by rw [hc]; rfl, ?_⟩
  simp [World.frozen?, h1]

theorem Below.setCells {B : Nat} {w : World} (b : Nat) (hb : B ≤ b) : ∀ (vs : List Value) (o : Nat) (W : World), Below B w W → Below B w (W.setCells b o vs)
  | [], _, _, h => h
  | v :: vs, o, _, h => Below.setCells b hb vs (o + 1) _ (h.setCell hb v)

def goodB (v : UInt8) (id pa : List UInt8) (s : ByteArray) : Bool := !(v == 255) && (!(id == z16) && (!(pa == z8) && (decide (s.size = 55) || (!(v == 0) && decide (s.data.toList[55]? = some 45)))))

/-- What parseTraceparent answers. -/
def tpV (v fl : UInt8) (id pa : List UInt8) (s : ByteArray) : Value :=
  .tuple #[.agg (Lib.byteCells (if goodB v id pa s then id else z16)).toArray, .int .u8 (if goodB v id pa s then (fl.toNat : Int) else 0), .bool (goodB v id pa s)]

set_option maxRecDepth 100000 in
set_option maxHeartbeats 12800000 in
theorem tp_any (s : ByteArray) (v fl : UInt8) (id pa : List UInt8) (w : World) (ev : Value) (hid16 : id.length = 16) (hpa : pa.length = 8) (hE : w.cell? ⟨0, 0, none⟩ = some ev)
    (hsz : 55 ≤ s.size) (h2 : s[2]'(by omega) = 45) (h35 : s[35]'(by omega) = 45) (h52 : s[52]'(by omega) = 45)
    (e1 : s.extract 0 2 = ⟨(Hx.encode [v]).toArray⟩) (e2 : s.extract 3 35 = ⟨(Hx.encode id).toArray⟩) (e3 : s.extract 36 52 = ⟨(Hx.encode pa).toArray⟩) (e4 : s.extract 53 55 = ⟨(Hx.encode [fl]).toArray⟩) :
    Calls Tryd.prog 15 #[.string s] w fun e w' => e = .returned (tpV v fl id pa s) ∧ Below w.heap.size w w' := by
  have h0 : 0 < w.heap.size := World.block_lt_of_cell? w _ hE
  have b55 : (55 : Int) ≤ (s.size : Int) := by omega
  have b52 : (52 : Int) ≤ (s.size : Int) := by omega
  have b35 : (35 : Int) ≤ (s.size : Int) := by omega
  have b2 : (2 : Int) ≤ (s.size : Int) := by omega
  have c52 : (52 : Int) < (s.size : Int) := by omega
  have c35 : (35 : Int) < (s.size : Int) := by omega
  have c2 : (2 : Int) < (s.size : Int) := by omega
  have E1 := hid e1
  have E2 := hid e2
  have E3 := hid e3
  have E4 := hid e4
  have HI := hid (St.init w ev hE)
  have H16 := hid hid16
  have H8 := hid hpa
  clear e1 e2 e3 e4 hE hid16 hpa
  go_enter Tryd.func15, Tryd.ntmps15
  go_wp2_with fail
  go_region_held3 (fun _ => True) (trivial)
    (first
      | (go_at_call 27; refine (St.call2 hS3 h0 [fl] _ rfl E4.out).mono ?_; rintro e W4 ⟨rfl, hS4⟩)
      | (go_at_call 27; refine (St.call4 hS2 h0 pa _ H8.out E3.out).mono ?_; rintro e W3 ⟨rfl, hS3⟩)
      | (go_at_call 27; refine (St.call3 hS1 h0 id _ H16.out E2.out).mono ?_; rintro e W2 ⟨rfl, hS2⟩)
      | (go_at_call 27; refine (St.call1 HI.out.drew h0 [v] _ rfl E1.out).mono ?_; rintro e W1 ⟨rfl, hS1⟩))
  obtain ⟨⟨r1, r2, r3, r4, r5⟩, _, hbl⟩ := hS4
  have hv : W4.cell? ⟨w.heap.size + 1, 0, none⟩ = some (.int .u8 (v.toNat : Int)) := rowIs_cell r1 0 (by omega)
  have hf : W4.cell? ⟨w.heap.size + 1 + 1, 0, none⟩ = some (.int .u8 (fl.toNat : Int)) := rowIs_cell r2 0 (by omega)
  have L4 : Hid (w.heap.size + 1 + 1 + 1 + 1 < W4.heap.size) := rowIs_lt r4
  have RI := hid (rowIs_range r3 H16.out)
  have RP := hid (rowIs_range r4 H8.out)
  have TH := hid (rowIs_there r5)
  have HB := hid hbl
  have SI : Hid ((Tryd.prog.info? 25).map (·.size) = some (Lib.byteCells id).length) := by rw [Hid, Tryd.size25, Lib.byteCells_length, H16.out]
  have SP : Hid ((Tryd.prog.info? 57).map (·.size) = some (Lib.byteCells pa).length) := by rw [Hid, Tryd.size57, Lib.byteCells_length, H8.out]
  have HV := hid (isValid_any id H16.out W4)
  have hpz : ∀ w, (Op.equalIn 10000 57 (.agg (Lib.byteCells pa).toArray) (.agg #[.int .u8 0, .int .u8 0, .int .u8 0, .int .u8 0, .int .u8 0, .int .u8 0, .int .u8 0, .int .u8 0])).run Tryd.prog w = .ok (pa == z8) w := fun w => eq8 57 Tryd.underlying57 pa z8 H8.out rfl w
  clear hS1 hS2 hS3 r1 r2 r3 r4 r5 hbl E1 E2 E3 E4 HI
  obtain ⟨Z, hZ⟩ : ∃ Z : Array Value, Z = (Lib.byteCells z16).toArray := ⟨_, rfl⟩
  have HZ : Hid (Z = #[.int .u8 0, .int .u8 0, .int .u8 0, .int .u8 0, .int .u8 0, .int .u8 0, .int .u8 0, .int .u8 0, .int .u8 0, .int .u8 0, .int .u8 0, .int .u8 0, .int .u8 0, .int .u8 0, .int .u8 0, .int .u8 0]) := hZ
  have ZS : Hid ((Tryd.prog.info? 25).map (·.size) = some Z.size) := by rw [Hid, hZ]; exact Tryd.size25
  have Z1 : Hid (Z.all (·.oneCell') = true) := by rw [Hid, hZ]; exact one16 z16
  have ZT : Hid (W4.there w.heap.size 0 Z.size) := by rw [Hid, hZ]; exact TH.out
  have ZL : Hid (Z.toList = Lib.byteCells z16) := by rw [Hid, hZ]
  clear hZ
  by_cases q1 : v = 255
  · have hq1 : ((v.toNat : Int) == 255) = true := by rw [q1]; rfl
    have G : Hid (tpV v fl id pa s = .tuple #[.agg (Lib.byteCells z16).toArray, .int .u8 0, .bool false]) := by
      have : goodB v id pa s = false := by simp [goodB, q1]
      rw [Hid, tpV, this]; rfl
    clear q1 hpz
    go_wp2_with (refine wpList_store_mid rfl 25 _ _ rfl w.heap.size 0 Z rfl (congrArg Value.agg HZ.out.symm) ZT.out ZS.out Z1.out ?_)
    exact bodyPost_ret (v := .tuple #[.agg (Lib.byteCells z16).toArray, .int .u8 0, .bool false]) (res15 _ _ w.heap.size z16 _ _ rfl (by rw [← ZL.out]; exact World.rangeAt_setCells_same _ _ _ _ ZT.out) rfl rfl rfl) rfl ⟨by rw [G.out], Below.setCells _ (Nat.le_refl _) _ _ _ HB.out⟩
  have hq1 : ((v.toNat : Int) == 255) = false := by
    rw [beq_eq_false_iff_ne]
    intro h
    exact q1 (UInt8.toNat_inj.1 (show v.toNat = 255 by omega))
  by_cases q2 : id = z16
  · have e2 : (id == z16) = true := by rw [q2]; exact beq_self_eq_true _
    have G : Hid (tpV v fl id pa s = .tuple #[.agg (Lib.byteCells z16).toArray, .int .u8 0, .bool false]) := by
      have : goodB v id pa s = false := by simp [goodB, q2]
      rw [Hid, tpV, this]; rfl
    rw [e2] at HV
    clear q2 hpz q1
    go_wp2_with (first | (refine wpList_load_mid rfl 25 _ rfl (w.heap.size + 1 + 1 + 1) 0 rfl (Lib.byteCells id) _ RI.out Tryd.underlying25 rfl SI.out ?_) | (refine wpList_store_mid rfl 25 _ _ rfl w.heap.size 0 Z rfl (congrArg Value.agg HZ.out.symm) ZT.out ZS.out Z1.out ?_))
    refine HV.out.mono ?_
    rintro e W5 ⟨rfl, hb5⟩
    have T5 := hid (there_below ZT.out hb5 (by have := L4.out; omega))
    have TH5 := hid (there_below TH.out hb5 (by have := L4.out; omega))
    have HB5 : Hid (Below w.heap.size w W5) := HB.out.trans (hb5.mono (by have := L4.out; omega))
    clear hb5
    go_wp2_with (refine wpList_store_mid rfl 25 _ _ rfl w.heap.size 0 Z rfl (congrArg Value.agg HZ.out.symm) T5.out ZS.out Z1.out ?_)
    exact bodyPost_ret (v := .tuple #[.agg (Lib.byteCells z16).toArray, .int .u8 0, .bool false]) (res15 _ _ w.heap.size z16 _ _ rfl (by rw [← ZL.out]; exact World.rangeAt_setCells_same _ _ _ _ T5.out) rfl rfl rfl) rfl ⟨by rw [G.out], Below.setCells _ (Nat.le_refl _) _ _ _ HB5.out⟩
  have e2 : (id == z16) = false := beq_eq_false_iff_ne.2 q2
  rw [e2] at HV
  go_wp2_with (refine wpList_load_mid rfl 25 _ rfl (w.heap.size + 1 + 1 + 1) 0 rfl (Lib.byteCells id) _ RI.out Tryd.underlying25 rfl SI.out ?_)
  refine HV.out.mono ?_
  rintro e W5 ⟨rfl, hb5⟩
  have T5 := hid (there_below ZT.out hb5 (by have := L4.out; omega))
  have TH5 := hid (there_below TH.out hb5 (by have := L4.out; omega))
  have RI5 := hid (range_below RI.out hb5 (by have := L4.out; omega))
  have RP5 := hid (range_below RP.out hb5 L4.out)
  have HB5 : Hid (Below w.heap.size w W5) := HB.out.trans (hb5.mono (by have := L4.out; omega))
  have hv5 : W5.cell? ⟨w.heap.size + 1, 0, none⟩ = some (.int .u8 (v.toNat : Int)) := (hb5.cell (p := ⟨w.heap.size + 1, 0, none⟩) (by have := L4.out; show w.heap.size + 1 < _; omega)).trans hv
  have hf5 : W5.cell? ⟨w.heap.size + 1 + 1, 0, none⟩ = some (.int .u8 (fl.toNat : Int)) := (hb5.cell (p := ⟨w.heap.size + 1 + 1, 0, none⟩) (by have := L4.out; show w.heap.size + 1 + 1 < _; omega)).trans hf
  clear hb5 hv hf
  by_cases q3 : pa = z8
  · have e3 : (pa == z8) = true := by rw [q3]; exact beq_self_eq_true _
    rw [e3] at hpz
    have G : Hid (tpV v fl id pa s = .tuple #[.agg (Lib.byteCells z16).toArray, .int .u8 0, .bool false]) := by
      have : goodB v id pa s = false := by simp [goodB, q3]
      rw [Hid, tpV, this]; rfl
    clear q1 q2 q3
    go_wp2_with (first | (refine wpList_load_mid rfl 57 _ rfl (w.heap.size + 1 + 1 + 1 + 1) 0 rfl (Lib.byteCells pa) _ RP5.out Tryd.underlying57 rfl SP.out ?_) | (refine wpList_store_mid rfl 25 _ _ rfl w.heap.size 0 Z rfl (congrArg Value.agg HZ.out.symm) T5.out ZS.out Z1.out ?_))
    exact bodyPost_ret (v := .tuple #[.agg (Lib.byteCells z16).toArray, .int .u8 0, .bool false]) (res15 _ _ w.heap.size z16 _ _ rfl (by rw [← ZL.out]; exact World.rangeAt_setCells_same _ _ _ _ T5.out) rfl rfl rfl) rfl ⟨by rw [G.out], Below.setCells _ (Nat.le_refl _) _ _ _ HB5.out⟩
  have e3 : (pa == z8) = false := beq_eq_false_iff_ne.2 q3
  rw [e3] at hpz
  have hne255 : ¬ v = 255 := q1
  by_cases q5 : s.size = 55
  · have n1 : ((s.size : Int) != 55) = false := by simp [q5]
    have n2 : ¬ (55 : Int) < (s.size : Int) := by omega
    have G : Hid (tpV v fl id pa s = .tuple #[.agg (Lib.byteCells id).toArray, .int .u8 (fl.toNat : Int), .bool true]) := by
      have : goodB v id pa s = true := by simp [goodB, q1, q2, q3, q5]
      rw [Hid, tpV, this]; rfl
    clear q5
    by_cases q4 : v = 0
    · have hq4 : ((v.toNat : Int) == 0) = true := by rw [q4]; rfl
      clear q4
      clear q1 q2 q3 hne255
      go_wp2_with (first | (refine wpList_load_mid rfl 57 _ rfl (w.heap.size + 1 + 1 + 1 + 1) 0 rfl (Lib.byteCells pa) _ RP5.out Tryd.underlying57 rfl SP.out ?_) | (refine wpList_store_mid rfl 25 _ _ rfl w.heap.size 0 Z rfl (congrArg Value.agg HZ.out.symm) T5.out ZS.out Z1.out ?_))
      have hu := Tryd.underlying25
      have hi := SI.out
      have hl16 : (Lib.byteCells id).length = 16 := by rw [Lib.byteCells_length]; exact H16.out
      have h1c := Lib.byteCells_one id
      have hR := RI5.out
      have hT := TH5.out
      go_region_held3 (fun w' => w'.rangeAt (w.heap.size + 1 + 1 + 1) 0 (Lib.byteCells id) ∧ w'.there w.heap.size 0 16 ∧ w'.cell? ⟨w.heap.size + 1 + 1, 0, none⟩ = some (.int .u8 (fl.toNat : Int))) (first | (go_split_ands; exact ⟨World.rangeAt_setCells_apart (by first | assumption | exact hR) _ _ _ (Or.inl (by omega)), World.there_setCells (by first | assumption | exact hT) _ _ _, cell_setCells (by omega) (by first | assumption | exact hf5)⟩) | (go_split_ands; refine ⟨?_, ?_, ?_⟩ <;> first | assumption | exact hR | exact hT | exact hf5)) (fail)
      all_goals
        go_wp2
        exact bodyPost_ret (v := .tuple #[.agg (Lib.byteCells id).toArray, .int .u8 (fl.toNat : Int), .bool true]) (res15 _ _ w.heap.size id _ _ rfl (World.rangeAt_setCells_same _ _ _ _ (by rw [hl16]; exact hT)) H16.out rfl rfl) rfl ⟨by rw [G.out], Below.setCells _ (Nat.le_refl _) _ _ _ HB5.out.drew⟩
    · have hq4 : ((v.toNat : Int) == 0) = false := by
        rw [beq_eq_false_iff_ne]
        intro h
        exact q4 (UInt8.toNat_inj.1 (show v.toNat = 0 by omega))
      clear q4
      clear q1 q2 q3 hne255
      go_wp2_with (first | (refine wpList_load_mid rfl 57 _ rfl (w.heap.size + 1 + 1 + 1 + 1) 0 rfl (Lib.byteCells pa) _ RP5.out Tryd.underlying57 rfl SP.out ?_) | (refine wpList_store_mid rfl 25 _ _ rfl w.heap.size 0 Z rfl (congrArg Value.agg HZ.out.symm) T5.out ZS.out Z1.out ?_))
      have hu := Tryd.underlying25
      have hi := SI.out
      have hl16 : (Lib.byteCells id).length = 16 := by rw [Lib.byteCells_length]; exact H16.out
      have h1c := Lib.byteCells_one id
      have hR := RI5.out
      have hT := TH5.out
      go_region_held3 (fun w' => w'.rangeAt (w.heap.size + 1 + 1 + 1) 0 (Lib.byteCells id) ∧ w'.there w.heap.size 0 16 ∧ w'.cell? ⟨w.heap.size + 1 + 1, 0, none⟩ = some (.int .u8 (fl.toNat : Int))) (first | (go_split_ands; exact ⟨World.rangeAt_setCells_apart (by first | assumption | exact hR) _ _ _ (Or.inl (by omega)), World.there_setCells (by first | assumption | exact hT) _ _ _, cell_setCells (by omega) (by first | assumption | exact hf5)⟩) | (go_split_ands; refine ⟨?_, ?_, ?_⟩ <;> first | assumption | exact hR | exact hT | exact hf5)) (fail)
      all_goals
        go_wp2
        exact bodyPost_ret (v := .tuple #[.agg (Lib.byteCells id).toArray, .int .u8 (fl.toNat : Int), .bool true]) (res15 _ _ w.heap.size id _ _ rfl (World.rangeAt_setCells_same _ _ _ _ (by rw [hl16]; exact hT)) H16.out rfl rfl) rfl ⟨by rw [G.out], Below.setCells _ (Nat.le_refl _) _ _ _ HB5.out.drew⟩
  have n1 : ((s.size : Int) != 55) = true := by simp; omega
  have n2 : (55 : Int) < (s.size : Int) := by omega
  by_cases q4 : v = 0
  · have hq4 : ((v.toNat : Int) == 0) = true := by rw [q4]; rfl
    have G : Hid (tpV v fl id pa s = .tuple #[.agg (Lib.byteCells z16).toArray, .int .u8 0, .bool false]) := by
      have : goodB v id pa s = false := by simp [goodB, q4, q5]
      rw [Hid, tpV, this]; rfl
    clear q4 q5
    clear q1 q2 q3 hne255
    go_wp2_with (first | (refine wpList_load_mid rfl 57 _ rfl (w.heap.size + 1 + 1 + 1 + 1) 0 rfl (Lib.byteCells pa) _ RP5.out Tryd.underlying57 rfl SP.out ?_) | (refine wpList_store_mid rfl 25 _ _ rfl w.heap.size 0 Z rfl (congrArg Value.agg HZ.out.symm) T5.out ZS.out Z1.out ?_))
    exact bodyPost_ret (v := .tuple #[.agg (Lib.byteCells z16).toArray, .int .u8 0, .bool false]) (res15 _ _ w.heap.size z16 _ _ rfl (by rw [← ZL.out]; exact World.rangeAt_setCells_same _ _ _ _ T5.out) rfl rfl rfl) rfl ⟨by rw [G.out], Below.setCells _ (Nat.le_refl _) _ _ _ HB5.out⟩
  have hq4 : ((v.toNat : Int) == 0) = false := by
    rw [beq_eq_false_iff_ne]
    intro h
    exact q4 (UInt8.toNat_inj.1 (show v.toNat = 0 by omega))
  have h55 : s.data.toList[55]? = some (s[55]'(by omega)) := byte_at s 55 (by omega)
  by_cases q6 : s[55]'(by omega) = 45
  ·
    have G : Hid (tpV v fl id pa s = .tuple #[.agg (Lib.byteCells id).toArray, .int .u8 (fl.toNat : Int), .bool true]) := by
      have : goodB v id pa s = true := by simp [goodB, q1, q2, q3, q4, h55, q6]
      rw [Hid, tpV, this]; rfl
    clear q4 q5
    clear q1 q2 q3 hne255
    go_wp2_with (first | (refine wpList_load_mid rfl 57 _ rfl (w.heap.size + 1 + 1 + 1 + 1) 0 rfl (Lib.byteCells pa) _ RP5.out Tryd.underlying57 rfl SP.out ?_) | (refine wpList_store_mid rfl 25 _ _ rfl w.heap.size 0 Z rfl (congrArg Value.agg HZ.out.symm) T5.out ZS.out Z1.out ?_))
    have hu := Tryd.underlying25
    have hi := SI.out
    have hl16 : (Lib.byteCells id).length = 16 := by rw [Lib.byteCells_length]; exact H16.out
    have h1c := Lib.byteCells_one id
    have hR := RI5.out
    have hT := TH5.out
    go_region_held3 (fun w' => w'.rangeAt (w.heap.size + 1 + 1 + 1) 0 (Lib.byteCells id) ∧ w'.there w.heap.size 0 16 ∧ w'.cell? ⟨w.heap.size + 1 + 1, 0, none⟩ = some (.int .u8 (fl.toNat : Int))) (first | (go_split_ands; exact ⟨World.rangeAt_setCells_apart (by first | assumption | exact hR) _ _ _ (Or.inl (by omega)), World.there_setCells (by first | assumption | exact hT) _ _ _, cell_setCells (by omega) (by first | assumption | exact hf5)⟩) | (go_split_ands; refine ⟨?_, ?_, ?_⟩ <;> first | assumption | exact hR | exact hT | exact hf5)) (fail)
    all_goals
      go_wp2
      exact bodyPost_ret (v := .tuple #[.agg (Lib.byteCells id).toArray, .int .u8 (fl.toNat : Int), .bool true]) (res15 _ _ w.heap.size id _ _ rfl (World.rangeAt_setCells_same _ _ _ _ (by rw [hl16]; exact hT)) H16.out rfl rfl) rfl ⟨by rw [G.out], Below.setCells _ (Nat.le_refl _) _ _ _ HB5.out.drew⟩
  · have n6 : (((s[55]'(by omega)).toNat : Int) != 45) = true := by
      rw [bne_iff_ne]
      intro h
      exact q6 (UInt8.toNat_inj.1 (show (s[55]'(by omega)).toNat = 45 by omega))
    have G : Hid (tpV v fl id pa s = .tuple #[.agg (Lib.byteCells z16).toArray, .int .u8 0, .bool false]) := by
      have : goodB v id pa s = false := by simp [goodB, h55, q5, q6]
      rw [Hid, tpV, this]; rfl
    clear q4 q5 q6
    clear q1 q2 q3 hne255
    go_wp2_with (first | (refine wpList_load_mid rfl 57 _ rfl (w.heap.size + 1 + 1 + 1 + 1) 0 rfl (Lib.byteCells pa) _ RP5.out Tryd.underlying57 rfl SP.out ?_) | (refine wpList_store_mid rfl 25 _ _ rfl w.heap.size 0 Z rfl (congrArg Value.agg HZ.out.symm) T5.out ZS.out Z1.out ?_))
    exact bodyPost_ret (v := .tuple #[.agg (Lib.byteCells z16).toArray, .int .u8 0, .bool false]) (res15 _ _ w.heap.size z16 _ _ rfl (by rw [← ZL.out]; exact World.rangeAt_setCells_same _ _ _ _ T5.out) rfl rfl rfl) rfl ⟨by rw [G.out], Below.setCells _ (Nat.le_refl _) _ _ _ HB5.out⟩
end Go.Proofs.Qxb6616721aDoor
