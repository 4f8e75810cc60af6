/-
  Seat b6616721aD: the law's own walk.
-/
import Derived.Test.Qxb6616721aDoorParse
import Derived.Test.Qxb6616721aDoorHead
import Derived.Test.Qxb6616721aDoorTp
namespace Go.Proofs.Qxb6616721aDoor
open Go.RowKit Go.Lib

attribute [local go_sem ↓] Go.wp_at_zero Go.wp_at_succ

set_option maxRecDepth 100000 in
theorem bytes_yes (az : Array Value) (v : Int) (bs : Array Value) (fl : Int) (tail : ByteArray) (w : World) (h : (tail.size : Int) ≤ 1048576) :
    Calls Tryd.prog 8 #[.agg az, .int .u8 v, .agg bs, .int .u8 fl, .string tail] w fun e w' => e = .returned (.bool true) ∧ Below w.heap.size w w' := by
  go_enter Tryd.func8, Tryd.ntmps8
  go_wp2_with fail
  go_ret
  exact ⟨rfl, ((Below.refl w.heap.size w).alloc (Nat.le_refl _) _).alloc (by simp) _⟩

set_option maxRecDepth 100000 in
theorem bytes_no (az : Array Value) (v : Int) (bs : Array Value) (fl : Int) (tail : ByteArray) (w : World) (h : (1048576 : Int) < (tail.size : Int)) :
    Calls Tryd.prog 8 #[.agg az, .int .u8 v, .agg bs, .int .u8 fl, .string tail] w fun e w' => e = .returned (.bool false) ∧ Below w.heap.size w w' := by
  go_enter Tryd.func8, Tryd.ntmps8
  go_wp2_with fail
  go_ret
  exact ⟨rfl, ((Below.refl w.heap.size w).alloc (Nat.le_refl _) _).alloc (by simp) _⟩

theorem wpList_load_mid_g {P : Program} {ops : Array Oper} {rest : List Oper} {op : Oper} {a : Act} {w : World} {Q : Exit → Act → World → Prop} (hw : Region.wanted op (yielded ops a.tmps) = true) (ty : TypeId) (x : Operand) (ho : op.op = .load ty x)
    (b o : Nat) (hx : a.eval x = .pointer (some ⟨b, o, none⟩)) (cs : List Value) (d : TypeDesc) (hc : w.rangeAt b o cs)
    (hu : P.underlying ty = some d) (hd : d.isRow = true) (hi : (P.info? ty).map (·.size) = some cs.length)
    (h : wpList P ops Q rest (a.put op.dst (.agg cs.toArray)) w) : wpList P ops Q (op :: rest) a w := by
  unfold wpList
  rw [if_pos hw]
  exact Or.inl (wp_load_mid ty x ho b o hx cs d hc hu hd hi h)

theorem keepC {W W' : World} {a : Addr} {y : Value} (h : W.cell? a = some y) (hb : Below W.heap.size W W') : W'.cell? a = some y := (hb.cell (World.block_lt_of_cell? W a h)).trans h

theorem keepS {W W' : World} {H : Nat} {X : List Value} {y0 y1 y2 y3 y4 y5 y6 y7 : Value} (hX : 0 < X.length) (h : W.rangeAt H 0 X ∧ W.cell? ⟨H + 1, 0, none⟩ = some y0 ∧ W.cell? ⟨H + 1, 1, none⟩ = some y1 ∧ W.cell? ⟨H + 1, 2, none⟩ = some y2 ∧ W.cell? ⟨H + 1, 3, none⟩ = some y3 ∧ W.cell? ⟨H + 1, 4, none⟩ = some y4 ∧ W.cell? ⟨H + 1, 5, none⟩ = some y5 ∧ W.cell? ⟨H + 1, 6, none⟩ = some y6 ∧ W.cell? ⟨H + 1, 7, none⟩ = some y7) (hb : Below W.heap.size W W') : W'.rangeAt H 0 X ∧ W'.cell? ⟨H + 1, 0, none⟩ = some y0 ∧ W'.cell? ⟨H + 1, 1, none⟩ = some y1 ∧ W'.cell? ⟨H + 1, 2, none⟩ = some y2 ∧ W'.cell? ⟨H + 1, 3, none⟩ = some y3 ∧ W'.cell? ⟨H + 1, 4, none⟩ = some y4 ∧ W'.cell? ⟨H + 1, 5, none⟩ = some y5 ∧ W'.cell? ⟨H + 1, 6, none⟩ = some y6 ∧ W'.cell? ⟨H + 1, 7, none⟩ = some y7 :=
  ⟨range_of_block (hb.block _ (range_lt h.1 hX)) h.1, keepC h.2.1 hb, keepC h.2.2.1 hb, keepC h.2.2.2.1 hb, keepC h.2.2.2.2.1 hb, keepC h.2.2.2.2.2.1 hb, keepC h.2.2.2.2.2.2.1 hb, keepC h.2.2.2.2.2.2.2.1 hb, keepC h.2.2.2.2.2.2.2.2 hb⟩

theorem open8 (pa : List UInt8) (h : pa.length = 8) : ∃ y0 y1 y2 y3 y4 y5 y6 y7 : Value, (Lib.byteCells pa).toArray = #[y0, y1, y2, y3, y4, y5, y6, y7] :=
  match pa, h with
  | [_, _, _, _, _, _, _, _], _ => ⟨_, _, _, _, _, _, _, _, rfl⟩

theorem range8 {W : World} {b : Nat} {y0 y1 y2 y3 y4 y5 y6 y7 : Value} (h : W.cell? ⟨b, 0, none⟩ = some y0 ∧ W.cell? ⟨b, 1, none⟩ = some y1 ∧ W.cell? ⟨b, 2, none⟩ = some y2 ∧ W.cell? ⟨b, 3, none⟩ = some y3 ∧ W.cell? ⟨b, 4, none⟩ = some y4 ∧ W.cell? ⟨b, 5, none⟩ = some y5 ∧ W.cell? ⟨b, 6, none⟩ = some y6 ∧ W.cell? ⟨b, 7, none⟩ = some y7) : W.rangeAt b 0 #[y0, y1, y2, y3, y4, y5, y6, y7].toList := by
  obtain ⟨h0, h1, h2, h3, h4, h5, h6, h7⟩ := h
  intro j x hx
  have hj : j < 8 := (List.getElem?_eq_some_iff.1 hx).1
  rw [Nat.zero_add]
  match j, hj, hx with
  | 0, _, hx => cases hx; exact h0
  | 1, _, hx => cases hx; exact h1
  | 2, _, hx => cases hx; exact h2
  | 3, _, hx => cases hx; exact h3
  | 4, _, hx => cases hx; exact h4
  | 5, _, hx => cases hx; exact h5
  | 6, _, hx => cases hx; exact h6
  | 7, _, hx => cases hx; exact h7

def gotL (v fl : UInt8) (id pa : List UInt8) (s : ByteArray) : List Value := if goodB v id pa s then trL id ((fl.toNat : Int) % 2) ⟨#[]⟩ else trL z16 0 ⟨#[]⟩

theorem gotL_length (v fl : UInt8) (id pa : List UInt8) (s : ByteArray) (h16 : id.length = 16) : (gotL v fl id pa s).length = 18 := by
  unfold gotL
  split
  · exact trL_length id h16 _ _
  · exact trL_length z16 rfl _ _

theorem gotL_one (v fl : UInt8) (id pa : List UInt8) (s : ByteArray) : ∀ x ∈ gotL v fl id pa s, x.oneCell' = true := by
  unfold gotL
  split
  · exact trL_one id _ _
  · exact trL_one z16 _ _

theorem parse_all (v fl : UInt8) (id pa tl : List UInt8) (s : ByteArray) (hs : s = ⟨(hdr v fl id pa tl).toArray⟩) (h16 : id.length = 16) (h8 : pa.length = 8) (ev : Value) (m : Int) (b : Nat) (w : World)
    (hc : w.cell? ⟨b, 0, none⟩ = some (.string s)) (hE : w.cell? ⟨0, 0, none⟩ = some ev) (hm : w.cell? ⟨1, 0, none⟩ = some (.int .i64 m)) :
    Calls Tryd.prog 7 #[.slice (some ⟨b, 0, none⟩) 1 1, .slice none 0 0] w fun e w' => e = .returned (.tuple #[.agg (gotL v fl id pa s).toArray, .bool (goodB v id pa s)]) ∧ Below w.heap.size w w' := by
  have hb : Below w.heap.size w (w.alloc (.cells lit18 28)) := (Below.refl w.heap.size w).alloc (Nat.le_refl _) _
  have hsz : 55 ≤ s.size := by rw [hs, hdr_size v fl id pa tl h16 h8]; omega
  have hT := tp_any s v fl id pa (w.alloc (.cells lit18 28)) ev h16 h8 ((hb.cell (World.block_lt_of_cell? w _ hE)).trans hE) hsz
    (by subst hs; exact hdr_2 v fl id pa tl _) (by subst hs; exact hdr_35 v fl id pa tl h16 _) (by subst hs; exact hdr_52 v fl id pa tl h16 h8 _)
    (by subst hs; exact hdr_e1 v fl id pa tl) (by subst hs; exact hdr_e2 v fl id pa tl h16) (by subst hs; exact hdr_e3 v fl id pa tl h16 h8) (by subst hs; exact hdr_e4 v fl id pa tl h16 h8)
  have hsize : (w.alloc (.cells lit18 28)).heap.size = w.heap.size + 1 := by simp
  rw [hsize, tpV] at hT
  unfold gotL
  cases hg : goodB v id pa s with
  | true =>
    rw [hg] at hT
    exact parse_ok b s id h16 (fl.toNat : Int) m (by omega) (by have := fl.toNat_lt; omega) w hc hm hT
  | false =>
    rw [hg] at hT
    exact parse_bad b s z16 rfl 0 w hc hT

theorem good_of (v fl : UInt8) (id pa : List UInt8) (tail s : ByteArray) (hs : s = ⟨(hdr v fl id pa tail.data.toList).toArray⟩) (h16 : id.length = 16) (h8 : pa.length = 8) :
    goodB v id pa s = (!(v == 255) && (!(id == z16) && (!(pa == z8) && (decide (tail.size = 0) || (!(v == 0) && decide (tail.data.toList[0]? = some 45)))))) := by
  have e1 : s.size = 55 + tail.size := by rw [hs, hdr_size v fl id pa _ h16 h8]; rfl
  have e2 : s.data.toList[55]? = tail.data.toList[0]? := by rw [hs]; exact hdr_55 v fl id pa _ h16 h8
  have e3 : (s.size = 55) = (tail.size = 0) := by rw [e1]; exact propext ⟨fun h => by omega, fun h => by omega⟩
  unfold goodB
  simp only [e2, e3]

theorem u8_back (v : UInt8) : UInt8.ofNat ((v.toNat : Int)).toNat = v := by simp

set_option maxRecDepth 100000 in
set_option maxHeartbeats 6400000 in
theorem law_short (v fl : UInt8) (id pa : List UInt8) (tail : ByteArray) (w : World) (ev : Value) (m : Int) (h16 : id.length = 16) (h8 : pa.length = 8)
    (hE : w.cell? ⟨0, 0, none⟩ = some ev) (hm : w.cell? ⟨1, 0, none⟩ = some (.int .i64 m)) (ht : (tail.size : Int) ≤ 65536) :
    Calls Tryd.prog 4 #[.agg (Lib.byteCells id).toArray, .int .u8 (v.toNat : Int), .agg (Lib.byteCells pa).toArray, .int .u8 (fl.toNat : Int), .string tail] w
      fun e w' => e = .returned (.bool true) ∧ Below w.heap.size w w' := by
  obtain ⟨X, hX⟩ : ∃ X : Array Value, X = (Lib.byteCells id).toArray := ⟨_, rfl⟩
  obtain ⟨y0, y1, y2, y3, y4, y5, y6, y7, hY0⟩ := open8 pa h8
  have hY : #[y0, y1, y2, y3, y4, y5, y6, y7] = (Lib.byteCells pa).toArray := hY0.symm
  clear hY0
  rw [← hX, ← hY]
  have XS : Hid (X.toList.length = 16) := by rw [Hid, hX]; simp [Lib.byteCells_length, h16]
  have X24 : Hid ((Tryd.prog.info? 24).map (·.size) = some X.toList.length) := by rw [Hid, XS.out]; exact Tryd.size24
  have Y31 : Hid ((Tryd.prog.info? 31).map (·.size) = some #[y0, y1, y2, y3, y4, y5, y6, y7].toList.length) := Tryd.size31
  have HB := hid fun w' => bytes_yes X (v.toNat : Int) #[y0, y1, y2, y3, y4, y5, y6, y7] (fl.toNat : Int) tail w' (by omega)
  obtain ⟨sv, hsv⟩ : ∃ sv : ByteArray, sv = ⟨(Hx.encode [v]).toArray⟩ := ⟨_, rfl⟩
  obtain ⟨sf, hsf⟩ : ∃ sf : ByteArray, sf = ⟨(Hx.encode [fl]).toArray⟩ := ⟨_, rfl⟩
  obtain ⟨si, hsi⟩ : ∃ si : ByteArray, si = ⟨(Hx.encode id).toArray⟩ := ⟨_, rfl⟩
  obtain ⟨sp, hsp⟩ : ∃ sp : ByteArray, sp = ⟨(Hx.encode pa).toArray⟩ := ⟨_, rfl⟩
  have lv : sv.size = 2 := by rw [hsv]; exact Hx.encode_length [v]
  have lf : sf.size = 2 := by rw [hsf]; exact Hx.encode_length [fl]
  have li : si.size = 32 := by rw [hsi]; exact (Hx.encode_length id).trans (by omega)
  have lp : sp.size = 16 := by rw [hsp]; exact (Hx.encode_length pa).trans (by omega)
  have H9v : Hid (∀ W, Calls Tryd.prog 9 #[.int .u8 (v.toNat : Int)] W fun e w' => e = .returned (.string sv) ∧ Below W.heap.size W w') := fun W => by
    have := hexOfByte_any (v.toNat : Int) W (by omega) (by have := v.toNat_lt; omega)
    rwa [u8_back, ← hsv] at this
  have H9f : Hid (∀ W, Calls Tryd.prog 9 #[.int .u8 (fl.toNat : Int)] W fun e w' => e = .returned (.string sf) ∧ Below W.heap.size W w') := fun W => by
    have := hexOfByte_any (fl.toNat : Int) W (by omega) (by have := fl.toNat_lt; omega)
    rwa [u8_back, ← hsf] at this
  have H10 : Hid (∀ W, Calls Tryd.prog 10 #[.agg X] W fun e w' => e = .returned (.string si) ∧ Below W.heap.size W w') := fun W => by
    have := string_any id h16 W
    rwa [← hX, ← hsi] at this
  have H11 : Hid (∀ W, Calls Tryd.prog 11 #[.agg #[y0, y1, y2, y3, y4, y5, y6, y7]] W fun e w' => e = .returned (.string sp) ∧ Below W.heap.size W w') := fun W => by
    have := hexOf8_any pa h8 W
    rwa [← hY, ← hsp] at this
  have hbig : ¬ 9223372036854775807 < 55 + tail.size := by omega
  have hXl : 0 < X.toList.length := by rw [XS.out]; omega
  have RX0 : Hid (((w.alloc (.cells X 24)).alloc (.cells #[y0, y1, y2, y3, y4, y5, y6, y7] 31)).rangeAt w.heap.size 0 X.toList) := by
    refine World.rangeAt_alloc ?_ _
    rw [hX]; exact range_byteCells id w 24
  have RY0 : Hid (((w.alloc (.cells X 24)).alloc (.cells #[y0, y1, y2, y3, y4, y5, y6, y7] 31)).rangeAt (w.heap.size + 1) 0 #[y0, y1, y2, y3, y4, y5, y6, y7].toList) := by
    have := range_byteCells pa (w.alloc (.cells X 24)) 31
    rw [Hid, hY]; simpa using this
  have C0 : Hid (((w.alloc (.cells X 24)).alloc (.cells #[y0, y1, y2, y3, y4, y5, y6, y7] 31)).cell? ⟨w.heap.size + 1, 0, none⟩ = some y0 ∧ ((w.alloc (.cells X 24)).alloc (.cells #[y0, y1, y2, y3, y4, y5, y6, y7] 31)).cell? ⟨w.heap.size + 1, 1, none⟩ = some y1 ∧ ((w.alloc (.cells X 24)).alloc (.cells #[y0, y1, y2, y3, y4, y5, y6, y7] 31)).cell? ⟨w.heap.size + 1, 2, none⟩ = some y2 ∧ ((w.alloc (.cells X 24)).alloc (.cells #[y0, y1, y2, y3, y4, y5, y6, y7] 31)).cell? ⟨w.heap.size + 1, 3, none⟩ = some y3 ∧ ((w.alloc (.cells X 24)).alloc (.cells #[y0, y1, y2, y3, y4, y5, y6, y7] 31)).cell? ⟨w.heap.size + 1, 4, none⟩ = some y4 ∧ ((w.alloc (.cells X 24)).alloc (.cells #[y0, y1, y2, y3, y4, y5, y6, y7] 31)).cell? ⟨w.heap.size + 1, 5, none⟩ = some y5 ∧ ((w.alloc (.cells X 24)).alloc (.cells #[y0, y1, y2, y3, y4, y5, y6, y7] 31)).cell? ⟨w.heap.size + 1, 6, none⟩ = some y6 ∧ ((w.alloc (.cells X 24)).alloc (.cells #[y0, y1, y2, y3, y4, y5, y6, y7] 31)).cell? ⟨w.heap.size + 1, 7, none⟩ = some y7) := by
    refine ⟨?_, ?_, ?_, ?_, ?_, ?_, ?_, ?_⟩ <;> (rw [World.cell?_alloc_at _ _ _ _ (by simp)]; rfl)
  have hq24 : ∀ w, (Op.equalIn 10000 24 (.agg X) (.agg #[.int .u8 0, .int .u8 0, .int .u8 0, .int .u8 0, .int .u8 0, .int .u8 0, .int .u8 0, .int .u8 0, .int .u8 0, .int .u8 0, .int .u8 0, .int .u8 0, .int .u8 0, .int .u8 0, .int .u8 0, .int .u8 0])).run Tryd.prog w = .ok (id == z16) w := fun w => by rw [hX]; exact eq16 24 Tryd.underlying24 id z16 h16 rfl w
  have hq31 : ∀ w, (Op.equalIn 10000 31 (.agg #[y0, y1, y2, y3, y4, y5, y6, y7]) (.agg #[.int .u8 0, .int .u8 0, .int .u8 0, .int .u8 0, .int .u8 0, .int .u8 0, .int .u8 0, .int .u8 0])).run Tryd.prog w = .ok (pa == z8) w := fun w => by rw [hY]; exact eq8 31 Tryd.underlying31 pa z8 h8 rfl w
  have SX := hid hX
  have SY := hid hY
  have SV := hid hsv
  have SF := hid hsf
  have SI := hid hsi
  have SP := hid hsp
  have HE := hid hE
  have HM := hid hm
  have L16 := hid h16
  have L8 := hid h8
  clear hX hY hsv hsf hsi hsp hE hm h16 h8
  go_enter Tryd.func4, Tryd.ntmps4
  go_wp2_with (first | (refine wpList_load_mid rfl 24 _ rfl w.heap.size 0 rfl X.toList _ RX0.out Tryd.underlying24 rfl X24.out ?_) | (refine wpList_load_mid rfl 31 _ rfl (w.heap.size + 1) 0 rfl Y.toList _ RY0.out Tryd.underlying31 rfl Y31.out ?_))
  refine (HB.out _).mono ?_
  rintro e W1 ⟨rfl, hb1⟩
  have hS1 : W1.rangeAt w.heap.size 0 X.toList ∧ W1.cell? ⟨w.heap.size + 1, 0, none⟩ = some y0 ∧ W1.cell? ⟨w.heap.size + 1, 1, none⟩ = some y1 ∧ W1.cell? ⟨w.heap.size + 1, 2, none⟩ = some y2 ∧ W1.cell? ⟨w.heap.size + 1, 3, none⟩ = some y3 ∧ W1.cell? ⟨w.heap.size + 1, 4, none⟩ = some y4 ∧ W1.cell? ⟨w.heap.size + 1, 5, none⟩ = some y5 ∧ W1.cell? ⟨w.heap.size + 1, 6, none⟩ = some y6 ∧ W1.cell? ⟨w.heap.size + 1, 7, none⟩ = some y7 := keepS hXl ⟨RX0.out, C0.out⟩ hb1
  have B1 : Hid (Below w.heap.size w W1) := (((Below.refl w.heap.size w).alloc (Nat.le_refl _) _).alloc (by simp) _).trans (hb1.mono (by simp; omega))
  clear hb1
  go_wp2_with fail
  have hu24 := Tryd.underlying24
  have hi24 := X24.out
  go_region_held3 (fun w' => w'.rangeAt w.heap.size 0 X.toList ∧ w'.cell? ⟨w.heap.size + 1, 0, none⟩ = some y0 ∧ w'.cell? ⟨w.heap.size + 1, 1, none⟩ = some y1 ∧ w'.cell? ⟨w.heap.size + 1, 2, none⟩ = some y2 ∧ w'.cell? ⟨w.heap.size + 1, 3, none⟩ = some y3 ∧ w'.cell? ⟨w.heap.size + 1, 4, none⟩ = some y4 ∧ w'.cell? ⟨w.heap.size + 1, 5, none⟩ = some y5 ∧ w'.cell? ⟨w.heap.size + 1, 6, none⟩ = some y6 ∧ w'.cell? ⟨w.heap.size + 1, 7, none⟩ = some y7)
    (first
      | (exact keepS hXl (by assumption) hb5)
      | (exact keepS hXl (by assumption) hb4)
      | (exact keepS hXl (by assumption) hb3)
      | (exact keepS hXl (by assumption) hb2)
      | (exact keepS hXl hS1 hb2)
      | assumption)
    (first
      | (go_at_call 11; refine (H11.out _).mono ?_; rintro e W4 ⟨rfl, hb4⟩)
      | (go_at_call 10; refine (H10.out _).mono ?_; rintro e W3 ⟨rfl, hb3⟩)
      | (go_at_call 9; have hb4' := hb4; refine (H9f.out _).mono ?_; rintro e W5 ⟨rfl, hb5⟩)
      | (go_at_call 9; refine (H9v.out _).mono ?_; rintro e W2 ⟨rfl, hb2⟩))
  have hS1d : W1.drew.rangeAt w.heap.size 0 X.toList ∧ W1.drew.cell? ⟨w.heap.size + 1, 0, none⟩ = some y0 ∧ W1.drew.cell? ⟨w.heap.size + 1, 1, none⟩ = some y1 ∧ W1.drew.cell? ⟨w.heap.size + 1, 2, none⟩ = some y2 ∧ W1.drew.cell? ⟨w.heap.size + 1, 3, none⟩ = some y3 ∧ W1.drew.cell? ⟨w.heap.size + 1, 4, none⟩ = some y4 ∧ W1.drew.cell? ⟨w.heap.size + 1, 5, none⟩ = some y5 ∧ W1.drew.cell? ⟨w.heap.size + 1, 6, none⟩ = some y6 ∧ W1.drew.cell? ⟨w.heap.size + 1, 7, none⟩ = some y7 := hS1
  have hS5 := keepS hXl (keepS hXl (keepS hXl (keepS hXl hS1d hb2) hb3) hb4) hb5
  have B5 : Hid (Below w.heap.size w W5) := B1.out.drew.trans ((hb2.trans ((hb3.mono hb2.size).trans ((hb4.mono (Nat.le_trans hb2.size hb3.size)).trans (hb5.mono (Nat.le_trans (Nat.le_trans hb2.size hb3.size) hb4.size))))).mono B1.out.drew.size)
  have eS : sv ++ ⟨#[45]⟩ ++ si ++ ⟨#[45]⟩ ++ sp ++ ⟨#[45]⟩ ++ sf ++ tail = ⟨(hdr v fl id pa tail.data.toList).toArray⟩ := by
    rw [SV.out, SI.out, SP.out, SF.out]
    apply ByteArray.ext
    apply Array.ext'
    simp [hdr]
  rw [eS]
  obtain ⟨s, hs⟩ : ∃ s : ByteArray, s = ⟨(hdr v fl id pa tail.data.toList).toArray⟩ := ⟨_, rfl⟩
  rw [← hs]
  have HS := hid hs
  clear hs eS hb2 hb3 hb4 hb5 hS1 hS1d
  have L5 : Hid (w.heap.size + 1 < W5.heap.size) := World.block_lt_of_cell? W5 _ hS5.2.1
  have E6 : Hid ((W5.alloc (.cells #[.string s] 9)).cell? ⟨W5.heap.size, 0, none⟩ = some (.string s)) := by rw [Hid, World.cell?_alloc_at _ _ _ _ rfl]; rfl
  have B6 : Hid (Below w.heap.size w (W5.alloc (.cells #[.string s] 9))) := B5.out.alloc (by have := L5.out; omega) _
  have hPZ := parse_all v fl id pa tail.data.toList s HS.out L16.out L8.out ev m W5.heap.size (W5.alloc (.cells #[.string s] 9)) E6.out
    ((B6.out.cell (World.block_lt_of_cell? w _ HE.out)).trans HE.out) ((B6.out.cell (World.block_lt_of_cell? w _ HM.out)).trans HM.out)
  obtain ⟨Z, hZ⟩ : ∃ Z : Array Value, Z = (gotL v fl id pa s).toArray := ⟨_, rfl⟩
  rw [← hZ] at hPZ
  have HP := hid hPZ
  have ZZ : Hid (Z.size = 18) := by rw [Hid, hZ]; exact gotL_length v fl id pa s L16.out
  have ZS : Hid ((Tryd.prog.info? 28).map (·.size) = some Z.size) := by rw [Hid, ZZ.out]; exact Tryd.size28
  have ZJ : Hid ((Tryd.prog.info? 28).map (·.size) = some Z.toList.length) := by rw [Hid]; simpa using ZS.out
  have Z1 : Hid (Z.all (·.oneCell') = true) := by rw [Hid, hZ]; exact all_oneCell_toArray (gotL_one v fl id pa s)
  have HZ := hid hZ
  have KS := hid hS5
  clear hPZ hZ hS5
  go_wp2_with fail
  refine HP.out.mono ?_
  rintro e W7 ⟨rfl, hb7⟩
  have S7 : Hid (W7.rangeAt w.heap.size 0 X.toList ∧ W7.cell? ⟨w.heap.size + 1, 0, none⟩ = some y0 ∧ W7.cell? ⟨w.heap.size + 1, 1, none⟩ = some y1 ∧ W7.cell? ⟨w.heap.size + 1, 2, none⟩ = some y2 ∧ W7.cell? ⟨w.heap.size + 1, 3, none⟩ = some y3 ∧ W7.cell? ⟨w.heap.size + 1, 4, none⟩ = some y4 ∧ W7.cell? ⟨w.heap.size + 1, 5, none⟩ = some y5 ∧ W7.cell? ⟨w.heap.size + 1, 6, none⟩ = some y6 ∧ W7.cell? ⟨w.heap.size + 1, 7, none⟩ = some y7) := keepS hXl (keepS hXl KS.out ((Below.refl W5.heap.size W5).alloc (Nat.le_refl _) _)) hb7
  have B7 : Hid (Below w.heap.size w W7) := B6.out.trans (hb7.mono B6.out.size)
  have L7 : Hid (w.heap.size + 1 < W7.heap.size) := World.block_lt_of_cell? W7 _ S7.out.2.1
  have N7 : Hid ((W7.alloc (.cells lit18 28)).there W7.heap.size 0 Z.size) := by rw [Hid, ZZ.out]; exact there_new W7 lit18 28 18 rfl
  clear hb7
  generalize hg : goodB v id pa s = g
  go_wp2_with (refine wpList_store_as rfl 28 _ _ rfl W7.heap.size Z rfl rfl N7.out ZS.out Z1.out ?_)
  intro W8 hr8 hg8 ht8
  have A7 : Below W7.heap.size W7 (W7.alloc (.cells lit18 28)) := (Below.refl W7.heap.size W7).alloc (Nat.le_refl _) _
  have A8 : Below W7.heap.size W7 W8 := A7.grown hg8 (by simp) (fun k hk => by cases hk; omega)
  have S8 := keepS hXl S7.out A8
  have RZ : Hid (W8.rangeAt W7.heap.size 0 Z.toList) := hr8
  have B8 : Hid (Below w.heap.size w W8) := B7.out.trans (A8.mono B7.out.size)
  have RX : Hid (W8.rangeAt w.heap.size 0 X.toList) := S8.1
  have RY : Hid (W8.rangeAt (w.heap.size + 1) 0 #[y0, y1, y2, y3, y4, y5, y6, y7].toList) := range8 S8.2
  clear hr8 hg8 ht8 A7 A8 S8
  by_cases q1 : v = 255
  · have v1 : ((v.toNat : Int) != 255) = false := by rw [q1]; rfl
    have gE : goodB v id pa s = false := by rw [good_of v fl id pa tail s HS.out L16.out L8.out]; simp [q1]
    have hZ : Z = (trL z16 0 ⟨#[]⟩).toArray := by rw [HZ.out, gotL, gE]; rfl
    have hqz : ∀ w, (Op.equalIn 10000 28 (.agg Z) (.agg #[.int .u8 0, .int .u8 0, .int .u8 0, .int .u8 0, .int .u8 0, .int .u8 0, .int .u8 0, .int .u8 0, .int .u8 0, .int .u8 0, .int .u8 0, .int .u8 0, .int .u8 0, .int .u8 0, .int .u8 0, .int .u8 0, .int .u8 0, .string ⟨#[]⟩])).run Tryd.prog w = .ok true w := fun w => by rw [hZ]; exact eq28 z16 z16 rfl rfl 0 0 ⟨#[]⟩ w
    rw [gE] at hg
    subst hg
    clear hZ gE q1
    go_wp2_with (first | (refine wpList_load_mid_g rfl 24 _ rfl w.heap.size 0 rfl X.toList _ RX.out Tryd.underlying24 rfl X24.out ?_) | (refine wpList_load_mid_g rfl 31 _ rfl (w.heap.size + 1) 0 rfl #[y0, y1, y2, y3, y4, y5, y6, y7].toList _ RY.out Tryd.underlying31 rfl Y31.out ?_) | (refine wpList_load_mid_g rfl 28 _ rfl W7.heap.size 0 rfl Z.toList _ RZ.out Tryd.underlying28 rfl ZJ.out ?_))
    go_ret
    exact ⟨rfl, B8.out⟩
  have v1 : ((v.toNat : Int) != 255) = true := by
    rw [bne_iff_ne]
    intro h
    exact q1 (UInt8.toNat_inj.1 (show v.toNat = 255 by omega))
  by_cases q2 : id = z16
  · have e2 : (id == z16) = true := by rw [q2]; exact beq_self_eq_true _
    rw [e2] at hq24
    have gE : goodB v id pa s = false := by rw [good_of v fl id pa tail s HS.out L16.out L8.out]; simp [q2]
    have hZ : Z = (trL z16 0 ⟨#[]⟩).toArray := by rw [HZ.out, gotL, gE]; rfl
    have hqz : ∀ w, (Op.equalIn 10000 28 (.agg Z) (.agg #[.int .u8 0, .int .u8 0, .int .u8 0, .int .u8 0, .int .u8 0, .int .u8 0, .int .u8 0, .int .u8 0, .int .u8 0, .int .u8 0, .int .u8 0, .int .u8 0, .int .u8 0, .int .u8 0, .int .u8 0, .int .u8 0, .int .u8 0, .string ⟨#[]⟩])).run Tryd.prog w = .ok true w := fun w => by rw [hZ]; exact eq28 z16 z16 rfl rfl 0 0 ⟨#[]⟩ w
    rw [gE] at hg
    subst hg
    clear hZ gE q1 q2 e2
    go_wp2_with (first | (refine wpList_load_mid_g rfl 24 _ rfl w.heap.size 0 rfl X.toList _ RX.out Tryd.underlying24 rfl X24.out ?_) | (refine wpList_load_mid_g rfl 31 _ rfl (w.heap.size + 1) 0 rfl #[y0, y1, y2, y3, y4, y5, y6, y7].toList _ RY.out Tryd.underlying31 rfl Y31.out ?_) | (refine wpList_load_mid_g rfl 28 _ rfl W7.heap.size 0 rfl Z.toList _ RZ.out Tryd.underlying28 rfl ZJ.out ?_))
    go_ret
    exact ⟨rfl, B8.out⟩
  have e2 : (id == z16) = false := beq_eq_false_iff_ne.2 q2
  rw [e2] at hq24
  by_cases q3 : pa = z8
  · have e3 : (pa == z8) = true := by rw [q3]; exact beq_self_eq_true _
    rw [e3] at hq31
    have gE : goodB v id pa s = false := by rw [good_of v fl id pa tail s HS.out L16.out L8.out]; simp [q3]
    have hZ : Z = (trL z16 0 ⟨#[]⟩).toArray := by rw [HZ.out, gotL, gE]; rfl
    have hqz : ∀ w, (Op.equalIn 10000 28 (.agg Z) (.agg #[.int .u8 0, .int .u8 0, .int .u8 0, .int .u8 0, .int .u8 0, .int .u8 0, .int .u8 0, .int .u8 0, .int .u8 0, .int .u8 0, .int .u8 0, .int .u8 0, .int .u8 0, .int .u8 0, .int .u8 0, .int .u8 0, .int .u8 0, .string ⟨#[]⟩])).run Tryd.prog w = .ok true w := fun w => by rw [hZ]; exact eq28 z16 z16 rfl rfl 0 0 ⟨#[]⟩ w
    rw [gE] at hg
    subst hg
    clear hZ gE q1 q2 q3 e2 e3
    go_wp2_with (first | (refine wpList_load_mid_g rfl 24 _ rfl w.heap.size 0 rfl X.toList _ RX.out Tryd.underlying24 rfl X24.out ?_) | (refine wpList_load_mid_g rfl 31 _ rfl (w.heap.size + 1) 0 rfl #[y0, y1, y2, y3, y4, y5, y6, y7].toList _ RY.out Tryd.underlying31 rfl Y31.out ?_) | (refine wpList_load_mid_g rfl 28 _ rfl W7.heap.size 0 rfl Z.toList _ RZ.out Tryd.underlying28 rfl ZJ.out ?_))
    go_ret
    exact ⟨rfl, B8.out⟩
  have e3 : (pa == z8) = false := beq_eq_false_iff_ne.2 q3
  rw [e3] at hq31
  by_cases q5 : tail.size = 0
  · have p1 : tail.toList.isEmpty = true := by
      rw [Lib.toList_data, List.isEmpty_iff]
      exact List.eq_nil_of_length_eq_zero q5
    have gE : goodB v id pa s = true := by rw [good_of v fl id pa tail s HS.out L16.out L8.out]; simp [q1, q2, q3, q5]
    have hZ : Z = (trL id ((fl.toNat : Int) % 2) ⟨#[]⟩).toArray := by rw [HZ.out, gotL, gE]; rfl
    have hqz : ∀ w, (Op.equalIn 10000 28 (.agg Z) (.agg Z)).run Tryd.prog w = .ok true w := fun w => by rw [hZ, eq28 id id L16.out L16.out _ _ ⟨#[]⟩ w, beq_self_eq_true, beq_self_eq_true]; rfl
    have HBD : Hid (∀ w, (Instr.build 28 #[(0, .agg X), (1, .int .u8 ((fl.toNat : Int) % 2))]).run Tryd.prog w = .ok (.agg Z) w) := fun w => by
      rw [SX.out, hZ]; exact run_build (P := Tryd.prog) w 28 _ _ (built28 id L16.out _)
    have hand := and1 (fl.toNat : Int) (by omega) (by have := fl.toNat_lt; omega)
    rw [gE] at hg
    subst hg
    clear hZ gE q1 q2 q3 e2 e3 q5
    go_wp2_with (first | (refine wpList_load_mid_g rfl 24 _ rfl w.heap.size 0 rfl X.toList _ RX.out Tryd.underlying24 rfl X24.out ?_) | (refine wpList_load_mid_g rfl 31 _ rfl (w.heap.size + 1) 0 rfl #[y0, y1, y2, y3, y4, y5, y6, y7].toList _ RY.out Tryd.underlying31 rfl Y31.out ?_) | (refine wpList_load_mid_g rfl 28 _ rfl W7.heap.size 0 rfl Z.toList _ RZ.out Tryd.underlying28 rfl ZJ.out ?_) | (refine wpList_build rfl 28 [(0, Operand.tmp 81), (1, Operand.tmp 83)] rfl [(0, .agg X), (1, .int .u8 ((fl.toNat : Int) % 2))] rfl (.agg Z) (HBD.out _) ?_))
    go_ret
    exact ⟨rfl, B8.out⟩
  have p1 : tail.toList.isEmpty = false := by
    rw [Lib.toList_data]
    cases hh : tail.data.toList with
    | nil => exact absurd (congrArg List.length hh) q5
    | cons _ _ => rfl
  have p2 : (0 : Int) < (tail.size : Int) := by omega
  by_cases q4 : v = 0
  · have v2 : ((v.toNat : Int) != 0) = false := by rw [q4]; rfl
    have gE : goodB v id pa s = false := by rw [good_of v fl id pa tail s HS.out L16.out L8.out]; simp [q4, q5]
    have hZ : Z = (trL z16 0 ⟨#[]⟩).toArray := by rw [HZ.out, gotL, gE]; rfl
    have hqz : ∀ w, (Op.equalIn 10000 28 (.agg Z) (.agg #[.int .u8 0, .int .u8 0, .int .u8 0, .int .u8 0, .int .u8 0, .int .u8 0, .int .u8 0, .int .u8 0, .int .u8 0, .int .u8 0, .int .u8 0, .int .u8 0, .int .u8 0, .int .u8 0, .int .u8 0, .int .u8 0, .int .u8 0, .string ⟨#[]⟩])).run Tryd.prog w = .ok true w := fun w => by rw [hZ]; exact eq28 z16 z16 rfl rfl 0 0 ⟨#[]⟩ w
    rw [gE] at hg
    subst hg
    clear hZ gE q1 q2 q3 e2 e3 q5 q4
    go_wp2_with (first | (refine wpList_load_mid_g rfl 24 _ rfl w.heap.size 0 rfl X.toList _ RX.out Tryd.underlying24 rfl X24.out ?_) | (refine wpList_load_mid_g rfl 31 _ rfl (w.heap.size + 1) 0 rfl #[y0, y1, y2, y3, y4, y5, y6, y7].toList _ RY.out Tryd.underlying31 rfl Y31.out ?_) | (refine wpList_load_mid_g rfl 28 _ rfl W7.heap.size 0 rfl Z.toList _ RZ.out Tryd.underlying28 rfl ZJ.out ?_))
    go_ret
    exact ⟨rfl, B8.out⟩
  have v2 : ((v.toNat : Int) != 0) = true := by
    rw [bne_iff_ne]
    intro h
    exact q4 (UInt8.toNat_inj.1 (show v.toNat = 0 by omega))
  have t0 : tail.data.toList[0]? = some (tail[0]'(by omega)) := byte_at tail 0 (by omega)
  by_cases q6 : tail[0]'(by omega) = 45
  ·
    have gE : goodB v id pa s = true := by rw [good_of v fl id pa tail s HS.out L16.out L8.out]; simp [q1, q2, q3, q4, t0, q6]
    have hZ : Z = (trL id ((fl.toNat : Int) % 2) ⟨#[]⟩).toArray := by rw [HZ.out, gotL, gE]; rfl
    have hqz : ∀ w, (Op.equalIn 10000 28 (.agg Z) (.agg Z)).run Tryd.prog w = .ok true w := fun w => by rw [hZ, eq28 id id L16.out L16.out _ _ ⟨#[]⟩ w, beq_self_eq_true, beq_self_eq_true]; rfl
    have HBD : Hid (∀ w, (Instr.build 28 #[(0, .agg X), (1, .int .u8 ((fl.toNat : Int) % 2))]).run Tryd.prog w = .ok (.agg Z) w) := fun w => by
      rw [SX.out, hZ]; exact run_build (P := Tryd.prog) w 28 _ _ (built28 id L16.out _)
    have hand := and1 (fl.toNat : Int) (by omega) (by have := fl.toNat_lt; omega)
    rw [gE] at hg
    subst hg
    clear hZ gE q1 q2 q3 e2 e3 q5 q4 t0
    go_wp2_with (first | (refine wpList_load_mid_g rfl 24 _ rfl w.heap.size 0 rfl X.toList _ RX.out Tryd.underlying24 rfl X24.out ?_) | (refine wpList_load_mid_g rfl 31 _ rfl (w.heap.size + 1) 0 rfl #[y0, y1, y2, y3, y4, y5, y6, y7].toList _ RY.out Tryd.underlying31 rfl Y31.out ?_) | (refine wpList_load_mid_g rfl 28 _ rfl W7.heap.size 0 rfl Z.toList _ RZ.out Tryd.underlying28 rfl ZJ.out ?_) | (refine wpList_build rfl 28 [(0, Operand.tmp 81), (1, Operand.tmp 83)] rfl [(0, .agg X), (1, .int .u8 ((fl.toNat : Int) % 2))] rfl (.agg Z) (HBD.out _) ?_))
    go_ret
    exact ⟨rfl, B8.out⟩
  · have n6 : (((tail[0]'(by omega)).toNat : Int) == 45) = false := by
      rw [beq_eq_false_iff_ne]
      intro h
      exact q6 (UInt8.toNat_inj.1 (show (tail[0]'(by omega)).toNat = 45 by omega))
    have gE : goodB v id pa s = false := by rw [good_of v fl id pa tail s HS.out L16.out L8.out]; simp [q5, t0, q6]
    have hZ : Z = (trL z16 0 ⟨#[]⟩).toArray := by rw [HZ.out, gotL, gE]; rfl
    have hqz : ∀ w, (Op.equalIn 10000 28 (.agg Z) (.agg #[.int .u8 0, .int .u8 0, .int .u8 0, .int .u8 0, .int .u8 0, .int .u8 0, .int .u8 0, .int .u8 0, .int .u8 0, .int .u8 0, .int .u8 0, .int .u8 0, .int .u8 0, .int .u8 0, .int .u8 0, .int .u8 0, .int .u8 0, .string ⟨#[]⟩])).run Tryd.prog w = .ok true w := fun w => by rw [hZ]; exact eq28 z16 z16 rfl rfl 0 0 ⟨#[]⟩ w
    rw [gE] at hg
    subst hg
    clear hZ gE q1 q2 q3 e2 e3 q5 q4 t0 q6
    go_wp2_with (first | (refine wpList_load_mid_g rfl 24 _ rfl w.heap.size 0 rfl X.toList _ RX.out Tryd.underlying24 rfl X24.out ?_) | (refine wpList_load_mid_g rfl 31 _ rfl (w.heap.size + 1) 0 rfl #[y0, y1, y2, y3, y4, y5, y6, y7].toList _ RY.out Tryd.underlying31 rfl Y31.out ?_) | (refine wpList_load_mid_g rfl 28 _ rfl W7.heap.size 0 rfl Z.toList _ RZ.out Tryd.underlying28 rfl ZJ.out ?_))
    go_ret
    exact ⟨rfl, B8.out⟩
end Go.Proofs.Qxb6616721aDoor
