/-
  Seat b6616262aD: carried, ZZcarried, zzBytes, the law's own walk.
-/
import Derived.Test.Qxb6616262aDoorAuto
import Derived.Test.Qxb6616262aDoorShelf
namespace Go.Proofs.Qxb6616262aDoor
open Go.RowKit Go.Lib Go.PlainAid

theorem bcell {W w1 : World} (hb : Below W.heap.size W w1) {a : Addr} {v : Value} (h : W.cell? a = some v) : w1.cell? a = some v :=
  (hb.cell (World.block_lt_of_cell? W _ h)).trans h

theorem tabs_below {w w' : World} (h : Lib.Utf8Tabs 0 1 w) (hb : Below w.heap.size w w') : Lib.Utf8Tabs 0 1 w' :=
  ⟨fun c hc => bcell hb (h.1 c hc), fun i hi => ⟨bcell hb (h.2 i hi).1, bcell hb (h.2 i hi).2⟩⟩

theorem carried_any (s : ByteArray) (w : World) (hs : s.size ≤ 1048576) (hT : Lib.Utf8Tabs 0 1 w) :
    Calls Tryd.prog 7 #[.string s] w fun e w' => e = .returned (.bool (carB s.data.toList)) ∧ Below w.heap.size w w' := by
  have c1 := Tryd.strings_Contains_one s 10 w
  have c2 : Calls Tryd.prog 9 #[.string s] w fun e w' => e = .returned (.bool (Lib.validD s.data.toList)) ∧ Below w.heap.size w w' := Any.utf8_ValidString Tryd.laysValid s w (by omega) hT
  have HB : Hid (carB s.data.toList = (!(decide (0 ≤ indexByte s.data.toList 10)) && validD s.data.toList)) := rfl
  generalize decide (0 ≤ indexByte s.data.toList 10) = A at c1 HB
  have H1 := hid c1
  have H2 := hid c2
  clear c1 c2 hT
  cases A with
  | true =>
    go_enter Tryd.func7, Tryd.ntmps7
    go_wp2_with fail
    refine H1.out.mono ?_
    rintro e w1 ⟨rfl, rfl⟩
    go_wp2_with fail
    go_ret
    exact ⟨by rw [HB.out]; rfl, Below.refl _ _⟩
  | false =>
    go_enter Tryd.func7, Tryd.ntmps7
    go_wp2_with fail
    refine H1.out.mono ?_
    rintro e w1 ⟨rfl, rfl⟩
    go_wp2_with fail
    refine H2.out.mono ?_
    rintro e w1 ⟨rfl, hb⟩
    go_wp2_with fail
    go_ret
    exact ⟨by rw [HB.out]; rfl, hb⟩

theorem zzCarried_any (s : ByteArray) (w : World) (hs : s.size ≤ 1048576) (hT : Lib.Utf8Tabs 0 1 w) :
    Calls Tryd.prog 5 #[.string s] w fun e w' => e = .returned (.bool (carB s.data.toList)) ∧ Below w.heap.size w w' := by
  have H1 := hid (carried_any s w hs hT)
  clear hT
  go_enter Tryd.func5, Tryd.ntmps5
  go_wp2_with fail
  refine H1.out.mono ?_
  rintro e w1 ⟨rfl, hb⟩
  go_wp2_with fail
  go_ret
  exact ⟨rfl, hb⟩

theorem zzBytes_yes (s : ByteArray) (i : Int) (w : World) (hn : s.size ≤ 1048576) :
    Calls Tryd.prog 4 #[.string s, .int .i64 i] w fun e w' => e = .returned (.bool true) ∧ w' = w := by
  go_enter Tryd.func4, Tryd.ntmps4
  go_wp2
  go_ret
  exact ⟨rfl, rfl⟩

theorem zzBytes_no (s : ByteArray) (i : Int) (w : World) (hn : 1048576 < s.size) :
    Calls Tryd.prog 4 #[.string s, .int .i64 i] w fun e w' => e = .returned (.bool false) ∧ w' = w := by
  go_enter Tryd.func4, Tryd.ntmps4
  go_wp2
  go_ret
  exact ⟨rfl, rfl⟩

theorem law_long (s : ByteArray) (i : Int) (w : World) (hn : 1048576 < s.size) :
    Calls Tryd.prog 3 #[.string s, .int .i64 i] w fun e w' => e = .returned (.bool true) ∧ Below w.heap.size w w' := by
  have H1 := hid (zzBytes_no s i w hn)
  go_enter Tryd.func3, Tryd.ntmps3
  go_wp2_with fail
  refine H1.out.mono ?_
  rintro e w1 ⟨rfl, rfl⟩
  go_wp2_with fail
  go_ret
  exact ⟨rfl, Below.refl _ _⟩

theorem and_C0 : ∀ c : Fin 256, (bits BinOp.and IntKind.u8 (c.val : Int) 192 != 128) = decide (¬ (128 ≤ c.val ∧ c.val ≤ 191)) := by decide +kernel
theorem and_bt (s : ByteArray) (k : Nat) : (bits BinOp.and IntKind.u8 (bt s k) 192 != 128) = decide (¬ (128 ≤ (s.data.toList.getD k 0).toNat ∧ (s.data.toList.getD k 0).toNat ≤ 191)) := by
  rw [bt_data]
  exact and_C0 ⟨(s.data.toList.getD k 0).toNat, (s.data.toList.getD k 0).toNat_lt⟩

theorem law_out (s : ByteArray) (i : Int) (w : World) (hs : s.size ≤ 1048576) (hT : Lib.Utf8Tabs 0 1 w) (hi : i < 0 ∨ (s.size : Int) < i) :
    Calls Tryd.prog 3 #[.string s, .int .i64 i] w fun e w' => e = .returned (.bool true) ∧ Below w.heap.size w w' := by
  have H1 := hid (zzBytes_yes s i w hs)
  have H2 := hid (zzCarried_any s w hs hT)
  clear hT
  rcases hi with hi | hi
  all_goals
    go_enter Tryd.func3, Tryd.ntmps3
    go_wp2_with fail
    refine H1.out.mono ?_
    rintro e w ⟨rfl, rfl⟩
    go_wp2_with fail
    refine H2.out.mono ?_
    rintro e w2 ⟨rfl, hb2⟩
    go_wp2_with fail
    refine (auto_any s w2 hs).mono ?_
    rintro e w2 ⟨rfl, rfl⟩
    cases hc : carB s.data.toList
    all_goals
      go_wp2_with fail
      go_ret
      exact ⟨rfl, hb2⟩

theorem ext_take (s : ByteArray) (k : Nat) : (s.extract 0 k).data.toList = s.data.toList.take k := by
  rw [Lib.extract_data, List.drop_zero, Nat.sub_zero]
theorem ext_drop (s : ByteArray) (k : Nat) : (s.extract k s.size).data.toList = s.data.toList.drop k := by
  rw [Lib.extract_data, List.take_of_length_le (by rw [List.length_drop, size_data]; exact Nat.le_refl _)]
theorem ext_size (s : ByteArray) (a b : Nat) : (s.extract a b).size ≤ s.size := by
  rw [Lib.size_eq, Lib.extract_data, List.length_take, List.length_drop, size_data]
  omega

set_option maxHeartbeats 2000000 in
theorem law_mid (s : ByteArray) (k : Nat) (w : World) (hs : s.size ≤ 1048576) (hT : Lib.Utf8Tabs 0 1 w) (hk : k < s.size) :
    Calls Tryd.prog 3 #[.string s, .int .i64 k] w fun e w' => e = .returned (.bool true) ∧ Below w.heap.size w w' := by
  have hsp := car_split s.data.toList.length s.data.toList k (Nat.le_refl _) (by rw [size_data]; omega)
  have H1 := hid (zzBytes_yes s k w hs)
  have h2 := zzCarried_any s w hs hT
  have ha : ∀ W, Calls Tryd.prog 6 #[.string s] W fun e w' => e = .returned (.bool (carB s.data.toList)) ∧ w' = W := fun W => auto_any s W hs
  have hp1 : ∀ W, Lib.Utf8Tabs 0 1 W → Calls Tryd.prog 5 #[.string (s.extract 0 k)] W fun e w' => e = .returned (.bool (carB (s.data.toList.take k))) ∧ Below W.heap.size W w' := fun W hW => by
    have := zzCarried_any (s.extract 0 k) W (by have := ext_size s 0 k; omega) hW
    rw [ext_take] at this
    exact this
  have hp2 : ∀ W, Lib.Utf8Tabs 0 1 W → Calls Tryd.prog 5 #[.string (s.extract k s.size)] W fun e w' => e = .returned (.bool (carB (s.data.toList.drop k))) ∧ Below W.heap.size W w' := fun W hW => by
    have := zzCarried_any (s.extract k s.size) W (by have := ext_size s k s.size; omega) hW
    rw [ext_drop] at this
    exact this
  have hbd : bnd s.data.toList k = (bits BinOp.and IntKind.u8 (bt s k) 192 != 128) := by
    rw [and_bt]
    unfold bnd
    refine decide_eq_decide.2 ⟨fun h => h.resolve_left (by rw [size_data]; omega), .inr⟩
  rw [hbd] at hsp
  obtain ⟨B, hB⟩ : ∃ B, (bits BinOp.and IntKind.u8 (bt s k) 192 != 128) = B := ⟨_, rfl⟩
  rw [hB] at hsp
  generalize carB s.data.toList = C at hsp h2 ha
  generalize carB (s.data.toList.take k) = P1 at hsp hp1
  generalize carB (s.data.toList.drop k) = P2 at hsp hp2
  have H2 := hid h2
  have HA := hid ha
  have HP1 := hid hp1
  have HP2 := hid hp2
  have HS := hid hsp
  have HT := hid hT
  have hgb := get_bt s
  have hkn : ((k : Int) == (s.size : Int)) = false := beq_eq_false_iff_ne.2 (by omega)
  have hkz : (k : Int) < (s.size : Int) := by omega
  clear h2 ha hp1 hp2 hsp hbd hT
  have run : Calls Tryd.prog 3 #[.string s, .int .i64 k] w fun e w' => e = .returned (.bool ((P1 && P2) == (C && B))) ∧ Below w.heap.size w w' := by
    cases C <;> cases B <;> cases P1 <;> cases P2
    all_goals first | (exact absurd HS.out (by decide)) | skip
    all_goals
      go_enter Tryd.func3, Tryd.ntmps3
      go_wp2_with fail
      refine H1.out.mono ?_
      rintro e w ⟨rfl, rfl⟩
      go_wp2_with fail
      refine H2.out.mono ?_
      rintro e w2 ⟨rfl, hb2⟩
      go_wp2_with fail
      refine (HA.out _).mono ?_
      rintro e w2 ⟨rfl, rfl⟩
      go_wp2_with fail
      refine (HP1.out _ (tabs_below HT.out hb2)).mono ?_
      rintro e w3 ⟨rfl, hb3⟩
      have hb3' : Below w.heap.size w w3 := hb2.trans (hb3.mono hb2.size)
      go_wp2_with fail
      first
        | (refine (HP2.out _ (tabs_below HT.out hb3')).mono ?_
           rintro e w4 ⟨rfl, hb4⟩
           go_wp2_with fail
           go_ret
           exact ⟨rfl, hb3'.trans (hb4.mono hb3'.size)⟩)
        | (go_ret
           exact ⟨rfl, hb3'⟩)
  refine run.mono fun e w' ⟨he, hb⟩ => ⟨?_, hb⟩
  rw [he, HS.out]
  simp

set_option maxHeartbeats 1000000 in
theorem law_end (s : ByteArray) (w : World) (hs : s.size ≤ 1048576) (hT : Lib.Utf8Tabs 0 1 w) :
    Calls Tryd.prog 3 #[.string s, .int .i64 s.size] w fun e w' => e = .returned (.bool true) ∧ Below w.heap.size w w' := by
  have H1 := hid (zzBytes_yes s s.size w hs)
  have h2 : ∀ W, Lib.Utf8Tabs 0 1 W → Calls Tryd.prog 5 #[.string s] W fun e w' => e = .returned (.bool (carB s.data.toList)) ∧ Below W.heap.size W w' := fun W hW => zzCarried_any s W hs hW
  have ha : ∀ W, Calls Tryd.prog 6 #[.string s] W fun e w' => e = .returned (.bool (carB s.data.toList)) ∧ w' = W := fun W => auto_any s W hs
  have he : ∀ W, Lib.Utf8Tabs 0 1 W → Calls Tryd.prog 5 #[.string ByteArray.empty] W fun e w' => e = .returned (.bool true) ∧ Below W.heap.size W w' := fun W hW => zzCarried_any ByteArray.empty W (by decide) hW
  generalize carB s.data.toList = C at h2 ha
  have H2 := hid h2
  have HA := hid ha
  have HE := hid he
  have HT := hid hT
  clear h2 ha hT he
  cases C
  all_goals
    go_enter Tryd.func3, Tryd.ntmps3
    go_wp2_with fail
    refine H1.out.mono ?_
    rintro e w ⟨rfl, rfl⟩
    go_wp2_with fail
    refine (H2.out _ HT.out).mono ?_
    rintro e w2 ⟨rfl, hb2⟩
    go_wp2_with fail
    refine (HA.out _).mono ?_
    rintro e w2 ⟨rfl, rfl⟩
    go_wp2_with fail
    refine (H2.out _ (tabs_below HT.out hb2)).mono ?_
    rintro e w3 ⟨rfl, hb3⟩
    have hb3' : Below w.heap.size w w3 := hb2.trans (hb3.mono hb2.size)
    go_wp2_with fail
    first
      | (go_ret
         exact ⟨rfl, hb3'⟩)
      | (refine (HE.out _ (tabs_below HT.out hb3')).mono ?_
         rintro e w4 ⟨rfl, hb4⟩
         go_wp2_with fail
         go_ret
         exact ⟨rfl, hb3'.trans (hb4.mono hb3'.size)⟩)

theorem law_any (s : ByteArray) (i : Int) (w : World) (hT : Lib.Utf8Tabs 0 1 w) :
    Calls Tryd.prog 3 #[.string s, .int .i64 i] w fun e w' => e = .returned (.bool true) ∧ Below w.heap.size w w' := by
  by_cases hs : s.size ≤ 1048576
  · by_cases ho : i < 0 ∨ (s.size : Int) < i
    · exact law_out s i w hs hT ho
    · obtain ⟨k, rfl⟩ := Int.eq_ofNat_of_zero_le (show 0 ≤ i by omega)
      rcases Nat.lt_or_ge k s.size with h | h
      · exact law_mid s k w hs hT h
      · obtain rfl : k = s.size := by omega
        exact law_end s w hs hT
  · exact law_long s i w (by omega)

end Go.Proofs.Qxb6616262aDoor
