/-
  Seat b6616262aD: the byte automaton zzValidNoNewline, walked.
-/
import Derived.Test.Qxb6616262aDoorRows
import Derived.Test.Qxb6616262aDoorPlain
import Derived.WalkKit
import Derived.WalkSpells
import Derived.WalkLawsBesides
import Derived.PlainAid
import Derived.Handy
namespace Go.Proofs.Qxb6616262aDoor
open Go.RowKit Go.Lib Go.PlainAid

theorem hid {p : Prop} (h : p) : Hid p := h

theorem bt_data (s : ByteArray) (j : Nat) : bt s j = ((s.data.toList.getD j 0).toNat : Int) := by
  unfold bt
  rw [List.getD_eq_getElem?_getD, Array.getElem?_toList]
  split
  · rename_i h
    have h' : j < s.data.size := h
    rw [Array.getElem?_eq_getElem h']
    rfl
  · rename_i h
    have h' : s.data.size ≤ j := by
      have : ¬ j < s.data.size := h
      omega
    rw [Array.getElem?_eq_none h']
    rfl

theorem size_data (s : ByteArray) : s.data.toList.length = s.size := by rw [Array.length_toList]; rfl

/-- The class of a lead byte: how many bytes follow, the bounds of the first of them. -/
def Cls (c : Int) (N lo hi : Nat) : Prop := 128 ≤ c ∧ firstT c.toNat % 8 = N + 1 ∧ accLo (firstT c.toNat / 16) = lo ∧ accHi (firstT c.toNat / 16) = hi ∧ 1 ≤ N ∧ N ≤ 3

theorem chk_drop {s : ByteArray} {k N lo hi : Nat} (hc : Cls (bt s k) N lo hi) :
    chk (s.data.toList.drop k) = checkN (s.size - k) (bt s (k + 1)).toNat (bt s (k + 2)).toNat (bt s (k + 3)).toNat (N + 1) lo hi := by
  obtain ⟨_, h1, h2, h3, _, _⟩ := hc
  have hd : ∀ j, ((s.data.toList.drop k).getD j 0).toNat = (bt s (k + j)).toNat := fun j => by
    rw [bt_data, List.getD_eq_getElem?_getD, List.getElem?_drop, ← List.getD_eq_getElem?_getD]
    rfl
  unfold chk
  rw [List.length_drop, size_data, hd, hd, hd, hd]
  simp only [Nat.add_zero]
  rw [h1, h2, h3]

theorem drop_ne {s : ByteArray} {k : Nat} (hk : k < s.size) : s.data.toList.drop k ≠ [] := by
  intro e
  have := congrArg List.length e
  rw [List.length_drop, size_data] at this
  simp at this
  omega

theorem drop_head (s : ByteArray) (k : Nat) : ((s.data.toList.drop k).getD 0 0).toNat = (bt s k).toNat := by
  rw [bt_data, List.getD_eq_getElem?_getD, List.getElem?_drop, ← List.getD_eq_getElem?_getD]
  rfl

theorem drop_cons {s : ByteArray} {k : Nat} (hk : k < s.size) : s.data.toList.drop k = s[k] :: s.data.toList.drop (k + 1) := by
  rw [List.drop_eq_getElem_cons (by rw [size_data]; exact hk)]
  rfl

def dropC (s : ByteArray) (k : Nat) : Bool := carB (s.data.toList.drop k)

theorem dropC_end {s : ByteArray} {k : Nat} (hk : s.size ≤ k) : dropC s k = true := by
  unfold dropC
  rw [List.drop_of_length_le (by rw [size_data]; exact hk)]
  rfl
theorem dropC_nl {s : ByteArray} {k : Nat} (hk : k < s.size) (h : bt s k = 10) : dropC s k = false := by
  unfold dropC
  rw [drop_cons hk]
  have e : s[k] = 10 := by
    unfold bt at h
    rw [dif_pos hk] at h
    exact UInt8.toNat.inj (by show (s[k]).toNat = 10; omega)
  rw [e]
  exact car_nl _
theorem dropC_ascii {s : ByteArray} {k : Nat} (hk : k < s.size) (h : bt s k < 128) (hn : bt s k ≠ 10) : dropC s k = dropC s (k + 1) := by
  unfold dropC
  rw [drop_cons hk]
  unfold bt at h hn
  rw [dif_pos hk] at h hn
  exact car_ascii _ _ (by omega) (fun e => hn (by rw [e]; rfl))

theorem dropC_lead {s : ByteArray} {k N lo hi : Nat} (hk : k < s.size) (hc : Cls (bt s k) N lo hi) :
    dropC s k = match checkN (s.size - k) (bt s (k + 1)).toNat (bt s (k + 2)).toNat (bt s (k + 3)).toNat (N + 1) lo hi with | none => false | some j => dropC s (k + j) := by
  unfold dropC
  rw [car_lead _ (drop_ne hk) (by rw [drop_head]; have := hc.1; omega), chk_drop hc]
  cases checkN (s.size - k) (bt s (k + 1)).toNat (bt s (k + 2)).toNat (bt s (k + 3)).toNat (N + 1) lo hi with
  | none => rfl
  | some j => show carB ((s.data.toList.drop k).drop j) = carB (s.data.toList.drop (k + j)); rw [List.drop_drop]

theorem bad_short {s : ByteArray} {k N lo hi : Nat} (hk : k < s.size) (hc : Cls (bt s k) N lo hi) (h : s.size ≤ k + N) : dropC s k = false := by
  rw [dropC_lead hk hc]
  obtain ⟨_, _, _, _, h1, h3⟩ := hc
  have : N = 1 ∨ N = 2 ∨ N = 3 := by omega
  unfold checkN
  rcases this with rfl | rfl | rfl
  · simp only [Nat.reduceAdd, if_true]; rw [if_pos (by omega)]
  · simp only [Nat.reduceAdd, if_true, Nat.reduceEqDiff, if_false]; rw [if_pos (by omega)]
  · simp only [Nat.reduceAdd, if_true, Nat.reduceEqDiff, if_false]; rw [if_pos (by omega)]

theorem bad_first {s : ByteArray} {k N lo hi : Nat} (hk : k < s.size) (hc : Cls (bt s k) N lo hi) (h : bt s (k + 1) < lo ∨ (hi : Int) < bt s (k + 1)) : dropC s k = false := by
  rw [dropC_lead hk hc]
  have := bt_nonneg s (k + 1)
  obtain ⟨_, _, _, _, h1, h3⟩ := hc
  have : N = 1 ∨ N = 2 ∨ N = 3 := by omega
  unfold checkN
  rcases this with rfl | rfl | rfl
  · simp only [Nat.reduceAdd, if_true]; rw [if_pos (by omega)]
  · simp only [Nat.reduceAdd, if_true, Nat.reduceEqDiff, if_false]; rw [if_pos (by omega)]
  · simp only [Nat.reduceAdd, if_true, Nat.reduceEqDiff, if_false]; rw [if_pos (by omega)]

theorem bad_second {s : ByteArray} {k N lo hi : Nat} (hk : k < s.size) (hc : Cls (bt s k) N lo hi) (hN : 2 ≤ N) (h : bt s (k + 2) < 128 ∨ 191 < bt s (k + 2)) : dropC s k = false := by
  rw [dropC_lead hk hc]
  have := bt_nonneg s (k + 2)
  obtain ⟨_, _, _, _, h1, h3⟩ := hc
  have : N = 2 ∨ N = 3 := by omega
  unfold checkN
  rcases this with rfl | rfl
  · simp only [Nat.reduceAdd, if_true, Nat.reduceEqDiff, if_false]; rw [if_pos (by omega)]
  · simp only [Nat.reduceAdd, if_true, Nat.reduceEqDiff, if_false]; rw [if_pos (by omega)]

theorem bad_third {s : ByteArray} {k N lo hi : Nat} (hk : k < s.size) (hc : Cls (bt s k) N lo hi) (hN : 3 ≤ N) (h : bt s (k + 3) < 128 ∨ 191 < bt s (k + 3)) : dropC s k = false := by
  rw [dropC_lead hk hc]
  have := bt_nonneg s (k + 3)
  obtain ⟨_, _, _, _, h1, h3⟩ := hc
  obtain rfl : N = 3 := by omega
  unfold checkN
  simp only [Nat.reduceAdd, if_true, Nat.reduceEqDiff, if_false]; rw [if_pos (by omega)]

theorem good_lead {s : ByteArray} {k N lo hi : Nat} (hk : k < s.size) (hc : Cls (bt s k) N lo hi) (h0 : k + N < s.size) (h1 : (lo : Int) ≤ bt s (k + 1) ∧ bt s (k + 1) ≤ hi)
    (h2 : 2 ≤ N → 128 ≤ bt s (k + 2) ∧ bt s (k + 2) ≤ 191) (h3 : 3 ≤ N → 128 ≤ bt s (k + 3) ∧ bt s (k + 3) ≤ 191) : dropC s k = dropC s (k + N + 1) := by
  rw [dropC_lead hk hc]
  obtain ⟨_, _, _, _, g1, g3⟩ := hc
  have : N = 1 ∨ N = 2 ∨ N = 3 := by omega
  unfold checkN
  rcases this with rfl | rfl | rfl
  · simp only [Nat.reduceAdd, if_true]; rw [if_neg (by omega)]
  · have := h2 (by omega)
    simp only [Nat.reduceAdd, if_true, Nat.reduceEqDiff, if_false]; rw [if_neg (by omega)]
  · have := h2 (by omega)
    have := h3 (by omega)
    simp only [Nat.reduceAdd, if_true, Nat.reduceEqDiff, if_false]; rw [if_neg (by omega)]

theorem no_lead {s : ByteArray} {k : Nat} (hk : k < s.size) (h : (128 ≤ bt s k ∧ bt s k < 194) ∨ 245 ≤ bt s k) : dropC s k = false := by
  have hf : firstT (bt s k).toNat = 241 := by
    unfold firstT
    rcases h with h | h
    · rw [if_neg (by omega), if_pos (by omega)]
    · rw [if_neg (by omega), if_neg (by omega), if_neg (by omega), if_neg (by omega), if_neg (by omega), if_neg (by omega), if_neg (by omega), if_neg (by omega), if_neg (by omega), if_neg (by omega)]
  have h0 : 128 ≤ ((s.data.toList.drop k).getD 0 0).toNat := by rw [drop_head]; omega
  unfold dropC
  rw [car_lead _ (drop_ne hk) h0]
  have : chk (s.data.toList.drop k) = none := by
    unfold chk checkN
    rw [drop_head, hf]
    rfl
  rw [this]

theorem cls_C2 {c : Int} (h : 194 ≤ c ∧ c ≤ 223) : Cls c 1 128 191 := by
  have : firstT c.toNat = 2 := by unfold firstT; rw [if_neg (by omega), if_neg (by omega), if_pos (by omega)]
  exact ⟨by omega, by rw [this], by rw [this]; rfl, by rw [this]; rfl, by omega, by omega⟩
theorem cls_E1 {c : Int} (h : 225 ≤ c ∧ c ≤ 239) (hn : c ≠ 237) : Cls c 2 128 191 := by
  have : firstT c.toNat = 3 := by
    unfold firstT
    rw [if_neg (by omega), if_neg (by omega), if_neg (by omega), if_neg (by omega)]
    by_cases c3 : c.toNat < 237
    · rw [if_pos c3]
    · rw [if_neg c3, if_neg (by omega), if_pos (by omega)]
  exact ⟨by omega, by rw [this], by rw [this]; rfl, by rw [this]; rfl, by omega, by omega⟩
theorem cls_F1 {c : Int} (h : 241 ≤ c ∧ c ≤ 243) : Cls c 3 128 191 := by
  have : firstT c.toNat = 4 := by
    unfold firstT
    rw [if_neg (by omega), if_neg (by omega), if_neg (by omega), if_neg (by omega), if_neg (by omega), if_neg (by omega), if_neg (by omega), if_neg (by omega), if_pos (by omega)]
  exact ⟨by omega, by rw [this], by rw [this]; rfl, by rw [this]; rfl, by omega, by omega⟩
theorem cls_E0 : Cls 224 2 160 191 := ⟨by omega, by decide, by decide, by decide, by omega, by omega⟩
theorem cls_ED : Cls 237 2 128 159 := ⟨by omega, by decide, by decide, by decide, by omega, by omega⟩
theorem cls_F0 : Cls 240 3 144 191 := ⟨by omega, by decide, by decide, by decide, by omega, by omega⟩
theorem cls_F4 : Cls 244 3 128 143 := ⟨by omega, by decide, by decide, by decide, by omega, by omega⟩

set_option maxRecDepth 100000 in
set_option maxHeartbeats 16000000 in
theorem auto_any (s : ByteArray) (w : World) (hs : s.size ≤ 1048576) :
    Calls Tryd.prog 6 #[.string s] w fun e w' => e = .returned (.bool (carB s.data.toList)) ∧ w' = w := by
  have hgb := get_bt s
  have H0 : Hid (dropC s 0 = carB s.data.toList) := rfl
  go_enter Tryd.func6, Tryd.ntmps6
  go_wp2
  go_loop [3] (fun i => ∃ k : Nat, k ≤ s.size ∧ i = .int .i64 k ∧ dropC s k = dropC s 0) (fun i => s.size - (Go.RowKit.intOf i).toNat)
  case atStart => exact ⟨0, Nat.zero_le _, rfl, rfl⟩
  case round =>
    obtain ⟨k, hk, rfl, hrel0⟩ := hrel
    have HR := hid hrel0
    clear hrel0
    by_cases hlt : k < s.size
    · have hc0 := bt_nonneg s k
      have hc1 := bt_le s k
      by_cases h10 : bt s k = 10
      · have HF : Hid (carB s.data.toList = false) := by rw [Hid, ← H0.out, ← HR.out]; exact dropC_nl hlt h10
        have hb : (bt s k == 10) = true := beq_iff_eq.2 h10
        clear h10
        go_wp2
        go_ret
        exact ⟨by rw [HF.out]; rfl, rfl⟩
      have hb10 : (bt s k == 10) = false := beq_eq_false_iff_ne.2 h10
      by_cases h128 : bt s k < 128
      · have HX := hid (dropC_ascii hlt h128 h10)
        go_wp2
        go_round
        case rel => exact ⟨k + 1, by omega, by go_num, by rw [← HX.out]; exact HR.out⟩
        case measure => simp [Go.RowKit.intOf]; omega
      by_cases hC2 : 194 ≤ bt s k ∧ bt s k ≤ 223
      · have HC := hid (cls_C2 hC2)
        obtain ⟨hC2a, hC2b⟩ := hC2
        go_wp2
        any_goals (refine wp_loop_rounds 3 ?_; repeat any_goals (rw [rounds_succ]; go_wp2))
        all_goals first
          | (go_ret
             refine ⟨?_, rfl⟩
             have hb : dropC s k = false := by first | exact bad_short hlt HC.out (by omega) | exact bad_first hlt HC.out (by omega) | exact bad_second hlt HC.out (by omega) (by omega) | exact bad_third hlt HC.out (by omega) (by omega)
             rw [← H0.out, ← HR.out, hb]
             rfl)
          | (go_round
             case rel => exact ⟨k + 1 + 1, by omega, by go_num, by rw [← good_lead hlt HC.out (by omega) (by omega) (by omega) (by omega)]; exact HR.out⟩
             case measure => simp [Go.RowKit.intOf]; omega)
      by_cases hE0 : bt s k = 224
      · have HC : Hid (Cls (bt s k) 2 160 191) := by rw [Hid, hE0]; exact cls_E0
        have ha : 224 ≤ bt s k := by omega
        have hb : bt s k ≤ 224 := by omega
        have he : (bt s k == 224) = true := beq_iff_eq.2 hE0
        have ho237 : (bt s k == 237) = false := beq_eq_false_iff_ne.2 (by omega)
        have ho240 : (bt s k == 240) = false := beq_eq_false_iff_ne.2 (by omega)
        have ho244 : (bt s k == 244) = false := beq_eq_false_iff_ne.2 (by omega)
        clear hE0
        go_wp2
        any_goals (refine wp_loop_rounds 3 ?_; repeat any_goals (rw [rounds_succ]; go_wp2))
        all_goals first
          | (go_ret
             refine ⟨?_, rfl⟩
             have hb : dropC s k = false := by first | exact bad_short hlt HC.out (by omega) | exact bad_first hlt HC.out (by omega) | exact bad_second hlt HC.out (by omega) (by omega) | exact bad_third hlt HC.out (by omega) (by omega)
             rw [← H0.out, ← HR.out, hb]
             rfl)
          | (go_round
             case rel => exact ⟨k + 2 + 1, by omega, by go_num, by rw [← good_lead hlt HC.out (by omega) (by omega) (by omega) (by omega)]; exact HR.out⟩
             case measure => simp [Go.RowKit.intOf]; omega)
      by_cases hED : bt s k = 237
      · have HC : Hid (Cls (bt s k) 2 128 159) := by rw [Hid, hED]; exact cls_ED
        have ha : 237 ≤ bt s k := by omega
        have hb : bt s k ≤ 237 := by omega
        have he : (bt s k == 237) = true := beq_iff_eq.2 hED
        have ho224 : (bt s k == 224) = false := beq_eq_false_iff_ne.2 (by omega)
        have ho240 : (bt s k == 240) = false := beq_eq_false_iff_ne.2 (by omega)
        have ho244 : (bt s k == 244) = false := beq_eq_false_iff_ne.2 (by omega)
        clear hED
        go_wp2
        any_goals (refine wp_loop_rounds 3 ?_; repeat any_goals (rw [rounds_succ]; go_wp2))
        all_goals first
          | (go_ret
             refine ⟨?_, rfl⟩
             have hb : dropC s k = false := by first | exact bad_short hlt HC.out (by omega) | exact bad_first hlt HC.out (by omega) | exact bad_second hlt HC.out (by omega) (by omega) | exact bad_third hlt HC.out (by omega) (by omega)
             rw [← H0.out, ← HR.out, hb]
             rfl)
          | (go_round
             case rel => exact ⟨k + 2 + 1, by omega, by go_num, by rw [← good_lead hlt HC.out (by omega) (by omega) (by omega) (by omega)]; exact HR.out⟩
             case measure => simp [Go.RowKit.intOf]; omega)
      by_cases hE1 : 225 ≤ bt s k ∧ bt s k ≤ 239
      · have HC := hid (cls_E1 hE1 hED)
        obtain ⟨ha, hb⟩ := hE1
        have ho224 : (bt s k == 224) = false := beq_eq_false_iff_ne.2 (by omega)
        have ho237 : (bt s k == 237) = false := beq_eq_false_iff_ne.2 (by omega)
        have ho240 : (bt s k == 240) = false := beq_eq_false_iff_ne.2 (by omega)
        have ho244 : (bt s k == 244) = false := beq_eq_false_iff_ne.2 (by omega)
        go_wp2
        any_goals (refine wp_loop_rounds 3 ?_; repeat any_goals (rw [rounds_succ]; go_wp2))
        all_goals first
          | (go_ret
             refine ⟨?_, rfl⟩
             have hb : dropC s k = false := by first | exact bad_short hlt HC.out (by omega) | exact bad_first hlt HC.out (by omega) | exact bad_second hlt HC.out (by omega) (by omega) | exact bad_third hlt HC.out (by omega) (by omega)
             rw [← H0.out, ← HR.out, hb]
             rfl)
          | (go_round
             case rel => exact ⟨k + 2 + 1, by omega, by go_num, by rw [← good_lead hlt HC.out (by omega) (by omega) (by omega) (by omega)]; exact HR.out⟩
             case measure => simp [Go.RowKit.intOf]; omega)
      by_cases hF0 : bt s k = 240
      · have HC : Hid (Cls (bt s k) 3 144 191) := by rw [Hid, hF0]; exact cls_F0
        have ha : 240 ≤ bt s k := by omega
        have hb : bt s k ≤ 240 := by omega
        have he : (bt s k == 240) = true := beq_iff_eq.2 hF0
        have ho224 : (bt s k == 224) = false := beq_eq_false_iff_ne.2 (by omega)
        have ho237 : (bt s k == 237) = false := beq_eq_false_iff_ne.2 (by omega)
        have ho244 : (bt s k == 244) = false := beq_eq_false_iff_ne.2 (by omega)
        clear hF0
        go_wp2
        any_goals (refine wp_loop_rounds 3 ?_; repeat any_goals (rw [rounds_succ]; go_wp2))
        all_goals first
          | (go_ret
             refine ⟨?_, rfl⟩
             have hb : dropC s k = false := by first | exact bad_short hlt HC.out (by omega) | exact bad_first hlt HC.out (by omega) | exact bad_second hlt HC.out (by omega) (by omega) | exact bad_third hlt HC.out (by omega) (by omega)
             rw [← H0.out, ← HR.out, hb]
             rfl)
          | (go_round
             case rel => exact ⟨k + 3 + 1, by omega, by go_num, by rw [← good_lead hlt HC.out (by omega) (by omega) (by omega) (by omega)]; exact HR.out⟩
             case measure => simp [Go.RowKit.intOf]; omega)
      by_cases hF4 : bt s k = 244
      · have HC : Hid (Cls (bt s k) 3 128 143) := by rw [Hid, hF4]; exact cls_F4
        have ha : 244 ≤ bt s k := by omega
        have hb : bt s k ≤ 244 := by omega
        have he : (bt s k == 244) = true := beq_iff_eq.2 hF4
        have ho224 : (bt s k == 224) = false := beq_eq_false_iff_ne.2 (by omega)
        have ho237 : (bt s k == 237) = false := beq_eq_false_iff_ne.2 (by omega)
        have ho240 : (bt s k == 240) = false := beq_eq_false_iff_ne.2 (by omega)
        clear hF4
        go_wp2
        any_goals (refine wp_loop_rounds 3 ?_; repeat any_goals (rw [rounds_succ]; go_wp2))
        all_goals first
          | (go_ret
             refine ⟨?_, rfl⟩
             have hb : dropC s k = false := by first | exact bad_short hlt HC.out (by omega) | exact bad_first hlt HC.out (by omega) | exact bad_second hlt HC.out (by omega) (by omega) | exact bad_third hlt HC.out (by omega) (by omega)
             rw [← H0.out, ← HR.out, hb]
             rfl)
          | (go_round
             case rel => exact ⟨k + 3 + 1, by omega, by go_num, by rw [← good_lead hlt HC.out (by omega) (by omega) (by omega) (by omega)]; exact HR.out⟩
             case measure => simp [Go.RowKit.intOf]; omega)
      by_cases hF1 : 241 ≤ bt s k ∧ bt s k ≤ 243
      · have HC := hid (cls_F1 hF1)
        obtain ⟨ha, hb⟩ := hF1
        have ho224 : (bt s k == 224) = false := beq_eq_false_iff_ne.2 (by omega)
        have ho237 : (bt s k == 237) = false := beq_eq_false_iff_ne.2 (by omega)
        have ho240 : (bt s k == 240) = false := beq_eq_false_iff_ne.2 (by omega)
        have ho244 : (bt s k == 244) = false := beq_eq_false_iff_ne.2 (by omega)
        go_wp2
        any_goals (refine wp_loop_rounds 3 ?_; repeat any_goals (rw [rounds_succ]; go_wp2))
        all_goals first
          | (go_ret
             refine ⟨?_, rfl⟩
             have hb : dropC s k = false := by first | exact bad_short hlt HC.out (by omega) | exact bad_first hlt HC.out (by omega) | exact bad_second hlt HC.out (by omega) (by omega) | exact bad_third hlt HC.out (by omega) (by omega)
             rw [← H0.out, ← HR.out, hb]
             rfl)
          | (go_round
             case rel => exact ⟨k + 3 + 1, by omega, by go_num, by rw [← good_lead hlt HC.out (by omega) (by omega) (by omega) (by omega)]; exact HR.out⟩
             case measure => simp [Go.RowKit.intOf]; omega)
      have HF : Hid (carB s.data.toList = false) := by rw [Hid, ← H0.out, ← HR.out]; exact no_lead hlt (by omega)
      have ho224 : (bt s k == 224) = false := beq_eq_false_iff_ne.2 (by omega)
      have ho237 : (bt s k == 237) = false := beq_eq_false_iff_ne.2 (by omega)
      have ho240 : (bt s k == 240) = false := beq_eq_false_iff_ne.2 (by omega)
      have ho244 : (bt s k == 244) = false := beq_eq_false_iff_ne.2 (by omega)
      have hd : bt s k < 194 ∨ 245 ≤ bt s k := by omega
      clear h10 hC2 hE0 hED hE1 hF0 hF4 hF1
      rcases hd with hd | hd
      all_goals
        go_wp2
        go_ret
        exact ⟨by rw [HF.out]; rfl, rfl⟩
    · have HF : Hid (carB s.data.toList = true) := by rw [Hid, ← H0.out, ← HR.out]; exact dropC_end (by omega)
      go_wp2
      go_ret
      exact ⟨by rw [HF.out]; rfl, rfl⟩

end Go.Proofs.Qxb6616262aDoor
