/-
  Seat b6616662aD: isNameRune, asciiNameRune, the law's own walk.
-/
import Derived.Test.Qxb6616662aDoorRows
import Derived.Test.Qxb6616662aDoorShelf
import Derived.WalkKit
import Derived.WalkSpells
import Derived.WalkLawsBesides
import Derived.Lib.SmallJoins
namespace Go.Proofs.Qxb6616662aDoor
open Go.RowKit Go.Lib

theorem hid {p : Prop} (h : p) : Hid p := h

/-- isNameRune, asciiNameRune, as plain functions. -/
def nameB (r : Int) : Bool := (r == 95) || isLetterU r || isDigitU r
def asciiB (r : Int) : Bool := decide (r = 95 ∨ (48 ≤ r ∧ r ≤ 57) ∨ (65 ≤ r ∧ r ≤ 90) ∨ (97 ≤ r ∧ r ≤ 122))

set_option maxRecDepth 100000 in
theorem plain94 : ∀ j : Fin 94, nameB (33 + (j.val : Int)) = asciiB (33 + (j.val : Int)) ∧ nameB (65281 + (j.val : Int)) = (asciiB (33 + (j.val : Int)) && ((33 + (j.val : Int)) != 95)) := by decide +kernel

theorem plain (r : Int) (h1 : 33 ≤ r) (h2 : r ≤ 126) : nameB r = asciiB r ∧ nameB (r + 65248) = (asciiB r && (r != 95)) := by
  have := plain94 ⟨(r - 33).toNat, by omega⟩
  have e : (((r - 33).toNat : Nat) : Int) = r - 33 := by omega
  simp only [e] at this
  rw [show (33 : Int) + (r - 33) = r by omega, show (65281 : Int) + (r - 33) = r + 65248 by omega] at this
  exact this

/-- What the walks ask of the three tables. -/
def Tabs (w : World) : Prop := Lib.TabIs Tryd.prog w "unicode.properties" .u8 Lib.propertiesTab ∧ RVar 1 letterT w ∧ RVar 2 digitT w

theorem tabs_below {w w' : World} (h : Tabs w) (hb : Below w.heap.size w w') : Tabs w' :=
  ⟨Joins.tab_stays (g := 0) (by kernel_rfl) h.1 hb (Nat.le_refl _), RVar_below h.2.1 hb, RVar_below h.2.2 hb⟩

theorem isNameRune_any (r : Int) (w : World) (hlo : -2147483648 ≤ r) (hhi : r ≤ 2147483647) (hT : Tabs w) :
    Calls Tryd.prog 8 #[.int .i32 r] w fun e w' => e = .returned (.bool (nameB r)) ∧ Below w.heap.size w w' := by
  have h1 := Tryd.unicode_IsLetter_all r w hlo hhi hT.1 hT.2.1
  have h2 : ∀ W, Below w.heap.size w W → Calls Tryd.prog 10 #[.int .i32 r] W fun e w' => e = .returned (.bool (isDigitU r)) ∧ Below W.heap.size W w' := fun W hW => Tryd.unicode_IsDigit_all r W hlo hhi (tabs_below hT hW).2.2
  have HN : Hid (nameB r = ((r == 95) || isLetterU r || isDigitU r)) := rfl
  generalize isLetterU r = A at h1 HN
  generalize isDigitU r = B at h2 HN
  have H1 := hid h1
  have H2 := hid h2
  clear h1 h2 hT
  by_cases h95 : r = 95
  · have hb : (r == 95) = true := beq_iff_eq.2 h95
    have HR : Hid (nameB r = true) := by rw [Hid, HN.out, hb]; rfl
    clear h95
    go_enter Tryd.func8, Tryd.ntmps8
    go_wp2_with fail
    go_ret
    exact ⟨by rw [HR.out]; rfl, Below.refl _ _⟩
  have hb : (r == 95) = false := beq_eq_false_iff_ne.2 h95
  clear h95
  cases A with
  | true =>
    have HR : Hid (nameB r = true) := by rw [Hid, HN.out, hb]; rfl
    go_enter Tryd.func8, Tryd.ntmps8
    go_wp2_with fail
    refine H1.out.mono ?_
    rintro e w1 ⟨rfl, hb1⟩
    go_wp2_with fail
    go_ret
    exact ⟨by rw [HR.out]; rfl, hb1⟩
  | false =>
    have HR : Hid (nameB r = B) := by rw [Hid, HN.out, hb]; rfl
    go_enter Tryd.func8, Tryd.ntmps8
    go_wp2_with fail
    refine H1.out.mono ?_
    rintro e w1 ⟨rfl, hb1⟩
    go_wp2_with fail
    refine (H2.out _ hb1).mono ?_
    rintro e w2 ⟨rfl, hb2⟩
    go_wp2_with fail
    go_ret
    exact ⟨by rw [HR.out]; rfl, hb1.trans (hb2.mono hb1.size)⟩

theorem zzIsNameRune_any (r : Int) (w : World) (hlo : -2147483648 ≤ r) (hhi : r ≤ 2147483647) (hT : Tabs w) :
    Calls Tryd.prog 6 #[.int .i32 r] w fun e w' => e = .returned (.bool (nameB r)) ∧ Below w.heap.size w w' := by
  have H1 := hid (isNameRune_any r w hlo hhi hT)
  clear hT
  go_enter Tryd.func6, Tryd.ntmps6
  go_wp2_with fail
  refine H1.out.mono ?_
  rintro e w1 ⟨rfl, hb⟩
  go_wp2_with fail
  go_ret
  exact ⟨rfl, hb⟩

theorem asciiNameRune_any (r : Int) (w : World) :
    Calls Tryd.prog 7 #[.int .i32 r] w fun e w' => e = .returned (.bool (asciiB r)) ∧ w' = w := by
  by_cases h : r = 95 ∨ (48 ≤ r ∧ r ≤ 57) ∨ (65 ≤ r ∧ r ≤ 90) ∨ (97 ≤ r ∧ r ≤ 122)
  · have HR : Hid (asciiB r = true) := by unfold asciiB; exact decide_eq_true h
    rcases h with h | ⟨h1, h2⟩ | ⟨h1, h2⟩ | ⟨h1, h2⟩
    · have hb : (r == 95) = true := beq_iff_eq.2 h
      clear h
      go_enter Tryd.func7, Tryd.ntmps7
      go_wp2
      go_ret
      exact ⟨by rw [HR.out]; rfl, rfl⟩
    all_goals
      by_cases h95 : r = 95
      · have hb : (r == 95) = true := beq_iff_eq.2 h95
        clear h95
        go_enter Tryd.func7, Tryd.ntmps7
        go_wp2
        go_ret
        exact ⟨by rw [HR.out]; rfl, rfl⟩
      · have hb : (r == 95) = false := beq_eq_false_iff_ne.2 h95
        clear h95
        go_enter Tryd.func7, Tryd.ntmps7
        go_wp2
        all_goals
          go_ret
          exact ⟨by rw [HR.out]; first | rfl | simp [*], rfl⟩
  · have HR : Hid (asciiB r = false) := by unfold asciiB; exact decide_eq_false h
    have hb : (r == 95) = false := beq_eq_false_iff_ne.2 (by omega)
    have hx : r < 48 ∨ (57 < r ∧ r < 65) ∨ (90 < r ∧ r < 97) ∨ 122 < r := by omega
    clear h
    rcases hx with h1 | ⟨h1, h2⟩ | ⟨h1, h2⟩ | h1
    all_goals
      go_enter Tryd.func7, Tryd.ntmps7
      go_wp2
      all_goals
        go_ret
        exact ⟨by rw [HR.out]; first | rfl | simp [*], rfl⟩

theorem law_other (r : Int) (w : World) (h : r < 33 ∨ (126 < r ∧ r < 65281) ∨ 65374 < r) :
    Calls Tryd.prog 4 #[.int .i32 r] w fun e w' => e = .returned (.bool true) ∧ Below w.heap.size w w' := by
  rcases h with h1 | ⟨h1, h2⟩ | h1
  all_goals
    go_enter Tryd.func4, Tryd.ntmps4
    go_wp2_with fail
    all_goals
      go_ret
      exact ⟨rfl, Below.refl _ _⟩

/-- The callees at a narrow rune n and its wide form, the answers as one Bool each. -/
theorem callees (n : Int) (w : World) (h1 : 33 ≤ n) (h2 : n ≤ 126) (hT : Tabs w) : ∃ A : Bool,
    (∀ W, Below w.heap.size w W → Calls Tryd.prog 6 #[.int .i32 n] W fun e w' => e = .returned (.bool A) ∧ Below W.heap.size W w') ∧
    (∀ W, Below w.heap.size w W → Calls Tryd.prog 6 #[.int .i32 (n + 65248)] W fun e w' => e = .returned (.bool (A && (n != 95))) ∧ Below W.heap.size W w') ∧
    (∀ W, Calls Tryd.prog 7 #[.int .i32 n] W fun e w' => e = .returned (.bool A) ∧ w' = W) := by
  obtain ⟨p1, p2⟩ := plain n h1 h2
  refine ⟨asciiB n, fun W hW => ?_, fun W hW => ?_, fun W => asciiNameRune_any n W⟩
  · rw [← p1]
    exact zzIsNameRune_any n W (by omega) (by omega) (tabs_below hT hW)
  · rw [← p2]
    exact zzIsNameRune_any (n + 65248) W (by omega) (by omega) (tabs_below hT hW)

theorem law_narrow (n : Int) (w : World) (h1 : 33 ≤ n) (h2 : n ≤ 126) (hT : Tabs w) :
    Calls Tryd.prog 4 #[.int .i32 n] w fun e w' => e = .returned (.bool true) ∧ Below w.heap.size w w' := by
  obtain ⟨A, hn, hw, ha⟩ := callees n w h1 h2 hT
  obtain ⟨B, hB⟩ : ∃ B, (n != 95) = B := ⟨_, rfl⟩
  rw [hB] at hw
  have HN := hid hn
  have HW := hid hw
  have HA := hid ha
  clear hn hw ha hT
  cases A <;> cases B
  all_goals
    go_enter Tryd.func4, Tryd.ntmps4
    go_wp2_with fail
    refine (HN.out _ (Below.refl _ _)).mono ?_
    rintro e w1 ⟨rfl, hb1⟩
    go_wp2_with fail
    refine (HW.out _ hb1).mono ?_
    rintro e w2 ⟨rfl, hb2⟩
    go_wp2_with fail
    refine (HA.out _).mono ?_
    rintro e w2 ⟨rfl, rfl⟩
    go_wp2_with fail
    go_ret
    exact ⟨rfl, hb1.trans (hb2.mono hb1.size)⟩

theorem law_wide (n : Int) (w : World) (h1 : 33 ≤ n) (h2 : n ≤ 126) (hT : Tabs w) :
    Calls Tryd.prog 4 #[.int .i32 (n + 65248)] w fun e w' => e = .returned (.bool true) ∧ Below w.heap.size w w' := by
  obtain ⟨A, hn, hw, ha⟩ := callees n w h1 h2 hT
  obtain ⟨B, hB⟩ : ∃ B, (n != 95) = B := ⟨_, rfl⟩
  rw [hB] at hw
  have HN := hid hn
  have HW := hid hw
  have HA := hid ha
  clear hn hw ha hT
  cases A <;> cases B
  all_goals
    go_enter Tryd.func4, Tryd.ntmps4
    go_wp2_with fail
    refine (HN.out _ (Below.refl _ _)).mono ?_
    rintro e w1 ⟨rfl, hb1⟩
    go_wp2_with fail
    refine (HW.out _ hb1).mono ?_
    rintro e w2 ⟨rfl, hb2⟩
    go_wp2_with fail
    refine (HA.out _).mono ?_
    rintro e w2 ⟨rfl, rfl⟩
    go_wp2_with fail
    go_ret
    exact ⟨rfl, hb1.trans (hb2.mono hb1.size)⟩

theorem law_any (r : Int) (w : World) (hT : Tabs w) :
    Calls Tryd.prog 4 #[.int .i32 r] w fun e w' => e = .returned (.bool true) ∧ Below w.heap.size w w' := by
  by_cases a : 33 ≤ r ∧ r ≤ 126
  · exact law_narrow r w a.1 a.2 hT
  by_cases b : 65281 ≤ r ∧ r ≤ 65374
  · have := law_wide (r - 65248) w (by omega) (by omega) hT
    rw [show r - 65248 + 65248 = r by omega] at this
    exact this
  · exact law_other r w (by omega)

end Go.Proofs.Qxb6616662aDoor
