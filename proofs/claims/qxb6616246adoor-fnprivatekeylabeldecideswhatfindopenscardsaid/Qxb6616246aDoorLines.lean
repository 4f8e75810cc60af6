/-
  Seat b6616246aD: isBlank, startsLine, endsLine.
-/
import Derived.Test.Qxb6616246aDoorBase
namespace Go.Proofs.Qxb6616246aDoor
open Go.RowKit

def blB (c : Int) : Bool := c == 32 || c == 9

theorem isBlank_any (c : Int) (w : World) : Calls Tryd.prog 43 #[.int .u8 c] w fun e w' => e = .returned (.bool (blB c)) ∧ w' = w := by
  by_cases h : c = 32
  · have hb : (c == 32) = true := beq_iff_eq.2 h
    have HB : Hid (blB c = true) := by simp [Hid, blB, h]
    clear h
    go_enter Tryd.func43, Tryd.ntmps43
    go_wp2
    go_ret
    exact ⟨by rw [HB.out]; rfl, rfl⟩
  · have hb : (c == 32) = false := beq_eq_false_iff_ne.2 h
    have HB : Hid (blB c = (c == 9)) := by simp [Hid, blB, hb]
    clear h
    go_enter Tryd.func43, Tryd.ntmps43
    go_wp2
    all_goals
      go_ret
      exact ⟨by rw [HB.out]; simp [*], rfl⟩

/-- startsLine, as a plain function: only blanks stand ahead of byte i on its line. -/
def slB (p : List Int) : Nat → Bool
  | 0 => true
  | i + 1 => if blB (p.getD i 0) then slB p i else p.getD i 0 == 10

/-- endsLine, as a plain function, over what is left of the text. -/
def elB : List Int → Bool
  | [] => true
  | c :: r => if blB c || c == 13 then elB r else c == 10

set_option maxHeartbeats 400000 in
theorem startsLine_at (b off n c i : Nat) (zs : List Int) (w : World) (hl : zs.length = n) (hn : n ≤ 4194304) (hi : i ≤ n)
    (hc : ∀ i, i < n → w.cell? ⟨b, off + i, none⟩ = some (.int .u8 (zs.getD i 0))) :
    Calls Tryd.prog 33 #[.slice (some ⟨b, off, none⟩) n c, .int .i64 i] w fun e w' => e = .returned (.bool (slB zs i)) ∧ w' = w := by
  go_enter Tryd.func33, Tryd.ntmps33
  go_wp2
  go_loop [1] (fun t => ∃ k : Nat, k ≤ n ∧ t = .int .i64 k ∧ slB zs k = slB zs i) (fun t => (intOf t).toNat)
  case atStart => exact ⟨i, hi, rfl, rfl⟩
  case round =>
    obtain ⟨k, hk, rfl, hs⟩ := hrel
    have HS : Hid (slB zs k = slB zs i) := hs
    have HL : Hid (zs.length = n) := hl
    clear hs hl
    match k, hk, HS with
    | 0, _, HS =>
      clear hc
      go_wp2
      go_ret
      exact ⟨by rw [← HS.out]; rfl, rfl⟩
    | k + 1, hk, HS =>
      have hcell := hc k (by omega)
      have hpos : (0 : Int) < (k : Int) + 1 := by omega
      have hk0 : (((k : Int) + 1) == 0) = false := beq_eq_false_iff_ne.2 (by omega)
      clear hc
      cases hb : blB (zs.getD k 0) with
      | true =>
        have HU : Hid (slB zs k = slB zs i) := by rw [Hid, ← HS.out]; simp only [slB, hb, if_true]
        have hb' : blB (zs[k]?.getD 0) = true := by simpa using hb
        clear hb
        go_wp2_with (go_at_call 43; refine (isBlank_any _ _).mono ?_; rintro e w' ⟨rfl, rfl⟩)
        go_round
        case rel => exact ⟨k, by omega, by go_num, HU.out⟩
        case measure => simp [intOf]
      | false =>
        have HU : Hid ((zs[k]?.getD 0 == 10) = slB zs i) := by
          rw [Hid, ← HS.out]; simp only [slB, hb, Bool.false_eq_true, if_false]; simp only [List.getD_eq_getElem?_getD]
        have hb' : blB (zs[k]?.getD 0) = false := by simpa using hb
        clear hb
        go_wp2_with (go_at_call 43; refine (isBlank_any _ _).mono ?_; rintro e w' ⟨rfl, rfl⟩)
        all_goals
          go_ret
          exact ⟨by rw [← HU.out]; simp [*], rfl⟩

theorem elB_drop (zs : List Int) (k : Nat) (h : k < zs.length) : elB (zs.drop k) = if blB (zs.getD k 0) || zs.getD k 0 == 13 then elB (zs.drop (k + 1)) else zs.getD k 0 == 10 := by
  rw [List.drop_eq_getElem_cons h]
  simp [elB, List.getD, h]

set_option maxHeartbeats 400000 in
theorem endsLine_at (b off n c i : Nat) (zs : List Int) (w : World) (hl : zs.length = n) (hn : n ≤ 4194304) (hi : i ≤ n)
    (hc : ∀ i, i < n → w.cell? ⟨b, off + i, none⟩ = some (.int .u8 (zs.getD i 0))) :
    Calls Tryd.prog 38 #[.slice (some ⟨b, off, none⟩) n c, .int .i64 i] w fun e w' => e = .returned (.bool (elB (zs.drop i))) ∧ w' = w := by
  go_enter Tryd.func38, Tryd.ntmps38
  go_wp2
  go_loop [1] (fun t => ∃ k : Nat, k ≤ n ∧ t = .int .i64 k ∧ elB (zs.drop k) = elB (zs.drop i)) (fun t => n - (intOf t).toNat)
  case atStart => exact ⟨i, hi, rfl, rfl⟩
  case round =>
    obtain ⟨k, hk, rfl, hs⟩ := hrel
    have HS : Hid (elB (zs.drop k) = elB (zs.drop i)) := hs
    have HL : Hid (zs.length = n) := hl
    clear hs hl
    by_cases hlt : k < n
    · have hcell := hc k hlt
      have hkn : ((k : Int) == (n : Int)) = false := beq_eq_false_iff_ne.2 (by omega)
      have hd := elB_drop zs k (by have := HL.out; omega)
      have HD : Hid (elB (zs.drop i) = if blB (zs.getD k 0) || zs.getD k 0 == 13 then elB (zs.drop (k + 1)) else zs.getD k 0 == 10) := by rw [Hid, ← HS.out]; exact hd
      clear hc hd
      cases hb : blB (zs.getD k 0) with
      | true =>
        have HU : Hid (elB (zs.drop (k + 1)) = elB (zs.drop i)) := by rw [Hid, HD.out]; simp only [hb, Bool.true_or, if_true]
        have hb' : blB (zs[k]?.getD 0) = true := by simpa using hb
        clear hb
        go_wp2_with (go_at_call 43; refine (isBlank_any _ _).mono ?_; rintro e w' ⟨rfl, rfl⟩)
        go_round
        case rel => exact ⟨k + 1, by omega, by go_num, HU.out⟩
        case measure => simp [intOf]; omega
      | false =>
        by_cases h13 : zs.getD k 0 = 13
        · have HU : Hid (elB (zs.drop (k + 1)) = elB (zs.drop i)) := by rw [Hid, HD.out]; simp only [h13, beq_self_eq_true, Bool.or_true, if_true]
          have hb' : blB (zs[k]?.getD 0) = false := by simpa using hb
          have h13' : (zs[k]?.getD 0 == 13) = true := beq_iff_eq.2 (by simpa using h13)
          clear hb h13
          go_wp2_with (go_at_call 43; refine (isBlank_any _ _).mono ?_; rintro e w' ⟨rfl, rfl⟩)
          go_round
          case rel => exact ⟨k + 1, by omega, by go_num, HU.out⟩
          case measure => simp [intOf]; omega
        · have h13' : (zs[k]?.getD 0 == 13) = false := beq_eq_false_iff_ne.2 (by simpa using h13)
          have HU : Hid ((zs[k]?.getD 0 == 10) = elB (zs.drop i)) := by
            rw [Hid, HD.out]; simp only [List.getD_eq_getElem?_getD] at hb ⊢; rw [hb, h13']; simp
          have hb' : blB (zs[k]?.getD 0) = false := by simpa using hb
          clear hb h13
          go_wp2_with (go_at_call 43; refine (isBlank_any _ _).mono ?_; rintro e w' ⟨rfl, rfl⟩)
          all_goals
            go_ret
            exact ⟨by rw [← HU.out]; simp [*], rfl⟩
    · have hkn : ((k : Int) == (n : Int)) = true := beq_iff_eq.2 (by omega)
      have HU : Hid (elB (zs.drop i) = true) := by
        rw [Hid, ← HS.out, List.drop_eq_nil_of_le (by have := HL.out; omega)]; rfl
      clear hc
      go_wp2
      go_ret
      exact ⟨by rw [HU.out]; rfl, rfl⟩

end Go.Proofs.Qxb6616246aDoor
