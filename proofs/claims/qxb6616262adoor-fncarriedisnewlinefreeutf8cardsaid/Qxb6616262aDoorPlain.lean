/-
  Seat b6616262aD: the plain mathematics: well-formed UTF-8 without a newline; what a cut does to it. No walk.
-/
import Derived.Lib.ValidLaws
import Derived.Lib.Bytealg
import Derived.Lib.IndexLaws
namespace Go.Proofs.Qxb6616262aDoor
open Go.Lib

/-- carried(key), as a plain function. -/
def carB (l : List UInt8) : Bool := !(decide (0 ≤ indexByte l 10)) && validD l

theorem indexByte_mem (l : List UInt8) : decide (0 ≤ indexByte l 10) = l.contains 10 := by
  have hge := indexByte_ge l 10
  rw [Bool.eq_iff_iff]
  simp only [decide_eq_true_eq, List.contains_iff_mem]
  constructor
  · intro h
    obtain ⟨o, ho⟩ := Int.eq_ofNat_of_zero_le h
    exact List.mem_of_getElem? (indexByte_some ho).1
  · intro hm
    rcases Int.lt_or_le (indexByte l 10) 0 with h | h
    · have h1 : indexByte l 10 = -1 := by omega
      obtain ⟨k, hk⟩ := List.mem_iff_getElem?.1 hm
      exact absurd hk (indexByte_none h1 k)
    · exact h

theorem carB_eq (l : List UInt8) : carB l = (!(l.contains 10) && validD l) := by unfold carB; rw [indexByte_mem]

theorem car_nil : carB [] = true := rfl
theorem car_nl (r : List UInt8) : carB (10 :: r) = false := by rw [carB_eq]; simp
theorem car_ascii (c : UInt8) (r : List UInt8) (h : c.toNat < 128) (hn : c ≠ 10) : carB (c :: r) = carB r := by
  rw [carB_eq, carB_eq, validD_cons c r h]
  have : (c :: r).contains 10 = r.contains 10 := by
    simp only [List.contains_cons]
    rw [show ((10 : UInt8) == c) = false from beq_eq_false_iff_ne.2 (fun e => hn e.symm)]
    rfl
  rw [this]

/-- utf8.ValidString's step, over a list. -/
def chk (l : List UInt8) : Option Nat :=
  checkN l.length (l.getD 1 0).toNat (l.getD 2 0).toNat (l.getD 3 0).toNat (firstT (l.getD 0 0).toNat % 8) (accLo (firstT (l.getD 0 0).toNat / 16)) (accHi (firstT (l.getD 0 0).toNat / 16))

theorem first_cls (c : Nat) (h : 128 ≤ c) : (firstT c % 8 = 2 ∨ firstT c % 8 = 3 ∨ firstT c % 8 = 4) → 128 ≤ accLo (firstT c / 16) ∧ accHi (firstT c / 16) ≤ 191 := by
  unfold firstT
  repeat' split
  all_goals first | (exfalso; omega) | (intro _; decide) | (intro hh; exfalso; revert hh; decide)

theorem chk_some {l : List UInt8} (h0 : 128 ≤ (l.getD 0 0).toNat) {k : Nat} (h : chk l = some k) :
    2 ≤ k ∧ k ≤ 4 ∧ k ≤ l.length ∧ ∀ j, j < k → 128 ≤ (l.getD j 0).toNat ∧ (1 ≤ j → (l.getD j 0).toNat ≤ 191) := by
  have hc := first_cls _ h0
  unfold chk checkN at h
  generalize firstT (l.getD 0 0).toNat % 8 = S at h hc
  generalize accLo (firstT (l.getD 0 0).toNat / 16) = lo at h hc
  generalize accHi (firstT (l.getD 0 0).toNat / 16) = hi at h hc
  have cases4 : ∀ j, j < 4 → j = 0 ∨ j = 1 ∨ j = 2 ∨ j = 3 := fun j hj => by omega
  split at h
  · split at h
    · cases h
    · obtain rfl := Option.some.inj h
      have := hc (by omega)
      refine ⟨by omega, by omega, by omega, fun j hj => ?_⟩
      rcases cases4 j (by omega) with rfl | rfl | rfl | rfl <;> omega
  · split at h
    · split at h
      · cases h
      · obtain rfl := Option.some.inj h
        have := hc (by omega)
        refine ⟨by omega, by omega, by omega, fun j hj => ?_⟩
        rcases cases4 j (by omega) with rfl | rfl | rfl | rfl <;> omega
    · split at h
      · split at h
        · cases h
        · obtain rfl := Option.some.inj h
          have := hc (by omega)
          refine ⟨by omega, by omega, by omega, fun j hj => ?_⟩
          rcases cases4 j (by omega) with rfl | rfl | rfl | rfl <;> omega
      · cases h

theorem no10_take {l : List UInt8} {k : Nat} (h : ∀ j, j < k → 128 ≤ (l.getD j 0).toNat) : (10 : UInt8) ∉ l.take k := by
  intro hm
  obtain ⟨j, hj⟩ := List.mem_iff_getElem?.1 hm
  rw [List.getElem?_take] at hj
  split at hj
  · rename_i hjk
    have := h j hjk
    rw [List.getD_eq_getElem?_getD, hj] at this
    simp at this
  · cases hj

/-- At a lead byte from 128 on. -/
theorem car_lead (l : List UInt8) (hne : l ≠ []) (h0 : 128 ≤ (l.getD 0 0).toNat) : carB l = match chk l with | none => false | some k => carB (l.drop k) := by
  rw [carB_eq, validD_lead l hne h0]
  show (!l.contains 10 && match chk l with | none => false | some k => validD (l.drop k)) = _
  cases h : chk l with
  | none => simp
  | some k =>
    obtain ⟨_, _, _, hj⟩ := chk_some h0 h
    show (!l.contains 10 && validD (l.drop k)) = carB (l.drop k)
    rw [carB_eq]
    have hno := no10_take (fun j hjk => (hj j hjk).1)
    have : l.contains 10 = (l.drop k).contains 10 := by
      rw [Bool.eq_iff_iff, List.contains_iff_mem, List.contains_iff_mem]
      constructor
      · intro hm
        rw [← List.take_append_drop k l, List.mem_append] at hm
        exact hm.resolve_left hno
      · exact List.mem_of_mem_drop
    rw [this]

theorem checkN_take (n i b1 b2 b3 S lo hi : Nat) (h1 : 1 ≤ i) (hin : i ≤ n) :
    checkN i (if 1 < i then b1 else 0) (if 2 < i then b2 else 0) (if 3 < i then b3 else 0) S lo hi = match checkN n b1 b2 b3 S lo hi with | none => none | some k => if i < k then none else some k := by
  have _ := h1
  unfold checkN
  by_cases s2 : S = 2
  · simp only [s2, if_true]
    by_cases a : n < 2 ∨ b1 < lo ∨ hi < b1
    · rw [if_pos a]
      by_cases c : 1 < i
      · rw [if_pos c, if_pos (by omega)]
      · rw [if_pos (by omega)]
    · rw [if_neg a]
      by_cases c : 1 < i
      · rw [if_pos c, if_neg (by omega)]
        show _ = if i < 2 then none else some 2
        rw [if_neg (by omega)]
      · rw [if_pos (by omega)]
        show _ = if i < 2 then none else some 2
        rw [if_pos (by omega)]
  simp only [s2, if_false]
  by_cases s3 : S = 3
  · simp only [s3, if_true]
    by_cases a : n < 3 ∨ b1 < lo ∨ hi < b1 ∨ b2 < 128 ∨ 191 < b2
    · rw [if_pos a]
      by_cases c : 2 < i
      · rw [if_pos (show 1 < i by omega), if_pos c, if_pos (by omega)]
      · rw [if_pos (by omega)]
    · rw [if_neg a]
      by_cases c : 2 < i
      · rw [if_pos (show 1 < i by omega), if_pos c, if_neg (by omega)]
        show _ = if i < 3 then none else some 3
        rw [if_neg (by omega)]
      · rw [if_pos (by omega)]
        show _ = if i < 3 then none else some 3
        rw [if_pos (by omega)]
  simp only [s3, if_false]
  by_cases s4 : S = 4
  · simp only [s4, if_true]
    by_cases a : n < 4 ∨ b1 < lo ∨ hi < b1 ∨ b2 < 128 ∨ 191 < b2 ∨ b3 < 128 ∨ 191 < b3
    · rw [if_pos a]
      by_cases c : 3 < i
      · rw [if_pos (show 1 < i by omega), if_pos (show 2 < i by omega), if_pos c, if_pos (by omega)]
      · rw [if_pos (by omega)]
    · rw [if_neg a]
      by_cases c : 3 < i
      · rw [if_pos (show 1 < i by omega), if_pos (show 2 < i by omega), if_pos c, if_neg (by omega)]
        show _ = if i < 4 then none else some 4
        rw [if_neg (by omega)]
      · rw [if_pos (by omega)]
        show _ = if i < 4 then none else some 4
        rw [if_pos (by omega)]
  simp only [s4, if_false]

theorem getD_take (l : List UInt8) (i j : Nat) : ((l.take i).getD j 0).toNat = if j < i then (l.getD j 0).toNat else 0 := by
  simp only [List.getD_eq_getElem?_getD, List.getElem?_take]
  split <;> rfl

theorem chk_take (l : List UInt8) (i : Nat) (h1 : 1 ≤ i) (hi : i ≤ l.length) : chk (l.take i) = match chk l with | none => none | some k => if i < k then none else some k := by
  unfold chk
  rw [List.length_take, Nat.min_eq_left hi, getD_take, getD_take, getD_take, getD_take, if_pos (show 0 < i by omega)]
  exact checkN_take _ _ _ _ _ _ _ _ h1 hi

/-- Does i fall on a rune's boundary? -/
def bnd (l : List UInt8) (i : Nat) : Bool := decide (i = l.length ∨ ¬ (128 ≤ (l.getD i 0).toNat ∧ (l.getD i 0).toNat ≤ 191))

theorem chk_cont {l : List UInt8} (h : 128 ≤ (l.getD 0 0).toNat ∧ (l.getD 0 0).toNat ≤ 191) : chk l = none := by
  have : firstT (l.getD 0 0).toNat = 241 := by
    unfold firstT
    rw [if_neg (by omega), if_pos (by omega)]
  unfold chk checkN
  rw [this]
  rfl

theorem bnd_drop (l : List UInt8) (k i : Nat) (hk : k ≤ i) (hi : i ≤ l.length) : bnd (l.drop k) (i - k) = bnd l i := by
  unfold bnd
  rw [List.length_drop, List.getD_eq_getElem?_getD, List.getElem?_drop, show k + (i - k) = i by omega, ← List.getD_eq_getElem?_getD]
  refine decide_eq_decide.2 ⟨fun h => ?_, fun h => ?_⟩
  · exact h.elim (fun e => .inl (by omega)) .inr
  · exact h.elim (fun e => .inl (by omega)) .inr

/-- What a cut does. -/
theorem car_split : ∀ (n : Nat) (l : List UInt8) (i : Nat), l.length ≤ n → i ≤ l.length → (carB (l.take i) && carB (l.drop i)) = (carB l && bnd l i) := by
  intro n
  induction n with
  | zero =>
    intro l i hn hi
    obtain rfl : l = [] := List.eq_nil_of_length_eq_zero (by omega)
    obtain rfl : i = 0 := by simpa using hi
    rfl
  | succ n ih =>
    intro l i hn hi
    cases l with
    | nil =>
      obtain rfl : i = 0 := by simpa using hi
      rfl
    | cons c r =>
      rcases Nat.eq_zero_or_pos i with h0 | h0
      · subst h0
        rw [List.take_zero, List.drop_zero, car_nil, Bool.true_and]
        cases hb : bnd (c :: r) 0 with
        | true => rw [Bool.and_true]
        | false =>
          rw [Bool.and_false]
          have hc : 128 ≤ ((c :: r).getD 0 0).toNat ∧ ((c :: r).getD 0 0).toNat ≤ 191 := by
            unfold bnd at hb
            rw [decide_eq_false_iff_not] at hb
            exact Classical.byContradiction fun hx => hb (.inr hx)
          rw [car_lead _ (by simp) hc.1, chk_cont hc]
      · by_cases h10 : c = 10
        · subst h10
          rw [show (10 :: r).take i = 10 :: r.take (i - 1) by cases i with | zero => omega | succ i => rfl, car_nl, car_nl]
          rfl
        by_cases h128 : c.toNat < 128
        · obtain ⟨j, rfl⟩ : ∃ j, i = j + 1 := ⟨i - 1, by omega⟩
          rw [List.take_succ_cons, List.drop_succ_cons, car_ascii c _ h128 h10, car_ascii c _ h128 h10]
          have := ih r j (by simp at hn; omega) (by simpa using hi)
          rw [this, ← bnd_drop (c :: r) 1 (j + 1) (by omega) hi]
          rfl
        · have hl0 : 128 ≤ ((c :: r).getD 0 0).toNat := by show 128 ≤ c.toNat; omega
          have hlt : 128 ≤ (((c :: r).take i).getD 0 0).toNat := by rw [getD_take, if_pos h0]; exact hl0
          have hne : (c :: r).take i ≠ [] := by
            intro e
            have := congrArg List.length e
            rw [List.length_take, Nat.min_eq_left hi] at this
            simp at this
            omega
          rw [car_lead _ hne hlt, car_lead (c :: r) (by simp) hl0, chk_take _ i h0 hi]
          cases hk : chk (c :: r) with
          | none => rfl
          | some k =>
            obtain ⟨k2, k4, kl, kj⟩ := chk_some hl0 hk
            by_cases hik : i < k
            · simp only [hik, if_true]
              have hb : bnd (c :: r) i = false := by
                unfold bnd
                rw [decide_eq_false_iff_not]
                rintro (h | h)
                · omega
                · exact h ⟨(kj i hik).1, (kj i hik).2 h0⟩
              rw [hb, Bool.and_false]
              rfl
            · simp only [hik, if_false]
              have := ih ((c :: r).drop k) (i - k) (by rw [List.length_drop]; omega) (by rw [List.length_drop]; omega)
              rw [bnd_drop _ _ _ (by omega) hi, List.drop_drop, show k + (i - k) = i by omega] at this
              rw [← this, List.drop_take]

end Go.Proofs.Qxb6616262aDoor
