/-
  Seat b6616246aD: the plain mathematics: no walk.
-/
import Derived.Test.Qxb6616246aDoorLines
import Derived.Lib.IndexLaws
import Derived.Lib.Strings
import Derived.Lib.SlTrimSet
import Derived.Lib.Bytes
namespace Go.Proofs.Qxb6616246aDoor
open Go.Lib

def kB : List UInt8 := [45, 45, 45, 45, 45, 66, 69, 71, 73, 78, 32]
def kE : List UInt8 := [45, 45, 45, 45, 45, 69, 78, 68, 32]
def d5 : List UInt8 := [45, 45, 45, 45, 45]
def kBlock : List UInt8 := [32, 66, 76, 79, 67, 75]
def kPK : List UInt8 := [80, 82, 73, 86, 65, 84, 69, 32, 75, 69, 89]
def kSPK : List UInt8 := [32, 80, 82, 73, 86, 65, 84, 69, 32, 75, 69, 89]
def blanks3 : List UInt8 := [32, 9, 13]
def nI (l : List UInt8) : List Int := l.map (fun c => (c.toNat : Int))

theorem nI_length (l : List UInt8) : (nI l).length = l.length := by simp [nI]
theorem nI_drop (l : List UInt8) (k : Nat) : nI (l.drop k) = (nI l).drop k := by simp [nI, List.map_drop]
theorem nI_take (l : List UInt8) (k : Nat) : nI (l.take k) = (nI l).take k := by simp [nI, List.map_take]
theorem nI_append (a b : List UInt8) : nI (a ++ b) = nI a ++ nI b := by simp [nI]
theorem nI_getD (l : List UInt8) (k : Nat) : (nI l).getD k 0 = ((l.getD k 0).toNat : Int) := by
  simp only [nI, List.getD_eq_getElem?_getD, List.getElem?_map]
  cases l[k]? <;> simp
theorem nI_range (l : List UInt8) : ∀ x ∈ nI l, 0 ≤ x ∧ x < 256 := by
  intro x hx
  simp only [nI, List.mem_map] at hx
  obtain ⟨c, _, rfl⟩ := hx
  have := c.toNat_lt
  omega
theorem bytesOf_nI (l : List UInt8) : Lib.bytesOf (nI l) = l := by
  simp only [Lib.bytesOf, nI, List.map_map]
  have h : ∀ c ∈ l, ((fun n : Int => UInt8.ofNat n.toNat) ∘ fun c : UInt8 => (c.toNat : Int)) c = id c := fun c _ => by simp
  rw [List.map_congr_left h, List.map_id]

/-- privateKeyLabel, as a plain function. -/
def labelB (l : List UInt8) : Bool := (trimSuffix l kBlock == kPK) || hasSuffix (trimSuffix l kBlock) kSPK

def lineOf (q : List UInt8) : List UInt8 := if indexByte q 10 < 0 then q else q.take (indexByte q 10).toNat

def opensAt (p : List UInt8) (i : Nat) : Option (List UInt8) :=
  if occAt p kB i && slB (nI p) i then
    (if hasSuffix (trimRightS (lineOf (p.drop i)) blanks3) d5 then
      (if labelB (trimPrefix ((trimRightS (lineOf (p.drop i)) blanks3).take ((trimRightS (lineOf (p.drop i)) blanks3).length - 5)) kB) then
        some (trimPrefix ((trimRightS (lineOf (p.drop i)) blanks3).take ((trimRightS (lineOf (p.drop i)) blanks3).length - 5)) kB) else none)
     else none)
  else none

def line1 (l : List UInt8) : List UInt8 := kB ++ l ++ d5
def line2 (l : List UInt8) : List UInt8 := kE ++ l ++ d5
def part (l : List UInt8) : List UInt8 := line1 l ++ 10 :: (line2 l ++ [10])

theorem line1_length (l : List UInt8) : (line1 l).length = l.length + 16 := by simp [line1, kB, d5]
theorem line2_length (l : List UInt8) : (line2 l).length = l.length + 14 := by simp [line2, kE, d5]
theorem part_length (l : List UInt8) : (part l).length = 2 * l.length + 32 := by
  simp only [part, List.length_append, List.length_cons, line1_length, line2_length, List.length_nil]; omega

theorem no10_line1 {l : List UInt8} (h : (10 : UInt8) ∉ l) : (10 : UInt8) ∉ line1 l := by
  simp [line1, kB, d5, h]
theorem no10_line2 {l : List UInt8} (h : (10 : UInt8) ∉ l) : (10 : UInt8) ∉ line2 l := by
  simp [line2, kE, d5, h]

/-- On a line that opens with something other than a blank no later place starts a line. -/
theorem slB_false (p : List Int) (s : Nat) (h1 : blB (p.getD s 0) = false) : ∀ i, s < i → (∀ j, s ≤ j → j < i → p.getD j 0 ≠ 10) → slB p i = false := by
  intro i
  induction i with
  | zero => intro h _; omega
  | succ k ih =>
    intro hs hno
    unfold slB
    by_cases hb : blB (p.getD k 0) = true
    · have hks : s < k := by
        rcases Nat.lt_or_ge s k with h | h
        · exact h
        · have : k = s := by omega
          subst this
          rw [h1] at hb; cases hb
      rw [if_pos hb]
      exact ih hks fun j hj hjk => hno j hj (by omega)
    · rw [if_neg hb]
      exact beq_eq_false_iff_ne.2 (hno k (by omega) (by omega))

theorem indexByte_append {a b : List UInt8} (h : (10 : UInt8) ∉ a) : indexByte (a ++ 10 :: b) 10 = a.length := by
  induction a with
  | nil => simp [indexByte]
  | cons x t ih =>
    simp only [List.mem_cons, not_or] at h
    have := ih h.2
    simp only [List.cons_append, indexByte]
    rw [this]
    have hx : (x == 10) = false := beq_eq_false_iff_ne.2 (fun e => h.1 e.symm)
    have h1 : ((t.length : Int) == -1) = false := beq_eq_false_iff_ne.2 (by omega)
    simp [hx, h1]

theorem lineOf_append {a b : List UInt8} (h : (10 : UInt8) ∉ a) : lineOf (a ++ 10 :: b) = a := by
  unfold lineOf
  rw [indexByte_append h, if_neg (by omega)]
  simp

theorem lineOf_part {l : List UInt8} (h : (10 : UInt8) ∉ l) : lineOf (part l) = line1 l := lineOf_append (no10_line1 h)

theorem trimRight_line1 (l : List UInt8) : trimRightS (line1 l) blanks3 = line1 l := by
  have := trimRightS_take (line1 l) blanks3 (line1 l).length (Nat.le_refl _)
    (fun j b hj hb => by rw [List.getElem?_eq_none hj] at hb; cases hb)
    (fun b h0 hb => by
      have e : (line1 l)[(line1 l).length - 1]? = some 45 := by
        have : line1 l = (kB ++ l ++ [45, 45, 45, 45]) ++ [45] := by simp [line1, d5]
        rw [this]
        simp
      rw [e] at hb
      cases hb
      rfl)
  rw [this]
  exact List.take_length

theorem suffix_line1 (l : List UInt8) : hasSuffix (line1 l) d5 = true := by
  unfold hasSuffix
  rw [List.isSuffixOf_iff_suffix]
  exact ⟨kB ++ l, rfl⟩

theorem cut_line1 (l : List UInt8) : (line1 l).take ((line1 l).length - 5) = kB ++ l := by
  have : (line1 l).length - 5 = (kB ++ l).length := by rw [line1_length, List.length_append]; simp [kB]; omega
  rw [this, line1, List.take_left]

theorem trimPrefix_kB (l : List UInt8) : trimPrefix (kB ++ l) kB = l := by
  unfold trimPrefix
  rw [if_pos (by unfold hasPrefix; rw [List.isPrefixOf_iff_prefix]; exact List.prefix_append _ _)]
  simp

theorem occ_zero (l : List UInt8) : occAt (part l) kB 0 = true := by
  unfold occAt
  rw [List.isPrefixOf_iff_prefix]
  exact ⟨l ++ d5 ++ 10 :: (line2 l ++ [10]), by simp [part, line1]⟩

theorem opens_zero {l : List UInt8} (h : (10 : UInt8) ∉ l) : opensAt (part l) 0 = if labelB l then some l else none := by
  have hs : slB (nI (part l)) 0 = true := rfl
  unfold opensAt
  rw [occ_zero, hs, List.drop_zero, lineOf_part h, trimRight_line1, suffix_line1, cut_line1, trimPrefix_kB]
  rfl

theorem part_get1 {l : List UInt8} (j : Nat) (h : j < l.length + 16) : (part l).getD j 0 = (line1 l).getD j 0 := by
  simp only [part, List.getD_eq_getElem?_getD]
  rw [List.getElem?_append_left (by rw [line1_length]; exact h)]

theorem part_get2 {l : List UInt8} (j : Nat) (h : j < l.length + 14) : (part l).getD (l.length + 17 + j) 0 = (line2 l).getD j 0 := by
  simp only [part, List.getD_eq_getElem?_getD]
  rw [List.getElem?_append_right (by rw [line1_length]; omega), line1_length, show l.length + 17 + j - (l.length + 16) = j + 1 by omega, List.getElem?_cons_succ,
    List.getElem?_append_left (by rw [line2_length]; exact h)]

theorem ne10_of {a : List UInt8} (h : (10 : UInt8) ∉ a) (j : Nat) : a.getD j 0 ≠ 10 := by
  intro e
  rw [List.getD_eq_getElem?_getD] at e
  cases hg : a[j]? with
  | none => rw [hg] at e; cases e
  | some x =>
    rw [hg] at e
    simp at e
    subst e
    exact h (List.mem_of_getElem? hg)

theorem toNat_ne10 {c : UInt8} (h : c ≠ 10) : ((c.toNat : Int)) ≠ 10 := by
  intro e
  apply h
  have : c.toNat = 10 := by omega
  exact UInt8.toNat.inj this

theorem sl_part_false {l : List UInt8} (h : (10 : UInt8) ∉ l) (i : Nat) (h1 : 1 ≤ i) (ho : occAt (part l) kB i = true) : slB (nI (part l)) i = false := by
  by_cases a : i ≤ l.length + 16
  · refine slB_false _ 0 (by rw [nI_getD, part_get1 0 (by omega)]; rfl) i h1 fun j _ hj => ?_
    rw [nI_getD, part_get1 j (by omega)]
    exact toNat_ne10 (ne10_of (no10_line1 h) j)
  by_cases b : i = l.length + 17
  · exfalso
    subst b
    have e : (part l).drop (l.length + 17) = line2 l ++ [10] := by
      have : part l = (line1 l ++ [10]) ++ (line2 l ++ [10]) := by simp [part]
      rw [this, List.drop_append_of_le_length (by simp [line1_length])]
      rw [List.drop_of_length_le (by simp [line1_length])]
      rfl
    unfold occAt at ho
    rw [e] at ho
    simp [line2, kE, kB] at ho
  by_cases c : i ≤ 2 * l.length + 31
  · refine slB_false _ (l.length + 17) (by rw [nI_getD]; have := part_get2 (l := l) 0 (by omega); rw [Nat.add_zero] at this; rw [this]; rfl) i (by omega) fun j hj hji => ?_
    rw [nI_getD]
    have := part_get2 (l := l) (j - (l.length + 17)) (by omega)
    rw [show l.length + 17 + (j - (l.length + 17)) = j by omega] at this
    rw [this]
    exact toNat_ne10 (ne10_of (no10_line2 h) _)
  · exfalso
    unfold occAt at ho
    rw [List.drop_of_length_le (by rw [part_length]; omega)] at ho
    simp [kB] at ho

theorem opens_later {l : List UInt8} (h : (10 : UInt8) ∉ l) (i : Nat) (h1 : 1 ≤ i) : opensAt (part l) i = none := by
  unfold opensAt
  cases ho : occAt (part l) kB i with
  | false => rfl
  | true => rw [sl_part_false h i h1 ho]; rfl

/-- The closing line stands right behind the first newline. -/
theorem index_closing (l : List UInt8) : index ((part l).drop (l.length + 16)) (line2 l) = 1 := by
  have e : (part l).drop (l.length + 16) = 10 :: (line2 l ++ [10]) := by
    rw [part, List.drop_append_of_le_length (by simp [line1_length]), List.drop_of_length_le (by simp [line1_length])]
    rfl
  rw [e]
  refine index_first (i := 1) (by simp) ?_ ?_
  · unfold occAt
    rw [List.isPrefixOf_iff_prefix]
    exact List.prefix_append _ _
  · intro j hj
    obtain rfl : j = 0 := by omega
    unfold occAt
    simp [line2, kE, List.isPrefixOf]

theorem sl_closing (l : List UInt8) : slB (nI (part l)) (l.length + 17) = true := by
  unfold slB
  have e : (part l).getD (l.length + 16) 0 = 10 := by
    simp only [part, List.getD_eq_getElem?_getD]
    rw [List.getElem?_append_right (by rw [line1_length]; exact Nat.le_refl _), line1_length]
    simp
  rw [nI_getD, e]
  rfl

theorem el_closing (l : List UInt8) : elB ((nI (part l)).drop (2 * l.length + 31)) = true := by
  rw [← nI_drop]
  have e : (part l).drop (2 * l.length + 31) = [10] := by
    have : part l = (line1 l ++ 10 :: line2 l) ++ [10] := by simp [part]
    rw [this, List.drop_append_of_le_length (by simp only [List.length_append, List.length_cons, line1_length, line2_length]; omega),
      List.drop_of_length_le (by simp only [List.length_append, List.length_cons, line1_length, line2_length]; omega)]
    rfl
  rw [e]
  rfl

theorem labelB_longer (l : List UInt8) : labelB (l ++ kSPK) = true := by
  have h1 : hasSuffix (l ++ kSPK) kSPK = true := by
    unfold hasSuffix
    rw [List.isSuffixOf_iff_suffix]
    exact List.suffix_append _ _
  have h2 : hasSuffix (l ++ kSPK) kBlock = false := by
    rw [← Bool.not_eq_true]
    unfold hasSuffix
    rw [List.isSuffixOf_iff_suffix]
    rintro ⟨t, ht⟩
    have e := congrArg List.getLast? ht
    simp [kBlock, kSPK] at e
  unfold labelB trimSuffix
  rw [h2]
  simp [h1]

end Go.Proofs.Qxb6616246aDoor
