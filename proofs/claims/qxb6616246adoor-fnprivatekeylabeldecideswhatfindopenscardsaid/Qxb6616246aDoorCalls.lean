/-
  Seat b6616246aD: the library's calls that keyOpening makes, over lists of bytes; the search's first place.
-/
import Derived.Test.Qxb6616246aDoorLabel
namespace Go.Proofs.Qxb6616246aDoor
open Go.RowKit Go.Lib

theorem row_kB : ((nI kB).map (Value.int .u8)).toArray = #[.int .u8 45, .int .u8 45, .int .u8 45, .int .u8 45, .int .u8 45, .int .u8 66, .int .u8 69, .int .u8 71, .int .u8 73, .int .u8 78, .int .u8 32] := by rfl

/-- The slice v holds the bytes l. -/
def BytesV (w : World) (v : Value) (l : List UInt8) : Prop := ∃ q c, v = .slice q l.length c ∧ l.length ≤ c ∧ Lib.BytesIn w q l.length (nI l)

/-- What the search says of the places from k on. -/
theorem index_from (p sub : List UInt8) (k : Nat) (hk : k ≤ p.length) (hs : sub ≠ []) :
    (index (p.drop k) sub = -1 ∧ ∀ i, k ≤ i → occAt p sub i = false) ∨
    ∃ i, k ≤ i ∧ i < p.length ∧ index (p.drop k) sub = ((i - k : Nat) : Int) ∧ occAt p sub i = true ∧ ∀ j, k ≤ j → j < i → occAt p sub j = false := by
  have hd : ∀ j, occAt (p.drop k) sub j = occAt p sub (k + j) := fun j => by unfold occAt; rw [List.drop_drop]
  have hno : ∀ i, p.length ≤ i → occAt p sub i = false := fun i hi => by
    unfold occAt
    rw [List.drop_of_length_le hi]
    cases sub with
    | nil => exact absurd rfl hs
    | cons => rfl
  by_cases h : ∃ j, occAt (p.drop k) sub j = true
  · right
    have key : ∀ n j, j ≤ n → occAt (p.drop k) sub j = true → ∃ i, occAt (p.drop k) sub i = true ∧ ∀ j, j < i → occAt (p.drop k) sub j = false := by
      intro n
      induction n with
      | zero => intro j hj ho; exact ⟨j, ho, fun q hq => by omega⟩
      | succ n ih =>
        intro j hj ho
        by_cases hex : ∃ q, q < j ∧ occAt (p.drop k) sub q = true
        · obtain ⟨q, hq, hoq⟩ := hex
          exact ih q (by omega) hoq
        · exact ⟨j, ho, fun q hq => by
            cases hq' : occAt (p.drop k) sub q with
            | false => rfl
            | true => exact absurd ⟨q, hq, hq'⟩ hex⟩
    obtain ⟨j0, h0⟩ := h
    obtain ⟨i, hi, hfirst⟩ := key j0 j0 (Nat.le_refl _) h0
    have hlt : k + i < p.length := by
      rcases Nat.lt_or_ge (k + i) p.length with a | a
      · exact a
      · rw [hd, hno _ a] at hi; cases hi
    refine ⟨k + i, by omega, hlt, ?_, by rw [← hd]; exact hi, fun j hj hji => ?_⟩
    · rw [show k + i - k = i by omega]
      exact index_first (by rw [List.length_drop]; omega) hi hfirst
    · have := hfirst (j - k) (by omega)
      rw [hd, show k + (j - k) = j by omega] at this
      exact this
  · left
    have hf : ∀ j, occAt (p.drop k) sub j = false := fun j => by
      cases hq' : occAt (p.drop k) sub j with
      | false => rfl
      | true => exact absurd ⟨j, hq'⟩ h
    exact ⟨index_none fun j _ => hf j, fun i hi => by have := hf (i - k); rw [hd, show k + (i - k) = i by omega] at this; exact this⟩

theorem opensAt_no {p : List UInt8} {i : Nat} (h : occAt p kB i = false) : opensAt p i = none := by unfold opensAt; rw [h]; rfl
theorem opensAt_sl {p : List UInt8} {i : Nat} (h : slB (nI p) i = false) : opensAt p i = none := by unfold opensAt; rw [h, Bool.and_false]; rfl

theorem cells_drop {w : World} {b o n k : Nat} {p : List UInt8} (hc : ∀ i, i < n → w.cell? ⟨b, o + i, none⟩ = some (.int .u8 ((nI p).getD i 0))) :
    ∀ i, i < n - k → w.cell? ((⟨b, o + k, none⟩ : Addr).add i) = some (.int .u8 ((nI (p.drop k)).getD i 0)) := by
  intro i hi
  rw [Addr.add_lit, Nat.add_assoc, hc (k + i) (by omega), nI_drop, Lib.getD_drop]

theorem ascii3 : ∀ (j : Nat) b, (⟨#[32, 9, 13]⟩ : ByteArray).data.toList[j]? = some b → b.toNat < 128 := by
  intro j b hb
  have := List.mem_of_getElem? hb
  simp at this
  rcases this with rfl | rfl | rfl <;> decide

/-- bytes.Index(part[k:], []byte(keyBegin)). -/
theorem call_index_kB (b o n c k : Nat) (p : List UInt8) (m : Int) (w : World) (hp : p.length = n) (hnc : n ≤ c) (hn : n ≤ 2097152)
    (hc : ∀ i, i < n → w.cell? ⟨b, o + i, none⟩ = some (.int .u8 ((nI p).getD i 0))) (hm : w.cell? ⟨0, 0, none⟩ = some (.int .i64 m)) (hk : k < n) :
    Calls Tryd.prog 32 #[.slice (some ⟨b, o + k, none⟩) (n - k) (c - k), .slice (some ⟨w.heap.size, 0, none⟩) 11 11]
      (w.alloc (.cells #[.int .u8 45, .int .u8 45, .int .u8 45, .int .u8 45, .int .u8 45, .int .u8 66, .int .u8 69, .int .u8 71, .int .u8 73, .int .u8 78, .int .u8 32] 5 (11, 12)))
      fun e w' => e = .returned (.int .i64 (index (p.drop k) kB)) ∧ Below w.heap.size w w' := by
  have hb : Below w.heap.size w (w.alloc (.cells #[.int .u8 45, .int .u8 45, .int .u8 45, .int .u8 45, .int .u8 45, .int .u8 66, .int .u8 69, .int .u8 71, .int .u8 73, .int .u8 78, .int .u8 32] 5 (11, 12))) := (Below.refl _ _).alloc (Nat.le_refl _) _
  obtain ⟨b2, o2, e2, hc2⟩ := bytesIn_const w kB (11, 12) (by decide)
  obtain ⟨rfl, rfl⟩ : w.heap.size = b2 ∧ 0 = o2 := by simpa using e2
  refine (Tryd.bytes_Index_at ⟨b, o + k, none⟩ ⟨w.heap.size, 0, none⟩ (n - k) (c - k) 11 11 (nI (p.drop k)) (nI kB) m _ (by rw [nI_length, List.length_drop, hp]) rfl (nI_range _) (nI_range _)
    (cells_drop (w := w.alloc (.cells #[.int .u8 45, .int .u8 45, .int .u8 45, .int .u8 45, .int .u8 45, .int .u8 66, .int .u8 69, .int .u8 71, .int .u8 73, .int .u8 78, .int .u8 32] 5 (11, 12))) (n := n) fun i hi => (hb.cell (World.block_lt_of_cell? w _ (hc i hi))).trans (hc i hi))
    (fun i hi => by rw [Addr.add_lit]; exact hc2 i hi) (by omega) (by omega) (by omega) ((hb.cell (World.block_lt_of_cell? w _ hm)).trans hm)).mono ?_
  rintro e w' ⟨rfl, q, rfl⟩
  rw [bytesOf_nI, bytesOf_nI]
  exact ⟨rfl, below_drewN hb q⟩

/-- bytes.IndexByte(part[i:], newline). -/
theorem call_indexByte (b o n c k : Nat) (p : List UInt8) (w : World) (hp : p.length = n)
    (hc : ∀ i, i < n → w.cell? ⟨b, o + i, none⟩ = some (.int .u8 ((nI p).getD i 0))) :
    Calls Tryd.prog 34 #[.slice (some ⟨b, o + k, none⟩) (n - k) (c - k), .int .u8 10] w fun e w' => e = .returned (.int .i64 (indexByte (p.drop k) 10)) ∧ w' = w := by
  have := Tryd.bytes_IndexByte_at ⟨b, o + k, none⟩ (n - k) (c - k) (nI (p.drop k)) 10 w (by rw [nI_length, List.length_drop, hp]) (cells_drop hc)
  rw [bytesOf_nI] at this
  exact this

/-- bytes.TrimRight(line, blanks). -/
theorem call_trimRight (q : Option Addr) (n c : Nat) (l : List UInt8) (w : World) (hl : l.length = n) (hnc : n ≤ c) (hc : c ≤ 9223372036854775807) (h : Lib.BytesIn w q n (nI l)) :
    Calls Tryd.prog 36 #[.slice q n c, .string ⟨#[32, 9, 13]⟩] w fun e w' => e = .returned (.slice q (trimRightS l blanks3).length c) ∧ Below w.heap.size w w' := by
  have := Any.bytes_TrimRight_laid Tryd.laysTrimRight (by kernel_rfl) q n c (nI l) ⟨#[32, 9, 13]⟩ w (by rw [nI_length]; exact hl) hnc hc h (nI_range _) (by decide) ascii3
  rw [bytesOf_nI] at this
  exact this

/-- bytes.CutSuffix(line, []byte of five hyphens). -/
theorem call_cutSuffix (q : Option Addr) (n c : Nat) (l : List UInt8) (w : World) (hl : l.length = n) (hnc : n ≤ c) (hn : n ≤ 2097152) (h : Lib.BytesIn w q n (nI l)) :
    Calls Tryd.prog 35 #[.slice q n c, .slice (some ⟨w.heap.size, 0, none⟩) 5 5] (w.alloc (.cells #[.int .u8 45, .int .u8 45, .int .u8 45, .int .u8 45, .int .u8 45] 5 (5, 6)))
      fun e w' => e = .returned (.tuple #[.slice q (trimSuffix l d5).length c, .bool (hasSuffix l d5)]) ∧ Below w.heap.size w w' := by
  have := Tryd.bytes_CutSuffix_all q (some ⟨w.heap.size, 0, none⟩) n c 5 5 (nI l) (nI d5) (w.alloc (.cells #[.int .u8 45, .int .u8 45, .int .u8 45, .int .u8 45, .int .u8 45] 5 (5, 6)))
    (by rw [nI_length]; exact hl) rfl hnc (by omega) (bytesIn_alloc h _) (bytesIn_const w d5 (5, 6))
  rw [trimSuffixV_val hl h, bytesOf_nI, bytesOf_nI] at this
  refine this.mono ?_
  rintro e w' ⟨rfl, rfl⟩
  exact ⟨rfl, (Below.refl _ _).alloc (Nat.le_refl _) _⟩

theorem trimPrefixV_val {w : World} {q : Option Addr} {n c : Nat} {l : List UInt8} (hl : l.length = n) (hnc : n ≤ c) (h : Lib.BytesIn w q n (nI l)) (k : List UInt8) :
    BytesV w (Lib.trimPrefixV q n c (nI l) (nI k)) (trimPrefix l k) := by
  rw [trimPrefixV_eq (by rw [nI_length]; exact hl) h, bytesOf_nI, bytesOf_nI]
  unfold trimPrefix
  split
  · rename_i hpre
    have hle := Lib.hasPrefix_le hpre
    unfold Lib.fromV
    refine ⟨_, c - k.length, by rw [nI_length, List.length_drop, hl], by rw [List.length_drop]; omega, ?_⟩
    intro h0
    rw [List.length_drop] at h0
    obtain ⟨b, o, rfl, hc⟩ := h (by omega)
    refine ⟨b, o + k.length, by rw [if_neg (by omega)]; simp [Addr.add_lit], fun i hi => ?_⟩
    rw [List.length_drop] at hi
    rw [Nat.add_assoc, hc (k.length + i) (by omega), nI_drop, Lib.getD_drop]
  · exact ⟨q, c, by rw [hl], by omega, by rw [hl]; exact h⟩

/-- bytes.TrimPrefix(label, []byte(keyBegin)). -/
theorem call_trimPrefix (q : Option Addr) (n c : Nat) (l : List UInt8) (w : World) (hl : l.length = n) (hnc : n ≤ c) (h : Lib.BytesIn w q n (nI l)) :
    Calls Tryd.prog 37 #[.slice q n c, .slice (some ⟨w.heap.size, 0, none⟩) 11 11]
      (w.alloc (.cells #[.int .u8 45, .int .u8 45, .int .u8 45, .int .u8 45, .int .u8 45, .int .u8 66, .int .u8 69, .int .u8 71, .int .u8 73, .int .u8 78, .int .u8 32] 5 (11, 12)))
      fun e w' => ∃ q' c', e = .returned (.slice q' (trimPrefix l kB).length c') ∧ (trimPrefix l kB).length ≤ c' ∧ Lib.BytesIn w' q' (trimPrefix l kB).length (nI (trimPrefix l kB)) ∧ Below w.heap.size w w' := by
  have := Tryd.bytes_TrimPrefix_all q (some ⟨w.heap.size, 0, none⟩) n c 11 11 (nI l) (nI kB) (w.alloc (.cells #[.int .u8 45, .int .u8 45, .int .u8 45, .int .u8 45, .int .u8 45, .int .u8 66, .int .u8 69, .int .u8 71, .int .u8 73, .int .u8 78, .int .u8 32] 5 (11, 12)))
    (by rw [nI_length]; exact hl) rfl hnc (bytesIn_alloc h _) (bytesIn_const w kB (11, 12))
  refine this.mono ?_
  rintro e w' ⟨rfl, rfl⟩
  obtain ⟨q', c', hv, hle, hin⟩ := trimPrefixV_val hl hnc (bytesIn_alloc h _) kB
  exact ⟨q', c', by rw [hv], hle, hin, (Below.refl _ _).alloc (Nat.le_refl _) _⟩

/-- What 'opensAt' says at a place where the search and startsLine say yes. -/
theorem opens_char {p : List UInt8} {i : Nat} (ho : occAt p kB i = true) (hs : slB (nI p) i = true) {t : List UInt8} (ht : t = trimRightS (lineOf (p.drop i)) blanks3) :
    opensAt p i = if hasSuffix t d5 then (if labelB (trimPrefix (trimSuffix t d5) kB) then some (trimPrefix (trimSuffix t d5) kB) else none) else none := by
  unfold opensAt
  rw [ho, hs, ← ht]
  by_cases h : hasSuffix t d5 = true
  · have e : trimSuffix t d5 = t.take (t.length - 5) := by unfold trimSuffix; rw [if_pos h]; rfl
    rw [e]
    rfl
  · simp only [h]
    rfl

/-- The line as a piece of what is left of the text. -/
theorem line_take (q : List UInt8) : (indexByte q 10 = -1 ∧ lineOf q = q) ∨ ∃ L : Nat, L ≤ q.length ∧ indexByte q 10 = L ∧ lineOf q = q.take L := by
  have hge := indexByte_ge q 10
  by_cases h : indexByte q 10 = -1
  · left
    exact ⟨h, by unfold lineOf; rw [h]; rfl⟩
  · right
    have h0 : 0 ≤ indexByte q 10 := by omega
    obtain ⟨L, hL⟩ := Int.eq_ofNat_of_zero_le h0
    have := (indexByte_some hL).1
    refine ⟨L, ?_, hL, ?_⟩
    · rcases Nat.lt_or_ge L q.length with h | h
      · exact Nat.le_of_lt h
      · rw [List.getElem?_eq_none h] at this; cases this
    · unfold lineOf
      rw [hL, if_neg (by omega)]
      rfl

theorem trimRightS_prefix (l cs : List UInt8) : trimRightS l cs = l.take (trimRightS l cs).length := Lib.trimRightS_eq_take l cs
theorem trimRightS_le (l cs : List UInt8) : (trimRightS l cs).length ≤ l.length := Lib.trimRightS_len_le l cs

theorem bytesIn_drop {w : World} {b o n i : Nat} {p : List UInt8} (hp : p.length = n) (hc : ∀ i, i < n → w.cell? ⟨b, o + i, none⟩ = some (.int .u8 ((nI p).getD i 0))) :
    Lib.BytesIn w (some ⟨b, o + i, none⟩) (n - i) (nI (p.drop i)) := by
  have _ := hp
  exact fun _ => ⟨b, o + i, rfl, fun j hj => by have := cells_drop (k := i) hc j hj; rw [Addr.add_lit] at this; exact this⟩

theorem bytesIn_trimRight {w : World} {q : Option Addr} {n : Nat} {l : List UInt8} (hl : l.length = n) (h : Lib.BytesIn w q n (nI l)) (cs : List UInt8) :
    Lib.BytesIn w q (trimRightS l cs).length (nI (trimRightS l cs)) := by
  have e := trimRightS_prefix l cs
  have hle := trimRightS_le l cs
  have := bytesIn_take (m := (trimRightS l cs).length) h (by omega)
  rw [← e] at this
  exact this

/-- What keyOpening(part, f) hands back. -/
def OpenPost (f : Nat) (p : List UInt8) (w : World) (e : Ending) (w' : World) : Prop := Below w.heap.size w w' ∧
  ((e = .returned (.tuple #[.int .i64 (-1), .int .i64 0, .slice none 0 0]) ∧ ∀ i, f ≤ i → opensAt p i = none) ∨
   ∃ i lab g cap, f ≤ i ∧ (∀ j, f ≤ j → j < i → opensAt p j = none) ∧ opensAt p i = some lab ∧
    e = .returned (.tuple #[.int .i64 i, .int .i64 ((i + (lineOf (p.drop i)).length : Nat) : Int), .slice (some ⟨g, 0, none⟩) (kE ++ lab ++ d5).length cap]) ∧
    (kE ++ lab ++ d5).length ≤ cap ∧ w.heap.size ≤ g ∧ Lib.BytesIn w' (some ⟨g, 0, none⟩) (kE ++ lab ++ d5).length (nI (kE ++ lab ++ d5)))

theorem data_append (a b : ByteArray) : (a ++ b).data.toList = a.data.toList ++ b.data.toList := by
  rw [ByteArray.data_append, Array.toList_append]

theorem open_close {w w6 : World} {f i : Nat} {p lab : List UInt8} {S : ByteArray} {cap : Nat} {fr : Nat × Nat} {x : Int} (hbl : Below w.heap.size w w6) (hfi : f ≤ i) (hno : ∀ j, f ≤ j → j < i → opensAt p j = none)
    (hos : opensAt p i = some lab) (hS : S = strOfNums (nI lab)) (hcap : 9 + S.size + 5 ≤ cap) (hx : x = ((i + (lineOf (p.drop i)).length : Nat) : Int)) :
    OpenPost f p w (.returned (.tuple #[.int .i64 i, .int .i64 x, .slice (some ⟨w6.heap.size, 0, none⟩) (9 + S.size + 5) cap]))
      (w6.alloc (.cells (bytesRow (⟨#[45, 45, 45, 45, 45, 69, 78, 68, 32]⟩ ++ S ++ ⟨#[45, 45, 45, 45, 45]⟩) cap) 5 fr)).drew.drew := by
  have hSs : S.size = lab.length := by rw [Lib.size_eq, ← Lib.toList_data, hS, strOfNums_nI]
  have hlen : (kE ++ lab ++ d5).length = 9 + S.size + 5 := by rw [hSs]; simp [kE, d5]; omega
  have hdat : (⟨#[45, 45, 45, 45, 45, 69, 78, 68, 32]⟩ ++ S ++ ⟨#[45, 45, 45, 45, 45]⟩ : ByteArray).data.toList = kE ++ lab ++ d5 := by
    rw [data_append, data_append, ← Lib.toList_data S, hS, strOfNums_nI]
    rfl
  refine ⟨((hbl.alloc hbl.size _).drew).drew, .inr ⟨i, lab, w6.heap.size, cap, hfi, hno, hos, ?_, by omega, hbl.size, ?_⟩⟩
  · rw [hlen, hx]
  · intro _
    refine ⟨_, _, rfl, fun j hj => ?_⟩
    generalize hT : (⟨#[45, 45, 45, 45, 45, 69, 78, 68, 32]⟩ ++ S ++ ⟨#[45, 45, 45, 45, 45]⟩ : ByteArray) = T at hdat ⊢
    have hj' : j < T.data.size := by rw [← Array.length_toList, hdat]; exact hj
    show (w6.alloc (.cells (bytesRow T cap) 5 fr)).cell? ⟨w6.heap.size, 0 + j, none⟩ = _
    rw [Nat.zero_add, World.cell?_alloc_mark, bytesRow_at T cap j hj', nI_getD, ← hdat, List.getD_eq_getElem?_getD, Array.getElem?_toList, Array.getElem?_eq_getElem hj']
    rfl

end Go.Proofs.Qxb6616246aDoor
