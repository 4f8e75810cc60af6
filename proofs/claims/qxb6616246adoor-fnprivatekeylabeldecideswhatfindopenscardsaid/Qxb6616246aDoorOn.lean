/-
  Seat b6616246aD: findOnPair.
-/
import Derived.Test.Qxb6616246aDoorPair
namespace Go.Proofs.Qxb6616246aDoor
open Go.RowKit Go.Lib

/-- appendBytes(out, b), b however it lies. -/
theorem appendBytes_in (B : Nat) (q : Option Addr) (n c : Nat) (v : Value) (xs : List Int) (l : List UInt8) (w : World) (hl : l.length = n) (hn : xs.length + n ≤ 4194304) (hB : B ≤ w.heap.size)
    (h : Lib.BytesIn w q n (nI l)) (hq : ∀ b o, q = some ⟨b, o, none⟩ → 0 < n → b < B) (hown : Own B w v xs) :
    Calls Tryd.prog 17 #[v, .slice q n c] w fun e w' => ∃ v', e = .returned v' ∧ Own B w' v' (xs ++ nI l) ∧ Below B w w' := by
  rcases Nat.eq_zero_or_pos n with h0 | h0
  · subst h0
    obtain rfl : l = [] := List.eq_nil_of_length_eq_zero hl
    exact appendBytes_nil B q c v xs w hown
  · obtain ⟨b, o, rfl, hc⟩ := h h0
    exact appendBytes_at B b o n c v xs (nI l) w (by rw [nI_length]; exact hl) hn (hq b o rfl h0) hB hc hown

theorem sI_begin : sI ⟨#[45, 45, 45, 45, 45, 66, 69, 71, 73, 78, 32]⟩ = nI kB := rfl
theorem sI_mid : sI ⟨#[45, 45, 45, 45, 45, 10, 45, 45, 45, 45, 45, 69, 78, 68, 32]⟩ = nI (d5 ++ 10 :: kE) := rfl
theorem sI_end : sI ⟨#[45, 45, 45, 45, 45, 10]⟩ = nI (d5 ++ [10]) := rfl

/-- A slice of the call's own, its cells. -/
theorem own_cells {B : Nat} {w : World} {v : Value} {l : List UInt8} (h : Own B w v (nI l)) (h0 : 0 < l.length) :
    ∃ g cap, v = .slice (some ⟨g, 0, none⟩) l.length cap ∧ l.length ≤ cap ∧ cap ≤ 9223372036854775807 ∧ B ≤ g ∧ g < w.heap.size ∧ ∀ i, i < l.length → w.cell? ⟨g, 0 + i, none⟩ = some (.int .u8 ((nI l).getD i 0)) := by
  rcases h.2 with ⟨_, hz⟩ | ⟨g, cap, cur, hv, hB, hg, hle, hmax, hsz, htk⟩
  · rw [nI_length] at hz; omega
  · rw [nI_length] at hv hle htk
    refine ⟨g, cap, hv, hle, hmax, hB, (Array.getElem?_eq_some_iff.1 hg).1, fun i hi => ?_⟩
    rw [Nat.zero_add, cell_of_row w g i cur 5 (0, 0) hg]
    have e := congrArg (fun l : List Value => l[i]?) htk
    simp only [Nat.mul_one, List.getElem?_take, hi, if_true] at e
    rw [← Array.getElem?_toList, e, List.getElem?_map]
    have : i < (nI l).length := by rw [nI_length]; exact hi
    simp [List.getD, this]

set_option maxHeartbeats 1000000 in
theorem findOnPair_in (q : Option Addr) (n c : Nat) (l : List UInt8) (m : Int) (w : World) (hl : l.length = n) (hn : n ≤ 524288) (h10 : (10 : UInt8) ∉ l)
    (h : Lib.BytesIn w q n (nI l)) (hm : w.cell? ⟨0, 0, none⟩ = some (.int .i64 m)) :
    Calls Tryd.prog 15 #[.slice q n c] w fun e w' => e = .returned (.tuple #[.bool (labelB l), .bool (!labelB l)]) ∧ Below w.heap.size w w' := by
  obtain ⟨i0, hi, hz0, hz1, hz2⟩ := info_parts Tryd.info5
  have HB := hid h
  have HM := hid hm
  have HL := hid hl
  have HT := hid h10
  clear h hm hl h10
  go_enter Tryd.func15, Tryd.ntmps15
  go_wp2_with (at_make; refine wpList_make_own _ rfl _ _ 22 rfl w.heap.size 5 i0 (.int .u8 0) 1 Tryd.underlying22 hi hz0 hz1 _ _ _ (2 * n + 32) rfl rfl (by omega) ?b2 ?b3 ?b4 ?_)
  case b2 => rw [hz2]; omega
  case b3 => unfold maxLen; omega
  case b4 => exact Nat.le_refl _
  intro w1 hown1 hgr1
  have hb1 : Below w.heap.size w w1 := (Below.refl _ w).grown hgr1 (Nat.le_refl _) (fun k hk => by cases hk)
  have ho1 : Own w.heap.size w1 (.slice (some ⟨w.heap.size, 0, none⟩) 0 (2 * n + 32)) [] := hown1
  have HO1 := hid ho1
  clear hown1 hgr1 ho1 hi hz0 hz1 hz2
  go_wp2_with fail
  refine (appendString_any w.heap.size _ [] _ w1 (by simp; decide) hb1.size HO1.out).mono ?_
  rintro e w2 ⟨v2, rfl, ho2, hb2⟩
  have hw2 : Below w.heap.size w w2 := hb1.trans hb2
  rw [List.nil_append, sI_begin] at ho2
  have HO2 := hid ho2
  clear HO1 hb1 hb2 ho2
  go_wp2_with fail
  refine (appendBytes_in w.heap.size q n c v2 (nI kB) l w2 HL.out (by rw [nI_length]; simp [kB]; omega) hw2.size (bytesIn_below HB.out hw2 (bytesIn_lt HB.out)) (bytesIn_lt HB.out) HO2.out).mono ?_
  rintro e w3 ⟨v3, rfl, ho3, hb3⟩
  have hw3 : Below w.heap.size w w3 := hw2.trans hb3
  rw [← nI_append] at ho3
  have HO3 := hid ho3
  clear HO2 hb3 ho3 hw2
  go_wp2_with fail
  refine (appendString_any w.heap.size v3 (nI (kB ++ l)) _ w3 (by rw [nI_length, List.length_append, HL.out]; simp [kB, ByteArray.size]; omega) hw3.size HO3.out).mono ?_
  rintro e w4 ⟨v4, rfl, ho4, hb4⟩
  have hw4 : Below w.heap.size w w4 := hw3.trans hb4
  rw [sI_mid, ← nI_append] at ho4
  have HO4 := hid ho4
  clear HO3 hb4 ho4 hw3
  go_wp2_with fail
  refine (appendBytes_in w.heap.size q n c v4 (nI (kB ++ l ++ (d5 ++ 10 :: kE))) l w4 HL.out (by rw [nI_length]; simp [kB, d5, kE, HL.out]; omega) hw4.size (bytesIn_below HB.out hw4 (bytesIn_lt HB.out)) (bytesIn_lt HB.out) HO4.out).mono ?_
  rintro e w5 ⟨v5, rfl, ho5, hb5⟩
  have hw5 : Below w.heap.size w w5 := hw4.trans hb5
  rw [← nI_append] at ho5
  have HO5 := hid ho5
  clear HO4 hb5 ho5 hw4
  go_wp2_with fail
  refine (appendString_any w.heap.size v5 (nI (kB ++ l ++ (d5 ++ 10 :: kE) ++ l)) _ w5 (by rw [nI_length]; simp [kB, d5, kE, HL.out, ByteArray.size]; omega) hw5.size HO5.out).mono ?_
  rintro e w6 ⟨v6, rfl, ho6, hb6⟩
  have hw6 : Below w.heap.size w w6 := hw5.trans hb6
  rw [sI_end, ← nI_append, show kB ++ l ++ (d5 ++ 10 :: kE) ++ l ++ (d5 ++ [10]) = part l by simp [part, line1, line2]] at ho6
  obtain ⟨g, cap, hv6, hlc, hcm, hgB, hgs, hcell⟩ := own_cells ho6 (by rw [part_length]; omega)
  rw [hv6]
  have HC6 := hid hcell
  clear HO5 hb6 ho6 hw5 hcell hv6
  have hpl := part_length l
  rw [HL.out] at hpl
  rw [hpl] at hlc
  have HPL := hid hpl
  rw [hpl]
  clear hpl
  have hlt0 : 0 < w.heap.size := World.block_lt_of_cell? w _ HM.out
  have hsz6 := hw6.size
  have hb7 : Below w6.heap.size w6 (w6.alloc (.cells #[.slice none 0 0] 25)) := (Below.refl _ _).alloc (Nat.le_refl _) _
  have hc7 : ∀ i, i < 2 * n + 32 → (w6.alloc (.cells #[.slice none 0 0] 25)).cell? ⟨g, 0 + i, none⟩ = some (.int .u8 ((nI (part l)).getD i 0)) := fun i hi =>
    bcell hb7 (HC6.out i (by rw [HPL.out]; exact hi))
  have hm7 : (w6.alloc (.cells #[.slice none 0 0] 25)).cell? ⟨0, 0, none⟩ = some (.int .i64 m) := bcell hb7 (bcell hw6 HM.out)
  have hp7 : (w6.alloc (.cells #[.slice none 0 0] 25)).cell? ⟨w6.heap.size, 0, none⟩ = some (.slice none 0 0) := by
    rw [World.cell?_alloc_at _ _ _ _ rfl]; rfl
  have hf7 : (w6.alloc (.cells #[.slice none 0 0] 25)).frozen? ⟨w6.heap.size, 0, none⟩ = false := World.frozen?_alloc_at _ _ _ _ rfl
  have hnil := eql_nil
  have hbw : Below w.heap.size w (w6.alloc (.cells #[.slice none 0 0] 25)) := hw6.alloc hw6.size _
  cases hlb : labelB l with
  | true =>
    have hl2 : (kE ++ l ++ d5).length = n + 14 := by have := line2_length l; rw [HL.out] at this; exact this
    have hZ := ZZfind_one w6.heap.size g 0 (2 * n + 32) cap (n + 16) (n + 17) (part l) l m (w6.alloc (.cells #[.slice none 0 0] 25)) HPL.out hlc hcm (by omega) hc7 hm7 hp7 hf7 (by omega) (by omega)
      (by rw [opens_zero HT.out, hlb]; rfl) (fun i hi => opens_later HT.out i hi) (by rw [lineOf_part HT.out, line1_length, HL.out]) (by omega) (by rw [hl2]; omega)
      (by have := index_closing l; rw [HL.out] at this; rw [show kE ++ l ++ d5 = line2 l from rfl, this]; omega) (by have := sl_closing l; rw [HL.out] at this; exact this)
      (by have := el_closing l; rw [HL.out] at this; rw [hl2, show n + 17 + (n + 14) = 2 * n + 31 by omega]; exact this)
    have HZ := hid hZ
    have HLB := hid hlb
    have HBW := hid hbw
    clear hZ hc7 hm7 hp7 hf7 hb7 hw6 HC6 hl2 hlb hbw
    go_wp2_with fail
    refine HZ.out.mono ?_
    rintro e w8 ⟨vs, ve, rfl, ⟨gs, qs, rfl, hxs⟩, ⟨ge, qe, rfl, hxe⟩, hpb8, hb8⟩
    have HB8 := hid hb8
    clear hb8 HZ
    go_wp2
    go_ret2
    exact ⟨by rw [HLB.out]; rfl, HBW.out.trans (HB8.out.mono hsz6)⟩
  | false =>
    have hZ := ZZfind_none w6.heap.size g 0 (2 * n + 32) cap (part l) m (w6.alloc (.cells #[.slice none 0 0] 25)) HPL.out hlc hcm (by omega) (by omega) hc7 hm7 hp7 hf7
      (fun i => by
        rcases Nat.eq_zero_or_pos i with h | h
        · subst h; rw [opens_zero HT.out, hlb]; rfl
        · exact opens_later HT.out i h)
    have HZ := hid hZ
    have HLB := hid hlb
    have HBW := hid hbw
    clear hZ hc7 hm7 hp7 hf7 hb7 hw6 HC6 hlb hbw
    go_wp2_with fail
    refine HZ.out.mono ?_
    rintro e w8 ⟨rfl, hpb8, hb8⟩
    have HB8 := hid hb8
    clear hb8 HZ
    go_wp2
    go_ret2
    exact ⟨by rw [HLB.out]; rfl, HBW.out.trans (HB8.out.mono hsz6)⟩

end Go.Proofs.Qxb6616246aDoor
