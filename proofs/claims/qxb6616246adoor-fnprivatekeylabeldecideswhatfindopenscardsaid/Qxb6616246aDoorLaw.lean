/-
  Seat b6616246aD: the law's own walk.
-/
import Derived.Test.Qxb6616246aDoorOn
import Derived.Laws.CopyOwn
namespace Go.Proofs.Qxb6616246aDoor
open Go.RowKit Go.Lib

theorem sI_spk : sI ⟨#[32, 80, 82, 73, 86, 65, 84, 69, 32, 75, 69, 89]⟩ = nI kSPK := rfl

theorem neq_nil (W : World) (a : Option Addr) (l c : Nat) : (binOp .neq 22 (.slice a l c) (.slice none 0 0)).run Tryd.prog W = .ok (.bool (!a.isNone)) W :=
  run_neq_slice_nil_any (P := Tryd.prog) W 22 5 a l c 0 0 Tryd.underlying22

theorem hasNewline_in (q : Option Addr) (n c : Nat) (l : List UInt8) (w : World) (hl : l.length = n) (hn : n ≤ 1048576) (h : Lib.BytesIn w q n (nI l)) :
    Calls Tryd.prog 13 #[.slice q n c] w fun e w' => e = .returned (.bool (hasNL (nI l))) ∧ w' = w := by
  rcases Nat.eq_zero_or_pos n with h0 | h0
  · subst h0
    obtain rfl : l = [] := List.eq_nil_of_length_eq_zero hl
    exact hasNewline_nil q c w
  · obtain ⟨b, o, rfl, hc⟩ := h h0
    exact hasNewline_at b o n c (nI l) w (by rw [nI_length]; exact hl) hn hc

theorem hasNL_nI (l : List UInt8) (h : hasNL (nI l) = false) : (10 : UInt8) ∉ l := by
  intro hm
  have : hasNL (nI l) = true := by
    rw [hasNL_iff]
    exact List.mem_map.2 ⟨10, hm, rfl⟩
  rw [h] at this
  cases this

theorem law_long (q : Option Addr) (n c : Nat) (w : World) (hn : 1048576 < n) :
    Calls Tryd.prog 4 #[.slice q n c] w fun e w' => e = .returned (.bool true) ∧ w' = w := by
  have hz := hid (zzBytes_no q n c w hn)
  go_enter Tryd.func4, Tryd.ntmps4
  go_wp2_with fail
  refine hz.out.mono ?_
  rintro e w' ⟨rfl, rfl⟩
  go_wp2_with fail
  go_ret
  exact ⟨rfl, rfl⟩

theorem law_mid (q : Option Addr) (n c : Nat) (w : World) (hn : n ≤ 1048576) (hn2 : 262144 < n) :
    Calls Tryd.prog 4 #[.slice q n c] w fun e w' => e = .returned (.bool true) ∧ w' = w := by
  have hz := hid (zzBytes_yes q n c w hn)
  go_enter Tryd.func4, Tryd.ntmps4
  go_wp2_with fail
  refine hz.out.mono ?_
  rintro e w' ⟨rfl, rfl⟩
  go_wp2_with fail
  go_ret
  exact ⟨rfl, rfl⟩

theorem law_newline (q : Option Addr) (n c : Nat) (l : List UInt8) (w : World) (hl : l.length = n) (hn : n ≤ 262144) (h : Lib.BytesIn w q n (nI l)) (hnl : hasNL (nI l) = true) :
    Calls Tryd.prog 4 #[.slice q n c] w fun e w' => e = .returned (.bool true) ∧ w' = w := by
  have hz := hid (zzBytes_yes q n c w (by omega))
  have hb := hasNewline_in q n c l w hl (by omega) h
  rw [hnl] at hb
  have HB := hid hb
  clear hb h hl hnl
  go_enter Tryd.func4, Tryd.ntmps4
  go_wp2_with fail
  refine hz.out.mono ?_
  rintro e w' ⟨rfl, rfl⟩
  go_wp2_with fail
  refine HB.out.mono ?_
  rintro e w' ⟨rfl, rfl⟩
  go_wp2_with fail
  go_ret
  exact ⟨rfl, rfl⟩

set_option maxHeartbeats 2000000 in
theorem law_nil (l : List UInt8) (m : Int) (w : World) (hl : l.length = 0) (hm : w.cell? ⟨0, 0, none⟩ = some (.int .i64 m)) :
    Calls Tryd.prog 4 #[.slice none 0 0] w fun e w' => e = .returned (.bool true) ∧ Below w.heap.size w w' := by
  have HL := hid hl
  have HT : Hid ((10 : UInt8) ∉ l) := by rw [List.eq_nil_of_length_eq_zero hl]; simp [Hid]
  have HM := hid hm
  have hz := zzBytes_yes none 0 0 w (by omega)
  have hb := hasNewline_in none 0 0 l w hl (by omega) (Lib.BytesIn.nil _ _ _)
  rw [show hasNL (nI l) = false by rw [List.eq_nil_of_length_eq_zero hl]; rfl] at hb
  have hin1 : Lib.BytesIn w none 0 (nI l) := Lib.BytesIn.nil _ _ _
  have HIN1 := hid hin1
  have HZ := hid hz
  have HB := hid hb
  clear hl hm hz hb hin1
  have hneq := neq_nil
  have hw1 : Below w.heap.size w w := Below.refl _ _
  go_enter Tryd.func4, Tryd.ntmps4
  go_wp2_with fail
  refine HZ.out.mono ?_
  rintro e w ⟨rfl, rfl⟩
  go_wp2_with fail
  refine HB.out.mono ?_
  rintro e w ⟨rfl, rfl⟩
  go_wp2_with fail
  have hpk := zzPrivateKeyLabel_in none 0 0 l w HL.out (by omega) (by omega) HIN1.out
  have HPK := hid hpk
  clear hpk
  go_wp2_with fail
  refine HPK.out.mono ?_
  rintro e w2 ⟨rfl, hb2⟩
  have hw2 : Below w.heap.size w w2 := hw1.trans (hb2.mono hw1.size)
  have hin2 : Lib.BytesIn w2 none 0 (nI l) := bytesIn_below HIN1.out hb2 (bytesIn_lt HIN1.out)
  have HIN2 := hid hin2
  have hfp := findOnPair_in none 0 0 l m w2 HL.out (by omega) HT.out hin2 (bcell hw2 HM.out)
  have HFP := hid hfp
  clear hin2 hfp HPK hb2 hw1
  go_wp2_with fail
  refine HFP.out.mono ?_
  rintro e w3 ⟨rfl, hb3⟩
  have hw3 : Below w.heap.size w w3 := hw2.trans (hb3.mono hw2.size)
  have hin3 : Lib.BytesIn w3 none 0 (nI l) := bytesIn_below HIN2.out hb3 (bytesIn_lt HIN2.out)
  have HIN3 := hid hin3
  clear HIN2 hin3 HFP hb3 hw2
  have hab := appendBytes_in w3.heap.size none 0 0 (.slice none 0 0) [] l w3 HL.out (by rw [List.length_nil]; omega) (Nat.le_refl _) HIN3.out (bytesIn_lt HIN3.out) (World.ownsRow_nil _ _ _ _)
  have HAB := hid hab
  clear hab
  cases hlb : labelB l
  all_goals
    go_wp2_with fail
    refine HAB.out.mono ?_
    rintro e w4 ⟨v4, rfl, ho4, hb4⟩
    rw [List.nil_append] at ho4
    have HO4 := hid ho4
    clear ho4
    go_wp2_with fail
    refine (appendString_any w3.heap.size v4 (nI l) _ w4 (by rw [nI_length, HL.out]; show 0 + 12 ≤ 4194304; omega) hb4.size HO4.out).mono ?_
    rintro e w5 ⟨v5, rfl, ho5, hb5⟩
    have hw5 : Below w.heap.size w w5 := hw3.trans ((hb4.trans hb5).mono hw3.size)
    rw [sI_spk, ← nI_append] at ho5
    have h105 : (10 : UInt8) ∉ l ++ kSPK := by
      rw [List.mem_append]
      rintro (h | h)
      · exact HT.out h
      · simp [kSPK] at h
    have hl5 : (l ++ kSPK).length = 0 + 12 := by rw [List.length_append, HL.out]; rfl
    have hlb5 := labelB_longer l
    generalize l ++ kSPK = lk at ho5 h105 hl5 hlb5
    obtain ⟨g, cap, hv5, hlc, hcm, hgB, hgs, hcell⟩ := own_cells ho5 (by omega)
    rw [hv5]
    have hin5 : Lib.BytesIn w5 (some ⟨g, 0, none⟩) lk.length (nI lk) := fun _ => ⟨g, 0, rfl, hcell⟩
    have hfp5 := findOnPair_in (some ⟨g, 0, none⟩) lk.length cap lk m w5 rfl (by omega) h105 hin5 (bcell hw5 HM.out)
    rw [hlb5] at hfp5
    have HFP5 := hid hfp5
    have HIN5 := hid hin5
    have HL5 := hid hl5
    have HLB5 := hid hlb5
    clear hfp5 hin5 hcell ho5 hv5 hb4 hb5 HO4 hl5 h105 hlb5
    go_wp2_with fail
    refine HFP5.out.mono ?_
    rintro e w6 ⟨rfl, hb6⟩
    have hw6 : Below w.heap.size w w6 := hw5.trans (hb6.mono hw5.size)
    have hin6 : Lib.BytesIn w6 (some ⟨g, 0, none⟩) lk.length (nI lk) := bytesIn_below HIN5.out hb6 (bytesIn_lt HIN5.out)
    have hpk6 := zzPrivateKeyLabel_in (some ⟨g, 0, none⟩) lk.length cap lk w6 rfl hlc (by have := HL5.out; omega) hin6
    rw [HLB5.out] at hpk6
    have HPK6 := hid hpk6
    clear hin6 hpk6 hb6 hw5 HFP5
    go_wp2_with fail
    refine HPK6.out.mono ?_
    rintro e w7 ⟨rfl, hb7⟩
    go_wp2_with fail
    go_ret
    exact ⟨rfl, hw6.trans (hb7.mono hw6.size)⟩

set_option maxHeartbeats 2000000 in
theorem law_own (a : Addr) (n c : Nat) (l : List UInt8) (m : Int) (w : World) (hl : l.length = n) (hn : n ≤ 262144) (h : Lib.BytesIn w (some a) n (nI l)) (hnl : hasNL (nI l) = false) (hm : w.cell? ⟨0, 0, none⟩ = some (.int .i64 m)) :
    Calls Tryd.prog 4 #[.slice (some a) n c] w fun e w' => e = .returned (.bool true) ∧ Below w.heap.size w w' := by
  obtain ⟨i0, hi, hz0, hz1, hz2⟩ := info_parts Tryd.info5
  have HL := hid hl
  have HT := hid (hasNL_nI l hnl)
  have HM := hid hm
  have hz := hid (zzBytes_yes (some a) n c w (by omega))
  have hb := hasNewline_in (some a) n c l w hl (by omega) h
  rw [hnl] at hb
  have HB := hid hb
  have HIN := hid h
  have hneq := neq_nil
  clear hb h hl hnl hm
  go_enter Tryd.func4, Tryd.ntmps4
  go_wp2_with fail
  refine hz.out.mono ?_
  rintro e w ⟨rfl, rfl⟩
  go_wp2_with fail
  refine HB.out.mono ?_
  rintro e w ⟨rfl, rfl⟩
  go_wp2_with (at_make; refine wpList_make_full _ rfl _ _ 22 rfl w.heap.size 5 i0 (.int .u8 0) 1 Tryd.underlying22 hi hz0 hz1 _ _ _ _ n rfl rfl rfl rfl ?b2 ?b3 ?b4 ?_)
  case b2 => rw [hz2]; omega
  case b3 => unfold maxLen; omega
  case b4 => exact Nat.le_refl _
  intro w1 hown1 hgr1
  have hb1 : Below w.heap.size w w1 := (Below.refl _ w).grown hgr1 (Nat.le_refl _) (fun k hk => by cases hk)
  obtain ⟨cur, hg1, hcs⟩ : ∃ cur : Array Value, w1.heap[w.heap.size]? = some (.cells cur 5 (0, 0)) ∧ cur.size = n := by
    rcases hown1.2 with ⟨h, _⟩ | ⟨g, cap, cur, hv, _, hg, _, _, hsz, _⟩
    · cases h
    · simp only [Value.slice.injEq, Option.some.injEq, Addr.mk.injEq] at hv
      obtain ⟨⟨rfl, _⟩, _, rfl⟩ := hv
      exact ⟨cur, hg, by omega⟩
  have HG1 := hid hg1
  have HCS := hid hcs
  clear hown1 hgr1 hg1 hcs hi hz0 hz1 hz2
  go_wp2_with (refine wpList_copy_splice rfl _ _ 22 22 rfl 5 Tryd.underlying22 (by kernel_rfl) _ _ _ _ _ _ rfl rfl w.heap.size 0 cur.toList 5 (by rw [Array.toArray_toList]; exact HG1.out) ((nI l).map (Value.int .u8)) ?c1 ?c2 ?c3 (ints_oneCell _ _) w.heap.size w hb1 (Nat.le_refl _) ?_)
  case c1 => rw [List.length_map, nI_length, HL.out]; exact (Nat.min_self n).symm
  case c2 =>
    intro hpos
    rw [nI_length, HL.out] at hpos
    obtain ⟨b, o, hab, hcell⟩ := HIN.out hpos
    intro j v hj
    have hab' : a = ⟨b, o, none⟩ := Option.some.inj hab
    rw [hab', Addr.add_lit]
    have hj' : j < (nI l).length := (List.getElem?_eq_some_iff.1 hj).1
    have hjn : j < n := by rw [nI_length, HL.out] at hj'; exact hj'
    rw [bcell hb1 (hcell j hjn)]
    simp only [List.getD, hj, Option.getD_some]
  case c3 => rw [List.length_map, nI_length, HL.out, Array.length_toList, HCS.out]; omega
  intro w1' hrow hb1'
  have hin1 : Lib.BytesIn w1' (some ⟨w.heap.size, 0, none⟩) n (nI l) := fun _ => ⟨_, _, rfl, fun i hi => by
    have hlen : (nI l).length = n := by rw [nI_length, HL.out]
    have hsp : splice cur.toList 0 ((nI l).map (Value.int .u8)) = (nI l).map (Value.int .u8) := by
      simp only [splice, List.take_zero, List.nil_append, Nat.zero_add]
      rw [List.drop_of_length_le (by rw [Array.length_toList, HCS.out, List.length_map, hlen]; exact Nat.le_refl _), List.append_nil]
    have hr := hrow.out
    rw [hsp] at hr
    rw [Nat.zero_add, cell_of_row _ _ i _ _ _ hr]
    have hi' : i < (nI l).length := by rw [hlen]; exact hi
    simp [List.getD, hi']⟩
  have HIN1 := hid hin1
  clear hin1 hrow hb1 HG1 HCS
  go_wp2_with fail
  have hpk := zzPrivateKeyLabel_in (some ⟨w.heap.size, 0, none⟩) n n l w1' HL.out (by omega) (by omega) HIN1.out
  have HPK := hid hpk
  clear hpk
  go_wp2_with fail
  refine HPK.out.mono ?_
  rintro e w2 ⟨rfl, hb2⟩
  have hw2 : Below w.heap.size w w2 := hb1'.trans (hb2.mono hb1'.size)
  have hin2 : Lib.BytesIn w2 (some ⟨w.heap.size, 0, none⟩) n (nI l) := bytesIn_below HIN1.out hb2 (bytesIn_lt HIN1.out)
  have HIN2 := hid hin2
  have hfp := findOnPair_in (some ⟨w.heap.size, 0, none⟩) n n l m w2 HL.out (by omega) HT.out hin2 (bcell hw2 HM.out)
  have HFP := hid hfp
  clear hin2 hfp HPK hb2 hb1'
  go_wp2_with fail
  refine HFP.out.mono ?_
  rintro e w3 ⟨rfl, hb3⟩
  have hw3 : Below w.heap.size w w3 := hw2.trans (hb3.mono hw2.size)
  have hin3 : Lib.BytesIn w3 (some ⟨w.heap.size, 0, none⟩) n (nI l) := bytesIn_below HIN2.out hb3 (bytesIn_lt HIN2.out)
  have HIN3 := hid hin3
  clear HIN2 hin3 HFP hb3 hw2
  have hab := appendBytes_in w3.heap.size (some ⟨w.heap.size, 0, none⟩) n n (.slice none 0 0) [] l w3 HL.out (by rw [List.length_nil]; omega) (Nat.le_refl _) HIN3.out (bytesIn_lt HIN3.out) (World.ownsRow_nil _ _ _ _)
  have HAB := hid hab
  clear hab
  cases hlb : labelB l
  all_goals
    go_wp2_with fail
    refine HAB.out.mono ?_
    rintro e w4 ⟨v4, rfl, ho4, hb4⟩
    rw [List.nil_append] at ho4
    have HO4 := hid ho4
    clear ho4
    go_wp2_with fail
    refine (appendString_any w3.heap.size v4 (nI l) _ w4 (by rw [nI_length, HL.out]; show n + 12 ≤ 4194304; omega) hb4.size HO4.out).mono ?_
    rintro e w5 ⟨v5, rfl, ho5, hb5⟩
    have hw5 : Below w.heap.size w w5 := hw3.trans ((hb4.trans hb5).mono hw3.size)
    rw [sI_spk, ← nI_append] at ho5
    have h105 : (10 : UInt8) ∉ l ++ kSPK := by
      rw [List.mem_append]
      rintro (h | h)
      · exact HT.out h
      · simp [kSPK] at h
    have hl5 : (l ++ kSPK).length = n + 12 := by rw [List.length_append, HL.out]; rfl
    have hlb5 := labelB_longer l
    generalize l ++ kSPK = lk at ho5 h105 hl5 hlb5
    obtain ⟨g, cap, hv5, hlc, hcm, hgB, hgs, hcell⟩ := own_cells ho5 (by omega)
    rw [hv5]
    have hin5 : Lib.BytesIn w5 (some ⟨g, 0, none⟩) lk.length (nI lk) := fun _ => ⟨g, 0, rfl, hcell⟩
    have hfp5 := findOnPair_in (some ⟨g, 0, none⟩) lk.length cap lk m w5 rfl (by omega) h105 hin5 (bcell hw5 HM.out)
    rw [hlb5] at hfp5
    have HFP5 := hid hfp5
    have HIN5 := hid hin5
    have HL5 := hid hl5
    have HLB5 := hid hlb5
    clear hfp5 hin5 hcell ho5 hv5 hb4 hb5 HO4 hl5 h105 hlb5
    go_wp2_with fail
    refine HFP5.out.mono ?_
    rintro e w6 ⟨rfl, hb6⟩
    have hw6 : Below w.heap.size w w6 := hw5.trans (hb6.mono hw5.size)
    have hin6 : Lib.BytesIn w6 (some ⟨g, 0, none⟩) lk.length (nI lk) := bytesIn_below HIN5.out hb6 (bytesIn_lt HIN5.out)
    have hpk6 := zzPrivateKeyLabel_in (some ⟨g, 0, none⟩) lk.length cap lk w6 rfl hlc (by have := HL5.out; omega) hin6
    rw [HLB5.out] at hpk6
    have HPK6 := hid hpk6
    clear hin6 hpk6 hb6 hw5 HFP5
    go_wp2_with fail
    refine HPK6.out.mono ?_
    rintro e w7 ⟨rfl, hb7⟩
    go_wp2_with fail
    go_ret
    exact ⟨rfl, hw6.trans (hb7.mono hw6.size)⟩


end Go.Proofs.Qxb6616246aDoor
