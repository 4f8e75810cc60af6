/-
  Seat b6616246aD: keyOpening.
-/
import Derived.Test.Qxb6616246aDoorCalls
namespace Go.Proofs.Qxb6616246aDoor
open Go.RowKit Go.Lib

set_option maxHeartbeats 1000000 in
theorem keyOpening_any (b o n c f : Nat) (p : List UInt8) (m : Int) (w : World) (hp : p.length = n) (hnc : n ≤ c) (hcm : c ≤ 9223372036854775807) (hn : n ≤ 2097152) (hf : f ≤ n)
    (hc : ∀ i, i < n → w.cell? ⟨b, o + i, none⟩ = some (.int .u8 ((nI p).getD i 0)))
    (hm : w.cell? ⟨0, 0, none⟩ = some (.int .i64 m)) :
    Calls Tryd.prog 27 #[.slice (some ⟨b, o, none⟩) n c, .int .i64 f] w (OpenPost f p w) := by
  have kc := conv1
  go_enter Tryd.func27, Tryd.ntmps27
  go_wp2
  go_loopw [1] (fun t wr => ∃ k : Nat, f ≤ k ∧ k ≤ n ∧ t = .int .i64 k ∧ (∀ j, f ≤ j → j < k → opensAt p j = none) ∧ Below w.heap.size w wr) (fun t _ => n - (Go.RowKit.intOf t).toNat)
  case atStart => exact ⟨f, Nat.le_refl _, hf, rfl, fun j h1 h2 => by omega, Below.refl _ _⟩
  case round =>
    obtain ⟨k, hfk, hk, rfl, hno, hbl⟩ := hrel
    have HN := hid hno
    have HP := hid hp
    clear hno hp
    by_cases hlt : k < n
    · have hcr : ∀ i, i < n → wr.cell? ⟨b, o + i, none⟩ = some (.int .u8 ((nI p).getD i 0)) := fun i hi =>
        (hbl.cell (World.block_lt_of_cell? w _ (hc i hi))).trans (hc i hi)
      have hmr : wr.cell? ⟨0, 0, none⟩ = some (.int .i64 m) := (hbl.cell (World.block_lt_of_cell? w _ hm)).trans hm
      have hck : ¬ c = k := by omega
      have hidxc := call_index_kB b o n c k p m wr HP.out hnc hn hcr hmr hlt
      have HCR := hid hcr
      clear hc hm hcr hmr
      rcases index_from p kB k (by have := HP.out; omega) (by decide) with ⟨hidx, hnone⟩ | ⟨i, hki, hin, hidx, hocc, hfirst⟩
      · rw [hidx] at hidxc
        have HI := hid hidxc
        have HZ := hid hnone
        clear hidxc hidx hnone
        go_wp2_with fail
        refine HI.out.mono ?_
        rintro e w1 ⟨rfl, hb1⟩
        go_wp2_with fail
        go_ret3
        exact ⟨hbl.trans (hb1.mono hbl.size), .inl ⟨rfl, fun j hj => by
          rcases Nat.lt_or_ge j k with h | h
          · exact HN.out j hj h
          · exact opensAt_no (HZ.out j h)⟩⟩
      · rw [hidx, show ((i - k : Nat) : Int) = (i : Int) - (k : Int) by omega] at hidxc
        have HI := hid hidxc
        have HO := hid hocc
        have HF := hid hfirst
        have hin' : i < n := by have := HP.out; omega
        clear hidxc hidx hocc hfirst hin
        go_wp2_with fail
        refine HI.out.mono ?_
        rintro e w1 ⟨rfl, hb1⟩
        have hbl1 : Below w.heap.size w w1 := hbl.trans (hb1.mono hbl.size)
        have hc1 : ∀ i, i < n → w1.cell? ⟨b, o + i, none⟩ = some (.int .u8 ((nI p).getD i 0)) := fun i hi =>
          (hb1.cell (World.block_lt_of_cell? wr _ (HCR.out i hi))).trans (HCR.out i hi)
        have hsl := startsLine_at b o n c i (nI p) w1 (by rw [nI_length]; exact HP.out) (by omega) (by omega) hc1
        have HC1 := hid hc1
        clear hc1 HCR hb1 hbl HI
        have hnext : slB (nI p) i = false ∨ opensAt p i = none → ∀ j, f ≤ j → j < i + 1 → opensAt p j = none := fun hor j h1 h2 => by
          rcases Nat.lt_or_ge j k with h | h
          · exact HN.out j h1 h
          · rcases Nat.lt_or_ge j i with h' | h'
            · exact opensAt_no (HF.out j h h')
            · obtain rfl : j = i := by omega
              exact hor.elim opensAt_sl fun h => h
        have HX := hid hnext
        have HB4 : Hid (∀ j, f ≤ j → j < i → opensAt p j = none) := fun j h1 h2 => by
          rcases Nat.lt_or_ge j k with h | h
          · exact HN.out j h1 h
          · exact opensAt_no (HF.out j h h2)
        clear hnext
        cases hs : slB (nI p) i with
        | false =>
          rw [hs] at hsl
          have HS := hid hsl
          have HS' := hid hs
          clear hsl hs
          go_wp2_with fail
          refine HS.out.mono ?_
          rintro e w2 ⟨rfl, rfl⟩
          go_wp2_with fail
          go_roundw
          case rel => exact ⟨i + 1, by omega, by omega, by go_num, HX.out (.inl HS'.out), hbl1⟩
          case measure => simp [Go.RowKit.intOf]; omega
        | true =>
          rw [hs] at hsl
          have HS := hid hsl
          have HS' := hid hs
          have hci : ¬ c = i := by omega
          have hib := call_indexByte b o n c i p w1 HP.out HC1.out
          clear hsl hs
          go_wp2_with fail
          refine HS.out.mono ?_
          rintro e w2 ⟨rfl, rfl⟩
          clear HS
          go_wp2_with fail
          rcases line_take (p.drop i) with ⟨hi1, hi2⟩ | ⟨L, hL0, hi1, hi2⟩
          · rw [hi1] at hib
            have HIB := hid hib
            have HLine : Hid (lineOf (p.drop i) = (p.drop i).take (n - i)) := by
              rw [Hid, hi2, List.take_of_length_le (by rw [List.length_drop, HP.out]; exact Nat.le_refl _)]
            have HLL : Hid (n - i ≤ n - i) := Nat.le_refl _
            clear hib hi1 hi2
            refine HIB.out.mono ?_
            rintro e w2 ⟨rfl, rfl⟩
            clear HIB
            have hLle : n - i ≤ n - i := HLL.out
            have hline : (lineOf (p.drop i)).length = n - i := by
              rw [HLine.out, List.length_take, List.length_drop, HP.out, Nat.min_eq_left hLle]
            have hbin : Lib.BytesIn w2 (some ⟨b, o + i, none⟩) (n - i) (nI (lineOf (p.drop i))) := by
              rw [HLine.out]
              exact bytesIn_take (bytesIn_drop HP.out HC1.out) hLle
            have htr := call_trimRight (some ⟨b, o + i, none⟩) (n - i) (c - i) (lineOf (p.drop i)) w2 hline (by omega) (by omega) hbin
            have hbt := bytesIn_trimRight hline hbin blanks3
            obtain ⟨t, ht⟩ : ∃ t, t = trimRightS (lineOf (p.drop i)) blanks3 := ⟨_, rfl⟩
            have hoc := opens_char HO.out HS'.out ht
            have htl : t.length ≤ n - i := by rw [ht, ← hline]; exact trimRightS_le _ _
            rw [← ht] at htr hbt
            have HTR := hid htr
            have HBT := hid hbt
            have HOC := hid hoc
            have HLN := hid hline
            clear ht htr hbt hoc hbin hline
            go_wp2_with fail
            refine HTR.out.mono ?_
            rintro e w3 ⟨rfl, hb3⟩
            have hbl3 : Below w.heap.size w w3 := hbl1.trans (hb3.mono hbl1.size)
            have hbt3 := bytesIn_below HBT.out hb3 (bytesIn_lt HBT.out)
            have hcs := call_cutSuffix (some ⟨b, o + i, none⟩) t.length (c - i) t w3 rfl (by omega) (by omega) hbt3
            have hbc := bytesIn_trimSuffix rfl hbt3 d5
            have hsl0 := Lib.trimSuffix_le t d5
            obtain ⟨l0, hl0⟩ : ∃ l0, l0 = trimSuffix t d5 := ⟨_, rfl⟩
            have HOC2 : Hid (opensAt p i = if hasSuffix t d5 then (if labelB (trimPrefix l0 kB) then some (trimPrefix l0 kB) else none) else none) := by rw [hl0]; exact HOC.out
            rw [← hl0] at hcs hbc hsl0
            have HCS := hid hcs
            have HBC := hid hbc
            clear hl0 hcs hbc hbt3 HTR HBT HOC hb3 hbl1
            go_wp2_with fail
            refine HCS.out.mono ?_
            rintro e w4 ⟨rfl, hb4⟩
            have hbl4 : Below w.heap.size w w4 := hbl3.trans (hb4.mono hbl3.size)
            have hbc4 := bytesIn_below HBC.out hb4 (bytesIn_lt HBC.out)
            have htp := call_trimPrefix (some ⟨b, o + i, none⟩) l0.length (c - i) l0 w4 rfl (by omega) hbc4
            have hpl0 := Lib.trimPrefix_le l0 kB
            obtain ⟨lab, hlab⟩ : ∃ lab, lab = trimPrefix l0 kB := ⟨_, rfl⟩
            rw [← hlab] at htp hpl0
            have HOC3 : Hid (opensAt p i = if hasSuffix t d5 then (if labelB lab then some lab else none) else none) := by rw [hlab]; exact HOC2.out
            have HTP := hid htp
            clear hlab htp hbc4 HCS HBC HOC2 hb4 hbl3
            go_wp2_with fail
            refine HTP.out.mono ?_
            rintro e w5 ⟨q', c', rfl, hlc, hin5, hb5⟩
            have hbl5 : Below w.heap.size w w5 := hbl4.trans (hb5.mono hbl4.size)
            have HIN := hid hin5
            clear hin5 HTP hb5 hbl4
            cases hsuf : hasSuffix t d5 with
            | false =>
              have HON : Hid (opensAt p i = none) := by rw [Hid, HOC3.out, hsuf]; rfl
              go_wp2_with fail
              go_roundw
              case rel => exact ⟨i + 1, by omega, by omega, by go_num, HX.out (.inr HON.out), hbl5⟩
              case measure => simp [Go.RowKit.intOf]; omega
            | true =>
              have hpk := privateKeyLabel_in q' lab.length c' lab w5 rfl hlc (by omega) HIN.out
              cases hlb : labelB lab with
              | false =>
                have HON : Hid (opensAt p i = none) := by rw [Hid, HOC3.out, hsuf, hlb]; rfl
                rw [hlb] at hpk
                have HPK := hid hpk
                clear hpk hlb
                go_wp2_with fail
                refine HPK.out.mono ?_
                rintro e w6 ⟨rfl, hb6⟩
                have hbl6 : Below w.heap.size w w6 := hbl5.trans (hb6.mono hbl5.size)
                go_wp2_with fail
                go_roundw
                case rel => exact ⟨i + 1, by omega, by omega, by go_num, HX.out (.inr HON.out), hbl6⟩
                case measure => simp [Go.RowKit.intOf]; omega
              | true =>
                have HOS : Hid (opensAt p i = some lab) := by rw [Hid, HOC3.out, hsuf, hlb]; rfl
                rw [hlb] at hpk
                have HPK := hid hpk
                clear hpk hlb
                go_wp2_with fail
                refine HPK.out.mono ?_
                rintro e w6 ⟨rfl, hb6⟩
                have hbl6 : Below w.heap.size w w6 := hbl5.trans (hb6.mono hbl5.size)
                have hin6 := bytesIn_below HIN.out hb6 (bytesIn_lt HIN.out)
                have hcv := (show Lib.BytesIn w6.drew q' lab.length (nI lab) from hin6).convert (P := Tryd.prog) (by rw [nI_length]) c' 22 5 9 Tryd.underlying22 Tryd.underlying5 Tryd.underlying9
                obtain ⟨S, hS⟩ : ∃ S, S = strOfNums (nI lab) := ⟨_, rfl⟩
                rw [← hS] at hcv
                have hSs : S.size = lab.length := by rw [Lib.size_eq, ← Lib.toList_data, hS, strOfNums_nI]
                have hq1 : ¬ 9223372036854775807 < 9 + S.size := by omega
                have hq2 : ¬ 9223372036854775807 < 9 + S.size + 5 := by omega
                have HSS := hid hSs
                have HS0 := hid hS
                clear hSs hS
                have hbs := fun (W : World) (s : ByteArray) => run_bytes_of_string (P := Tryd.prog) W 9 22 5 s Tryd.underlying9 Tryd.underlying22 Tryd.underlying5
                clear hin6
                go_wp2_with fail
                go_region
                go_wp2
                go_ret3
                exact open_close hbl6 (by omega) HB4.out HOS.out HS0.out (grownCap_ge _ _ _ _) (by rw [HLN.out]; omega)
          · rw [hi1] at hib
            have HIB := hid hib
            have HLine := hid hi2
            have HLL : Hid (L ≤ n - i) := by rw [Hid]; rw [List.length_drop, HP.out] at hL0; exact hL0
            clear hib hi1 hi2 hL0
            have hLx : L ≤ n - i := HLL.out
            refine HIB.out.mono ?_
            rintro e w2 ⟨rfl, rfl⟩
            clear HIB
            have hLle : L ≤ n - i := HLL.out
            have hline : (lineOf (p.drop i)).length = L := by
              rw [HLine.out, List.length_take, List.length_drop, HP.out, Nat.min_eq_left hLle]
            have hbin : Lib.BytesIn w2 (some ⟨b, o + i, none⟩) (L) (nI (lineOf (p.drop i))) := by
              rw [HLine.out]
              exact bytesIn_take (bytesIn_drop HP.out HC1.out) hLle
            have htr := call_trimRight (some ⟨b, o + i, none⟩) (L) (c - i) (lineOf (p.drop i)) w2 hline (by omega) (by omega) hbin
            have hbt := bytesIn_trimRight hline hbin blanks3
            obtain ⟨t, ht⟩ : ∃ t, t = trimRightS (lineOf (p.drop i)) blanks3 := ⟨_, rfl⟩
            have hoc := opens_char HO.out HS'.out ht
            have htl : t.length ≤ L := by rw [ht, ← hline]; exact trimRightS_le _ _
            rw [← ht] at htr hbt
            have HTR := hid htr
            have HBT := hid hbt
            have HOC := hid hoc
            have HLN := hid hline
            clear ht htr hbt hoc hbin hline
            go_wp2_with fail
            refine HTR.out.mono ?_
            rintro e w3 ⟨rfl, hb3⟩
            have hbl3 : Below w.heap.size w w3 := hbl1.trans (hb3.mono hbl1.size)
            have hbt3 := bytesIn_below HBT.out hb3 (bytesIn_lt HBT.out)
            have hcs := call_cutSuffix (some ⟨b, o + i, none⟩) t.length (c - i) t w3 rfl (by omega) (by omega) hbt3
            have hbc := bytesIn_trimSuffix rfl hbt3 d5
            have hsl0 := Lib.trimSuffix_le t d5
            obtain ⟨l0, hl0⟩ : ∃ l0, l0 = trimSuffix t d5 := ⟨_, rfl⟩
            have HOC2 : Hid (opensAt p i = if hasSuffix t d5 then (if labelB (trimPrefix l0 kB) then some (trimPrefix l0 kB) else none) else none) := by rw [hl0]; exact HOC.out
            rw [← hl0] at hcs hbc hsl0
            have HCS := hid hcs
            have HBC := hid hbc
            clear hl0 hcs hbc hbt3 HTR HBT HOC hb3 hbl1
            go_wp2_with fail
            refine HCS.out.mono ?_
            rintro e w4 ⟨rfl, hb4⟩
            have hbl4 : Below w.heap.size w w4 := hbl3.trans (hb4.mono hbl3.size)
            have hbc4 := bytesIn_below HBC.out hb4 (bytesIn_lt HBC.out)
            have htp := call_trimPrefix (some ⟨b, o + i, none⟩) l0.length (c - i) l0 w4 rfl (by omega) hbc4
            have hpl0 := Lib.trimPrefix_le l0 kB
            obtain ⟨lab, hlab⟩ : ∃ lab, lab = trimPrefix l0 kB := ⟨_, rfl⟩
            rw [← hlab] at htp hpl0
            have HOC3 : Hid (opensAt p i = if hasSuffix t d5 then (if labelB lab then some lab else none) else none) := by rw [hlab]; exact HOC2.out
            have HTP := hid htp
            clear hlab htp hbc4 HCS HBC HOC2 hb4 hbl3
            go_wp2_with fail
            refine HTP.out.mono ?_
            rintro e w5 ⟨q', c', rfl, hlc, hin5, hb5⟩
            have hbl5 : Below w.heap.size w w5 := hbl4.trans (hb5.mono hbl4.size)
            have HIN := hid hin5
            clear hin5 HTP hb5 hbl4
            cases hsuf : hasSuffix t d5 with
            | false =>
              have HON : Hid (opensAt p i = none) := by rw [Hid, HOC3.out, hsuf]; rfl
              go_wp2_with fail
              go_roundw
              case rel => exact ⟨i + 1, by omega, by omega, by go_num, HX.out (.inr HON.out), hbl5⟩
              case measure => simp [Go.RowKit.intOf]; omega
            | true =>
              have hpk := privateKeyLabel_in q' lab.length c' lab w5 rfl hlc (by omega) HIN.out
              cases hlb : labelB lab with
              | false =>
                have HON : Hid (opensAt p i = none) := by rw [Hid, HOC3.out, hsuf, hlb]; rfl
                rw [hlb] at hpk
                have HPK := hid hpk
                clear hpk hlb
                go_wp2_with fail
                refine HPK.out.mono ?_
                rintro e w6 ⟨rfl, hb6⟩
                have hbl6 : Below w.heap.size w w6 := hbl5.trans (hb6.mono hbl5.size)
                go_wp2_with fail
                go_roundw
                case rel => exact ⟨i + 1, by omega, by omega, by go_num, HX.out (.inr HON.out), hbl6⟩
                case measure => simp [Go.RowKit.intOf]; omega
              | true =>
                have HOS : Hid (opensAt p i = some lab) := by rw [Hid, HOC3.out, hsuf, hlb]; rfl
                rw [hlb] at hpk
                have HPK := hid hpk
                clear hpk hlb
                go_wp2_with fail
                refine HPK.out.mono ?_
                rintro e w6 ⟨rfl, hb6⟩
                have hbl6 : Below w.heap.size w w6 := hbl5.trans (hb6.mono hbl5.size)
                have hin6 := bytesIn_below HIN.out hb6 (bytesIn_lt HIN.out)
                have hcv := (show Lib.BytesIn w6.drew q' lab.length (nI lab) from hin6).convert (P := Tryd.prog) (by rw [nI_length]) c' 22 5 9 Tryd.underlying22 Tryd.underlying5 Tryd.underlying9
                obtain ⟨S, hS⟩ : ∃ S, S = strOfNums (nI lab) := ⟨_, rfl⟩
                rw [← hS] at hcv
                have hSs : S.size = lab.length := by rw [Lib.size_eq, ← Lib.toList_data, hS, strOfNums_nI]
                have hq1 : ¬ 9223372036854775807 < 9 + S.size := by omega
                have hq2 : ¬ 9223372036854775807 < 9 + S.size + 5 := by omega
                have HSS := hid hSs
                have HS0 := hid hS
                clear hSs hS
                have hbs := fun (W : World) (s : ByteArray) => run_bytes_of_string (P := Tryd.prog) W 9 22 5 s Tryd.underlying9 Tryd.underlying22 Tryd.underlying5
                clear hin6
                go_wp2_with fail
                go_region
                go_wp2
                go_ret3
                exact open_close hbl6 (by omega) HB4.out HOS.out HS0.out (grownCap_ge _ _ _ _) (by rw [HLN.out]; omega)
    · clear hc hm
      go_wp2_with fail
      go_ret3
      exact ⟨hbl, .inl ⟨rfl, fun j hj => by
          rcases Nat.lt_or_ge j k with h | h
          · exact HN.out j hj h
          · refine opensAt_no ?_
            unfold occAt
            rw [List.drop_of_length_le (by have := HP.out; omega)]
            rfl⟩⟩

end Go.Proofs.Qxb6616246aDoor
