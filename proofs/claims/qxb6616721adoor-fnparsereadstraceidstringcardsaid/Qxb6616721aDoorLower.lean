/-
  Seat b6616721aD: decodeLower at what Hx.encode wrote.
-/
import Derived.Test.Qxb6616721aDoorEight
import Derived.Lib.ConvBytes
import Derived.Lib.AtoiErrMem
namespace Go.Proofs.Qxb6616721aDoor
open Go.RowKit Go.Lib

theorem dig_val : ∀ d : Fin 16, Hx.v (Hx.digit d.val) = d.val := by decide +kernel

theorem dig_low : ∀ d : Fin 16, ((48 ≤ (Hx.digit d.val).toNat ∧ (Hx.digit d.val).toNat ≤ 57) ∨ (97 ≤ (Hx.digit d.val).toNat ∧ (Hx.digit d.val).toNat ≤ 102)) := by decide +kernel

theorem decode_encode (l : List UInt8) : Hx.decode (Hx.encode l) = (l, .ok) := by
  induction l with
  | nil => rfl
  | cons a t ih =>
    have ha := a.toNat_lt
    have e1 := dig_val ⟨a.toNat / 16, by omega⟩
    have e2 := dig_val ⟨a.toNat % 16, by omega⟩
    simp only at e1 e2
    rw [Hx.encode_cons, Hx.decode_two, ih, e1, e2, if_neg (by omega), if_neg (by omega)]
    congr 2
    rw [show a.toNat / 16 * 16 + a.toNat % 16 = a.toNat by omega]
    simp

/-- Every byte of an encoding is a digit in lower case. -/
theorem encode_low (l : List UInt8) : ∀ c ∈ Hx.encode l, (48 ≤ c.toNat ∧ c.toNat ≤ 57) ∨ (97 ≤ c.toNat ∧ c.toNat ≤ 102) := by
  intro c hc
  simp only [Hx.encode, List.mem_flatMap] at hc
  obtain ⟨b, _, hc⟩ := hc
  have hb := b.toNat_lt
  simp only [List.mem_cons, List.not_mem_nil, or_false] at hc
  rcases hc with rfl | rfl
  · exact dig_low ⟨b.toNat / 16, by omega⟩
  · exact dig_low ⟨b.toNat % 16, by omega⟩

theorem enc_at (l : List UInt8) (s : ByteArray) (hs : s = ⟨(Hx.encode l).toArray⟩) (i : Nat) (h : i < s.size) :
    (48 ≤ (s[i].toNat : Int) ∧ (s[i].toNat : Int) ≤ 57) ∨ (97 ≤ (s[i].toNat : Int) ∧ (s[i].toNat : Int) ≤ 102) := by
  subst hs
  have := encode_low l _ (List.getElem_mem (l := Hx.encode l) (n := i) h)
  have e : (ByteArray.mk (Hx.encode l).toArray)[i] = (Hx.encode l)[i]'h := rfl
  rw [e]
  omega

set_option maxRecDepth 100000 in
theorem lower_any (T : TypeId) (bd n : Nat) (f : Nat → Value) (l : List UInt8) (s : ByteArray) (w : World) (ev : Value) (hl : l.length = n) (hs : s = ⟨(Hx.encode l).toArray⟩) (hn : n ≤ 16)
    (hrow : w.rowIs bd T n f) (hE : w.cell? ⟨0, 0, none⟩ = some ev) (h0 : 0 ≠ bd) :
    Calls Tryd.prog 27 #[.slice (some ⟨bd, 0, none⟩) n n, .string s] w fun e w' => e = .returned (.bool true) ∧ w'.rowIs bd T n (fun j => .int .u8 ((l[j]?.getD 0).toNat : Int)) ∧ w.grownBy w' (some bd) := by
  have hsz : s.size = 2 * n := by rw [hs, ← hl]; exact Hx.encode_length l
  have hat := enc_at l s hs
  have hD : Calls Tryd.prog 44 #[.slice (some ⟨bd, 0, none⟩) n n, .slice (some ⟨w.heap.size, 0, none⟩) (2 * n) (grownCap w s.size 0 5)] (Lib.bytesWorld w 5 s) fun e w' =>
      e = .returned (.tuple #[.int .i64 n, .nilIface]) ∧ w'.rowIs bd T n (Hx.rowP f 0 l) ∧ (Lib.bytesWorld w 5 s).grownBy w' (some bd) := by
    have hbd : bd < w.heap.size := by obtain ⟨c, h1, _⟩ := hrow; exact (Array.getElem?_eq_some_iff.1 h1).1
    have h0s : 0 < w.heap.size := World.block_lt_of_cell? w _ hE
    have e0 : Lib.bytesOf (Hx.numsOf s) = Hx.encode l := by rw [Hx.bytesOf_numsOf, hs]
    have := Tryd.hex_Decode_tag T bd 0 n n n f w.heap.size 0 (2 * n) (grownCap w s.size 0 5) (Hx.numsOf s) (Lib.bytesWorld w 5 s) ev (by rw [Hx.numsOf_length, hsz]) (fun i _ => Hx.numsOf_range s i)
      (fun i hi => by rw [Nat.zero_add, Lib.bytesWorld_cell w 5 s i (by omega), Hx.numsOf_getD, List.getD_eq_getElem?_getD])
      (by obtain ⟨c, h1, h2, h3⟩ := hrow; exact ⟨c, (Lib.bytesWorld_at_old w 5 s bd hbd).trans h1, h2, h3⟩) (by omega) (by omega) (by omega) (by omega) ((Lib.bytesWorld_old w 5 s _ h0s).trans hE) h0
    rw [e0, decode_encode, hl] at this
    exact this
  have hcv := Lib.run_convert_string_bytes (P := Tryd.prog) w 9 46 5 s Tryd.underlying9 Tryd.underlying46 Tryd.underlying5
  rw [hsz] at hcv
  rw [hsz] at hD
  have HD := hid hD
  have HA := hid hat
  have HS := hid hs
  have HL := hid hl
  have HR := hid hrow
  have HE := hid hE
  have hne : (((2 * n : Nat) : Int) != 2 * (n : Int)) = false := by simp
  clear hat hs hl hrow hE h0 hD
  go_enter Tryd.func27, Tryd.ntmps27
  go_wp2_with fail
  go_loop [17] (fun i => ∃ k : Nat, k ≤ 2 * n ∧ i = .int .i64 k) (fun i => 2 * n - (Go.RowKit.intOf i).toNat)
  case atStart => exact ⟨0, Nat.zero_le _, rfl⟩
  case round =>
    obtain ⟨k, hk, rfl⟩ := hrel
    by_cases hlt : k < 2 * n
    · have hks : k < s.size := by omega
      rcases HA.out k hks with ⟨c1, c2⟩ | ⟨c1, c2⟩
      · go_wp2
        go_round
        case rel => exact ⟨k + 1, by omega, by go_num⟩
        case measure => simp [Go.RowKit.intOf]; omega
      · have c3 : ¬ ((s[k].toNat : Int) ≤ 57) := by omega
        go_wp2
        go_round
        case rel => exact ⟨k + 1, by omega, by go_num⟩
        case measure => simp [Go.RowKit.intOf]; omega
    · go_wp2_with fail
      refine HD.out.mono ?_
      rintro e w1 ⟨rfl, hr1, hg1⟩
      have HR1 := hid hr1
      have HG1 := hid hg1
      clear hr1 hg1
      go_wp2_with fail
      go_ret
      refine ⟨rfl, ?_, ?_⟩
      · obtain ⟨c, q1, q2, q3⟩ := HR1.out
        refine ⟨c, q1, q2, fun i hi => (q3 i hi).trans ?_⟩
        rw [Hx.rowP, if_pos ⟨Nat.zero_le _, by have := HL.out; omega⟩, Nat.sub_zero]
      · have hb := Lib.bytesWorld_below w 5 s
        have hg := HG1.out
        exact ⟨hg.os.trans hb.os, hg.tape.trans hb.tape, hg.output.trans hb.output, Nat.le_trans hb.size hg.size, fun k hk hne => (hg.block k (by have := hb.size; omega) hne).trans (hb.block k hk)⟩
end Go.Proofs.Qxb6616721aDoor
