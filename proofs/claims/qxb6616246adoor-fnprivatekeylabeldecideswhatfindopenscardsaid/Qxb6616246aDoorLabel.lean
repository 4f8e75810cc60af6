/-
  Seat b6616246aD: privateKeyLabel.
-/
import Derived.Test.Qxb6616246aDoorPlain
import Derived.Test.Qxb6616246aDoorShelf
import Derived.Lib.SlBytesConst
import Derived.Lib.SlBytesRowKit2
namespace Go.Proofs.Qxb6616246aDoor
open Go.RowKit Go.Lib

theorem hid {p : Prop} (h : p) : Hid p := h

theorem bytesIn_below {w w' : World} {B : Nat} {p : Option Addr} {n : Nat} {xs : List Int} (h : Lib.BytesIn w p n xs) (hb : Below B w w') (hB : ∀ b o, p = some ⟨b, o, none⟩ → 0 < n → b < B) : Lib.BytesIn w' p n xs := fun hn => by
  obtain ⟨b, o, e, hc⟩ := h hn
  exact ⟨b, o, e, fun i hi => (hb.cell (p := ⟨b, o + i, none⟩) (hB b o e hn)).trans (hc i hi)⟩

theorem bytesIn_lt {w : World} {p : Option Addr} {n : Nat} {xs : List Int} (h : Lib.BytesIn w p n xs) : ∀ b o, p = some ⟨b, o, none⟩ → 0 < n → b < w.heap.size := by
  intro b o e hn
  obtain ⟨b', o', e', hc⟩ := h hn
  rw [e] at e'
  obtain ⟨rfl, rfl⟩ : b = b' ∧ o = o' := by simpa using e'
  exact World.block_lt_of_cell? w _ (hc 0 hn)

theorem bytesIn_alloc {w : World} {p : Option Addr} {n : Nat} {xs : List Int} (h : Lib.BytesIn w p n xs) (o : Obj) : Lib.BytesIn (w.alloc o) p n xs :=
  bytesIn_below h ((Below.refl w.heap.size w).alloc (Nat.le_refl _) o) (bytesIn_lt h)

theorem bytesIn_take {w : World} {p : Option Addr} {n m : Nat} {l : List UInt8} (h : Lib.BytesIn w p n (nI l)) (hm : m ≤ n) : Lib.BytesIn w p m (nI (l.take m)) := fun h0 => by
  obtain ⟨b, o, e, hc⟩ := h (by omega)
  refine ⟨b, o, e, fun i hi => ?_⟩
  rw [hc i (by omega), nI_take]
  simp [hi]

/-- The bytes of a constant's new, marked row. -/
theorem bytesIn_const (w : World) (l : List UInt8) (r : Nat × Nat) : Lib.BytesIn (w.alloc (.cells ((nI l).map (Value.int .u8)).toArray 5 r)) (some ⟨w.heap.size, 0, none⟩) l.length (nI l) := fun _ => by
  refine ⟨_, _, rfl, fun i hi => ?_⟩
  rw [Nat.zero_add]
  rw [cell_of_row _ _ _ _ _ _ (heap_alloc_new w _)]
  have h' : i < (nI l).length := by rw [nI_length]; exact hi
  simp [List.getD, h']

theorem bytesIn_const2 (w : World) (o : Obj) (l : List UInt8) (r : Nat × Nat) : Lib.BytesIn ((w.alloc o).alloc (.cells ((nI l).map (Value.int .u8)).toArray 5 r)) (some ⟨w.heap.size + 1, 0, none⟩) l.length (nI l) := by
  have := bytesIn_const (w.alloc o) l r
  rw [show (w.alloc o).heap.size = w.heap.size + 1 by simp] at this
  exact this

theorem row_block : ((nI kBlock).map (Value.int .u8)).toArray = #[.int .u8 32, .int .u8 66, .int .u8 76, .int .u8 79, .int .u8 67, .int .u8 75] := by rfl
theorem row_spk : ((nI kSPK).map (Value.int .u8)).toArray = #[.int .u8 32, .int .u8 80, .int .u8 82, .int .u8 73, .int .u8 86, .int .u8 65, .int .u8 84, .int .u8 69, .int .u8 32, .int .u8 75, .int .u8 69, .int .u8 89] := by rfl

theorem trimSuffixV_val {w : World} {p : Option Addr} {n c : Nat} {l : List UInt8} (hl : l.length = n) (h : Lib.BytesIn w p n (nI l)) (k : List UInt8) :
    Lib.trimSuffixV p n c (nI l) (nI k) = .slice p (trimSuffix l k).length c := by
  rw [trimSuffixV_eq (by rw [nI_length]; exact hl) h, bytesOf_nI, bytesOf_nI]
  unfold trimSuffix
  split
  · rw [nI_length, List.length_take, ← hl, Nat.min_eq_left (by omega)]
  · rw [hl]

theorem bytesIn_trimSuffix {w : World} {p : Option Addr} {n : Nat} {l : List UInt8} (hl : l.length = n) (h : Lib.BytesIn w p n (nI l)) (k : List UInt8) :
    Lib.BytesIn w p (trimSuffix l k).length (nI (trimSuffix l k)) := by
  unfold trimSuffix
  split
  · rw [List.length_take, Nat.min_eq_left (by omega)]
    exact bytesIn_take h (by omega)
  · rw [hl]; exact h

theorem strOfNums_nI (l : List UInt8) : (strOfNums (nI l)).toList = l := by rw [strOfNums_toList, bytesOf_nI]

/-- '[]byte(constant)' at the newest block; the same behind one block more. -/
theorem conv1 (w : World) (C : Array Value) (n c : Nat) : (convert 22 22 (.slice (some ⟨w.heap.size, 0, none⟩) n c)).run Tryd.prog (w.alloc (.cells C 5)) = .ok (.slice (some ⟨w.heap.size, 0, none⟩) n c) (w.alloc (.cells C 5 (C.size, C.size + 1))) :=
  Lib.run_convert_bytes_const (P := Tryd.prog) w 22 5 C n c Tryd.underlying22 Tryd.underlying5
theorem conv2 (w : World) (o : Obj) (C : Array Value) (n c : Nat) : (convert 22 22 (.slice (some ⟨w.heap.size + 1, 0, none⟩) n c)).run Tryd.prog ((w.alloc o).alloc (.cells C 5)) = .ok (.slice (some ⟨w.heap.size + 1, 0, none⟩) n c) ((w.alloc o).alloc (.cells C 5 (C.size, C.size + 1))) := by
  have := conv1 (w.alloc o) C n c
  rw [show (w.alloc o).heap.size = w.heap.size + 1 by simp] at this
  exact this

set_option maxHeartbeats 400000 in
theorem privateKeyLabel_in (p : Option Addr) (n c : Nat) (l : List UInt8) (w : World) (hl : l.length = n) (hnc : n ≤ c) (hn : n ≤ 4194304) (h : Lib.BytesIn w p n (nI l)) :
    Calls Tryd.prog 26 #[.slice p n c] w fun e w' => e = .returned (.bool (labelB l)) ∧ Below w.heap.size w w' := by
  have kc := conv1
  have kc2 := conv2
  have c1 := Tryd.bytes_TrimSuffix_all p (some ⟨w.heap.size, 0, none⟩) n c 6 6 (nI l) (nI kBlock) (w.alloc (.cells #[.int .u8 32, .int .u8 66, .int .u8 76, .int .u8 79, .int .u8 67, .int .u8 75] 5 (6, 7)))
    (by rw [nI_length]; exact hl) rfl hnc (by omega) (bytesIn_alloc h _) (bytesIn_const w kBlock (6, 7))
  rw [trimSuffixV_val hl h] at c1
  have hx := bytesIn_trimSuffix hl h kBlock
  have HB : Hid (labelB l = ((trimSuffix l kBlock == kPK) || hasSuffix (trimSuffix l kBlock) kSPK)) := rfl
  have hm : (trimSuffix l kBlock).length ≤ n := by have := Lib.trimSuffix_le l kBlock; omega
  obtain ⟨x, hxe⟩ : ∃ x, x = trimSuffix l kBlock := ⟨_, rfl⟩
  rw [← hxe] at c1 hx HB hm
  clear hxe
  obtain ⟨m, hmx⟩ : ∃ m, m = x.length := ⟨_, rfl⟩
  rw [← hmx] at c1 hx hm
  have HC := hid c1
  clear c1 h hl
  have hcv := (bytesIn_alloc hx (.cells #[.int .u8 32, .int .u8 66, .int .u8 76, .int .u8 79, .int .u8 67, .int .u8 75] 5 (6, 7))).convert (P := Tryd.prog) (by rw [nI_length]; exact hmx.symm) c 22 5 9 Tryd.underlying22 Tryd.underlying5 Tryd.underlying9
  have hst := strOfNums_nI x
  have HM : Hid (m = x.length) := hmx
  clear hmx
  by_cases hpk : x = kPK
  · have hb : (x == [80, 82, 73, 86, 65, 84, 69, 32, 75, 69, 89]) = true := beq_iff_eq.2 hpk
    have HR : Hid (labelB l = true) := by rw [Hid, HB.out, hpk]; rfl
    clear hpk
    go_enter Tryd.func26, Tryd.ntmps26
    go_wp2_with fail
    refine HC.out.mono ?_
    rintro e w1 ⟨rfl, rfl⟩
    go_wp2_with fail
    go_ret
    exact ⟨by rw [HR.out]; rfl, (Below.refl _ _).alloc (Nat.le_refl _) _⟩
  · have hb : (x == [80, 82, 73, 86, 65, 84, 69, 32, 75, 69, 89]) = false := beq_eq_false_iff_ne.2 hpk
    have HR : Hid (labelB l = hasSuffix x kSPK) := by
      rw [Hid, HB.out, show (x == kPK) = false from hb]; rfl
    have c2 := Tryd.bytes_HasSuffix_all p (some ⟨w.heap.size + 1, 0, none⟩) m c 12 12 (nI x) (nI kSPK)
      ((w.alloc (.cells #[.int .u8 32, .int .u8 66, .int .u8 76, .int .u8 79, .int .u8 67, .int .u8 75] 5 (6, 7))).alloc
        (.cells #[.int .u8 32, .int .u8 80, .int .u8 82, .int .u8 73, .int .u8 86, .int .u8 65, .int .u8 84, .int .u8 69, .int .u8 32, .int .u8 75, .int .u8 69, .int .u8 89] 5 (12, 13)))
      (by rw [nI_length]; exact HM.out.symm) rfl (by omega) (by omega) (bytesIn_alloc (bytesIn_alloc hx _) _) (bytesIn_const2 w _ kSPK (12, 13))
    rw [bytesOf_nI, bytesOf_nI, ← HR.out] at c2
    have HC2 := hid c2
    clear c2 hpk hx
    go_enter Tryd.func26, Tryd.ntmps26
    go_wp2_with fail
    refine HC.out.mono ?_
    rintro e w1 ⟨rfl, rfl⟩
    go_wp2_with fail
    refine HC2.out.mono ?_
    rintro e w1 ⟨rfl, rfl⟩
    go_wp2_with fail
    go_ret
    exact ⟨rfl, ((Below.refl _ _).alloc (Nat.le_refl _) _).alloc (by simp) _⟩

theorem zzPrivateKeyLabel_in (p : Option Addr) (n c : Nat) (l : List UInt8) (w : World) (hl : l.length = n) (hnc : n ≤ c) (hn : n ≤ 4194304) (h : Lib.BytesIn w p n (nI l)) :
    Calls Tryd.prog 14 #[.slice p n c] w fun e w' => e = .returned (.bool (labelB l)) ∧ Below w.heap.size w w' := by
  have HC := hid (privateKeyLabel_in p n c l w hl hnc hn h)
  clear hl h
  go_enter Tryd.func14, Tryd.ntmps14
  go_wp2_with fail
  refine HC.out.mono ?_
  rintro e w1 ⟨rfl, hb⟩
  go_wp2_with fail
  go_ret
  exact ⟨rfl, hb⟩

end Go.Proofs.Qxb6616246aDoor
