/-
  Seat b6616246aD: appendBytes, appendString: what is appended to a slice of the call's own.
-/
import Derived.Test.Qxb6616246aDoorBase
namespace Go.Proofs.Qxb6616246aDoor
open Go.RowKit

theorem Tryd.info5 : (Tryd.prog.info? 5).map (fun i => (i.zero, i.size, i.bytes)) = some (some (.int .u8 0), 1, 1) := by kernel_rfl

/-- The slice v owns the bytes xs, among the blocks from B on. -/
def Own (B : Nat) (w : World) (v : Value) (xs : List Int) : Prop := w.ownsRow B 5 1 v xs.length (xs.map (Value.int .u8))

theorem take_snoc_int (zs : List Int) (k : Nat) (h : k < zs.length) : zs.take (k + 1) = zs.take k ++ [zs.getD k 0] := by
  rw [List.take_succ_eq_append_getElem h]
  simp [List.getD, h]

theorem own_step {B : Nat} {w : World} {v : Value} {xs zs ys : List Int} {k : Nat} (hy : ys = xs ++ zs.take k) (h : k < zs.length) {x : Int} (hx : x = zs.getD k 0)
    (ho : w.ownsRow B 5 1 v (ys.length + 1) (ys.map (Value.int .u8) ++ [Value.int .u8 x])) :
    Own B w v (xs ++ zs.take (k + 1)) := by
  unfold Own
  rw [take_snoc_int zs k h, ← List.append_assoc, ← hy, List.map_append, List.length_append, ← hx]
  exact ho

set_option maxHeartbeats 1000000 in
/-- appendBytes(out, b), b with an address below B. -/
theorem appendBytes_at (B b off n c : Nat) (v : Value) (xs zs : List Int) (w : World) (hl : zs.length = n) (hn : xs.length + n ≤ 4194304) (hb : b < B) (hB : B ≤ w.heap.size)
    (hc : ∀ i, i < n → w.cell? ⟨b, off + i, none⟩ = some (.int .u8 (zs.getD i 0))) (hown : Own B w v xs) :
    Calls Tryd.prog 17 #[v, .slice (some ⟨b, off, none⟩) n c] w fun e w' => ∃ v', e = .returned v' ∧ Own B w' v' (xs ++ zs) ∧ Below B w w' := by
  obtain ⟨i0, hi, hz0, hz1, hz2⟩ := info_parts Tryd.info5
  go_enter Tryd.func17, Tryd.ntmps17
  go_wp2
  go_loopw [0, 5] (fun u i wr => ∃ k : Nat, k ≤ n ∧ i = .int .i64 k ∧ Own B wr u (xs ++ zs.take k) ∧ Below B w wr) (fun _ i _ => n - (intOf i).toNat)
  case atStart => exact ⟨0, Nat.zero_le _, rfl, by simpa using hown, Below.refl _ _⟩
  case round =>
    obtain ⟨k, hk, rfl, hor0, hbl⟩ := hrel
    obtain ⟨ys, hys⟩ : ∃ ys, ys = xs ++ zs.take k := ⟨_, rfl⟩
    have hor : Own B wr u0 ys := hys ▸ hor0
    have HY : Hid (ys = xs ++ zs.take k) := hys
    have HL : Hid (zs.length = n) := hl
    clear hl hown hys hor0
    by_cases hlt : k < n
    · have hcell : wr.cell? ⟨b, off + k, none⟩ = some (.int .u8 (zs.getD k 0)) := (hbl.cell (by exact hb)).trans (hc k hlt)
      have HC : Hid (∀ i, i < n → w.cell? ⟨b, off + i, none⟩ = some (.int .u8 (zs.getD i 0))) := hc
      clear hc
      have hlen : ys.length + 1 ≤ 4194304 := by
        have := HL.out
        rw [HY.out]; simp only [List.length_append, List.length_take]; omega
      go_wp2_with (at_builtin; refine wpList_append_own _ rfl _ _ 22 rfl B 5 i0 (.int .u8 0) 1 1 Tryd.underlying22 hi hz0 hz1 hz2 rfl (by decide) _ _ _ rfl (World.ownsRow.alloc hor _) ⟨wr.heap.size, 0, none⟩ 1 1 [.int .u8 (zs.getD k 0)] rfl rfl ?c1 ?c2 ?c3 ?c4 ?c5 ?_)
      case c1 =>
        intro j u hj
        match j, hj with
        | 0, hj => simp at hj; subst hj; simp [Addr.add]
      case c2 => intro u hu; simp at hu; subst hu; rfl
      case c3 => unfold maxLen; omega
      case c4 => omega
      case c5 => have := hbl.size; simp; omega
      intro v' w1 hown' hgrow _
      have R1 : Hid (Own B w1 v' (xs ++ zs.take (k + 1))) := own_step HY.out (by have := HL.out; omega) (by simp) hown'
      have R2 : Hid (Below B w w1) := ((hbl.alloc (by have := hbl.size; omega) _).grown hgrow (by have := hbl.size; simp; omega) (fun q hq => (hor.lt q hq).1))
      clear hown' hgrow hor hbl hcell HC
      go_wp2
      go_roundw
      case rel => exact ⟨k + 1, by omega, by go_num, R1.out, R2.out⟩
      case measure => simp [intOf]; omega
    · have R1 : Hid (Own B wr u0 (xs ++ zs)) := by
        have h1 := hor
        rw [HY.out, List.take_of_length_le (by have := HL.out; omega)] at h1
        exact h1
      clear hor hc
      go_wp2
      go_ret
      exact ⟨_, rfl, R1.out, hbl⟩

theorem appendBytes_nil (B : Nat) (q : Option Addr) (c : Nat) (v : Value) (xs : List Int) (w : World) (hown : Own B w v xs) :
    Calls Tryd.prog 17 #[v, .slice q 0 c] w fun e w' => ∃ v', e = .returned v' ∧ Own B w' v' (xs ++ []) ∧ Below B w w' := by
  go_enter Tryd.func17, Tryd.ntmps17
  go_wp2
  refine wp_loop_rounds 1 ?_
  rw [rounds_succ]
  go_wp2
  go_ret
  exact ⟨_, rfl, by rw [List.append_nil]; exact hown, Below.refl _ _⟩

/-- A string's bytes, as numbers. -/
def sI (s : ByteArray) : List Int := s.data.toList.map (fun c => (c.toNat : Int))
theorem sI_length (s : ByteArray) : (sI s).length = s.size := by rw [sI, List.length_map, Array.length_toList]; rfl
theorem sI_get (s : ByteArray) (k : Nat) (h : k < s.size) : (sI s).getD k 0 = (s[k].toNat : Int) := by
  have h' : k < s.data.size := h
  simp only [sI, List.getD, List.getElem?_map, Array.getElem?_toList]
  rw [Array.getElem?_eq_getElem h']
  rfl

set_option maxHeartbeats 1000000 in
/-- appendString(out, s). -/
theorem appendString_any (B : Nat) (v : Value) (xs : List Int) (s : ByteArray) (w : World) (hn : xs.length + s.size ≤ 4194304) (hB : B ≤ w.heap.size) (hown : Own B w v xs) :
    Calls Tryd.prog 16 #[v, .string s] w fun e w' => ∃ v', e = .returned v' ∧ Own B w' v' (xs ++ sI s) ∧ Below B w w' := by
  obtain ⟨i0, hi, hz0, hz1, hz2⟩ := info_parts Tryd.info5
  go_enter Tryd.func16, Tryd.ntmps16
  go_wp2
  go_loopw [0, 5] (fun u i wr => ∃ k : Nat, k ≤ s.size ∧ i = .int .i64 k ∧ Own B wr u (xs ++ (sI s).take k) ∧ Below B w wr) (fun _ i _ => s.size - (intOf i).toNat)
  case atStart => exact ⟨0, Nat.zero_le _, rfl, by simpa using hown, Below.refl _ _⟩
  case round =>
    obtain ⟨k, hk, rfl, hor0, hbl⟩ := hrel
    obtain ⟨ys, hys⟩ : ∃ ys, ys = xs ++ (sI s).take k := ⟨_, rfl⟩
    have hor : Own B wr u0 ys := hys ▸ hor0
    have HY : Hid (ys = xs ++ (sI s).take k) := hys
    have HL : Hid ((sI s).length = s.size) := sI_length s
    clear hown hys hor0
    by_cases hlt : k < s.size
    · have hlen : ys.length + 1 ≤ 4194304 := by
        have := HL.out
        rw [HY.out]; simp only [List.length_append, List.length_take]; omega
      have HG : Hid ((sI s).getD k 0 = (s[k].toNat : Int)) := sI_get s k hlt
      go_wp2_with (at_builtin; refine wpList_append_own _ rfl _ _ 22 rfl B 5 i0 (.int .u8 0) 1 1 Tryd.underlying22 hi hz0 hz1 hz2 rfl (by decide) _ _ _ rfl (World.ownsRow.alloc hor _) ⟨wr.heap.size, 0, none⟩ 1 1 [.int .u8 (s[k].toNat : Int)] rfl rfl ?c1 ?c2 ?c3 ?c4 ?c5 ?_)
      case c1 =>
        intro j u hj
        match j, hj with
        | 0, hj => simp at hj; subst hj; simp [Addr.add]
      case c2 => intro u hu; simp at hu; subst hu; rfl
      case c3 => unfold maxLen; omega
      case c4 => omega
      case c5 => have := hbl.size; simp; omega
      intro v' w1 hown' hgrow _
      have R1 : Hid (Own B w1 v' (xs ++ (sI s).take (k + 1))) := own_step HY.out (by have := HL.out; omega) HG.out.symm hown'
      have R2 : Hid (Below B w w1) := ((hbl.alloc (by have := hbl.size; omega) _).grown hgrow (by have := hbl.size; simp; omega) (fun q hq => (hor.lt q hq).1))
      clear hown' hgrow hor hbl
      go_wp2
      go_roundw
      case rel => exact ⟨k + 1, by omega, by go_num, R1.out, R2.out⟩
      case measure => simp [intOf]; omega
    · have R1 : Hid (Own B wr u0 (xs ++ sI s)) := by
        have h1 := hor
        rw [HY.out, List.take_of_length_le (by have := HL.out; omega)] at h1
        exact h1
      clear hor
      go_wp2
      go_ret
      exact ⟨_, rfl, R1.out, hbl⟩

end Go.Proofs.Qxb6616246aDoor
