/-
  Seat b6616721aD: zzHexOf8.
-/
import Derived.Test.Qxb6616721aDoorBase
import Derived.OwnWalk
import Derived.Deep.AppendLies
namespace Go.Proofs.Qxb6616721aDoor
open Go.RowKit Go.Lib

theorem Tryd.info5 : (Tryd.prog.info? 5).map (fun i => (i.zero, i.size, i.bytes)) = some (some (.int .u8 0), 1, 1) := by kernel_rfl

def Own (B : Nat) (w : World) (v : Value) (l : List UInt8) : Prop := w.ownsRow B 5 1 v l.length (Lib.byteCells l)

theorem own_bytes {B : Nat} {w : World} {v : Value} {l : List UInt8} (h : Own B w v l) (h0 : 0 < l.length) :
    ∃ g cap, v = .slice (some ⟨g, 0, none⟩) l.length cap ∧ Lib.Bytes w g 0 ⟨l.toArray⟩ := by
  rcases h.2 with ⟨_, hz⟩ | ⟨g, cap, cur, hv, hB, hg, hle, hmax, hsz, htk⟩
  · omega
  · refine ⟨g, cap, hv, fun i hi => ?_⟩
    have hi' : i < l.length := hi
    rw [Nat.zero_add, cell_of_row w g i cur 5 (0, 0) hg]
    have e := congrArg (fun l : List Value => l[i]?) htk
    simp only [Nat.mul_one, List.getElem?_take, hi', if_true] at e
    rw [← Array.getElem?_toList, e, Lib.byteCells, List.getElem?_map, List.getElem?_eq_getElem hi']
    rfl

theorem and15_fin : ∀ x : Fin 256, bits BinOp.and IntKind.u8 ((x.val : Nat) : Int) 15 = ((x.val : Nat) : Int) % 16 := by decide +kernel

theorem and15 (x : Int) (h0 : 0 ≤ x) (h1 : x < 256) : bits BinOp.and IntKind.u8 x 15 = x % 16 := by
  have := and15_fin ⟨x.toNat, by omega⟩
  rwa [show ((x.toNat : Nat) : Int) = x by omega] at this

theorem encode_snoc (l : List UInt8) (k : Nat) (h : k < l.length) : Hx.encode (l.take (k + 1)) = Hx.encode (l.take k) ++ Hx.encode [l[k]] := by
  rw [List.take_succ_eq_append_getElem h, Hx.encode, List.flatMap_append]
  rfl

set_option maxRecDepth 100000 in
set_option maxHeartbeats 3200000 in
theorem hexOf8_any (l : List UInt8) (hl : l.length = 8) (w : World)  :
    Calls Tryd.prog 11 #[.agg (Lib.byteCells l).toArray] w fun e w' => e = .returned (.string ⟨(Hx.encode l).toArray⟩) ∧ Below w.heap.size w w' := by
  obtain ⟨i0, hi, hz0, hz1, hz2⟩ := info_parts Tryd.info5
  go_enter Tryd.func11, Tryd.ntmps11
  go_wp2_with (at_make; refine wpList_make_own _ rfl _ _ 46 rfl (w.heap.size + 1) 5 i0 (.int .u8 0) 1 Tryd.underlying46 hi hz0 hz1 _ _ _ 16 rfl rfl (by omega) ?b2 ?b3 ?b4 ?_)
  case b2 => rw [hz2]; omega
  case b3 => unfold maxLen; omega
  case b4 => simp
  intro w1 hown1 hgr1
  have hb1 : Below (w.heap.size + 1) (w.alloc (.cells (Lib.byteCells l).toArray 31)) w1 := (Below.refl _ _).grown hgr1 (by simp) (fun k hk => by cases hk)
  have hc1 : ∀ i (h : i < l.length), w1.cell? ⟨w.heap.size, 0 + i, none⟩ = some (.int .u8 ((l[i]'h).toNat : Int)) := fun i h => (hb1.cell (by simp)).trans (cell_byteCells l w 31 i h)
  have ho1 : Own (w.heap.size + 1) w1 (.slice (some ⟨w.heap.size + 1, 0, none⟩) 0 16) [] := hown1
  have hs1 : w.heap.size + 1 ≤ w1.heap.size := by have := hb1.size; simpa using this
  have HB := hid hb1
  clear hown1 hgr1 hb1
  go_wp2
  go_loopw [3, 4] (fun u i wr => ∃ k : Nat, k ≤ 8 ∧ i = .int .i64 k ∧ Own (w.heap.size + 1) wr u (Hx.encode (l.take k)) ∧ Below (w.heap.size + 1) w1 wr) (fun _ i _ => 8 - (Go.RowKit.intOf i).toNat)
  case atStart => exact ⟨0, Nat.zero_le _, rfl, by simpa [Hx.encode] using ho1, Below.refl _ _⟩
  case round =>
    obtain ⟨k, hk, rfl, hor0, hbl⟩ := hrel
    by_cases hlt : k < 8
    · obtain ⟨x, hx⟩ : ∃ x : Int, x = ((l[k]'(by omega)).toNat : Int) := ⟨_, rfl⟩
      have h0 : 0 ≤ x := by omega
      have h1 : x < 256 := by have := (l[k]'(by omega)).toNat_lt; omega
      have a0 : 0 ≤ x / 16 := by omega
      have a1 : x / 16 < 16 := by omega
      have b0 : 0 ≤ x % 16 := by omega
      have b1 : x % 16 < 16 := by omega
      have hand := and15 x h0 h1
      have ha : (x / 16).toNat < Hx.tab.size := by show (x / 16).toNat < 16; omega
      have hb : (x % 16).toNat < Hx.tab.size := by show (x % 16).toNat < 16; omega
      have hk0 : (0 : Int) ≤ (k : Int) := Int.natCast_nonneg _
      have hk8 : (k : Int) < 8 := by omega
      have hcell : wr.cell? ⟨w.heap.size, k, none⟩ = some (.int .u8 x) := by
        have := (hbl.cell (p := ⟨w.heap.size, 0 + k, none⟩) (by show w.heap.size < w.heap.size + 1; omega)).trans (hc1 k (by omega))
        rwa [Nat.zero_add, ← hx] at this
      obtain ⟨ys, hys⟩ : ∃ ys, ys = Hx.encode (l.take k) := ⟨_, rfl⟩
      have hor : Own (w.heap.size + 1) wr u3 ys := hys ▸ hor0
      have hyl : ys.length ≤ 16 := by rw [hys, Hx.encode_length, List.length_take]; omega
      have HX : Hid (∃ h : k < l.length, x = ((l[k]'h).toNat : Int)) := ⟨by omega, hx⟩
      have HY := hid hys
      have HC := hid hc1
      have HL := hid hl
      have hsz := hbl.size
      clear hx hys hor0 hc1 hl ho1
      go_wp2_with fail
      go_region_held3 (fun w' => w'.cell? ⟨w.heap.size, k, none⟩ = some (.int .u8 x)) (first | go_keep | (rw [hgrow.cell_far _ (by simp; omega) (by intro e; have e1 : w.heap.size + 1 ≤ w.heap.size := (World.ownsRow.lt hor _ e.symm).1; omega)]; assumption))
        ((refine step_append_lies _ (by rfl) _ _ _ (by rfl) (w.heap.size + 1) 5 i0 _ 1 1 Tryd.underlying46 hi hz0 hz1 hz2 rfl (by omega) u3 ys.length (Lib.byteCells ys) (by rfl) ((World.ownsRow.alloc hor _).drew) ⟨wr.heap.size, 0, none⟩ 2 2 [.int .u8 ((Hx.tab[(x / 16).toNat]'ha).toNat : Int), .int .u8 ((Hx.tab[(x % 16).toNat]'hb).toNat : Int)] (by rfl) (by rfl) (World.news_of_block (cs := #[.int .u8 ((Hx.tab[(x / 16).toNat]'ha).toNat : Int), .int .u8 ((Hx.tab[(x % 16).toNat]'hb).toNat : Int)]) (t := 5) (fr := (0, 0)) (heap_alloc_new wr _)) (by simp [Value.oneCell']) (by omega) (by unfold maxLen; omega) (by omega) (by simp; omega) (wr.heap.size + 1) (by simp) ?_; intro gg cap w2 hown2 hgrow hat hlt2))
      all_goals
        have R1 : Hid (Own (w.heap.size + 1) w2 (.slice (some ⟨gg, 0, none⟩) (ys.length + 2) cap) (Hx.encode (l.take (k + 1)))) := by
          obtain ⟨h, e⟩ := HX.out
          have e1 := encode_one x h0 h1 ha hb
          have e2 : UInt8.ofNat x.toNat = l[k] := by rw [e]; simp
          show w2.ownsRow _ 5 1 _ _ _
          rw [encode_snoc l k h, ← HY.out, ← e2, ← e1, Lib.byteCells_append, List.length_append]
          exact hown2
        have R2 : Hid (Below (w.heap.size + 1) w1 w2) := ((hbl.alloc (by omega) _).drew).grown hgrow (by simp; omega) (fun q hq => (World.ownsRow.lt hor q hq).1)
        clear hown2 hgrow hor hbl hcell
        go_wp2
        try go_roundw
        all_goals first | exact ⟨k + 1, by omega, by go_num, R1.out, R2.out⟩ | (simp [Go.RowKit.intOf]; omega) | exact ⟨⟨k + 1, by omega, by go_num, R1.out, R2.out⟩, by simp [Go.RowKit.intOf]; omega⟩
    · have e8 : l.take k = l := List.take_of_length_le (by omega)
      rw [e8] at hor0
      obtain ⟨g, cap, rfl, hbs⟩ := own_bytes hor0 (by rw [Hx.encode_length]; omega)
      have hcv := Lib.run_convert_whole (P := Tryd.prog) wr 46 5 9 Tryd.underlying46 Tryd.underlying5 Tryd.underlying9 g 0 ⟨(Hx.encode l).toArray⟩ hbs cap
      have hsz : (ByteArray.mk (Hx.encode l).toArray).size = (Hx.encode l).length := rfl
      rw [hsz] at hcv
      have HB2 := hid hbl
      clear hor0 hbs hbl hc1 ho1
      go_wp2
      go_ret
      exact ⟨rfl, ((Below.refl w.heap.size w).alloc (Nat.le_refl _) _).trans ((HB.out.mono (by omega)).trans (HB2.out.mono (by omega)))⟩
end Go.Proofs.Qxb6616721aDoor
