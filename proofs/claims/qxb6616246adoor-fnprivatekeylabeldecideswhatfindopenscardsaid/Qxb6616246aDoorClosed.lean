/-
  Seat b6616246aD: (*KeyBlocks).closed, at a text whose first instance of the closing line is a line of its own.
-/
import Derived.Test.Qxb6616246aDoorCalls
namespace Go.Proofs.Qxb6616246aDoor
open Go.RowKit Go.Lib

/-- bytes.Index(part[k:], closing), in a world of whatever draws. -/
theorem call_index_closing (b o n c k g cap : Nat) (p cl : List UInt8) (m : Int) (w : World) (hp : p.length = n) (hnc : n ≤ c) (hn : n ≤ 2097152) (hcl : cl.length ≤ 2097152)
    (hc : ∀ i, i < n → w.cell? ⟨b, o + i, none⟩ = some (.int .u8 ((nI p).getD i 0))) (hm : w.cell? ⟨0, 0, none⟩ = some (.int .i64 m))
    (hc2 : ∀ i, i < cl.length → w.cell? ⟨g, 0 + i, none⟩ = some (.int .u8 ((nI cl).getD i 0))) :
    Calls Tryd.prog 32 #[.slice (some ⟨b, o + k, none⟩) (n - k) (c - k), .slice (some ⟨g, 0, none⟩) cl.length cap] w
      fun e w' => e = .returned (.int .i64 (index (p.drop k) cl)) ∧ ∃ q, w' = w.drewN q := by
  have := Tryd.bytes_Index_at ⟨b, o + k, none⟩ ⟨g, 0, none⟩ (n - k) (c - k) cl.length cap (nI (p.drop k)) (nI cl) m w (by rw [nI_length, List.length_drop, hp]) (nI_length _) (nI_range _) (nI_range _)
    (cells_drop (n := n) hc) (fun i hi => by rw [Addr.add_lit]; exact hc2 i hi) (by omega) (by omega) (by omega) hm
  rw [bytesOf_nI, bytesOf_nI] at this
  exact this

theorem grown_setCell (w : World) (q pb : Nat) (v : Value) : w.grownBy ((w.drewN q).setCell ⟨pb, 0, none⟩ v) (some pb) :=
  ⟨rfl, rfl, rfl, by simp [World.setCell], fun k _ hne => by
    rw [Below.heap_setCell _ _ _ _ (by intro e; exact hne (by rw [e]))]; rfl⟩

set_option maxHeartbeats 1000000 in
theorem closed_hit (pb b o n c k i g cap : Nat) (p cl : List UInt8) (m : Int) (w : World) (hp : p.length = n) (hnc : n ≤ c) (hn : n ≤ 2097152) (hcl : cl.length ≤ 2097152) (hk : k < n) (hki : k ≤ i) (hin : i + cl.length ≤ n)
    (hc : ∀ i, i < n → w.cell? ⟨b, o + i, none⟩ = some (.int .u8 ((nI p).getD i 0))) (hm : w.cell? ⟨0, 0, none⟩ = some (.int .i64 m))
    (hc2 : ∀ i, i < cl.length → w.cell? ⟨g, 0 + i, none⟩ = some (.int .u8 ((nI cl).getD i 0)))
    (hpb : w.cell? ⟨pb, 0, none⟩ = some (.slice (some ⟨g, 0, none⟩) cl.length cap)) (hfz : w.frozen? ⟨pb, 0, none⟩ = false)
    (hidx : index (p.drop k) cl = (i : Int) - (k : Int)) (hsl : slB (nI p) i = true) (hel : elB ((nI p).drop (i + cl.length)) = true) :
    Calls Tryd.prog 28 #[.pointer (some ⟨pb, 0, none⟩), .slice (some ⟨b, o, none⟩) n c, .int .i64 k] w
      fun e w' => e = .returned (.int .i64 ((i : Int) + (cl.length : Int))) ∧ w.grownBy w' (some pb) ∧ w'.cell? ⟨pb, 0, none⟩ = some (.slice none 0 0) ∧ w'.frozen? ⟨pb, 0, none⟩ = false := by
  have hI : ∀ q, Calls Tryd.prog 32 #[.slice (some ⟨b, o + k, none⟩) (n - k) (c - k), .slice (some ⟨g, 0, none⟩) cl.length cap] (w.drewN q)
      fun e w' => e = .returned (.int .i64 ((i : Int) - (k : Int))) ∧ ∃ m, w' = (w.drewN q).drewN m := fun q => by
    have := call_index_closing b o n c k g cap p cl m (w.drewN q) hp hnc hn hcl hc hm hc2
    rw [hidx] at this
    exact this
  have hS : ∀ q, Calls Tryd.prog 33 #[.slice (some ⟨b, o, none⟩) n c, .int .i64 i] (w.drewN q) fun e w' => e = .returned (.bool true) ∧ w' = w.drewN q := fun q => by
    have := startsLine_at b o n c i (nI p) (w.drewN q) (by rw [nI_length]; exact hp) (by omega) (by omega) hc
    rw [hsl] at this
    exact this
  have hE : ∀ q, Calls Tryd.prog 38 #[.slice (some ⟨b, o, none⟩) n c, .int .i64 ((i : Int) + (cl.length : Int))] (w.drewN q) fun e w' => e = .returned (.bool true) ∧ w' = w.drewN q := fun q => by
    have := endsLine_at b o n c (i + cl.length) (nI p) (w.drewN q) (by rw [nI_length]; exact hp) (by omega) (by omega) hc
    rw [hel] at this
    exact this
  have HI := hid hI
  have HS := hid hS
  have HE := hid hE
  obtain ⟨cn, hcn⟩ : ∃ cn, cn = cl.length := ⟨_, rfl⟩
  rw [← hcn] at hpb HI HE hin hcl ⊢
  clear hI hS hE hidx hsl hel hc2 hc hp hm hcn
  have hck : ¬ c = k := by omega
  go_enter Tryd.func28, Tryd.ntmps28
  go_wp2
  refine wp_loop_rounds 1 ?_
  rw [rounds_succ]
  go_wp2_with fail
  go_quiet ((go_at_call 32; exact Calls.quiet_of (HI.out _)))
  go_wp2_with fail
  refine (HS.out _).mono ?_
  rintro e w1 ⟨rfl, rfl⟩
  go_wp2_with fail
  refine (HE.out _).mono ?_
  rintro e w1 ⟨rfl, rfl⟩
  go_wp2_with fail
  go_ret
  exact ⟨rfl, grown_setCell w nq pb _, World.cell?_setCell_same _ _ _ (show (w.drewN nq).cell? _ = _ from hpb), (World.frozen?_setCell _ _ _ _).trans hfz⟩

end Go.Proofs.Qxb6616246aDoor
