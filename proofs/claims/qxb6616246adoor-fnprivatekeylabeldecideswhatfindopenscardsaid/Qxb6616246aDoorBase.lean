/-
  Seat b6616246aD: small walks that call no library function.
-/
import Derived.Test.Qxb6616246aDoorRows
import Derived.WalkKit
import Derived.WalkSpells
import Derived.WalkLawsBesides
import Derived.BigQuiet
namespace Go.Proofs.Qxb6616246aDoor
open Go.RowKit

theorem zzBytes_yes (a : Option Addr) (n c : Nat) (w : World) (hn : n ≤ 1048576) :
    Calls Tryd.prog 12 #[.slice a n c] w fun e w' => e = .returned (.bool true) ∧ w' = w := by
  go_enter Tryd.func12, Tryd.ntmps12
  go_wp2
  go_ret
  exact ⟨rfl, rfl⟩

theorem zzBytes_no (a : Option Addr) (n c : Nat) (w : World) (hn : 1048576 < n) :
    Calls Tryd.prog 12 #[.slice a n c] w fun e w' => e = .returned (.bool false) ∧ w' = w := by
  go_enter Tryd.func12, Tryd.ntmps12
  go_wp2
  go_ret
  exact ⟨rfl, rfl⟩

/-- Does the list hold a newline? (Not reducible: the walk does not open it.) -/
def hasNL (zs : List Int) : Bool := zs.contains 10
theorem hasNL_iff (zs : List Int) : hasNL zs = true ↔ 10 ∈ zs := by simp [hasNL]

/-- hasNewline at a slice with an address. -/
theorem hasNewline_at (b off n c : Nat) (zs : List Int) (w : World) (hl : zs.length = n) (hn : n ≤ 1048576)
    (hc : ∀ i, i < n → w.cell? ⟨b, off + i, none⟩ = some (.int .u8 (zs.getD i 0))) :
    Calls Tryd.prog 13 #[.slice (some ⟨b, off, none⟩) n c] w fun e w' => e = .returned (.bool (hasNL zs)) ∧ w' = w := by
  go_enter Tryd.func13, Tryd.ntmps13
  go_wp2
  go_loop [3] (fun i => ∃ k : Nat, k ≤ n ∧ i = .int .i64 k ∧ hasNL (zs.take k) = false) (fun i => n - (intOf i).toNat)
  case atStart => exact ⟨0, Nat.zero_le _, rfl, rfl⟩
  case round =>
    obtain ⟨k, hk, rfl, hno⟩ := hrel
    have HN : Hid (hasNL (zs.take k) = false) := hno
    have HL : Hid (zs.length = n) := hl
    clear hno hl
    by_cases hlt : k < n
    · have hcell := hc k hlt
      have hk' : k < zs.length := by have := HL.out; omega
      have HT : Hid (zs.take (k + 1) = zs.take k ++ [zs.getD k 0]) := by
        rw [List.take_succ_eq_append_getElem hk']
        simp [Hid, List.getD, hk']
      clear hc
      by_cases h10 : zs.getD k 0 = 10
      · have HM : Hid (hasNL zs = true) := by
          rw [hasNL_iff]
          have : zs[k] = 10 := by simpa [List.getD, hk'] using h10
          exact this ▸ List.getElem_mem hk'
        have hb : (zs[k]?.getD 0 == 10) = true := beq_iff_eq.2 (by simpa using h10)
        clear h10 hk'
        go_wp2
        go_ret
        exact ⟨by rw [HM.out]; rfl, rfl⟩
      · have hb : (zs[k]?.getD 0 == 10) = false := beq_eq_false_iff_ne.2 (by simpa using h10)
        have HM : Hid (hasNL (zs.take (k + 1)) = false) := by
          have h1 := HN.out
          rw [HT.out]
          simp only [hasNL, List.contains_eq_mem, List.mem_append, decide_eq_false_iff_not, List.mem_singleton] at h1 ⊢
          rintro (h | h)
          · exact h1 h
          · exact h10 h.symm
        clear h10 hk'
        go_wp2
        go_round
        case rel => exact ⟨k + 1, by omega, by go_num, HM.out⟩
        case measure => simp [intOf]; omega
    · have HM : Hid (hasNL zs = false) := by
        have h1 := HN.out
        rw [List.take_of_length_le (by have := HL.out; omega)] at h1
        exact h1
      clear hc
      go_wp2
      go_ret
      exact ⟨by rw [HM.out]; rfl, rfl⟩

theorem hasNewline_nil (q : Option Addr) (c : Nat) (w : World) :
    Calls Tryd.prog 13 #[.slice q 0 c] w fun e w' => e = .returned (.bool false) ∧ w' = w := by
  go_enter Tryd.func13, Tryd.ntmps13
  go_wp2
  refine wp_loop_rounds 1 ?_
  rw [rounds_succ]
  go_wp2
  go_ret
  exact ⟨rfl, rfl⟩

end Go.Proofs.Qxb6616246aDoor
