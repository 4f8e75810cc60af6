/-
  Seat b6616662aD: the row and the tied card of FnIsNameRuneFullwidthMirrorsAscii.
-/
import Derived.Test.Qxb6616662aDoorTie
import Derived.Test.Qxb6616662aDoorCards
import Derived.Test.Qxb6616662aDoorLaw
import Derived.ProofKit
import Derived.Lay
import Derived.LaidOnce
import Derived.SevenTiedAt
import Derived.PinnedBridge
namespace Go.Proofs.Qxb6616662aDoor
open Go.ChangeShapes Go.WideShapes Go.ChangeAt Go.RowKit Go.Lib

theorem own : ownKnob Tryd.prog.godebug = none := by kernel_rfl
theorem xL : RExtra Tryd.prog Tryd.lays200_ren := ⟨by kernel_rfl, by kernel_rfl, by kernel_rfl, by kernel_rfl, by kernel_rfl, by kernel_rfl, by kernel_rfl, by kernel_rfl⟩
theorem xD : RExtra Tryd.prog Tryd.lays198_ren := ⟨by kernel_rfl, by kernel_rfl, by kernel_rfl, by kernel_rfl, by kernel_rfl, by kernel_rfl, by kernel_rfl, by kernel_rfl⟩
theorem letter_eq : Rows.laid_unicode_Letter = rtabData letterT := Pinned.letter_eq
theorem digit_eq : Rows.laid_unicode_Digit = rtabData digitT := Pinned.digit_eq
theorem laid_eq : Rows.fnIsNameRuneFullwidthMirrorsAsciiRow.laid = ("unicode.properties", tabData .u8 Lib.propertiesTab) :: [("unicode.Digit", Rows.laid_unicode_Digit), ("unicode.Letter", Rows.laid_unicode_Letter)] := by kernel_rfl

/-- What the listed variables give the walk. -/
theorem tabs_of_laid {W : World} (h : laidMetH Tryd.prog Rows.fnIsNameRuneFullwidthMirrorsAsciiRow.laid W) : Tabs W := by
  rw [MakeChecks.laidMetH_plain _ _ _ (by kernel_rfl), laid_eq] at h
  exact ⟨Lib.tabIs_of_head (g := 0) (t := 26) (e := 5) (n := 256) (by kernel_rfl) (by kernel_rfl) Tryd.underlying26 Tryd.underlying5 (by kernel_rfl) (by kernel_rfl) h,
    rvar_of_reads { Tryd.lays200 with } xL (by kernel_rfl) (by kernel_rfl) (letter_eq ▸ Lib.laidMet.reads h (.tail _ (.tail _ (.head _)))),
    rvar_of_reads { Tryd.lays198 with } xD (by kernel_rfl) (by kernel_rfl) (digit_eq ▸ Lib.laidMet.reads h (.tail _ (.head _)))⟩

set_option maxRecDepth 100000 in
theorem lifted (os : Os) (started : os.Started) (H : Type) (enc : TypeId × Value → H) :
    ReturnsInHanded {} Tryd.checked os 4 .any (fun w args => (Rows.fnIsNameRuneFullwidthMirrorsAsciiSpec.pre enc Tryd.prog Tryd.f4 [] false w args ∧ laidMetH Tryd.prog Rows.fnIsNameRuneFullwidthMirrorsAsciiRow.laid w) ∧ sizedMet enc Tryd.prog Tryd.f4 (OpenSpec.ofChange Rows.fnIsNameRuneFullwidthMirrorsAsciiSpec) false w args)
      (Rows.fnIsNameRuneFullwidthMirrorsAsciiSpec.post enc Tryd.prog Tryd.f4 false true false false) := by
  refine returnsInHanded_of_change_and (C := Tryd.checked) (X := fun w _ => laidMetH Tryd.prog Rows.fnIsNameRuneFullwidthMirrorsAsciiRow.laid w) (fun _ _ _ hh h => h.of_heap hh) own started (by kernel_rfl) Tryd.func4
    (ChangeSpec.witness_shaped (enc := enc) (C := Tryd.checked) (os := os) (X := fun w _ => laidMetH Tryd.prog Rows.fnIsNameRuneFullwidthMirrorsAsciiRow.laid w) false (World.laidAll Tryd.prog os Rows.fnIsNameRuneFullwidthMirrorsAsciiRow.laid) #[.int .i32 0] 8 (World.laidAll_os _ _ _)
      (World.shaped_of_ZipB (by kernel_rfl) (by kernel_rfl)) (by kernel_rfl) (by kernel_rfl) (by kernel_rfl)
      (by rw [MakeChecks.laidMetH_plain _ _ _ (by kernel_rfl)]; exact laidMet_laidAll _ (by kernel_rfl) (by kernel_rfl))) ?_
  intro W base args ds gs before hval0 hW _ _ hL _
  have hval : ∀ (j : Nat) t v, Tryd.f4.params[j]? = some t → args[j]? = some v → Value.okWide Tryd.prog W .any base t v := hval0
  have hW' := hW
  obtain ⟨p, q, hA0, hV, rfl, _, _⟩ := hW
  have hA : DataW.TrodAll enc Tryd.prog W 0 (fun _ => true) true Tryd.f4.params.toList args.toList ds p := hA0
  rw [Tryd.params4] at hA hval
  obtain ⟨v0, d0, rfl, rfl, h0⟩ := trodAll_one hA
  obtain ⟨rfl, rfl⟩ := trodVars_none hV
  obtain ⟨x, rfl, rfl, rfl, wx⟩ := open_int Tryd.underlying21 (hval 0 21 v0 rfl rfl) h0
  simp only [List.append_nil] at hW'
  refine (law_any x W (tabs_of_laid hL)).mono fun e W' ⟨he, hb⟩ => ?_
  subst he
  exact ⟨_, rfl, _, _, _, [], [], [], hW', trodAll_mk1 (shut_bool Tryd.underlying4 _), trodAll_mk1 (shut_int Tryd.underlying21 wx), rfl, hb.frame _, fun h => by cases h⟩

theorem row_holds : Rows.FnIsNameRuneFullwidthMirrorsAsciiSaid :=
  OpenClaim.holds_of_wide 4 Tryd.f4 rfl rfl rfl rfl rfl rfl rfl ⟨rfl, rfl, rfl, rfl, rfl⟩ rfl rfl rfl rfl rfl (by kernel_rfl) Tryd.func4 (by kernel_rfl)
    (of_decide_eq_true (by kernel_rfl)) (by unfold Func.isWrapper; first | (rw [if_pos (by decide +kernel)]; kernel_rfl) | (rw [if_neg (by decide +kernel)]; exact ⟨rfl, rfl⟩))
    (fun os started H enc _ => lifted os started H enc)

/-- The tied card. -/
theorem fnIsNameRuneFullwidthMirrorsAscii_card : Rows.FnIsNameRuneFullwidthMirrorsAsciiCardSaid :=
  Claim7.holds_tied_plain_at .later [] [.data, .pinned, .pinned] true (true, "6872dc6471c5fbdeee37d63687ed4ea640d5dec7bcb8ac7a4dbd5d88f454d60f") false row_holds (fun _ h => by cases h) (by kernel_rfl) (fun _ h => by cases h) fnIsNameRuneFullwidthMirrorsAscii_row_tie rfl ⟨rfl, rfl⟩ (by kernel_rfl) rfl
    (fun f fn hf hfn => by
      obtain rfl : f = 4 := Option.some.inj ((show Tryd.prog.funcNamed Rows.fnIsNameRuneFullwidthMirrorsAsciiRow.func = some 4 by kernel_rfl).symm.trans hf) |>.symm
      obtain rfl : fn = Tryd.f4 := (Option.some.inj (Tryd.func4.symm.trans hfn)).symm
      exact ⟨by kernel_rfl, fun j t ht => by
        rw [Tryd.params4] at ht
        have hm : t ∈ [21] := by simpa using Array.mem_of_getElem? ht
        have hall : ([21].all fun u => !Tryd.prog.wantsStandIn u) = true := by kernel_rfl
        exact (show Tryd.prog.wantsStandIn t = false by simpa using List.all_eq_true.1 hall t hm)⟩)
    (by kernel_rfl)

end Go.Proofs.Qxb6616662aDoor
