/-
  Seat b6616262aD: the row and the tied card of FnCarriedIsNewlineFreeUTF8.
-/
import Derived.Test.Qxb6616262aDoorTie
import Derived.Test.Qxb6616262aDoorCards
import Derived.Test.Qxb6616262aDoorLaw
import Derived.ProofKit
import Derived.Lay
import Derived.LaidOnce
import Derived.SevenTiedAt
import Derived.PinnedBridge
import Derived.Lib.LaidU8T
namespace Go.Proofs.Qxb6616262aDoor
open Go.ChangeShapes Go.WideShapes Go.ChangeAt Go.RowKit Go.Lib
open Go.ChangeMaps (open_string shut_string)

theorem own : ownKnob Tryd.prog.godebug = none := by kernel_rfl
theorem xU : U8Extra Tryd.prog Tryd.laysValid_ren := ⟨by kernel_rfl, by kernel_rfl, by kernel_rfl, by kernel_rfl, by kernel_rfl, by kernel_rfl, by kernel_rfl⟩
theorem accept_eq : Rows.laid_unicode_utf8_acceptRanges = acceptData := by kernel_rfl

/-- What the listed variables give the walk. -/
theorem tabs_of_laid {W : World} (h : laidMetH Tryd.prog Rows.fnCarriedIsNewlineFreeUTF8Row.laid W) : Lib.Utf8Tabs 0 1 W := by
  rw [MakeChecks.laidMetH_plain _ _ _ (by kernel_rfl)] at h
  exact utf8Tabs_of_readsT (U8Types.of196 Tryd.laysValid) xU (Pinned.utf8First_eq ▸ Lib.laidMet.reads h (.tail _ (.head _))) (accept_eq ▸ Lib.laidMet.reads h (.head _))

set_option maxRecDepth 100000 in
theorem lifted (os : Os) (started : os.Started) (H : Type) (enc : TypeId × Value → H) :
    ReturnsInHanded {} Tryd.checked os 3 .any (fun w args => (Rows.fnCarriedIsNewlineFreeUTF8Spec.pre enc Tryd.prog Tryd.f3 [] false w args ∧ laidMetH Tryd.prog Rows.fnCarriedIsNewlineFreeUTF8Row.laid w) ∧ sizedMet enc Tryd.prog Tryd.f3 (OpenSpec.ofChange Rows.fnCarriedIsNewlineFreeUTF8Spec) false w args)
      (Rows.fnCarriedIsNewlineFreeUTF8Spec.post enc Tryd.prog Tryd.f3 false true false false) := by
  refine returnsInHanded_of_change_and (C := Tryd.checked) (X := fun w _ => laidMetH Tryd.prog Rows.fnCarriedIsNewlineFreeUTF8Row.laid w) (fun _ _ _ hh h => h.of_heap hh) own started (by kernel_rfl) Tryd.func3
    (ChangeSpec.witness_shaped (enc := enc) (C := Tryd.checked) (os := os) (X := fun w _ => laidMetH Tryd.prog Rows.fnCarriedIsNewlineFreeUTF8Row.laid w) false (World.laidAll Tryd.prog os Rows.fnCarriedIsNewlineFreeUTF8Row.laid) #[.string ByteArray.empty, .int .i64 0] 8 (World.laidAll_os _ _ _)
      (World.shaped_of_ZipB (by kernel_rfl) (by kernel_rfl)) (by kernel_rfl) (by kernel_rfl) (by kernel_rfl)
      (by rw [MakeChecks.laidMetH_plain _ _ _ (by kernel_rfl)]; exact laidMet_laidAll _ (by kernel_rfl) (by kernel_rfl))) ?_
  intro W base args ds gs before hval0 hW _ _ hL _
  have hval : ∀ (j : Nat) t v, Tryd.f3.params[j]? = some t → args[j]? = some v → Value.okWide Tryd.prog W .any base t v := hval0
  have hW' := hW
  obtain ⟨p, q, hA0, hV, rfl, _, _⟩ := hW
  have hA : DataW.TrodAll enc Tryd.prog W 0 (fun _ => true) true Tryd.f3.params.toList args.toList ds p := hA0
  rw [Tryd.params3] at hA hval
  obtain ⟨v0, v1, d0, d1, p0, p1, rfl, rfl, rfl, h0, h1⟩ := trodAll_two hA
  obtain ⟨rfl, rfl⟩ := trodVars_none hV
  obtain ⟨s, rfl, rfl, rfl, hs⟩ := open_string Tryd.underlying9 (hval 0 9 v0 rfl rfl) h0
  obtain ⟨i, rfl, rfl, rfl, wi⟩ := open_int Tryd.underlying3 (hval 1 3 v1 rfl rfl) h1
  clear hA0 hval0
  simp only [List.append_nil] at hW'
  refine (law_any s i W (tabs_of_laid hL)).mono fun e W' ⟨he, hb⟩ => ?_
  subst he
  exact ⟨_, rfl, _, _, _, [], [], [], hW', trodAll_mk1 (shut_bool Tryd.underlying4 _), trodAll_mk2 (shut_string Tryd.underlying9 hs) (shut_int Tryd.underlying3 wi), rfl, hb.frame _, fun h => by cases h⟩

theorem row_holds : Rows.FnCarriedIsNewlineFreeUTF8Said :=
  OpenClaim.holds_of_wide 3 Tryd.f3 rfl rfl rfl rfl rfl rfl rfl ⟨rfl, rfl, rfl, rfl, rfl⟩ rfl rfl rfl rfl rfl (by kernel_rfl) Tryd.func3 (by kernel_rfl)
    (of_decide_eq_true (by kernel_rfl)) (by unfold Func.isWrapper; first | (rw [if_pos (by decide +kernel)]; kernel_rfl) | (rw [if_neg (by decide +kernel)]; exact ⟨rfl, rfl⟩))
    (fun os started H enc _ => lifted os started H enc)

/-- The tied card. -/
theorem fnCarriedIsNewlineFreeUTF8_card : Rows.FnCarriedIsNewlineFreeUTF8CardSaid :=
  Claim7.holds_tied_plain_at .later [] [.data, .pinned] true (true, "5ff0a460dde4564dbdf09166d706d35884b62a373847fbb2f5cf9ecdd4556f90") false row_holds (fun _ h => by cases h) (by kernel_rfl) (fun _ h => by cases h) fnCarriedIsNewlineFreeUTF8_row_tie rfl ⟨rfl, rfl⟩ (by kernel_rfl) rfl
    (fun f fn hf hfn => by
      obtain rfl : f = 3 := Option.some.inj ((show Tryd.prog.funcNamed Rows.fnCarriedIsNewlineFreeUTF8Row.func = some 3 by kernel_rfl).symm.trans hf) |>.symm
      obtain rfl : fn = Tryd.f3 := (Option.some.inj (Tryd.func3.symm.trans hfn)).symm
      exact ⟨by kernel_rfl, fun j t ht => by
        rw [Tryd.params3] at ht
        have hm : t ∈ [9, 3] := by simpa using Array.mem_of_getElem? ht
        have hall : ([9, 3].all fun u => !Tryd.prog.wantsStandIn u) = true := by kernel_rfl
        exact (show Tryd.prog.wantsStandIn t = false by simpa using List.all_eq_true.1 hall t hm)⟩)
    (by kernel_rfl)

end Go.Proofs.Qxb6616262aDoor
