/-
  Seat b6616246aD: the row and the tied card of FnPrivateKeyLabelDecidesWhatFindOpens.
-/
import Derived.Test.Qxb6616246aDoorTie
import Derived.Test.Qxb6616246aDoorCards
import Derived.Test.Qxb6616246aDoorLaw
import Derived.ProofKit
import Derived.Lay
import Derived.LaidOnce
import Derived.SevenTiedAt
import Derived.HandedShaped
namespace Go.Proofs.Qxb6616246aDoor
open Go.ChangeShapes Go.WideShapes Go.ChangeAt Go.RowKit Go.Lib

/-- The wrap for a row that lists variables, the world's shape kept for the contract. -/
theorem returns_laid_shaped {H : Type} {enc : TypeId × Value → H} {a : Assume} {C : Checked} {os : Os} {f : FuncId} {fn : Func} {s : ChangeSpec} {conds : List PathCond} {apart fresh handsOn again : Bool} {X : World → Array Value → Prop}
    (hX : ∀ (w w' : World) (args : Array Value), w.heap = w'.heap → X w args → X w' args)
    (own : ownKnob C.prog.godebug = none) (started : os.Started) (noInit : C.prog.inits.idxOf? f = none) (hfn : C.prog.funcs[f]? = some fn)
    (witness : ∃ (w : World) (tape : Tape) (i : Input), w.os = os ∧ (w.forCall tape i).Shaped C.prog ∧ i.vars = [] ∧ Input.okWide C.prog (w.forCall tape i) .any w.heap.size f i ∧
      ((s.pre enc C.prog fn conds apart (w.forCall tape i).memory i.args ∧ X (w.forCall tape i).memory i.args) ∧ sizedMet enc C.prog fn (OpenSpec.ofChange s) apart (w.forCall tape i).memory i.args) ∧ a.holds C.prog (lone (Frame.enter C.prog f i.args .normal) [] (w.forCall tape i)))
    (contract : ∀ (W : World) (base : Nat) (args : Array Value) (ds gs : List (DataW H)) (before : List MemPlace),
      (∀ (j : Nat) t v, fn.params[j]? = some t → args[j]? = some v → Value.okWide C.prog W .any base t v) →
      DataW.Whole enc C.prog fn.params.toList s.vars apart W args.toList ds gs before → X W args → W.ShapedOpen C.prog →
      Calls C.prog f args W fun e W' => ∃ v, e = .returned v ∧ s.post enc C.prog fn apart fresh handsOn again W args v W') :
    ReturnsInHanded a C os f .any (fun w args => (s.pre enc C.prog fn conds apart w args ∧ X w args) ∧ sizedMet enc C.prog fn (OpenSpec.ofChange s) apart w args) (s.post enc C.prog fn apart fresh handsOn again) := by
  refine returnsInHanded_of_calls own started noInit witness ?_
  intro w tape i _ hsh _ hok hpre _
  obtain ⟨_, _, _, fn', hfn', _, _, _, _, hval⟩ := hok
  have e : fn' = fn := Option.some.inj (hfn'.symm.trans hfn)
  subst e
  obtain ⟨⟨⟨ds, gs, before, hw, _⟩, hx⟩, _⟩ := hpre
  have hw' := DataW.Whole.of_heap (w' := w.forCall tape i) (by rfl) hw
  refine (contract (w.forCall tape i) w.heap.size i.args ds gs before hval hw' (hX _ _ _ (by rfl) hx) hsh).mono fun e W' ⟨v, he, hp⟩ => ?_
  subst he
  exact ChangeSpec.post_blind hp

theorem own : ownKnob Tryd.prog.godebug = none := by kernel_rfl
theorem laidOut : laidOutB Tryd.prog = true := by kernel_rfl

/-- The law at whatever slice of bytes. -/
theorem law_in (q : Option Addr) (n c : Nat) (xs : List Int) (w : World) (hsh : w.ShapedOpen Tryd.prog) (hx : xs.length = n) (h : Lib.BytesIn w q n xs) (hr : ∀ x ∈ xs, 0 ≤ x ∧ x < 256) (hq : q = none → c = 0) :
    Calls Tryd.prog 4 #[.slice q n c] w fun e w' => e = .returned (.bool true) ∧ Below w.heap.size w w' := by
  have same : ∀ {Q : World → Prop}, Q w → (Calls Tryd.prog 4 #[.slice q n c] w fun e w' => e = .returned (.bool true) ∧ w' = w) → Calls Tryd.prog 4 #[.slice q n c] w fun e w' => e = .returned (.bool true) ∧ Q w' :=
    fun hQ hc => hc.mono fun e w' ⟨he, hw⟩ => ⟨he, by rw [hw]; exact hQ⟩
  have hxl : xs = nI (Lib.bytesOf xs) := by
    unfold nI Lib.bytesOf
    rw [List.map_map]
    have hc : ∀ x ∈ xs, ((fun c : UInt8 => (c.toNat : Int)) ∘ fun n : Int => UInt8.ofNat n.toNat) x = id x := fun x hm => by
      have := hr x hm
      simp
      omega
    rw [List.map_congr_left hc, List.map_id]
  obtain ⟨l, hl⟩ : ∃ l, l = Lib.bytesOf xs := ⟨_, rfl⟩
  rw [← hl] at hxl
  have hln : l.length = n := by rw [hl, Lib.bytesOf_length, hx]
  rw [hxl] at h
  obtain ⟨m, hm⟩ := Tryd.laysM185.s1_3 w hsh
  by_cases h1 : 1048576 < n
  · exact same (Below.refl _ _) (law_long q n c w h1)
  by_cases h2 : 262144 < n
  · exact same (Below.refl _ _) (law_mid q n c w (by omega) h2)
  cases hnl : hasNL (nI l) with
  | true => exact same (Below.refl _ _) (law_newline q n c l w hln (by omega) h hnl)
  | false =>
    cases q with
    | some a => exact law_own a n c l m w hln (by omega) h hnl hm
    | none =>
      have hn0 : n = 0 := by
        rcases Nat.eq_zero_or_pos n with h0 | h0
        · exact h0
        · obtain ⟨b, o, e, _⟩ := h h0
          cases e
      obtain rfl := hq rfl
      subst hn0
      exact law_nil l m w hln hm

set_option maxRecDepth 100000 in
theorem lifted (os : Os) (started : os.Started) (H : Type) (enc : TypeId × Value → H) :
    ReturnsInHanded {} Tryd.checked os 4 .any (fun w args => (Rows.fnPrivateKeyLabelDecidesWhatFindOpensSpec.pre enc Tryd.prog Tryd.f4 [] false w args ∧ laidMetH Tryd.prog Rows.fnPrivateKeyLabelDecidesWhatFindOpensRow.laid w) ∧ sizedMet enc Tryd.prog Tryd.f4 (OpenSpec.ofChange Rows.fnPrivateKeyLabelDecidesWhatFindOpensSpec) false w args)
      (Rows.fnPrivateKeyLabelDecidesWhatFindOpensSpec.post enc Tryd.prog Tryd.f4 false true false false) := by
  refine returns_laid_shaped (C := Tryd.checked) (X := fun w _ => laidMetH Tryd.prog Rows.fnPrivateKeyLabelDecidesWhatFindOpensRow.laid w) (fun _ _ _ hh h => h.of_heap hh) own started (by kernel_rfl) Tryd.func4
    (ChangeSpec.witness_shaped (enc := enc) (C := Tryd.checked) (os := os) (X := fun w _ => laidMetH Tryd.prog Rows.fnPrivateKeyLabelDecidesWhatFindOpensRow.laid w) false (World.laidAll Tryd.prog os Rows.fnPrivateKeyLabelDecidesWhatFindOpensRow.laid) #[.slice none 0 0] 8 (World.laidAll_os _ _ _)
      (World.shaped_of_ZipB (by kernel_rfl) (by kernel_rfl)) (by kernel_rfl) (by kernel_rfl) (by kernel_rfl)
      (by rw [MakeChecks.laidMetH_plain _ _ _ (by kernel_rfl)]; exact laidMet_laidAll _ (by kernel_rfl) (by kernel_rfl))) ?_
  intro W base args ds gs before hval0 hW _ hsh
  have hval : ∀ (j : Nat) t v, Tryd.f4.params[j]? = some t → args[j]? = some v → Value.okWide Tryd.prog W .any base t v := hval0
  have hW' := hW
  obtain ⟨p, q, hA0, hV, rfl, _, _⟩ := hW
  have hA : DataW.TrodAll enc Tryd.prog W 0 (fun _ => true) true Tryd.f4.params.toList args.toList ds p := hA0
  rw [Tryd.params4] at hA hval
  obtain ⟨v0, d0, rfl, rfl, h0⟩ := trodAll_one hA
  obtain ⟨rfl, rfl⟩ := trodVars_none hV
  obtain ⟨a0, len0, cap0, rfl⟩ := okWide_slice Tryd.underlying22 (hval 0 22 v0 rfl rfl)
  have k0 := h0
  have lt0 : ∀ x ∈ p, x.block < W.heap.size := by obtain ⟨m, hm⟩ := k0; exact DataW.trod_lt m _ _ _ hm
  obtain ⟨xs, hx, _, hin, _, hr, hnil⟩ := opened_bytes Tryd.underlying22 Tryd.underlying5 (by kernel_rfl) h0
  clear hA0 hval0
  refine (law_in a0 len0 cap0 xs W hsh hx hin hr hnil).mono fun e W' ⟨he, bel⟩ => ?_
  subst he
  exact ⟨_, rfl, _, _, _, [], _, [], hW', trodAll_mk1 (shut_bool Tryd.underlying4 _), (trodAll_mk1 (Below.trod laidOut (by kernel_rfl) (of_decide_eq_true (by kernel_rfl)) k0 bel lt0)), rfl, bel.frame _, fun h => by cases h⟩

theorem row_holds : Rows.FnPrivateKeyLabelDecidesWhatFindOpensSaid :=
  OpenClaim.holds_of_wide 4 Tryd.f4 rfl rfl rfl rfl rfl rfl rfl ⟨rfl, rfl, rfl, rfl, rfl⟩ rfl rfl rfl rfl rfl (by kernel_rfl) Tryd.func4 (by kernel_rfl)
    (of_decide_eq_true (by kernel_rfl)) (by unfold Func.isWrapper; first | (rw [if_pos (by decide +kernel)]; kernel_rfl) | (rw [if_neg (by decide +kernel)]; exact ⟨rfl, rfl⟩))
    (fun os started H enc _ => lifted os started H enc)

/-- The tied card. -/
theorem fnPrivateKeyLabelDecidesWhatFindOpens_card : Rows.FnPrivateKeyLabelDecidesWhatFindOpensCardSaid :=
  Claim7.holds_tied_plain_at .later [] [.data, .pinned] true (true, "e8502303bd22963d6bd7049348a5b8060a2e27583bf5077c1a9b03559128f254") false row_holds (fun _ h => by cases h) (by kernel_rfl) (fun _ h => by cases h) fnPrivateKeyLabelDecidesWhatFindOpens_row_tie rfl ⟨rfl, rfl⟩ (by kernel_rfl) rfl
    (fun f fn hf hfn => by
      obtain rfl : f = 4 := Option.some.inj ((show Tryd.prog.funcNamed Rows.fnPrivateKeyLabelDecidesWhatFindOpensRow.func = some 4 by kernel_rfl).symm.trans hf) |>.symm
      obtain rfl : fn = Tryd.f4 := (Option.some.inj (Tryd.func4.symm.trans hfn)).symm
      exact ⟨by kernel_rfl, fun j t ht => by
        rw [Tryd.params4] at ht
        have hm : t ∈ [22] := by simpa using Array.mem_of_getElem? ht
        have hall : ([22].all fun u => !Tryd.prog.wantsStandIn u) = true := by kernel_rfl
        exact (show Tryd.prog.wantsStandIn t = false by simpa using List.all_eq_true.1 hall t hm)⟩)
    (by kernel_rfl)

end Go.Proofs.Qxb6616246aDoor
