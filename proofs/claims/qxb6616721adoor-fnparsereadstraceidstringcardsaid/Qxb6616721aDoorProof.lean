/-
  Seat b6616721aD: the row and the tied card of FnParseReadsTraceIDString.
-/
import Derived.Test.Qxb6616721aDoorTie
import Derived.Test.Qxb6616721aDoorCards
import Derived.Test.Qxb6616721aDoorAll
import Derived.ProofKit
import Derived.Lay
import Derived.LaidOnce
import Derived.SevenTiedAt
import Derived.HandedShaped
import Derived.OpenShut
import Derived.ChangeArms
import Derived.ChangeMaps5
namespace Go.Proofs.Qxb6616721aDoor
open Go.ChangeShapes Go.WideShapes Go.ChangeAt Go.RowKit Go.Lib

/-- The wrap for a row that lists variables, the world's shape kept for the contract. -/
theorem returns_laid_shaped {H : Type} {enc : TypeId × Value → H} {a : Assume} {C : Checked} {os : Os} {f : FuncId} {fn : Func} {s : ChangeSpec} {conds : List PathCond} {apart fresh handsOn again : Bool} {X : World → Array Value → Prop}
    (hX : ∀ (w w' : World) (args : Array Value), w.heap = w'.heap → X w args → X w' args)
    (own : ownKnob C.prog.godebug = none) (started : os.Started) (noInit : C.prog.inits.idxOf? f = none) (hfn : C.prog.funcs[f]? = some fn)
    (witness : ∃ (w : World) (tape : Tape) (i : Input), w.os = os ∧ (w.forCall tape i).Shaped C.prog ∧ i.vars = [] ∧ Input.okWide C.prog (w.forCall tape i) .any w.heap.size f i ∧
      ((s.pre enc C.prog fn conds apart (w.forCall tape i).memory i.args ∧ X (w.forCall tape i).memory i.args) ∧ sizedMet enc C.prog fn (OpenSpec.ofChange s) apart (w.forCall tape i).memory i.args) ∧ a.holds C.prog (lone (Frame.enter C.prog f i.args .normal) [] (w.forCall tape i)))
    (contract : ∀ (W : World) (base : Nat) (args : Array Value) (ds gs : List (DataW H)) (before : List MemPlace),
      (∀ (j : Nat) t v, fn.params[j]? = some t → args[j]? = some v → Value.okWide C.prog W .any base t v) →
      DataW.Whole enc C.prog fn.params.toList s.vars apart W args.toList ds gs before → X W args → W.ShapedOpen C.prog →
      Calls C.prog f args W fun e W' => ∃ v, e = .returned v ∧ s.post enc C.prog fn apart fresh handsOn again W args v W') :
    ReturnsInHanded a C os f .any (fun w args => (s.pre enc C.prog fn conds apart w args ∧ X w args) ∧ sizedMet enc C.prog fn (OpenSpec.ofChange s) apart w args) (s.post enc C.prog fn apart fresh handsOn again) := by
  refine returnsInHanded_of_calls own started noInit witness ?_
  intro w tape i _ hsh _ hok hpre _
  obtain ⟨_, _, _, fn', hfn', _, _, _, _, hval⟩ := hok
  have e : fn' = fn := Option.some.inj (hfn'.symm.trans hfn)
  subst e
  obtain ⟨⟨⟨ds, gs, before, hw, _⟩, hx⟩, _⟩ := hpre
  have hw' := DataW.Whole.of_heap (w' := w.forCall tape i) (by rfl) hw
  refine (contract (w.forCall tape i) w.heap.size i.args ds gs before hval hw' (hX _ _ _ (by rfl) hx) hsh).mono fun e W' ⟨v, he, hp⟩ => ?_
  subst he
  exact ChangeSpec.post_blind hp

theorem own : ownKnob Tryd.prog.godebug = none := by kernel_rfl
theorem laidOut : laidOutB Tryd.prog = true := by kernel_rfl

theorem u8_wf {n : Int} (h : (Lit.int .u8 n).wf = true) : 0 ≤ n ∧ n < 256 := ⟨(bounds_u8 h).1, Int.lt_of_le_of_lt (bounds_u8 h).2 (by decide)⟩

/-- An array of bytes, opened. -/
theorem open_arr {P : Program} {H : Type} {enc : TypeId × Value → H} {w : World} {base b0 : Nat} {sp : Nat → Bool} {held : Bool} {r : Reach} {t : TypeId} {n : Nat} {v : Value} {d : DataW H} {ps : List MemPlace} (ht : P.underlying t = some (.array n 5))
    (hval : Value.okWide P w r b0 t v) (hd : DataW.Trod enc P w base sp held t v d ps) (hct : P.cellsOf t = n) (h5 : P.underlying 5 = some (.int .u8)) (c5 : P.cellsOf 5 = 1) :
    ∃ l : List UInt8, l.length = n ∧ v = .agg (Lib.byteCells l).toArray := by
  have hv : ∃ cs, v = .agg cs ∧ cs.size = P.cellsOf t := by
    unfold Value.okWide at hval
    rw [ht] at hval
    obtain ⟨cs, h1, h2, _⟩ := hval
    exact ⟨cs, h1, h2⟩
  obtain ⟨cs, rfl, hsz⟩ := hv
  obtain ⟨fuel, hf⟩ := hd
  obtain ⟨xs, m, _, _, hlen, hxl, hall⟩ := DataW.trod_array ht hf
  have hcs : cs.toList.length = n := by rw [Array.length_toList, hsz, hct]
  have hev : ∀ i (h : i < cs.toList.length), ∃ b : UInt8, cs.toList[i] = .int .u8 (b.toNat : Int) := by
    intro i h
    have hi : i < n := by omega
    have e := hall i hi
    rw [List.getElem?_eq_getElem (show i < xs.length by omega), c5, Nat.mul_one] at e
    obtain ⟨k, hk, _, hw⟩ := DataW.trod_int h5 e
    have hcs' : (Value.agg cs).cells.toList = cs.toList := rfl
    rw [hcs', List.drop_eq_getElem_cons h] at hk
    simp only [List.take_succ_cons, List.take_zero, List.cons.injEq, and_true] at hk
    obtain ⟨k0, k1⟩ := u8_wf hw
    refine ⟨UInt8.ofNat k.toNat, ?_⟩
    rw [hk, Hx.byte_back k k0 k1]
  have hex : ∀ L : List Value, (∀ i (h : i < L.length), ∃ b : UInt8, L[i] = .int .u8 (b.toNat : Int)) → ∃ l : List UInt8, L = Lib.byteCells l := by
    intro L
    induction L with
    | nil => exact fun _ => ⟨[], rfl⟩
    | cons x L ih =>
      intro h
      obtain ⟨b, hb⟩ := h 0 (by simp)
      obtain ⟨l, hl⟩ := ih (fun i hi => h (i + 1) (by simpa using hi))
      exact ⟨b :: l, by simp only [List.getElem_cons_zero] at hb; rw [hb, hl]; rfl⟩
  obtain ⟨l, hl⟩ := hex _ hev
  refine ⟨l, by rw [← Lib.byteCells_length, ← hl, hcs], ?_⟩
  rw [← hl]

set_option maxRecDepth 100000 in
theorem lifted (os : Os) (started : os.Started) (H : Type) (enc : TypeId × Value → H) :
    ReturnsInHanded {} Tryd.checked os 4 .any (fun w args => (Rows.fnParseReadsTraceIDStringSpec.pre enc Tryd.prog Tryd.f4 [] false w args ∧ laidMetH Tryd.prog Rows.fnParseReadsTraceIDStringRow.laid w) ∧ sizedMet enc Tryd.prog Tryd.f4 (OpenSpec.ofChange Rows.fnParseReadsTraceIDStringSpec) false w args)
      (Rows.fnParseReadsTraceIDStringSpec.post enc Tryd.prog Tryd.f4 false true false false) := by
  refine returns_laid_shaped (C := Tryd.checked) (X := fun w _ => laidMetH Tryd.prog Rows.fnParseReadsTraceIDStringRow.laid w) (fun _ _ _ hh h => h.of_heap hh) own started (by kernel_rfl) Tryd.func4
    (ChangeSpec.witness_shaped (enc := enc) (C := Tryd.checked) (os := os) (X := fun w _ => laidMetH Tryd.prog Rows.fnParseReadsTraceIDStringRow.laid w) false (World.laidAll Tryd.prog os Rows.fnParseReadsTraceIDStringRow.laid) #[.agg (Lib.byteCells z16).toArray, .int .u8 0, .agg (Lib.byteCells z8).toArray, .int .u8 0, .string ⟨#[]⟩] 8 (World.laidAll_os _ _ _)
      (World.shaped_of_ZipB (by kernel_rfl) (by kernel_rfl)) (by kernel_rfl) (by kernel_rfl) (by kernel_rfl)
      (by rw [MakeChecks.laidMetH_plain _ _ _ (by kernel_rfl)]; exact laidMet_laidAll _ (by kernel_rfl) (by kernel_rfl))) ?_
  intro W base args ds gs before hval0 hW _ hsh
  have hval : ∀ (j : Nat) t v, Tryd.f4.params[j]? = some t → args[j]? = some v → Value.okWide Tryd.prog W .any base t v := hval0
  have hW' := hW
  obtain ⟨p, q, hA0, hV, rfl, _, _⟩ := hW
  have hA : DataW.TrodAll enc Tryd.prog W 0 (fun _ => true) true Tryd.f4.params.toList args.toList ds p := hA0
  rw [Tryd.params4] at hA hval
  obtain ⟨v0, r0, d0, s0, p0, q0, ha0, rfl, rfl, h0, hA1⟩ := trodAll_cons hA
  obtain ⟨v1, r1, d1, s1, p1, q1, rfl, rfl, rfl, h1, hA2⟩ := trodAll_cons hA1
  obtain ⟨v2, r2, d2, s2, p2, q2, rfl, rfl, rfl, h2, hA3⟩ := trodAll_cons hA2
  obtain ⟨v3, r3, d3, s3, p3, q3, rfl, rfl, rfl, h3, hA4⟩ := trodAll_cons hA3
  obtain ⟨v4, r4, d4, s4, p4, q4, rfl, rfl, rfl, h4, hA5⟩ := trodAll_cons hA4
  have hnil : r4 = [] ∧ s4 = [] ∧ q4 = [] := by
    cases r4 <;> cases s4 <;> simp [DataW.TrodAll] at hA5
    exact ⟨rfl, rfl, hA5⟩
  obtain ⟨rfl, rfl, rfl⟩ := hnil
  obtain ⟨rfl, rfl⟩ := trodVars_none hV
  have ha : args = #[v0, v1, v2, v3, v4] := by rw [← Array.toArray_toList (xs := args), ha0]
  subst ha
  obtain ⟨id, hid16, rfl⟩ := open_arr Tryd.underlying24 (hval 0 24 v0 rfl rfl) h0 (by kernel_rfl) Tryd.underlying5 (by kernel_rfl)
  obtain ⟨n1, rfl, e1, _, w1⟩ := open_int Tryd.underlying5 (hval 1 5 v1 rfl rfl) h1
  obtain ⟨pa, hpa8, rfl⟩ := open_arr Tryd.underlying31 (hval 2 31 v2 rfl rfl) h2 (by kernel_rfl) Tryd.underlying5 (by kernel_rfl)
  obtain ⟨n3, rfl, e3, _, w3⟩ := open_int Tryd.underlying5 (hval 3 5 v3 rfl rfl) h3
  obtain ⟨tail, rfl, e4, _, _⟩ := Go.ChangeMaps.open_string Tryd.underlying9 (hval 4 9 v4 rfl rfl) h4
  obtain ⟨m, hm⟩ := Tryd.laysM146.s1_3 W hsh
  have hE : ∃ ev, W.cell? ⟨0, 0, none⟩ = some ev := by
    obtain ⟨cs, hh, hs, _⟩ := hsh.1 0 #[.nilIface] 65 (of_decide_eq_true (by kernel_rfl)) (by kernel_rfl)
    have h1 : 0 < cs.size := by rw [hs]; decide
    exact ⟨cs[0], by simp [World.cell?, hh, h1]⟩
  obtain ⟨ev, hE⟩ := hE
  have lt : ∀ {t : TypeId} {v : Value} {d : DataW H} {ps : List MemPlace}, DataW.Trod enc Tryd.prog W 0 (fun _ => true) true t v d ps → ∀ x ∈ ps, x.block < W.heap.size := fun h => by
    obtain ⟨m, hm⟩ := h
    exact DataW.trod_lt m _ _ _ hm
  have b1 : n1 = ((UInt8.ofNat n1.toNat).toNat : Int) := (Hx.byte_back n1 (u8_wf w1).1 (u8_wf w1).2).symm
  have b3 : n3 = ((UInt8.ofNat n3.toNat).toNat : Int) := (Hx.byte_back n3 (u8_wf w3).1 (u8_wf w3).2).symm
  have hL := law_any (UInt8.ofNat n1.toNat) (UInt8.ofNat n3.toNat) id pa tail W ev m hid16 hpa8 hE hm
  rw [← b1, ← b3] at hL
  clear hA0 hval0 b1 b3
  refine hL.mono fun e W' ⟨he, bel⟩ => ?_
  subst he
  exact ⟨_, rfl, _, _, _, [], _, [], hW', trodAll_mk1 (shut_bool Tryd.underlying4 _),
    (trodAll_cons_mk (Below.trod laidOut (by kernel_rfl) (of_decide_eq_true (by kernel_rfl)) h0 bel (lt h0))
      (trodAll_cons_mk (Below.trod laidOut (by kernel_rfl) (of_decide_eq_true (by kernel_rfl)) h1 bel (lt h1))
        (trodAll_cons_mk (Below.trod laidOut (by kernel_rfl) (of_decide_eq_true (by kernel_rfl)) h2 bel (lt h2))
          (trodAll_cons_mk (Below.trod laidOut (by kernel_rfl) (of_decide_eq_true (by kernel_rfl)) h3 bel (lt h3))
            (trodAll_mk1 (Below.trod laidOut (by kernel_rfl) (of_decide_eq_true (by kernel_rfl)) h4 bel (lt h4))))))), rfl, bel.frame _, fun h => by cases h⟩

theorem row_holds : Rows.FnParseReadsTraceIDStringSaid :=
  OpenClaim.holds_of_wide 4 Tryd.f4 rfl rfl rfl rfl rfl rfl rfl ⟨rfl, rfl, rfl, rfl, rfl⟩ rfl rfl rfl rfl rfl (by kernel_rfl) Tryd.func4 (by kernel_rfl)
    (of_decide_eq_true (by kernel_rfl)) (by unfold Func.isWrapper; first | (rw [if_pos (by decide +kernel)]; kernel_rfl) | (rw [if_neg (by decide +kernel)]; exact ⟨rfl, rfl⟩))
    (fun os started H enc _ => lifted os started H enc)

/-- The tied card. -/
theorem fnParseReadsTraceIDString_card : Rows.FnParseReadsTraceIDStringCardSaid :=
  Claim7.holds_tied_plain_at .later [] [.data, .sentinel, .pinned] true (true, "b0eb17492b3ecbadcc8ed0bc4e6a9a45ab787261ee5c928f22e60fff84f4cb94") false row_holds (fun _ h => by cases h) (by kernel_rfl) (fun _ h => by cases h) fnParseReadsTraceIDString_row_tie rfl ⟨rfl, rfl⟩ (by kernel_rfl) rfl
    (fun f fn hf hfn => by
      obtain rfl : f = 4 := Option.some.inj ((show Tryd.prog.funcNamed Rows.fnParseReadsTraceIDStringRow.func = some 4 by kernel_rfl).symm.trans hf) |>.symm
      obtain rfl : fn = Tryd.f4 := (Option.some.inj (Tryd.func4.symm.trans hfn)).symm
      exact ⟨by kernel_rfl, fun j t ht => by
        rw [Tryd.params4] at ht
        have hm : t ∈ [24, 5, 31, 5, 9] := by simpa using Array.mem_of_getElem? ht
        have hall : ([24, 5, 31, 5, 9].all fun u => !Tryd.prog.wantsStandIn u) = true := by kernel_rfl
        exact (show Tryd.prog.wantsStandIn t = false by simpa using List.all_eq_true.1 hall t hm)⟩)
    (by kernel_rfl)

end Go.Proofs.Qxb6616721aDoor
