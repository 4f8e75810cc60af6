/-
  DERIVED. GIVEN WITH THE SEED: THE CARDS: each row of Qxb6616721aDoorRows.lean that lists a variable, with what it lists TIED to the program's text (the seventh form; the later family's looks); each row that meets fmt, with fmt's text TOLD by the authors' own Lean function (tested against real Go, not proved from fmt's source: count such statements apart). THE CARD IS WHAT COUNTS. Prove the row's statement (the work); the ties are given (Qxb6616721aDoorTie.lean); close each card by the builder's one call (the guide's Derived/Test/ToyasCard.lean, 'card_holds'). Laid BY PROGRAM, IN A SANDBOX (cutbox-door.mjs). By AI agents, Wed Nov 11 2026. No macro, syntax, notation, axiom, sorry.
-/
import Derived.Test.Qxb6616721aDoorRows
import GoSem.ClaimSeven
namespace Go.Proofs.Qxb6616721aDoor
namespace Rows

/-- THE TIED CARD OF 'zzlaws_internal_tracecontext_b1.FnParseWholeAnswer'. -/
def fnParseWholeAnswerCard : Claim7 := { stood := { row := fnParseWholeAnswerRow, standIns := [], harness := (true, "b0eb17492b3ecbadcc8ed0bc4e6a9a45ab787261ee5c928f22e60fff84f4cb94"), looks := false }, kinds := [], alts := [], laidByText := true, laidKinds := [.data, .sentinel, .pinned], laidTests := true, laidLooks := .later }
def FnParseWholeAnswerCardSaid : Prop := Claim7.holds Tryd.pinned (.plain (OpenSpec.ofChange fnParseWholeAnswerSpec)) fnParseWholeAnswerCard

/-- THE TIED CARD OF 'zzlaws_internal_tracecontext_b1.FnParseReadsTraceIDString'. -/
def fnParseReadsTraceIDStringCard : Claim7 := { stood := { row := fnParseReadsTraceIDStringRow, standIns := [], harness := (true, "b0eb17492b3ecbadcc8ed0bc4e6a9a45ab787261ee5c928f22e60fff84f4cb94"), looks := false }, kinds := [], alts := [], laidByText := true, laidKinds := [.data, .sentinel, .pinned], laidTests := true, laidLooks := .later }
def FnParseReadsTraceIDStringCardSaid : Prop := Claim7.holds Tryd.pinned (.plain (OpenSpec.ofChange fnParseReadsTraceIDStringSpec)) fnParseReadsTraceIDStringCard
end Rows
end Go.Proofs.Qxb6616721aDoor
