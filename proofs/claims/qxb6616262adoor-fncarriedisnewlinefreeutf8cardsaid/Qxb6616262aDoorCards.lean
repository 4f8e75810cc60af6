/-
  DERIVED. GIVEN WITH THE SEED: THE CARDS: each row of Qxb6616262aDoorRows.lean that lists a variable, with what it lists TIED to the program's text (the seventh form; the later family's looks); each row that meets fmt, with fmt's text TOLD by the authors' own Lean function (tested against real Go, not proved from fmt's source: count such statements apart). THE CARD IS WHAT COUNTS. Prove the row's statement (the work); the ties are given (Qxb6616262aDoorTie.lean); close each card by the builder's one call (the guide's Derived/Test/ToyasCard.lean, 'card_holds'). Laid BY PROGRAM, IN A SANDBOX (cutbox-door.mjs). By AI agents, Wed Nov 11 2026. No macro, syntax, notation, axiom, sorry.
-/
import Derived.Test.Qxb6616262aDoorRows
import GoSem.ClaimSeven
namespace Go.Proofs.Qxb6616262aDoor
namespace Rows

/-- THE TIED CARD OF 'zzlaws_root_b1.FnCarriedIsNewlineFreeUTF8'. -/
def fnCarriedIsNewlineFreeUTF8Card : Claim7 := { stood := { row := fnCarriedIsNewlineFreeUTF8Row, standIns := [], harness := (true, "5ff0a460dde4564dbdf09166d706d35884b62a373847fbb2f5cf9ecdd4556f90"), looks := false }, kinds := [], alts := [], laidByText := true, laidKinds := [.data, .pinned], laidTests := true, laidLooks := .later }
def FnCarriedIsNewlineFreeUTF8CardSaid : Prop := Claim7.holds Tryd.pinned (.plain (OpenSpec.ofChange fnCarriedIsNewlineFreeUTF8Spec)) fnCarriedIsNewlineFreeUTF8Card
end Rows
end Go.Proofs.Qxb6616262aDoor
