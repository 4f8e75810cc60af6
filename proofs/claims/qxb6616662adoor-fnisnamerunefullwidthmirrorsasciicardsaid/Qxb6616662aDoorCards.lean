/-
  DERIVED. GIVEN WITH THE SEED: THE CARDS: each row of Qxb6616662aDoorRows.lean that lists a variable, with what it lists TIED to the program's text (the seventh form; the later family's looks); each row that meets fmt, with fmt's text TOLD by the authors' own Lean function (tested against real Go, not proved from fmt's source: count such statements apart). THE CARD IS WHAT COUNTS. Prove the row's statement (the work); the ties are given (Qxb6616662aDoorTie.lean); close each card by the builder's one call (the guide's Derived/Test/ToyasCard.lean, 'card_holds'). Laid BY PROGRAM, IN A SANDBOX (cutbox-door.mjs). By AI agents, Wed Nov 11 2026. No macro, syntax, notation, axiom, sorry.
-/
import Derived.Test.Qxb6616662aDoorRows
import GoSem.ClaimSeven
namespace Go.Proofs.Qxb6616662aDoor
namespace Rows

/-- THE TIED CARD OF 'zzlaws_root_b1.FnIsNameRuneKnownBlocks'. -/
def fnIsNameRuneKnownBlocksCard : Claim7 := { stood := { row := fnIsNameRuneKnownBlocksRow, standIns := [], harness := (true, "6872dc6471c5fbdeee37d63687ed4ea640d5dec7bcb8ac7a4dbd5d88f454d60f"), looks := false }, kinds := [], alts := [], laidByText := true, laidKinds := [.data, .pinned, .pinned], laidTests := true, laidLooks := .later }
def FnIsNameRuneKnownBlocksCardSaid : Prop := Claim7.holds Tryd.pinned (.plain (OpenSpec.ofChange fnIsNameRuneKnownBlocksSpec)) fnIsNameRuneKnownBlocksCard

/-- THE TIED CARD OF 'zzlaws_root_b1.FnIsNameRuneFullwidthMirrorsAscii'. -/
def fnIsNameRuneFullwidthMirrorsAsciiCard : Claim7 := { stood := { row := fnIsNameRuneFullwidthMirrorsAsciiRow, standIns := [], harness := (true, "6872dc6471c5fbdeee37d63687ed4ea640d5dec7bcb8ac7a4dbd5d88f454d60f"), looks := false }, kinds := [], alts := [], laidByText := true, laidKinds := [.data, .pinned, .pinned], laidTests := true, laidLooks := .later }
def FnIsNameRuneFullwidthMirrorsAsciiCardSaid : Prop := Claim7.holds Tryd.pinned (.plain (OpenSpec.ofChange fnIsNameRuneFullwidthMirrorsAsciiSpec)) fnIsNameRuneFullwidthMirrorsAsciiCard
end Rows
end Go.Proofs.Qxb6616662aDoor
