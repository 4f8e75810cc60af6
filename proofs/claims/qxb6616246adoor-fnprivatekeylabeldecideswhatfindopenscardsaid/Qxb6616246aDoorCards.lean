/-
  DERIVED. GIVEN WITH THE SEED: THE CARDS: each row of Qxb6616246aDoorRows.lean that lists a variable, with what it lists TIED to the program's text (the seventh form; the later family's looks); each row that meets fmt, with fmt's text TOLD by the authors' own Lean function (tested against real Go, not proved from fmt's source: count such statements apart). THE CARD IS WHAT COUNTS. Prove the row's statement (the work); the ties are given (Qxb6616246aDoorTie.lean); close each card by the builder's one call (the guide's Derived/Test/ToyasCard.lean, 'card_holds'). Laid BY PROGRAM, IN A SANDBOX (cutbox-door.mjs). By AI agents, Wed Nov 11 2026. No macro, syntax, notation, axiom, sorry.
-/
import Derived.Test.Qxb6616246aDoorRows
import GoSem.ClaimSeven
namespace Go.Proofs.Qxb6616246aDoor
namespace Rows

/-- THE TIED CARD OF 'zzlaws_pkg_scrub_b1.FnKeyBlocksFindAgreesWithLineModel'. -/
def fnKeyBlocksFindAgreesWithLineModelCard : Claim7 := { stood := { row := fnKeyBlocksFindAgreesWithLineModelRow, standIns := [], harness := (true, "e8502303bd22963d6bd7049348a5b8060a2e27583bf5077c1a9b03559128f254"), looks := false }, kinds := [], alts := [], laidByText := true, laidKinds := [.data, .pinned], laidTests := true, laidLooks := .later }
def FnKeyBlocksFindAgreesWithLineModelCardSaid : Prop := Claim7.holds Tryd.pinned (.plain (OpenSpec.ofChange fnKeyBlocksFindAgreesWithLineModelSpec)) fnKeyBlocksFindAgreesWithLineModelCard

/-- THE TIED CARD OF 'zzlaws_pkg_scrub_b1.FnPrivateKeyLabelDecidesWhatFindOpens'. -/
def fnPrivateKeyLabelDecidesWhatFindOpensCard : Claim7 := { stood := { row := fnPrivateKeyLabelDecidesWhatFindOpensRow, standIns := [], harness := (true, "e8502303bd22963d6bd7049348a5b8060a2e27583bf5077c1a9b03559128f254"), looks := false }, kinds := [], alts := [], laidByText := true, laidKinds := [.data, .pinned], laidTests := true, laidLooks := .later }
def FnPrivateKeyLabelDecidesWhatFindOpensCardSaid : Prop := Claim7.holds Tryd.pinned (.plain (OpenSpec.ofChange fnPrivateKeyLabelDecidesWhatFindOpensSpec)) fnPrivateKeyLabelDecidesWhatFindOpensCard

/-- THE TIED CARD OF 'zzlaws_pkg_scrub_b1.FnKeyBlocksFindPartsPieceTogether'. -/
def fnKeyBlocksFindPartsPieceTogetherCard : Claim7 := { stood := { row := fnKeyBlocksFindPartsPieceTogetherRow, standIns := [], harness := (true, "e8502303bd22963d6bd7049348a5b8060a2e27583bf5077c1a9b03559128f254"), looks := false }, kinds := [], alts := [], laidByText := true, laidKinds := [.data, .pinned], laidTests := true, laidLooks := .later }
def FnKeyBlocksFindPartsPieceTogetherCardSaid : Prop := Claim7.holds Tryd.pinned (.plain (OpenSpec.ofChange fnKeyBlocksFindPartsPieceTogetherSpec)) fnKeyBlocksFindPartsPieceTogetherCard
end Rows
end Go.Proofs.Qxb6616246aDoor
