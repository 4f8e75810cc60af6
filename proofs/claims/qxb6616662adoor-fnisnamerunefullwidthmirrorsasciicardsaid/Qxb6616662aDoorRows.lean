/-
  NARROWER THAN 'FOR EVERY INPUT', by the rows' own cells (each row's printed sentence says how): FnIsNameRuneKnownBlocks: laid · FnIsNameRuneFullwidthMirrorsAscii: laid.
  DERIVED. THE GIVEN ROWS OF THIS SEAT. 2 by the template 'for every input the law returns true; each argument reads behind the call as it read before'; 0 by the template 'total and deterministic' (their statements: Qxb6616662aDoorTotals.lean).
  GIVEN WITH THE SEED: the statements are not yours to turn. If you find one false, say at which input.
  Laid BY PROGRAM, IN A SANDBOX (cutbox-rows.mjs): the forced cells as the released guide's own fill.sh prints them over the translation 4b44f0268ee88ad7… (all of the seat's roots in one cut). By AI agents, Wed Nov 11 2026. No macro, syntax, notation, axiom, sorry.
-/
import Derived.Test.Qxb6616662aDoorChecked
import GoSem.PinnedTables
import GoSem.Claim
import GoSem.ClaimJoined
import GoSem.ClaimMapViews
import Derived.JoinedTies
import Derived.KernelRfl
namespace Go.Proofs.Qxb6616662aDoor
/- THE CELL 'sum', in the pinned program and in every row, IS THE sha256 OF THE DUMP (.gsa) THAT Qxb6616662aDoorProg.lean LOADS. Nothing in Lean hashes anything: it is a label: what it is worth is what the hold of that sum in a sandbox is worth. -/
noncomputable def Tryd.pinned : Pinned := { name := "qxb6616662adoor", sum := "4b44f0268ee88ad7b3366f8d2b9b7baa852d31e988314e35979f64548e930ec3", checked := Tryd.checked }
namespace Rows
def none {H : Type} : Left H := { results := [], args := [] }

/- WHAT THE LISTED PACKAGE-LEVEL VARIABLES READ AS WHEN THE CALL BEGINS. Each datum BY PROGRAM (the guide's laid-datum.mjs) off the statement by which the dump's own 'gosem.cut.vars' lays the variable. In a bare row this is a premise. The card (Qxb6616662aDoorCards.lean) ties it to the program's text. -/
def laid_unicode_properties {H : Type} : DataW H := .agg [.lit (.int .u8 1), .lit (.int .u8 1), .lit (.int .u8 1), .lit (.int .u8 1), .lit (.int .u8 1), .lit (.int .u8 1), .lit (.int .u8 1), .lit (.int .u8 1), .lit (.int .u8 1), .lit (.int .u8 1), .lit (.int .u8 1), .lit (.int .u8 1), .lit (.int .u8 1), .lit (.int .u8 1), .lit (.int .u8 1), .lit (.int .u8 1), .lit (.int .u8 1), .lit (.int .u8 1), .lit (.int .u8 1), .lit (.int .u8 1), .lit (.int .u8 1), .lit (.int .u8 1), .lit (.int .u8 1), .lit (.int .u8 1), .lit (.int .u8 1), .lit (.int .u8 1), .lit (.int .u8 1), .lit (.int .u8 1), .lit (.int .u8 1), .lit (.int .u8 1), .lit (.int .u8 1), .lit (.int .u8 1), .lit (.int .u8 144), .lit (.int .u8 130), .lit (.int .u8 130), .lit (.int .u8 130), .lit (.int .u8 136), .lit (.int .u8 130), .lit (.int .u8 130), .lit (.int .u8 130), .lit (.int .u8 130), .lit (.int .u8 130), .lit (.int .u8 130), .lit (.int .u8 136), .lit (.int .u8 130), .lit (.int .u8 130), .lit (.int .u8 130), .lit (.int .u8 130), .lit (.int .u8 132), .lit (.int .u8 132), .lit (.int .u8 132), .lit (.int .u8 132), .lit (.int .u8 132), .lit (.int .u8 132), .lit (.int .u8 132), .lit (.int .u8 132), .lit (.int .u8 132), .lit (.int .u8 132), .lit (.int .u8 130), .lit (.int .u8 130), .lit (.int .u8 136), .lit (.int .u8 136), .lit (.int .u8 136), .lit (.int .u8 130), .lit (.int .u8 130), .lit (.int .u8 160), .lit (.int .u8 160), .lit (.int .u8 160), .lit (.int .u8 160), .lit (.int .u8 160), .lit (.int .u8 160), .lit (.int .u8 160), .lit (.int .u8 160), .lit (.int .u8 160), .lit (.int .u8 160), .lit (.int .u8 160), .lit (.int .u8 160), .lit (.int .u8 160), .lit (.int .u8 160), .lit (.int .u8 160), .lit (.int .u8 160), .lit (.int .u8 160), .lit (.int .u8 160), .lit (.int .u8 160), .lit (.int .u8 160), .lit (.int .u8 160), .lit (.int .u8 160), .lit (.int .u8 160), .lit (.int .u8 160), .lit (.int .u8 160), .lit (.int .u8 160), .lit (.int .u8 130), .lit (.int .u8 130), .lit (.int .u8 130), .lit (.int .u8 136), .lit (.int .u8 130), .lit (.int .u8 136), .lit (.int .u8 192), .lit (.int .u8 192), .lit (.int .u8 192), .lit (.int .u8 192), .lit (.int .u8 192), .lit (.int .u8 192), .lit (.int .u8 192), .lit (.int .u8 192), .lit (.int .u8 192), .lit (.int .u8 192), .lit (.int .u8 192), .lit (.int .u8 192), .lit (.int .u8 192), .lit (.int .u8 192), .lit (.int .u8 192), .lit (.int .u8 192), .lit (.int .u8 192), .lit (.int .u8 192), .lit (.int .u8 192), .lit (.int .u8 192), .lit (.int .u8 192), .lit (.int .u8 192), .lit (.int .u8 192), .lit (.int .u8 192), .lit (.int .u8 192), .lit (.int .u8 192), .lit (.int .u8 130), .lit (.int .u8 136), .lit (.int .u8 130), .lit (.int .u8 136), .lit (.int .u8 1), .lit (.int .u8 1), .lit (.int .u8 1), .lit (.int .u8 1), .lit (.int .u8 1), .lit (.int .u8 1), .lit (.int .u8 1), .lit (.int .u8 1), .lit (.int .u8 1), .lit (.int .u8 1), .lit (.int .u8 1), .lit (.int .u8 1), .lit (.int .u8 1), .lit (.int .u8 1), .lit (.int .u8 1), .lit (.int .u8 1), .lit (.int .u8 1), .lit (.int .u8 1), .lit (.int .u8 1), .lit (.int .u8 1), .lit (.int .u8 1), .lit (.int .u8 1), .lit (.int .u8 1), .lit (.int .u8 1), .lit (.int .u8 1), .lit (.int .u8 1), .lit (.int .u8 1), .lit (.int .u8 1), .lit (.int .u8 1), .lit (.int .u8 1), .lit (.int .u8 1), .lit (.int .u8 1), .lit (.int .u8 1), .lit (.int .u8 16), .lit (.int .u8 130), .lit (.int .u8 136), .lit (.int .u8 136), .lit (.int .u8 136), .lit (.int .u8 136), .lit (.int .u8 136), .lit (.int .u8 130), .lit (.int .u8 136), .lit (.int .u8 136), .lit (.int .u8 224), .lit (.int .u8 130), .lit (.int .u8 136), .lit (.int .u8 0), .lit (.int .u8 136), .lit (.int .u8 136), .lit (.int .u8 136), .lit (.int .u8 136), .lit (.int .u8 132), .lit (.int .u8 132), .lit (.int .u8 136), .lit (.int .u8 192), .lit (.int .u8 130), .lit (.int .u8 130), .lit (.int .u8 136), .lit (.int .u8 132), .lit (.int .u8 224), .lit (.int .u8 130), .lit (.int .u8 132), .lit (.int .u8 132), .lit (.int .u8 132), .lit (.int .u8 130), .lit (.int .u8 160), .lit (.int .u8 160), .lit (.int .u8 160), .lit (.int .u8 160), .lit (.int .u8 160), .lit (.int .u8 160), .lit (.int .u8 160), .lit (.int .u8 160), .lit (.int .u8 160), .lit (.int .u8 160), .lit (.int .u8 160), .lit (.int .u8 160), .lit (.int .u8 160), .lit (.int .u8 160), .lit (.int .u8 160), .lit (.int .u8 160), .lit (.int .u8 160), .lit (.int .u8 160), .lit (.int .u8 160), .lit (.int .u8 160), .lit (.int .u8 160), .lit (.int .u8 160), .lit (.int .u8 160), .lit (.int .u8 136), .lit (.int .u8 160), .lit (.int .u8 160), .lit (.int .u8 160), .lit (.int .u8 160), .lit (.int .u8 160), .lit (.int .u8 160), .lit (.int .u8 160), .lit (.int .u8 192), .lit (.int .u8 192), .lit (.int .u8 192), .lit (.int .u8 192), .lit (.int .u8 192), .lit (.int .u8 192), .lit (.int .u8 192), .lit (.int .u8 192), .lit (.int .u8 192), .lit (.int .u8 192), .lit (.int .u8 192), .lit (.int .u8 192), .lit (.int .u8 192), .lit (.int .u8 192), .lit (.int .u8 192), .lit (.int .u8 192), .lit (.int .u8 192), .lit (.int .u8 192), .lit (.int .u8 192), .lit (.int .u8 192), .lit (.int .u8 192), .lit (.int .u8 192), .lit (.int .u8 192), .lit (.int .u8 192), .lit (.int .u8 136), .lit (.int .u8 192), .lit (.int .u8 192), .lit (.int .u8 192), .lit (.int .u8 192), .lit (.int .u8 192), .lit (.int .u8 192), .lit (.int .u8 192), .lit (.int .u8 192)]
/-- One of Go's own tables, pinned by name: the form's constant. -/
def laid_unicode_Digit : DataW Unit := Go.Pinned.digit
/-- One of Go's own tables, pinned by name: the form's constant. -/
def laid_unicode_Letter : DataW Unit := Go.Pinned.letter

/-- 'zzlaws_root_b1.FnIsNameRuneKnownBlocks': WHATEVER THE INPUT: true; the input reads as it did. -/
def fnIsNameRuneKnownBlocksSpec : ChangeSpec := { name := "fnIsNameRuneKnownBlocks", fn := fun _ => fun
  | [d] => { results := [.lit (.bool true)], args := [d] }
  | _ => none }
def fnIsNameRuneKnownBlocksRow : OpenClaim := { program := "qxb6616662adoor", sum := "4b44f0268ee88ad7b3366f8d2b9b7baa852d31e988314e35979f64548e930ec3", func := "example.com/rowtag/rowtag/zzlaws_root_b1.FnIsNameRuneKnownBlocks", spec := "fnIsNameRuneKnownBlocks", named := ["unicode.properties", "unicode.Letter", "unicode.Digit"], apart := false, laid := [("unicode.properties", laid_unicode_properties), ("unicode.Digit", laid_unicode_Digit), ("unicode.Letter", laid_unicode_Letter)] }
def FnIsNameRuneKnownBlocksSaid : Prop := fnIsNameRuneKnownBlocksRow.holds Tryd.pinned (OpenSpec.ofChange fnIsNameRuneKnownBlocksSpec)

/-- ITS FALSE NEIGHBOUR: 'it returns false'. Refute it at one input. -/
def fnIsNameRuneKnownBlocksWrong : ChangeSpec := { name := "fnIsNameRuneKnownBlocks", fn := fun _ => fun
  | [d] => { results := [.lit (.bool false)], args := [d] }
  | _ => none }
def FnIsNameRuneKnownBlocksWrongFalsely : Prop := fnIsNameRuneKnownBlocksRow.holds Tryd.pinned (OpenSpec.ofChange fnIsNameRuneKnownBlocksWrong)

/-- 'zzlaws_root_b1.FnIsNameRuneFullwidthMirrorsAscii': WHATEVER THE INPUT: true; the input reads as it did. -/
def fnIsNameRuneFullwidthMirrorsAsciiSpec : ChangeSpec := { name := "fnIsNameRuneFullwidthMirrorsAscii", fn := fun _ => fun
  | [d] => { results := [.lit (.bool true)], args := [d] }
  | _ => none }
def fnIsNameRuneFullwidthMirrorsAsciiRow : OpenClaim := { program := "qxb6616662adoor", sum := "4b44f0268ee88ad7b3366f8d2b9b7baa852d31e988314e35979f64548e930ec3", func := "example.com/rowtag/rowtag/zzlaws_root_b1.FnIsNameRuneFullwidthMirrorsAscii", spec := "fnIsNameRuneFullwidthMirrorsAscii", named := ["unicode.properties", "unicode.Letter", "unicode.Digit"], apart := false, laid := [("unicode.properties", laid_unicode_properties), ("unicode.Digit", laid_unicode_Digit), ("unicode.Letter", laid_unicode_Letter)] }
def FnIsNameRuneFullwidthMirrorsAsciiSaid : Prop := fnIsNameRuneFullwidthMirrorsAsciiRow.holds Tryd.pinned (OpenSpec.ofChange fnIsNameRuneFullwidthMirrorsAsciiSpec)

/-- ITS FALSE NEIGHBOUR: 'it returns false'. Refute it at one input. -/
def fnIsNameRuneFullwidthMirrorsAsciiWrong : ChangeSpec := { name := "fnIsNameRuneFullwidthMirrorsAscii", fn := fun _ => fun
  | [d] => { results := [.lit (.bool false)], args := [d] }
  | _ => none }
def FnIsNameRuneFullwidthMirrorsAsciiWrongFalsely : Prop := fnIsNameRuneFullwidthMirrorsAsciiRow.holds Tryd.pinned (OpenSpec.ofChange fnIsNameRuneFullwidthMirrorsAsciiWrong)

end Rows
end Go.Proofs.Qxb6616662aDoor
