/-
  NARROWER THAN 'FOR EVERY INPUT', by the rows' own cells (each row's printed sentence says how): FnKeyBlocksFindAgreesWithLineModel: laid · FnPrivateKeyLabelDecidesWhatFindOpens: laid · FnKeyBlocksFindPartsPieceTogether: laid.
  DERIVED. THE GIVEN ROWS OF THIS SEAT. 3 by the template 'for every input the law returns true; each argument reads behind the call as it read before'; 0 by the template 'total and deterministic' (their statements: Qxb6616246aDoorTotals.lean).
  GIVEN WITH THE SEED: the statements are not yours to turn. If you find one false, say at which input.
  Laid BY PROGRAM, IN A SANDBOX (cutbox-rows.mjs): the forced cells as the released guide's own fill.sh prints them over the translation dace9b9d8f415ff4… (all of the seat's roots in one cut). By AI agents, Wed Nov 11 2026. No macro, syntax, notation, axiom, sorry.
-/
import Derived.Test.Qxb6616246aDoorChecked
import GoSem.PinnedTables
import GoSem.Claim
import GoSem.ClaimJoined
import GoSem.ClaimMapViews
import Derived.JoinedTies
import Derived.KernelRfl
namespace Go.Proofs.Qxb6616246aDoor
/- THE CELL 'sum', in the pinned program and in every row, IS THE sha256 OF THE DUMP (.gsa) THAT Qxb6616246aDoorProg.lean LOADS. Nothing in Lean hashes anything: it is a label: what it is worth is what the hold of that sum in a sandbox is worth. -/
noncomputable def Tryd.pinned : Pinned := { name := "qxb6616246adoor", sum := "dace9b9d8f415ff4912a85578df6278211f10919b6526900b979f8d9311d1cb6", checked := Tryd.checked }
namespace Rows
def none {H : Type} : Left H := { results := [], args := [] }

/- WHAT THE LISTED PACKAGE-LEVEL VARIABLES READ AS WHEN THE CALL BEGINS. Each datum BY PROGRAM (the guide's laid-datum.mjs) off the statement by which the dump's own 'gosem.cut.vars' lays the variable. In a bare row this is a premise. The card (Qxb6616246aDoorCards.lean) ties it to the program's text. -/
def laid_unicode_utf8_acceptRanges {H : Type} : DataW H := .agg [.agg [.lit (.int .u8 128), .lit (.int .u8 191)], .agg [.lit (.int .u8 160), .lit (.int .u8 191)], .agg [.lit (.int .u8 128), .lit (.int .u8 159)], .agg [.lit (.int .u8 144), .lit (.int .u8 191)], .agg [.lit (.int .u8 128), .lit (.int .u8 143)], .agg [.lit (.int .u8 0), .lit (.int .u8 0)], .agg [.lit (.int .u8 0), .lit (.int .u8 0)], .agg [.lit (.int .u8 0), .lit (.int .u8 0)], .agg [.lit (.int .u8 0), .lit (.int .u8 0)], .agg [.lit (.int .u8 0), .lit (.int .u8 0)], .agg [.lit (.int .u8 0), .lit (.int .u8 0)], .agg [.lit (.int .u8 0), .lit (.int .u8 0)], .agg [.lit (.int .u8 0), .lit (.int .u8 0)], .agg [.lit (.int .u8 0), .lit (.int .u8 0)], .agg [.lit (.int .u8 0), .lit (.int .u8 0)], .agg [.lit (.int .u8 0), .lit (.int .u8 0)]]
/-- One of Go's own tables, pinned by name: the form's constant. -/
def laid_unicode_utf8_first : DataW Unit := Go.Pinned.utf8First

/-- 'zzlaws_pkg_scrub_b1.FnKeyBlocksFindAgreesWithLineModel': WHATEVER THE INPUT: true; the input reads as it did. -/
def fnKeyBlocksFindAgreesWithLineModelSpec : ChangeSpec := { name := "fnKeyBlocksFindAgreesWithLineModel", fn := fun _ => fun
  | [d] => { results := [.lit (.bool true)], args := [d] }
  | _ => none }
def fnKeyBlocksFindAgreesWithLineModelRow : OpenClaim := { program := "qxb6616246adoor", sum := "dace9b9d8f415ff4912a85578df6278211f10919b6526900b979f8d9311d1cb6", func := "example.com/toolwright/toolwright/zzlaws_pkg_scrub_b1.FnKeyBlocksFindAgreesWithLineModel", spec := "fnKeyBlocksFindAgreesWithLineModel", inPlace := ["internal/bytealg.IndexByte", "internal/bytealg.Index"], unfollowed := true, recurses := true, named := ["internal/bytealg.MaxLen", "unicode/utf8.first", "unicode/utf8.acceptRanges"], apart := false, laid := [("unicode/utf8.acceptRanges", laid_unicode_utf8_acceptRanges), ("unicode/utf8.first", laid_unicode_utf8_first)] }
def FnKeyBlocksFindAgreesWithLineModelSaid : Prop := fnKeyBlocksFindAgreesWithLineModelRow.holds Tryd.pinned (OpenSpec.ofChange fnKeyBlocksFindAgreesWithLineModelSpec)

/-- ITS FALSE NEIGHBOUR: 'it returns false'. Refute it at one input. -/
def fnKeyBlocksFindAgreesWithLineModelWrong : ChangeSpec := { name := "fnKeyBlocksFindAgreesWithLineModel", fn := fun _ => fun
  | [d] => { results := [.lit (.bool false)], args := [d] }
  | _ => none }
def FnKeyBlocksFindAgreesWithLineModelWrongFalsely : Prop := fnKeyBlocksFindAgreesWithLineModelRow.holds Tryd.pinned (OpenSpec.ofChange fnKeyBlocksFindAgreesWithLineModelWrong)

/-- 'zzlaws_pkg_scrub_b1.FnPrivateKeyLabelDecidesWhatFindOpens': WHATEVER THE INPUT: true; the input reads as it did. -/
def fnPrivateKeyLabelDecidesWhatFindOpensSpec : ChangeSpec := { name := "fnPrivateKeyLabelDecidesWhatFindOpens", fn := fun _ => fun
  | [d] => { results := [.lit (.bool true)], args := [d] }
  | _ => none }
def fnPrivateKeyLabelDecidesWhatFindOpensRow : OpenClaim := { program := "qxb6616246adoor", sum := "dace9b9d8f415ff4912a85578df6278211f10919b6526900b979f8d9311d1cb6", func := "example.com/toolwright/toolwright/zzlaws_pkg_scrub_b1.FnPrivateKeyLabelDecidesWhatFindOpens", spec := "fnPrivateKeyLabelDecidesWhatFindOpens", inPlace := ["internal/bytealg.IndexByte", "internal/bytealg.Index"], unfollowed := true, recurses := true, named := ["internal/bytealg.MaxLen", "unicode/utf8.first", "unicode/utf8.acceptRanges"], apart := false, laid := [("unicode/utf8.acceptRanges", laid_unicode_utf8_acceptRanges), ("unicode/utf8.first", laid_unicode_utf8_first)] }
def FnPrivateKeyLabelDecidesWhatFindOpensSaid : Prop := fnPrivateKeyLabelDecidesWhatFindOpensRow.holds Tryd.pinned (OpenSpec.ofChange fnPrivateKeyLabelDecidesWhatFindOpensSpec)

/-- ITS FALSE NEIGHBOUR: 'it returns false'. Refute it at one input. -/
def fnPrivateKeyLabelDecidesWhatFindOpensWrong : ChangeSpec := { name := "fnPrivateKeyLabelDecidesWhatFindOpens", fn := fun _ => fun
  | [d] => { results := [.lit (.bool false)], args := [d] }
  | _ => none }
def FnPrivateKeyLabelDecidesWhatFindOpensWrongFalsely : Prop := fnPrivateKeyLabelDecidesWhatFindOpensRow.holds Tryd.pinned (OpenSpec.ofChange fnPrivateKeyLabelDecidesWhatFindOpensWrong)

/-- 'zzlaws_pkg_scrub_b1.FnKeyBlocksFindPartsPieceTogether': WHATEVER THE INPUT: true; the input reads as it did. -/
def fnKeyBlocksFindPartsPieceTogetherSpec : ChangeSpec := { name := "fnKeyBlocksFindPartsPieceTogether", fn := fun _ => fun
  | [d1, d2] => { results := [.lit (.bool true)], args := [d1, d2] }
  | _ => none }
def fnKeyBlocksFindPartsPieceTogetherRow : OpenClaim := { program := "qxb6616246adoor", sum := "dace9b9d8f415ff4912a85578df6278211f10919b6526900b979f8d9311d1cb6", func := "example.com/toolwright/toolwright/zzlaws_pkg_scrub_b1.FnKeyBlocksFindPartsPieceTogether", spec := "fnKeyBlocksFindPartsPieceTogether", inPlace := ["internal/bytealg.IndexByte", "internal/bytealg.Index"], unfollowed := true, recurses := true, named := ["internal/bytealg.MaxLen", "unicode/utf8.first", "unicode/utf8.acceptRanges"], apart := false, laid := [("unicode/utf8.acceptRanges", laid_unicode_utf8_acceptRanges), ("unicode/utf8.first", laid_unicode_utf8_first)] }
def FnKeyBlocksFindPartsPieceTogetherSaid : Prop := fnKeyBlocksFindPartsPieceTogetherRow.holds Tryd.pinned (OpenSpec.ofChange fnKeyBlocksFindPartsPieceTogetherSpec)

/-- ITS FALSE NEIGHBOUR: 'it returns false'. Refute it at one input. -/
def fnKeyBlocksFindPartsPieceTogetherWrong : ChangeSpec := { name := "fnKeyBlocksFindPartsPieceTogether", fn := fun _ => fun
  | [d1, d2] => { results := [.lit (.bool false)], args := [d1, d2] }
  | _ => none }
def FnKeyBlocksFindPartsPieceTogetherWrongFalsely : Prop := fnKeyBlocksFindPartsPieceTogetherRow.holds Tryd.pinned (OpenSpec.ofChange fnKeyBlocksFindPartsPieceTogetherWrong)

end Rows
end Go.Proofs.Qxb6616246aDoor
