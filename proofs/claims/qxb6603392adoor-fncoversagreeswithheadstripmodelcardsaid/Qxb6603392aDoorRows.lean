/-
  NARROWER THAN 'FOR EVERY INPUT', by the rows' own cells (each row's printed sentence says how): FnCoversAgreesWithHeadStripModel: laid · FnCoversSelfAndTopAgreeWithValid: laid · FnCoversTransitive: laid.
  DERIVED. THE GIVEN ROWS OF THIS SEAT. 3 by the template 'for every input the law returns true; each argument reads behind the call as it read before'; 0 by the template 'total and deterministic' (their statements: Qxb6603392aDoorTotals.lean).
  GIVEN WITH THE SEED: the statements are not yours to turn. If you find one false, say at which input.
  Laid BY PROGRAM, IN A SANDBOX (cutbox-rows.mjs): the forced cells as the released guide's own fill.sh prints them over the translation f77bff25ba027f72… (all of the seat's roots in one cut). By AI agents, Wed Nov 11 2026. No macro, syntax, notation, axiom, sorry.
-/
import Derived.Test.Qxb6603392aDoorChecked
import GoSem.PinnedTables
import GoSem.Claim
import GoSem.ClaimJoined
import GoSem.ClaimMapViews
import Derived.JoinedTies
import Derived.KernelRfl
namespace Go.Proofs.Qxb6603392aDoor
/- THE CELL 'sum', in the pinned program and in every row, IS THE sha256 OF THE DUMP (.gsa) THAT Qxb6603392aDoorProg.lean LOADS. Nothing in Lean hashes anything: it is a label: what it is worth is what the hold of that sum in a sandbox is worth. -/
noncomputable def Tryd.pinned : Pinned := { name := "qxb6603392adoor", sum := "f77bff25ba027f72c8eee993e60f0695e7f19eeafed15706ad3624a8d157a553", checked := Tryd.checked }
namespace Rows
def none {H : Type} : Left H := { results := [], args := [] }

/- WHAT THE LISTED PACKAGE-LEVEL VARIABLES READ AS WHEN THE CALL BEGINS. Each datum BY PROGRAM (the guide's laid-datum.mjs) off the statement by which the dump's own 'gosem.cut.vars' lays the variable. In a bare row this is a premise. The card (Qxb6603392aDoorCards.lean) ties it to the program's text. -/
def laid_unicode_utf8_acceptRanges {H : Type} : DataW H := .agg [.agg [.lit (.int .u8 128), .lit (.int .u8 191)], .agg [.lit (.int .u8 160), .lit (.int .u8 191)], .agg [.lit (.int .u8 128), .lit (.int .u8 159)], .agg [.lit (.int .u8 144), .lit (.int .u8 191)], .agg [.lit (.int .u8 128), .lit (.int .u8 143)], .agg [.lit (.int .u8 0), .lit (.int .u8 0)], .agg [.lit (.int .u8 0), .lit (.int .u8 0)], .agg [.lit (.int .u8 0), .lit (.int .u8 0)], .agg [.lit (.int .u8 0), .lit (.int .u8 0)], .agg [.lit (.int .u8 0), .lit (.int .u8 0)], .agg [.lit (.int .u8 0), .lit (.int .u8 0)], .agg [.lit (.int .u8 0), .lit (.int .u8 0)], .agg [.lit (.int .u8 0), .lit (.int .u8 0)], .agg [.lit (.int .u8 0), .lit (.int .u8 0)], .agg [.lit (.int .u8 0), .lit (.int .u8 0)], .agg [.lit (.int .u8 0), .lit (.int .u8 0)]]
/-- One of Go's own tables, pinned by name: the form's constant. -/
def laid_unicode_utf8_first : DataW Unit := Go.Pinned.utf8First

/-- 'zzlaws_scope_b1.FnCoversAgreesWithHeadStripModel': WHATEVER THE INPUT: true; the input reads as it did. -/
def fnCoversAgreesWithHeadStripModelSpec : ChangeSpec := { name := "fnCoversAgreesWithHeadStripModel", fn := fun _ => fun
  | [d1, d2] => { results := [.lit (.bool true)], args := [d1, d2] }
  | _ => none }
def fnCoversAgreesWithHeadStripModelRow : OpenClaim := { program := "qxb6603392adoor", sum := "f77bff25ba027f72c8eee993e60f0695e7f19eeafed15706ad3624a8d157a553", func := "example.com/bourse/bourse/zzlaws_scope_b1.FnCoversAgreesWithHeadStripModel", spec := "fnCoversAgreesWithHeadStripModel", inPlace := ["internal/bytealg.CountString", "internal/bytealg.IndexByteString", "internal/bytealg.IndexString"], named := ["unicode/utf8.first", "unicode/utf8.acceptRanges", "internal/bytealg.MaxLen"], apart := false, laid := [("unicode/utf8.acceptRanges", laid_unicode_utf8_acceptRanges), ("unicode/utf8.first", laid_unicode_utf8_first)] }
def FnCoversAgreesWithHeadStripModelSaid : Prop := fnCoversAgreesWithHeadStripModelRow.holds Tryd.pinned (OpenSpec.ofChange fnCoversAgreesWithHeadStripModelSpec)

/-- ITS FALSE NEIGHBOUR: 'it returns false'. Refute it at one input. -/
def fnCoversAgreesWithHeadStripModelWrong : ChangeSpec := { name := "fnCoversAgreesWithHeadStripModel", fn := fun _ => fun
  | [d1, d2] => { results := [.lit (.bool false)], args := [d1, d2] }
  | _ => none }
def FnCoversAgreesWithHeadStripModelWrongFalsely : Prop := fnCoversAgreesWithHeadStripModelRow.holds Tryd.pinned (OpenSpec.ofChange fnCoversAgreesWithHeadStripModelWrong)

/-- 'zzlaws_scope_b1.FnCoversSelfAndTopAgreeWithValid': WHATEVER THE INPUT: true; the input reads as it did. -/
def fnCoversSelfAndTopAgreeWithValidSpec : ChangeSpec := { name := "fnCoversSelfAndTopAgreeWithValid", fn := fun _ => fun
  | [d] => { results := [.lit (.bool true)], args := [d] }
  | _ => none }
def fnCoversSelfAndTopAgreeWithValidRow : OpenClaim := { program := "qxb6603392adoor", sum := "f77bff25ba027f72c8eee993e60f0695e7f19eeafed15706ad3624a8d157a553", func := "example.com/bourse/bourse/zzlaws_scope_b1.FnCoversSelfAndTopAgreeWithValid", spec := "fnCoversSelfAndTopAgreeWithValid", inPlace := ["internal/bytealg.CountString", "internal/bytealg.IndexByteString", "internal/bytealg.IndexString"], named := ["unicode/utf8.first", "unicode/utf8.acceptRanges", "internal/bytealg.MaxLen"], apart := false, laid := [("unicode/utf8.acceptRanges", laid_unicode_utf8_acceptRanges), ("unicode/utf8.first", laid_unicode_utf8_first)] }
def FnCoversSelfAndTopAgreeWithValidSaid : Prop := fnCoversSelfAndTopAgreeWithValidRow.holds Tryd.pinned (OpenSpec.ofChange fnCoversSelfAndTopAgreeWithValidSpec)

/-- ITS FALSE NEIGHBOUR: 'it returns false'. Refute it at one input. -/
def fnCoversSelfAndTopAgreeWithValidWrong : ChangeSpec := { name := "fnCoversSelfAndTopAgreeWithValid", fn := fun _ => fun
  | [d] => { results := [.lit (.bool false)], args := [d] }
  | _ => none }
def FnCoversSelfAndTopAgreeWithValidWrongFalsely : Prop := fnCoversSelfAndTopAgreeWithValidRow.holds Tryd.pinned (OpenSpec.ofChange fnCoversSelfAndTopAgreeWithValidWrong)

/-- 'zzlaws_scope_b1.FnCoversTransitive': WHATEVER THE INPUT: true; the input reads as it did. -/
def fnCoversTransitiveSpec : ChangeSpec := { name := "fnCoversTransitive", fn := fun _ => fun
  | [d1, d2, d3] => { results := [.lit (.bool true)], args := [d1, d2, d3] }
  | _ => none }
def fnCoversTransitiveRow : OpenClaim := { program := "qxb6603392adoor", sum := "f77bff25ba027f72c8eee993e60f0695e7f19eeafed15706ad3624a8d157a553", func := "example.com/bourse/bourse/zzlaws_scope_b1.FnCoversTransitive", spec := "fnCoversTransitive", inPlace := ["internal/bytealg.CountString", "internal/bytealg.IndexByteString", "internal/bytealg.IndexString"], named := ["unicode/utf8.first", "unicode/utf8.acceptRanges", "internal/bytealg.MaxLen"], apart := false, laid := [("unicode/utf8.acceptRanges", laid_unicode_utf8_acceptRanges), ("unicode/utf8.first", laid_unicode_utf8_first)] }
def FnCoversTransitiveSaid : Prop := fnCoversTransitiveRow.holds Tryd.pinned (OpenSpec.ofChange fnCoversTransitiveSpec)

/-- ITS FALSE NEIGHBOUR: 'it returns false'. Refute it at one input. -/
def fnCoversTransitiveWrong : ChangeSpec := { name := "fnCoversTransitive", fn := fun _ => fun
  | [d1, d2, d3] => { results := [.lit (.bool false)], args := [d1, d2, d3] }
  | _ => none }
def FnCoversTransitiveWrongFalsely : Prop := fnCoversTransitiveRow.holds Tryd.pinned (OpenSpec.ofChange fnCoversTransitiveWrong)

end Rows
end Go.Proofs.Qxb6603392aDoor
