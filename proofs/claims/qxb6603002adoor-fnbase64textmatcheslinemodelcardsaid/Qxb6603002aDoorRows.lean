/-
  NARROWER THAN 'FOR EVERY INPUT', by the rows' own cells (each row's printed sentence says how): FnBase64TextMatchesLineModel: laid · FnBase64TextKeepsAlphabetInOrder: laid · FnBase64TextIdempotent: laid.
  DERIVED. THE GIVEN ROWS OF THIS SEAT. 3 by the template 'for every input the law returns true; each argument reads behind the call as it read before'; 0 by the template 'total and deterministic' (their statements: Qxb6603002aDoorTotals.lean).
  GIVEN WITH THE SEED: the statements are not yours to turn. If you find one false, say at which input.
  Laid BY PROGRAM, IN A SANDBOX (cutbox-rows.mjs): the forced cells as the released guide's own fill.sh prints them over the translation b3c60af2bb08516d… (all of the seat's roots in one cut). By AI agents, Wed Nov 11 2026. No macro, syntax, notation, axiom, sorry.
-/
import Derived.Test.Qxb6603002aDoorChecked
import GoSem.PinnedTables
import GoSem.Claim
import GoSem.ClaimJoined
import GoSem.ClaimMapViews
import Derived.JoinedTies
import Derived.KernelRfl
namespace Go.Proofs.Qxb6603002aDoor
/- THE CELL 'sum', in the pinned program and in every row, IS THE sha256 OF THE DUMP (.gsa) THAT Qxb6603002aDoorProg.lean LOADS. Nothing in Lean hashes anything: it is a label: what it is worth is what the hold of that sum in a sandbox is worth. -/
noncomputable def Tryd.pinned : Pinned := { name := "qxb6603002adoor", sum := "b3c60af2bb08516d2d7acc4c89aca9e8eaca875e64c419ebc36df031a26ea296", checked := Tryd.checked }
namespace Rows
def none {H : Type} : Left H := { results := [], args := [] }

/- WHAT THE LISTED PACKAGE-LEVEL VARIABLES READ AS WHEN THE CALL BEGINS. Each datum BY PROGRAM (the guide's laid-datum.mjs) off the statement by which the dump's own 'gosem.cut.vars' lays the variable. In a bare row this is a premise. The card (Qxb6603002aDoorCards.lean) ties it to the program's text. -/
def laid_unicode_utf8_acceptRanges {H : Type} : DataW H := .agg [.agg [.lit (.int .u8 128), .lit (.int .u8 191)], .agg [.lit (.int .u8 160), .lit (.int .u8 191)], .agg [.lit (.int .u8 128), .lit (.int .u8 159)], .agg [.lit (.int .u8 144), .lit (.int .u8 191)], .agg [.lit (.int .u8 128), .lit (.int .u8 143)], .agg [.lit (.int .u8 0), .lit (.int .u8 0)], .agg [.lit (.int .u8 0), .lit (.int .u8 0)], .agg [.lit (.int .u8 0), .lit (.int .u8 0)], .agg [.lit (.int .u8 0), .lit (.int .u8 0)], .agg [.lit (.int .u8 0), .lit (.int .u8 0)], .agg [.lit (.int .u8 0), .lit (.int .u8 0)], .agg [.lit (.int .u8 0), .lit (.int .u8 0)], .agg [.lit (.int .u8 0), .lit (.int .u8 0)], .agg [.lit (.int .u8 0), .lit (.int .u8 0)], .agg [.lit (.int .u8 0), .lit (.int .u8 0)], .agg [.lit (.int .u8 0), .lit (.int .u8 0)]]
/-- One of Go's own tables, pinned by name: the form's constant. -/
def laid_unicode_utf8_first : DataW Unit := Go.Pinned.utf8First

/-- 'zzlaws_root_b1.FnBase64TextMatchesLineModel': WHATEVER THE INPUT: true; the input reads as it did. -/
def fnBase64TextMatchesLineModelSpec : ChangeSpec := { name := "fnBase64TextMatchesLineModel", fn := fun _ => fun
  | [d1, d2, d3] => { results := [.lit (.bool true)], args := [d1, d2, d3] }
  | _ => none }
def fnBase64TextMatchesLineModelRow : OpenClaim := { program := "qxb6603002adoor", sum := "b3c60af2bb08516d2d7acc4c89aca9e8eaca875e64c419ebc36df031a26ea296", func := "example.com/sealpack/sealpack/zzlaws_root_b1.FnBase64TextMatchesLineModel", spec := "fnBase64TextMatchesLineModel", inPlace := ["internal/bytealg.IndexByteString"], named := ["unicode/utf8.first", "unicode/utf8.acceptRanges"], apart := false, laid := [("unicode/utf8.acceptRanges", laid_unicode_utf8_acceptRanges), ("unicode/utf8.first", laid_unicode_utf8_first)] }
def FnBase64TextMatchesLineModelSaid : Prop := fnBase64TextMatchesLineModelRow.holds Tryd.pinned (OpenSpec.ofChange fnBase64TextMatchesLineModelSpec)

/-- ITS FALSE NEIGHBOUR: 'it returns false'. Refute it at one input. -/
def fnBase64TextMatchesLineModelWrong : ChangeSpec := { name := "fnBase64TextMatchesLineModel", fn := fun _ => fun
  | [d1, d2, d3] => { results := [.lit (.bool false)], args := [d1, d2, d3] }
  | _ => none }
def FnBase64TextMatchesLineModelWrongFalsely : Prop := fnBase64TextMatchesLineModelRow.holds Tryd.pinned (OpenSpec.ofChange fnBase64TextMatchesLineModelWrong)

/-- 'zzlaws_root_b1.FnBase64TextKeepsAlphabetInOrder': WHATEVER THE INPUT: true; the input reads as it did. -/
def fnBase64TextKeepsAlphabetInOrderSpec : ChangeSpec := { name := "fnBase64TextKeepsAlphabetInOrder", fn := fun _ => fun
  | [d1, d2, d3] => { results := [.lit (.bool true)], args := [d1, d2, d3] }
  | _ => none }
def fnBase64TextKeepsAlphabetInOrderRow : OpenClaim := { program := "qxb6603002adoor", sum := "b3c60af2bb08516d2d7acc4c89aca9e8eaca875e64c419ebc36df031a26ea296", func := "example.com/sealpack/sealpack/zzlaws_root_b1.FnBase64TextKeepsAlphabetInOrder", spec := "fnBase64TextKeepsAlphabetInOrder", inPlace := ["internal/bytealg.IndexByteString"], named := ["unicode/utf8.first", "unicode/utf8.acceptRanges"], apart := false, laid := [("unicode/utf8.acceptRanges", laid_unicode_utf8_acceptRanges), ("unicode/utf8.first", laid_unicode_utf8_first)] }
def FnBase64TextKeepsAlphabetInOrderSaid : Prop := fnBase64TextKeepsAlphabetInOrderRow.holds Tryd.pinned (OpenSpec.ofChange fnBase64TextKeepsAlphabetInOrderSpec)

/-- ITS FALSE NEIGHBOUR: 'it returns false'. Refute it at one input. -/
def fnBase64TextKeepsAlphabetInOrderWrong : ChangeSpec := { name := "fnBase64TextKeepsAlphabetInOrder", fn := fun _ => fun
  | [d1, d2, d3] => { results := [.lit (.bool false)], args := [d1, d2, d3] }
  | _ => none }
def FnBase64TextKeepsAlphabetInOrderWrongFalsely : Prop := fnBase64TextKeepsAlphabetInOrderRow.holds Tryd.pinned (OpenSpec.ofChange fnBase64TextKeepsAlphabetInOrderWrong)

/-- 'zzlaws_root_b1.FnBase64TextIdempotent': WHATEVER THE INPUT: true; the input reads as it did. -/
def fnBase64TextIdempotentSpec : ChangeSpec := { name := "fnBase64TextIdempotent", fn := fun _ => fun
  | [d1, d2, d3] => { results := [.lit (.bool true)], args := [d1, d2, d3] }
  | _ => none }
def fnBase64TextIdempotentRow : OpenClaim := { program := "qxb6603002adoor", sum := "b3c60af2bb08516d2d7acc4c89aca9e8eaca875e64c419ebc36df031a26ea296", func := "example.com/sealpack/sealpack/zzlaws_root_b1.FnBase64TextIdempotent", spec := "fnBase64TextIdempotent", inPlace := ["internal/bytealg.IndexByteString"], named := ["unicode/utf8.first", "unicode/utf8.acceptRanges"], apart := false, laid := [("unicode/utf8.acceptRanges", laid_unicode_utf8_acceptRanges), ("unicode/utf8.first", laid_unicode_utf8_first)] }
def FnBase64TextIdempotentSaid : Prop := fnBase64TextIdempotentRow.holds Tryd.pinned (OpenSpec.ofChange fnBase64TextIdempotentSpec)

/-- ITS FALSE NEIGHBOUR: 'it returns false'. Refute it at one input. -/
def fnBase64TextIdempotentWrong : ChangeSpec := { name := "fnBase64TextIdempotent", fn := fun _ => fun
  | [d1, d2, d3] => { results := [.lit (.bool false)], args := [d1, d2, d3] }
  | _ => none }
def FnBase64TextIdempotentWrongFalsely : Prop := fnBase64TextIdempotentRow.holds Tryd.pinned (OpenSpec.ofChange fnBase64TextIdempotentWrong)

end Rows
end Go.Proofs.Qxb6603002aDoor
