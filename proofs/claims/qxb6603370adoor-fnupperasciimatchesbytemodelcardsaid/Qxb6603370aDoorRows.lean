/-
  NARROWER THAN 'FOR EVERY INPUT', by the rows' own cells (each row's printed sentence says how): FnUpperASCIIMatchesByteModel: laid · FnUpperASCIIIdempotent: laid · FnUpperASCIISplitsAfterValidPrefix: laid.
  DERIVED. THE GIVEN ROWS OF THIS SEAT. 3 by the template 'for every input the law returns true; each argument reads behind the call as it read before'; 0 by the template 'total and deterministic' (their statements: Qxb6603370aDoorTotals.lean).
  GIVEN WITH THE SEED: the statements are not yours to turn. If you find one false, say at which input.
  Laid BY PROGRAM, IN A SANDBOX (cutbox-rows.mjs): the forced cells as the released guide's own fill.sh prints them over the translation db8f976ace059388… (all of the seat's roots in one cut). By AI agents, Wed Nov 11 2026. No macro, syntax, notation, axiom, sorry.
-/
import Derived.Test.Qxb6603370aDoorChecked
import GoSem.PinnedTables
import GoSem.Claim
import GoSem.ClaimJoined
import GoSem.ClaimMapViews
import Derived.JoinedTies
import Derived.KernelRfl
namespace Go.Proofs.Qxb6603370aDoor
/- THE CELL 'sum', in the pinned program and in every row, IS THE sha256 OF THE DUMP (.gsa) THAT Qxb6603370aDoorProg.lean LOADS. Nothing in Lean hashes anything: it is a label: what it is worth is what the hold of that sum in a sandbox is worth. -/
noncomputable def Tryd.pinned : Pinned := { name := "qxb6603370adoor", sum := "db8f976ace0593886e42dd0f15871fb1d8824905b2681e8a43f53413f0d56d62", checked := Tryd.checked }
namespace Rows
def none {H : Type} : Left H := { results := [], args := [] }

/- WHAT THE LISTED PACKAGE-LEVEL VARIABLES READ AS WHEN THE CALL BEGINS. Each datum BY PROGRAM (the guide's laid-datum.mjs) off the statement by which the dump's own 'gosem.cut.vars' lays the variable. In a bare row this is a premise. The card (Qxb6603370aDoorCards.lean) ties it to the program's text. -/
def laid_unicode_utf8_acceptRanges {H : Type} : DataW H := .agg [.agg [.lit (.int .u8 128), .lit (.int .u8 191)], .agg [.lit (.int .u8 160), .lit (.int .u8 191)], .agg [.lit (.int .u8 128), .lit (.int .u8 159)], .agg [.lit (.int .u8 144), .lit (.int .u8 191)], .agg [.lit (.int .u8 128), .lit (.int .u8 143)], .agg [.lit (.int .u8 0), .lit (.int .u8 0)], .agg [.lit (.int .u8 0), .lit (.int .u8 0)], .agg [.lit (.int .u8 0), .lit (.int .u8 0)], .agg [.lit (.int .u8 0), .lit (.int .u8 0)], .agg [.lit (.int .u8 0), .lit (.int .u8 0)], .agg [.lit (.int .u8 0), .lit (.int .u8 0)], .agg [.lit (.int .u8 0), .lit (.int .u8 0)], .agg [.lit (.int .u8 0), .lit (.int .u8 0)], .agg [.lit (.int .u8 0), .lit (.int .u8 0)], .agg [.lit (.int .u8 0), .lit (.int .u8 0)], .agg [.lit (.int .u8 0), .lit (.int .u8 0)]]
/-- One of Go's own tables, pinned by name: the form's constant. -/
def laid_unicode_utf8_first : DataW Unit := Go.Pinned.utf8First

/-- 'zzlaws_record_b1.FnUpperASCIIMatchesByteModel': WHATEVER THE INPUT: true; the input reads as it did. -/
def fnUpperASCIIMatchesByteModelSpec : ChangeSpec := { name := "fnUpperASCIIMatchesByteModel", fn := fun _ => fun
  | [d] => { results := [.lit (.bool true)], args := [d] }
  | _ => none }
def fnUpperASCIIMatchesByteModelRow : OpenClaim := { program := "qxb6603370adoor", sum := "db8f976ace0593886e42dd0f15871fb1d8824905b2681e8a43f53413f0d56d62", func := "example.com/keymoat/keymoat/zzlaws_record_b1.FnUpperASCIIMatchesByteModel", spec := "fnUpperASCIIMatchesByteModel", inPlace := ["internal/abi.NoEscape", "internal/bytealg.MakeNoZero"], unfollowed := true, recurses := true, named := ["unicode/utf8.first", "unicode/utf8.acceptRanges"], apart := false, laid := [("unicode/utf8.acceptRanges", laid_unicode_utf8_acceptRanges), ("unicode/utf8.first", laid_unicode_utf8_first)] }
def FnUpperASCIIMatchesByteModelSaid : Prop := fnUpperASCIIMatchesByteModelRow.holds Tryd.pinned (OpenSpec.ofChange fnUpperASCIIMatchesByteModelSpec)

/-- ITS FALSE NEIGHBOUR: 'it returns false'. Refute it at one input. -/
def fnUpperASCIIMatchesByteModelWrong : ChangeSpec := { name := "fnUpperASCIIMatchesByteModel", fn := fun _ => fun
  | [d] => { results := [.lit (.bool false)], args := [d] }
  | _ => none }
def FnUpperASCIIMatchesByteModelWrongFalsely : Prop := fnUpperASCIIMatchesByteModelRow.holds Tryd.pinned (OpenSpec.ofChange fnUpperASCIIMatchesByteModelWrong)

/-- 'zzlaws_record_b1.FnUpperASCIIIdempotent': WHATEVER THE INPUT: true; the input reads as it did. -/
def fnUpperASCIIIdempotentSpec : ChangeSpec := { name := "fnUpperASCIIIdempotent", fn := fun _ => fun
  | [d] => { results := [.lit (.bool true)], args := [d] }
  | _ => none }
def fnUpperASCIIIdempotentRow : OpenClaim := { program := "qxb6603370adoor", sum := "db8f976ace0593886e42dd0f15871fb1d8824905b2681e8a43f53413f0d56d62", func := "example.com/keymoat/keymoat/zzlaws_record_b1.FnUpperASCIIIdempotent", spec := "fnUpperASCIIIdempotent", inPlace := ["internal/abi.NoEscape", "internal/bytealg.MakeNoZero"], unfollowed := true, recurses := true, named := ["unicode/utf8.first", "unicode/utf8.acceptRanges"], apart := false, laid := [("unicode/utf8.acceptRanges", laid_unicode_utf8_acceptRanges), ("unicode/utf8.first", laid_unicode_utf8_first)] }
def FnUpperASCIIIdempotentSaid : Prop := fnUpperASCIIIdempotentRow.holds Tryd.pinned (OpenSpec.ofChange fnUpperASCIIIdempotentSpec)

/-- ITS FALSE NEIGHBOUR: 'it returns false'. Refute it at one input. -/
def fnUpperASCIIIdempotentWrong : ChangeSpec := { name := "fnUpperASCIIIdempotent", fn := fun _ => fun
  | [d] => { results := [.lit (.bool false)], args := [d] }
  | _ => none }
def FnUpperASCIIIdempotentWrongFalsely : Prop := fnUpperASCIIIdempotentRow.holds Tryd.pinned (OpenSpec.ofChange fnUpperASCIIIdempotentWrong)

/-- 'zzlaws_record_b1.FnUpperASCIISplitsAfterValidPrefix': WHATEVER THE INPUT: true; the input reads as it did. -/
def fnUpperASCIISplitsAfterValidPrefixSpec : ChangeSpec := { name := "fnUpperASCIISplitsAfterValidPrefix", fn := fun _ => fun
  | [d1, d2] => { results := [.lit (.bool true)], args := [d1, d2] }
  | _ => none }
def fnUpperASCIISplitsAfterValidPrefixRow : OpenClaim := { program := "qxb6603370adoor", sum := "db8f976ace0593886e42dd0f15871fb1d8824905b2681e8a43f53413f0d56d62", func := "example.com/keymoat/keymoat/zzlaws_record_b1.FnUpperASCIISplitsAfterValidPrefix", spec := "fnUpperASCIISplitsAfterValidPrefix", inPlace := ["internal/abi.NoEscape", "internal/bytealg.MakeNoZero"], unfollowed := true, recurses := true, named := ["unicode/utf8.first", "unicode/utf8.acceptRanges"], apart := false, laid := [("unicode/utf8.acceptRanges", laid_unicode_utf8_acceptRanges), ("unicode/utf8.first", laid_unicode_utf8_first)] }
def FnUpperASCIISplitsAfterValidPrefixSaid : Prop := fnUpperASCIISplitsAfterValidPrefixRow.holds Tryd.pinned (OpenSpec.ofChange fnUpperASCIISplitsAfterValidPrefixSpec)

/-- ITS FALSE NEIGHBOUR: 'it returns false'. Refute it at one input. -/
def fnUpperASCIISplitsAfterValidPrefixWrong : ChangeSpec := { name := "fnUpperASCIISplitsAfterValidPrefix", fn := fun _ => fun
  | [d1, d2] => { results := [.lit (.bool false)], args := [d1, d2] }
  | _ => none }
def FnUpperASCIISplitsAfterValidPrefixWrongFalsely : Prop := fnUpperASCIISplitsAfterValidPrefixRow.holds Tryd.pinned (OpenSpec.ofChange fnUpperASCIISplitsAfterValidPrefixWrong)

end Rows
end Go.Proofs.Qxb6603370aDoor
