/-
  DERIVED. GIVEN WITH THE SEED: THE CARDS: each row of Qxb6603370aDoorRows.lean that lists a variable, with what it lists TIED to the program's text (the seventh form; the later family's looks); each row that meets fmt, with fmt's text TOLD by the authors' own Lean function (tested against real Go, not proved from fmt's source: count such statements apart). THE CARD IS WHAT COUNTS. Prove the row's statement (the work); the ties are given (Qxb6603370aDoorTie.lean); close each card by the builder's one call (the guide's Derived/Test/ToyasCard.lean, 'card_holds'). Laid BY PROGRAM, IN A SANDBOX (cutbox-door.mjs). By AI agents, Wed Nov 11 2026. No macro, syntax, notation, axiom, sorry.
-/
import Derived.Test.Qxb6603370aDoorRows
import GoSem.ClaimSeven
namespace Go.Proofs.Qxb6603370aDoor
namespace Rows

/-- THE TIED CARD OF 'zzlaws_record_b1.FnUpperASCIIMatchesByteModel'. -/
def fnUpperASCIIMatchesByteModelCard : Claim7 := { stood := { row := fnUpperASCIIMatchesByteModelRow, standIns := [], harness := (true, "a93e38992bde6fa78c32d8169dc785004bb2c802b31b4ebcb4358410d8b8d96c"), looks := false }, kinds := [], alts := [], laidByText := true, laidKinds := [.data, .pinned], laidTests := true, laidLooks := .later }
def FnUpperASCIIMatchesByteModelCardSaid : Prop := Claim7.holds Tryd.pinned (.plain (OpenSpec.ofChange fnUpperASCIIMatchesByteModelSpec)) fnUpperASCIIMatchesByteModelCard

/-- THE TIED CARD OF 'zzlaws_record_b1.FnUpperASCIIIdempotent'. -/
def fnUpperASCIIIdempotentCard : Claim7 := { stood := { row := fnUpperASCIIIdempotentRow, standIns := [], harness := (true, "a93e38992bde6fa78c32d8169dc785004bb2c802b31b4ebcb4358410d8b8d96c"), looks := false }, kinds := [], alts := [], laidByText := true, laidKinds := [.data, .pinned], laidTests := true, laidLooks := .later }
def FnUpperASCIIIdempotentCardSaid : Prop := Claim7.holds Tryd.pinned (.plain (OpenSpec.ofChange fnUpperASCIIIdempotentSpec)) fnUpperASCIIIdempotentCard

/-- THE TIED CARD OF 'zzlaws_record_b1.FnUpperASCIISplitsAfterValidPrefix'. -/
def fnUpperASCIISplitsAfterValidPrefixCard : Claim7 := { stood := { row := fnUpperASCIISplitsAfterValidPrefixRow, standIns := [], harness := (true, "a93e38992bde6fa78c32d8169dc785004bb2c802b31b4ebcb4358410d8b8d96c"), looks := false }, kinds := [], alts := [], laidByText := true, laidKinds := [.data, .pinned], laidTests := true, laidLooks := .later }
def FnUpperASCIISplitsAfterValidPrefixCardSaid : Prop := Claim7.holds Tryd.pinned (.plain (OpenSpec.ofChange fnUpperASCIISplitsAfterValidPrefixSpec)) fnUpperASCIISplitsAfterValidPrefixCard
end Rows
end Go.Proofs.Qxb6603370aDoor
