/-
  DERIVED. GIVEN WITH THE SEED: THE CARDS: each row of Qxb6602806aDoorRows.lean that lists a variable, with what it lists TIED to the program's text (the seventh form; the later family's looks); each row that meets fmt, with fmt's text TOLD by the authors' own Lean function (tested against real Go, not proved from fmt's source: count such statements apart). THE CARD IS WHAT COUNTS. Prove the row's statement (the work); the ties are given (Qxb6602806aDoorTie.lean); close each card by the builder's one call (the guide's Derived/Test/ToyasCard.lean, 'card_holds'). Laid BY PROGRAM, IN A SANDBOX (cutbox-door.mjs). By AI agents, Wed Nov 11 2026. No macro, syntax, notation, axiom, sorry.
-/
import Derived.Test.Qxb6602806aDoorRows
import GoSem.ClaimSeven
namespace Go.Proofs.Qxb6602806aDoor
namespace Rows

/-- THE TIED CARD OF 'zzlaws_sse_b1.FnAppendEventWire'. -/
def fnAppendEventWireCard : Claim7 := { stood := { row := fnAppendEventWireRow, standIns := [], harness := (true, "46b4bb663ba92b65de344cfc81d56c3e1e5f5c51525ef260633f26cb1fbb2758"), looks := false }, kinds := [], alts := [], laidByText := true, laidKinds := [.data, .pinned], laidTests := true, laidLooks := .later }
def FnAppendEventWireCardSaid : Prop := Claim7.holds Tryd.pinned (.plain (OpenSpec.ofChange fnAppendEventWireSpec)) fnAppendEventWireCard

/-- THE TIED CARD OF 'zzlaws_sse_b1.FnAppendThenNextRoundTrip'. -/
def fnAppendThenNextRoundTripCard : Claim7 := { stood := { row := fnAppendThenNextRoundTripRow, standIns := [], harness := (true, "46b4bb663ba92b65de344cfc81d56c3e1e5f5c51525ef260633f26cb1fbb2758"), looks := false }, kinds := [], alts := [], laidByText := true, laidKinds := [.data, .pinned], laidTests := true, laidLooks := .later }
def FnAppendThenNextRoundTripCardSaid : Prop := Claim7.holds Tryd.pinned (.plain (OpenSpec.ofChange fnAppendThenNextRoundTripSpec)) fnAppendThenNextRoundTripCard
end Rows
end Go.Proofs.Qxb6602806aDoor
