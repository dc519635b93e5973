/-
  DERIVED. GIVEN WITH THE SEED: THE CARDS: each row of Qxb6603392aDoorRows.lean that lists a variable, with what it lists TIED to the program's text (the seventh form; the later family's looks); each row that meets fmt, with fmt's text TOLD by the authors' own Lean function (tested against real Go, not proved from fmt's source: count such statements apart). THE CARD IS WHAT COUNTS. Prove the row's statement (the work); the ties are given (Qxb6603392aDoorTie.lean); close each card by the builder's one call (the guide's Derived/Test/ToyasCard.lean, 'card_holds'). Laid BY PROGRAM, IN A SANDBOX (cutbox-door.mjs). By AI agents, Wed Nov 11 2026. No macro, syntax, notation, axiom, sorry.
-/
import Derived.Test.Qxb6603392aDoorRows
import GoSem.ClaimSeven
namespace Go.Proofs.Qxb6603392aDoor
namespace Rows

/-- THE TIED CARD OF 'zzlaws_scope_b1.FnCoversAgreesWithHeadStripModel'. -/
def fnCoversAgreesWithHeadStripModelCard : Claim7 := { stood := { row := fnCoversAgreesWithHeadStripModelRow, standIns := [], harness := (true, "26076f749853ca0ca754af8142ef9ccabd5cc95dfc0f6837c183b029c886228e"), looks := false }, kinds := [], alts := [], laidByText := true, laidKinds := [.data, .pinned], laidTests := true, laidLooks := .later }
def FnCoversAgreesWithHeadStripModelCardSaid : Prop := Claim7.holds Tryd.pinned (.plain (OpenSpec.ofChange fnCoversAgreesWithHeadStripModelSpec)) fnCoversAgreesWithHeadStripModelCard

/-- THE TIED CARD OF 'zzlaws_scope_b1.FnCoversSelfAndTopAgreeWithValid'. -/
def fnCoversSelfAndTopAgreeWithValidCard : Claim7 := { stood := { row := fnCoversSelfAndTopAgreeWithValidRow, standIns := [], harness := (true, "26076f749853ca0ca754af8142ef9ccabd5cc95dfc0f6837c183b029c886228e"), looks := false }, kinds := [], alts := [], laidByText := true, laidKinds := [.data, .pinned], laidTests := true, laidLooks := .later }
def FnCoversSelfAndTopAgreeWithValidCardSaid : Prop := Claim7.holds Tryd.pinned (.plain (OpenSpec.ofChange fnCoversSelfAndTopAgreeWithValidSpec)) fnCoversSelfAndTopAgreeWithValidCard

/-- THE TIED CARD OF 'zzlaws_scope_b1.FnCoversTransitive'. -/
def fnCoversTransitiveCard : Claim7 := { stood := { row := fnCoversTransitiveRow, standIns := [], harness := (true, "26076f749853ca0ca754af8142ef9ccabd5cc95dfc0f6837c183b029c886228e"), looks := false }, kinds := [], alts := [], laidByText := true, laidKinds := [.data, .pinned], laidTests := true, laidLooks := .later }
def FnCoversTransitiveCardSaid : Prop := Claim7.holds Tryd.pinned (.plain (OpenSpec.ofChange fnCoversTransitiveSpec)) fnCoversTransitiveCard
end Rows
end Go.Proofs.Qxb6603392aDoor
