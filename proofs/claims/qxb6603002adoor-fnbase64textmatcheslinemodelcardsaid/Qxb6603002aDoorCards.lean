/-
  DERIVED. GIVEN WITH THE SEED: THE CARDS: each row of Qxb6603002aDoorRows.lean that lists a variable, with what it lists TIED to the program's text (the seventh form; the later family's looks); each row that meets fmt, with fmt's text TOLD by the authors' own Lean function (tested against real Go, not proved from fmt's source: count such statements apart). THE CARD IS WHAT COUNTS. Prove the row's statement (the work); the ties are given (Qxb6603002aDoorTie.lean); close each card by the builder's one call (the guide's Derived/Test/ToyasCard.lean, 'card_holds'). Laid BY PROGRAM, IN A SANDBOX (cutbox-door.mjs). By AI agents, Wed Nov 11 2026. No macro, syntax, notation, axiom, sorry.
-/
import Derived.Test.Qxb6603002aDoorRows
import GoSem.ClaimSeven
namespace Go.Proofs.Qxb6603002aDoor
namespace Rows

/-- THE TIED CARD OF 'zzlaws_root_b1.FnBase64TextMatchesLineModel'. -/
def fnBase64TextMatchesLineModelCard : Claim7 := { stood := { row := fnBase64TextMatchesLineModelRow, standIns := [], harness := (true, "921374c52b0cc771f088f0109e3c05c4755c268ae9c81af00a24e4074f1e6ec2"), looks := false }, kinds := [], alts := [], laidByText := true, laidKinds := [.data, .pinned], laidTests := true, laidLooks := .later }
def FnBase64TextMatchesLineModelCardSaid : Prop := Claim7.holds Tryd.pinned (.plain (OpenSpec.ofChange fnBase64TextMatchesLineModelSpec)) fnBase64TextMatchesLineModelCard

/-- THE TIED CARD OF 'zzlaws_root_b1.FnBase64TextKeepsAlphabetInOrder'. -/
def fnBase64TextKeepsAlphabetInOrderCard : Claim7 := { stood := { row := fnBase64TextKeepsAlphabetInOrderRow, standIns := [], harness := (true, "921374c52b0cc771f088f0109e3c05c4755c268ae9c81af00a24e4074f1e6ec2"), looks := false }, kinds := [], alts := [], laidByText := true, laidKinds := [.data, .pinned], laidTests := true, laidLooks := .later }
def FnBase64TextKeepsAlphabetInOrderCardSaid : Prop := Claim7.holds Tryd.pinned (.plain (OpenSpec.ofChange fnBase64TextKeepsAlphabetInOrderSpec)) fnBase64TextKeepsAlphabetInOrderCard

/-- THE TIED CARD OF 'zzlaws_root_b1.FnBase64TextIdempotent'. -/
def fnBase64TextIdempotentCard : Claim7 := { stood := { row := fnBase64TextIdempotentRow, standIns := [], harness := (true, "921374c52b0cc771f088f0109e3c05c4755c268ae9c81af00a24e4074f1e6ec2"), looks := false }, kinds := [], alts := [], laidByText := true, laidKinds := [.data, .pinned], laidTests := true, laidLooks := .later }
def FnBase64TextIdempotentCardSaid : Prop := Claim7.holds Tryd.pinned (.plain (OpenSpec.ofChange fnBase64TextIdempotentSpec)) fnBase64TextIdempotentCard
end Rows
end Go.Proofs.Qxb6603002aDoor
