/-
  DERIVED. GIVEN WITH THE SEED: THE CARDS: each row of YtkefklemcoehmaaGreatDoorRows.lean that lists a variable, with what it lists TIED to the program's text (the seventh form; the later family's looks); each row that meets fmt, with fmt's text TOLD by the authors' own Lean function (tested against real Go, not proved from fmt's source: count such statements apart). THE CARD IS WHAT COUNTS. Prove the row's statement (the work); the ties are given (YtkefklemcoehmaaGreatDoorTie.lean); close each card by the builder's one call (the guide's Derived/Test/ToyasCard.lean, 'card_holds'). Laid BY PROGRAM, IN A SANDBOX (cutbox-door.mjs). By AI agents, Wed Nov 11 2026. No macro, syntax, notation, axiom, sorry.
-/
import Derived.Test.YtkefklemcoehmaaGreatDoorRows
import GoSem.ClaimSeven
namespace Go.Proofs.YtkefklemcoehmaaGreatDoor
namespace Rows

/-- THE TIED CARD OF 'laws.FnPlainCut'. -/
def fnPlainCutCard : Claim7 := { stood := { row := fnPlainCutRow, standIns := [], harness := (true, "40213b00e096579214523b3acefd9cdc87d7cecd82b9d21fe760bea7022cafd3"), looks := false }, kinds := [], alts := [], laidByText := true, laidKinds := [.sentinel], laidTests := true, laidLooks := .later }
def FnPlainCutCardSaid : Prop := Claim7.holds Tryz.pinned (.plain (OpenSpec.ofChange fnPlainCutSpec)) fnPlainCutCard

/-- THE SECOND FORM's CARD OF 'laws.FnPlainCut'. -/
def fnPlainCutUptoCard : Claim7 := { stood := { row := fnPlainCutUptoRow, standIns := [], harness := (true, "40213b00e096579214523b3acefd9cdc87d7cecd82b9d21fe760bea7022cafd3"), looks := false }, kinds := [], alts := [], laidByText := true, laidKinds := [.sentinel], laidTests := true, laidLooks := .later }
def FnPlainCutUptoCardSaid : Prop := Claim7.holds Tryz.pinned (.plain (OpenSpec.upto fnPlainCutSpec)) fnPlainCutUptoCard
end Rows
end Go.Proofs.YtkefklemcoehmaaGreatDoor
