/-
  DERIVED. GIVEN WITH THE SEED: THE CARDS: each row of YtigmcdpjlkgocaaGreatDoorRows.lean that lists a variable, with what it lists TIED to the program's text (the seventh form; the later family's looks); each row that meets fmt, with fmt's text TOLD by the authors' own Lean function (tested against real Go, not proved from fmt's source: count such statements apart). THE CARD IS WHAT COUNTS. Prove the row's statement (the work); the ties are given (YtigmcdpjlkgocaaGreatDoorTie.lean); close each card by the builder's one call (the guide's Derived/Test/ToyasCard.lean, 'card_holds'). Laid BY PROGRAM, IN A SANDBOX (cutbox-door.mjs). By AI agents, Wed Nov 11 2026. No macro, syntax, notation, axiom, sorry.
-/
import Derived.Test.YtigmcdpjlkgocaaGreatDoorRows
import GoSem.ClaimSeven
namespace Go.Proofs.YtigmcdpjlkgocaaGreatDoor
namespace Rows

/-- THE TIED CARD OF 'laws.FnDeltaBoth'. -/
def fnDeltaBothCard : Claim7 := { stood := { row := fnDeltaBothRow, standIns := [], harness := (true, "a5c39ffb50ff328688545250bf46602866f1540be375838f0889460d9660ae02"), looks := false }, kinds := [], alts := [], laidByText := true, laidKinds := [.sentinel], laidTests := true, laidLooks := .later }
def FnDeltaBothCardSaid : Prop := Claim7.holds Tryz.pinned (.plain (OpenSpec.ofChange fnDeltaBothSpec)) fnDeltaBothCard

/-- THE SECOND FORM's CARD OF 'laws.FnDeltaBoth'. -/
def fnDeltaBothUptoCard : Claim7 := { stood := { row := fnDeltaBothUptoRow, standIns := [], harness := (true, "a5c39ffb50ff328688545250bf46602866f1540be375838f0889460d9660ae02"), looks := false }, kinds := [], alts := [], laidByText := true, laidKinds := [.sentinel], laidTests := true, laidLooks := .later }
def FnDeltaBothUptoCardSaid : Prop := Claim7.holds Tryz.pinned (.plain (OpenSpec.upto fnDeltaBothSpec)) fnDeltaBothUptoCard
end Rows
end Go.Proofs.YtigmcdpjlkgocaaGreatDoor
