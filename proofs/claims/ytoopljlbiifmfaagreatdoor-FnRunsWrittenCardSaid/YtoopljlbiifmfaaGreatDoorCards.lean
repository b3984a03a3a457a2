/-
  DERIVED. GIVEN WITH THE SEED: THE CARDS: each row of YtoopljlbiifmfaaGreatDoorRows.lean that lists a variable, with what it lists TIED to the program's text (the seventh form; the later family's looks); each row that meets fmt, with fmt's text TOLD by the authors' own Lean function (tested against real Go, not proved from fmt's source: count such statements apart). THE CARD IS WHAT COUNTS. Prove the row's statement (the work); the ties are given (YtoopljlbiifmfaaGreatDoorTie.lean); close each card by the builder's one call (the guide's Derived/Test/ToyasCard.lean, 'card_holds'). Laid BY PROGRAM, IN A SANDBOX (cutbox-door.mjs). By AI agents, Wed Nov 11 2026. No macro, syntax, notation, axiom, sorry.
-/
import Derived.Test.YtoopljlbiifmfaaGreatDoorRows
import GoSem.ClaimSeven
namespace Go.Proofs.YtoopljlbiifmfaaGreatDoor
namespace Rows

/-- THE TIED CARD OF 'laws.FnRunsWritten'. -/
def fnRunsWrittenCard : Claim7 := { stood := { row := fnRunsWrittenRow, standIns := [], harness := (true, "31b1fd171ea8287afff075174d665a9c398f721220b098fc006c8571c344491a"), looks := false }, kinds := [], alts := [], laidByText := true, laidKinds := [.sentinel], laidTests := true, laidLooks := .later }
def FnRunsWrittenCardSaid : Prop := Claim7.holds Tryz.pinned (.plain (OpenSpec.ofChange fnRunsWrittenSpec)) fnRunsWrittenCard

/-- THE SECOND FORM's CARD OF 'laws.FnRunsWritten'. -/
def fnRunsWrittenUptoCard : Claim7 := { stood := { row := fnRunsWrittenUptoRow, standIns := [], harness := (true, "31b1fd171ea8287afff075174d665a9c398f721220b098fc006c8571c344491a"), looks := false }, kinds := [], alts := [], laidByText := true, laidKinds := [.sentinel], laidTests := true, laidLooks := .later }
def FnRunsWrittenUptoCardSaid : Prop := Claim7.holds Tryz.pinned (.plain (OpenSpec.upto fnRunsWrittenSpec)) fnRunsWrittenUptoCard
end Rows
end Go.Proofs.YtoopljlbiifmfaaGreatDoor
