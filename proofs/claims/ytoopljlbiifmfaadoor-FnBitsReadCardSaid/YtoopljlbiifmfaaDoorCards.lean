/-
  DERIVED. GIVEN WITH THE SEED: THE CARDS: each row of YtoopljlbiifmfaaDoorRows.lean that lists a variable, with what it lists TIED to the program's text (the seventh form; the later family's looks); each row that meets fmt, with fmt's text TOLD by the authors' own Lean function (tested against real Go, not proved from fmt's source: count such statements apart). THE CARD IS WHAT COUNTS. Prove the row's statement (the work); the ties are given (YtoopljlbiifmfaaDoorTie.lean); close each card by the builder's one call (the guide's Derived/Test/ToyasCard.lean, 'card_holds'). Laid BY PROGRAM, IN A SANDBOX (cutbox-door.mjs). By AI agents, Wed Nov 11 2026. No macro, syntax, notation, axiom, sorry.
-/
import Derived.Test.YtoopljlbiifmfaaDoorRows
import GoSem.ClaimSeven
namespace Go.Proofs.YtoopljlbiifmfaaDoor
namespace Rows

/-- THE TIED CARD OF 'laws.FnBitsRead'. -/
def fnBitsReadCard : Claim7 := { stood := { row := fnBitsReadRow, standIns := [], harness := (true, "87f5c89f270aff027e1288fa017f2b09ae860818d604fecc0264be9cd941d8cb"), looks := false }, kinds := [], alts := [], laidByText := true, laidKinds := [.sentinel], laidTests := true, laidLooks := .later }
def FnBitsReadCardSaid : Prop := Claim7.holds Tryd.pinned (.plain (OpenSpec.ofChange fnBitsReadSpec)) fnBitsReadCard

/-- THE TIED CARD OF 'laws.FnLevelsRead'. -/
def fnLevelsReadCard : Claim7 := { stood := { row := fnLevelsReadRow, standIns := [], harness := (true, "87f5c89f270aff027e1288fa017f2b09ae860818d604fecc0264be9cd941d8cb"), looks := false }, kinds := [], alts := [], laidByText := true, laidKinds := [.sentinel], laidTests := true, laidLooks := .later }
def FnLevelsReadCardSaid : Prop := Claim7.holds Tryd.pinned (.plain (OpenSpec.ofChange fnLevelsReadSpec)) fnLevelsReadCard

/-- THE TIED CARD OF 'laws.FnLevelsBoth'. -/
def fnLevelsBothCard : Claim7 := { stood := { row := fnLevelsBothRow, standIns := [], harness := (true, "87f5c89f270aff027e1288fa017f2b09ae860818d604fecc0264be9cd941d8cb"), looks := false }, kinds := [], alts := [], laidByText := true, laidKinds := [.sentinel], laidTests := true, laidLooks := .later }
def FnLevelsBothCardSaid : Prop := Claim7.holds Tryd.pinned (.plain (OpenSpec.ofChange fnLevelsBothSpec)) fnLevelsBothCard

/-- THE TIED CARD OF 'laws.FnLevelsPacked'. -/
def fnLevelsPackedCard : Claim7 := { stood := { row := fnLevelsPackedRow, standIns := [], harness := (true, "87f5c89f270aff027e1288fa017f2b09ae860818d604fecc0264be9cd941d8cb"), looks := false }, kinds := [], alts := [], laidByText := true, laidKinds := [.sentinel], laidTests := true, laidLooks := .later }
def FnLevelsPackedCardSaid : Prop := Claim7.holds Tryd.pinned (.plain (OpenSpec.ofChange fnLevelsPackedSpec)) fnLevelsPackedCard

/-- THE TIED CARD OF 'laws.FnIndexRead'. -/
def fnIndexReadCard : Claim7 := { stood := { row := fnIndexReadRow, standIns := [], harness := (true, "87f5c89f270aff027e1288fa017f2b09ae860818d604fecc0264be9cd941d8cb"), looks := false }, kinds := [], alts := [], laidByText := true, laidKinds := [.sentinel], laidTests := true, laidLooks := .later }
def FnIndexReadCardSaid : Prop := Claim7.holds Tryd.pinned (.plain (OpenSpec.ofChange fnIndexReadSpec)) fnIndexReadCard

/-- THE TIED CARD OF 'laws.FnRunsRead'. -/
def fnRunsReadCard : Claim7 := { stood := { row := fnRunsReadRow, standIns := [], harness := (true, "87f5c89f270aff027e1288fa017f2b09ae860818d604fecc0264be9cd941d8cb"), looks := false }, kinds := [], alts := [], laidByText := true, laidKinds := [.sentinel], laidTests := true, laidLooks := .later }
def FnRunsReadCardSaid : Prop := Claim7.holds Tryd.pinned (.plain (OpenSpec.ofChange fnRunsReadSpec)) fnRunsReadCard

/-- THE TIED CARD OF 'laws.FnIndexBoth'. -/
def fnIndexBothCard : Claim7 := { stood := { row := fnIndexBothRow, standIns := [], harness := (true, "87f5c89f270aff027e1288fa017f2b09ae860818d604fecc0264be9cd941d8cb"), looks := false }, kinds := [], alts := [], laidByText := true, laidKinds := [.sentinel], laidTests := true, laidLooks := .later }
def FnIndexBothCardSaid : Prop := Claim7.holds Tryd.pinned (.plain (OpenSpec.ofChange fnIndexBothSpec)) fnIndexBothCard

/-- THE SECOND FORM's CARD OF 'laws.FnBitsRead'. -/
def fnBitsReadUptoCard : Claim7 := { stood := { row := fnBitsReadUptoRow, standIns := [], harness := (true, "87f5c89f270aff027e1288fa017f2b09ae860818d604fecc0264be9cd941d8cb"), looks := false }, kinds := [], alts := [], laidByText := true, laidKinds := [.sentinel], laidTests := true, laidLooks := .later }
def FnBitsReadUptoCardSaid : Prop := Claim7.holds Tryd.pinned (.plain (OpenSpec.upto fnBitsReadSpec)) fnBitsReadUptoCard

/-- THE SECOND FORM's CARD OF 'laws.FnLevelsRead'. -/
def fnLevelsReadUptoCard : Claim7 := { stood := { row := fnLevelsReadUptoRow, standIns := [], harness := (true, "87f5c89f270aff027e1288fa017f2b09ae860818d604fecc0264be9cd941d8cb"), looks := false }, kinds := [], alts := [], laidByText := true, laidKinds := [.sentinel], laidTests := true, laidLooks := .later }
def FnLevelsReadUptoCardSaid : Prop := Claim7.holds Tryd.pinned (.plain (OpenSpec.upto fnLevelsReadSpec)) fnLevelsReadUptoCard

/-- THE SECOND FORM's CARD OF 'laws.FnLevelsBoth'. -/
def fnLevelsBothUptoCard : Claim7 := { stood := { row := fnLevelsBothUptoRow, standIns := [], harness := (true, "87f5c89f270aff027e1288fa017f2b09ae860818d604fecc0264be9cd941d8cb"), looks := false }, kinds := [], alts := [], laidByText := true, laidKinds := [.sentinel], laidTests := true, laidLooks := .later }
def FnLevelsBothUptoCardSaid : Prop := Claim7.holds Tryd.pinned (.plain (OpenSpec.upto fnLevelsBothSpec)) fnLevelsBothUptoCard

/-- THE SECOND FORM's CARD OF 'laws.FnLevelsPacked'. -/
def fnLevelsPackedUptoCard : Claim7 := { stood := { row := fnLevelsPackedUptoRow, standIns := [], harness := (true, "87f5c89f270aff027e1288fa017f2b09ae860818d604fecc0264be9cd941d8cb"), looks := false }, kinds := [], alts := [], laidByText := true, laidKinds := [.sentinel], laidTests := true, laidLooks := .later }
def FnLevelsPackedUptoCardSaid : Prop := Claim7.holds Tryd.pinned (.plain (OpenSpec.upto fnLevelsPackedSpec)) fnLevelsPackedUptoCard

/-- THE SECOND FORM's CARD OF 'laws.FnIndexRead'. -/
def fnIndexReadUptoCard : Claim7 := { stood := { row := fnIndexReadUptoRow, standIns := [], harness := (true, "87f5c89f270aff027e1288fa017f2b09ae860818d604fecc0264be9cd941d8cb"), looks := false }, kinds := [], alts := [], laidByText := true, laidKinds := [.sentinel], laidTests := true, laidLooks := .later }
def FnIndexReadUptoCardSaid : Prop := Claim7.holds Tryd.pinned (.plain (OpenSpec.upto fnIndexReadSpec)) fnIndexReadUptoCard

/-- THE SECOND FORM's CARD OF 'laws.FnRunsRead'. -/
def fnRunsReadUptoCard : Claim7 := { stood := { row := fnRunsReadUptoRow, standIns := [], harness := (true, "87f5c89f270aff027e1288fa017f2b09ae860818d604fecc0264be9cd941d8cb"), looks := false }, kinds := [], alts := [], laidByText := true, laidKinds := [.sentinel], laidTests := true, laidLooks := .later }
def FnRunsReadUptoCardSaid : Prop := Claim7.holds Tryd.pinned (.plain (OpenSpec.upto fnRunsReadSpec)) fnRunsReadUptoCard

/-- THE SECOND FORM's CARD OF 'laws.FnIndexBoth'. -/
def fnIndexBothUptoCard : Claim7 := { stood := { row := fnIndexBothUptoRow, standIns := [], harness := (true, "87f5c89f270aff027e1288fa017f2b09ae860818d604fecc0264be9cd941d8cb"), looks := false }, kinds := [], alts := [], laidByText := true, laidKinds := [.sentinel], laidTests := true, laidLooks := .later }
def FnIndexBothUptoCardSaid : Prop := Claim7.holds Tryd.pinned (.plain (OpenSpec.upto fnIndexBothSpec)) fnIndexBothUptoCard
end Rows
end Go.Proofs.YtoopljlbiifmfaaDoor
