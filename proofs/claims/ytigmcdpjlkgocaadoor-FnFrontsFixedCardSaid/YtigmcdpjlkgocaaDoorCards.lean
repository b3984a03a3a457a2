/-
  DERIVED. GIVEN WITH THE SEED: THE CARDS: each row of YtigmcdpjlkgocaaDoorRows.lean that lists a variable, with what it lists TIED to the program's text (the seventh form; the later family's looks); each row that meets fmt, with fmt's text TOLD by the authors' own Lean function (tested against real Go, not proved from fmt's source: count such statements apart). THE CARD IS WHAT COUNTS. Prove the row's statement (the work); the ties are given (YtigmcdpjlkgocaaDoorTie.lean); close each card by the builder's one call (the guide's Derived/Test/ToyasCard.lean, 'card_holds'). Laid BY PROGRAM, IN A SANDBOX (cutbox-door.mjs). By AI agents, Wed Nov 11 2026. No macro, syntax, notation, axiom, sorry.
-/
import Derived.Test.YtigmcdpjlkgocaaDoorRows
import GoSem.ClaimSeven
namespace Go.Proofs.YtigmcdpjlkgocaaDoor
namespace Rows

/-- THE TIED CARD OF 'laws.FnDelta64Read'. -/
def fnDelta64ReadCard : Claim7 := { stood := { row := fnDelta64ReadRow, standIns := [], harness := (true, "b670ee3e7eaced1cbc5102caa4ee260ecb19fd67507ff32c4f8307880a12c1d2"), looks := false }, kinds := [], alts := [], laidByText := true, laidKinds := [.sentinel], laidTests := true, laidLooks := .later }
def FnDelta64ReadCardSaid : Prop := Claim7.holds Tryd.pinned (.plain (OpenSpec.ofChange fnDelta64ReadSpec)) fnDelta64ReadCard

/-- THE TIED CARD OF 'laws.FnDeltaCut'. -/
def fnDeltaCutCard : Claim7 := { stood := { row := fnDeltaCutRow, standIns := [], harness := (true, "b670ee3e7eaced1cbc5102caa4ee260ecb19fd67507ff32c4f8307880a12c1d2"), looks := false }, kinds := [], alts := [], laidByText := true, laidKinds := [.sentinel], laidTests := true, laidLooks := .later }
def FnDeltaCutCardSaid : Prop := Claim7.holds Tryd.pinned (.plain (OpenSpec.ofChange fnDeltaCutSpec)) fnDeltaCutCard

/-- THE TIED CARD OF 'laws.FnFrontsRead'. -/
def fnFrontsReadCard : Claim7 := { stood := { row := fnFrontsReadRow, standIns := [], harness := (true, "b670ee3e7eaced1cbc5102caa4ee260ecb19fd67507ff32c4f8307880a12c1d2"), looks := false }, kinds := [], alts := [], laidByText := true, laidKinds := [.sentinel], laidTests := true, laidLooks := .later }
def FnFrontsReadCardSaid : Prop := Claim7.holds Tryd.pinned (.plain (OpenSpec.ofChange fnFrontsReadSpec)) fnFrontsReadCard

/-- THE TIED CARD OF 'laws.FnLengthsRead'. -/
def fnLengthsReadCard : Claim7 := { stood := { row := fnLengthsReadRow, standIns := [], harness := (true, "b670ee3e7eaced1cbc5102caa4ee260ecb19fd67507ff32c4f8307880a12c1d2"), looks := false }, kinds := [], alts := [], laidByText := true, laidKinds := [.sentinel], laidTests := true, laidLooks := .later }
def FnLengthsReadCardSaid : Prop := Claim7.holds Tryd.pinned (.plain (OpenSpec.ofChange fnLengthsReadSpec)) fnLengthsReadCard

/-- THE TIED CARD OF 'laws.FnDelta32Read'. -/
def fnDelta32ReadCard : Claim7 := { stood := { row := fnDelta32ReadRow, standIns := [], harness := (true, "b670ee3e7eaced1cbc5102caa4ee260ecb19fd67507ff32c4f8307880a12c1d2"), looks := false }, kinds := [], alts := [], laidByText := true, laidKinds := [.sentinel], laidTests := true, laidLooks := .later }
def FnDelta32ReadCardSaid : Prop := Claim7.holds Tryd.pinned (.plain (OpenSpec.ofChange fnDelta32ReadSpec)) fnDelta32ReadCard

/-- THE TIED CARD OF 'laws.FnFrontsFixed'. -/
def fnFrontsFixedCard : Claim7 := { stood := { row := fnFrontsFixedRow, standIns := [], harness := (true, "b670ee3e7eaced1cbc5102caa4ee260ecb19fd67507ff32c4f8307880a12c1d2"), looks := false }, kinds := [], alts := [], laidByText := true, laidKinds := [.sentinel, .sentinel, .sentinel, .sentinel], laidTests := true, laidLooks := .later }
def FnFrontsFixedCardSaid : Prop := Claim7.holds Tryd.pinned (.plain (OpenSpec.ofChange fnFrontsFixedSpec)) fnFrontsFixedCard

/-- THE TIED CARD OF 'laws.FnFrontsBoth'. -/
def fnFrontsBothCard : Claim7 := { stood := { row := fnFrontsBothRow, standIns := [], harness := (true, "b670ee3e7eaced1cbc5102caa4ee260ecb19fd67507ff32c4f8307880a12c1d2"), looks := false }, kinds := [], alts := [], laidByText := true, laidKinds := [.sentinel], laidTests := true, laidLooks := .later }
def FnFrontsBothCardSaid : Prop := Claim7.holds Tryd.pinned (.plain (OpenSpec.ofChange fnFrontsBothSpec)) fnFrontsBothCard

/-- THE TIED CARD OF 'laws.FnLengthsBoth'. -/
def fnLengthsBothCard : Claim7 := { stood := { row := fnLengthsBothRow, standIns := [], harness := (true, "b670ee3e7eaced1cbc5102caa4ee260ecb19fd67507ff32c4f8307880a12c1d2"), looks := false }, kinds := [], alts := [], laidByText := true, laidKinds := [.sentinel], laidTests := true, laidLooks := .later }
def FnLengthsBothCardSaid : Prop := Claim7.holds Tryd.pinned (.plain (OpenSpec.ofChange fnLengthsBothSpec)) fnLengthsBothCard

/-- THE SECOND FORM's CARD OF 'laws.FnDelta64Read'. -/
def fnDelta64ReadUptoCard : Claim7 := { stood := { row := fnDelta64ReadUptoRow, standIns := [], harness := (true, "b670ee3e7eaced1cbc5102caa4ee260ecb19fd67507ff32c4f8307880a12c1d2"), looks := false }, kinds := [], alts := [], laidByText := true, laidKinds := [.sentinel], laidTests := true, laidLooks := .later }
def FnDelta64ReadUptoCardSaid : Prop := Claim7.holds Tryd.pinned (.plain (OpenSpec.upto fnDelta64ReadSpec)) fnDelta64ReadUptoCard

/-- THE SECOND FORM's CARD OF 'laws.FnDeltaCut'. -/
def fnDeltaCutUptoCard : Claim7 := { stood := { row := fnDeltaCutUptoRow, standIns := [], harness := (true, "b670ee3e7eaced1cbc5102caa4ee260ecb19fd67507ff32c4f8307880a12c1d2"), looks := false }, kinds := [], alts := [], laidByText := true, laidKinds := [.sentinel], laidTests := true, laidLooks := .later }
def FnDeltaCutUptoCardSaid : Prop := Claim7.holds Tryd.pinned (.plain (OpenSpec.upto fnDeltaCutSpec)) fnDeltaCutUptoCard

/-- THE SECOND FORM's CARD OF 'laws.FnFrontsRead'. -/
def fnFrontsReadUptoCard : Claim7 := { stood := { row := fnFrontsReadUptoRow, standIns := [], harness := (true, "b670ee3e7eaced1cbc5102caa4ee260ecb19fd67507ff32c4f8307880a12c1d2"), looks := false }, kinds := [], alts := [], laidByText := true, laidKinds := [.sentinel], laidTests := true, laidLooks := .later }
def FnFrontsReadUptoCardSaid : Prop := Claim7.holds Tryd.pinned (.plain (OpenSpec.upto fnFrontsReadSpec)) fnFrontsReadUptoCard

/-- THE SECOND FORM's CARD OF 'laws.FnLengthsRead'. -/
def fnLengthsReadUptoCard : Claim7 := { stood := { row := fnLengthsReadUptoRow, standIns := [], harness := (true, "b670ee3e7eaced1cbc5102caa4ee260ecb19fd67507ff32c4f8307880a12c1d2"), looks := false }, kinds := [], alts := [], laidByText := true, laidKinds := [.sentinel], laidTests := true, laidLooks := .later }
def FnLengthsReadUptoCardSaid : Prop := Claim7.holds Tryd.pinned (.plain (OpenSpec.upto fnLengthsReadSpec)) fnLengthsReadUptoCard

/-- THE SECOND FORM's CARD OF 'laws.FnDelta32Read'. -/
def fnDelta32ReadUptoCard : Claim7 := { stood := { row := fnDelta32ReadUptoRow, standIns := [], harness := (true, "b670ee3e7eaced1cbc5102caa4ee260ecb19fd67507ff32c4f8307880a12c1d2"), looks := false }, kinds := [], alts := [], laidByText := true, laidKinds := [.sentinel], laidTests := true, laidLooks := .later }
def FnDelta32ReadUptoCardSaid : Prop := Claim7.holds Tryd.pinned (.plain (OpenSpec.upto fnDelta32ReadSpec)) fnDelta32ReadUptoCard

/-- THE SECOND FORM's CARD OF 'laws.FnFrontsFixed'. -/
def fnFrontsFixedUptoCard : Claim7 := { stood := { row := fnFrontsFixedUptoRow, standIns := [], harness := (true, "b670ee3e7eaced1cbc5102caa4ee260ecb19fd67507ff32c4f8307880a12c1d2"), looks := false }, kinds := [], alts := [], laidByText := true, laidKinds := [.sentinel, .sentinel, .sentinel, .sentinel], laidTests := true, laidLooks := .later }
def FnFrontsFixedUptoCardSaid : Prop := Claim7.holds Tryd.pinned (.plain (OpenSpec.upto fnFrontsFixedSpec)) fnFrontsFixedUptoCard

/-- THE SECOND FORM's CARD OF 'laws.FnFrontsBoth'. -/
def fnFrontsBothUptoCard : Claim7 := { stood := { row := fnFrontsBothUptoRow, standIns := [], harness := (true, "b670ee3e7eaced1cbc5102caa4ee260ecb19fd67507ff32c4f8307880a12c1d2"), looks := false }, kinds := [], alts := [], laidByText := true, laidKinds := [.sentinel], laidTests := true, laidLooks := .later }
def FnFrontsBothUptoCardSaid : Prop := Claim7.holds Tryd.pinned (.plain (OpenSpec.upto fnFrontsBothSpec)) fnFrontsBothUptoCard

/-- THE SECOND FORM's CARD OF 'laws.FnLengthsBoth'. -/
def fnLengthsBothUptoCard : Claim7 := { stood := { row := fnLengthsBothUptoRow, standIns := [], harness := (true, "b670ee3e7eaced1cbc5102caa4ee260ecb19fd67507ff32c4f8307880a12c1d2"), looks := false }, kinds := [], alts := [], laidByText := true, laidKinds := [.sentinel], laidTests := true, laidLooks := .later }
def FnLengthsBothUptoCardSaid : Prop := Claim7.holds Tryd.pinned (.plain (OpenSpec.upto fnLengthsBothSpec)) fnLengthsBothUptoCard
end Rows
end Go.Proofs.YtigmcdpjlkgocaaDoor
