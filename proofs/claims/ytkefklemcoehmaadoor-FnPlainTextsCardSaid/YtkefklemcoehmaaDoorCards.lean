/-
  DERIVED. GIVEN WITH THE SEED: THE CARDS: each row of YtkefklemcoehmaaDoorRows.lean that lists a variable, with what it lists TIED to the program's text (the seventh form; the later family's looks); each row that meets fmt, with fmt's text TOLD by the authors' own Lean function (tested against real Go, not proved from fmt's source: count such statements apart). THE CARD IS WHAT COUNTS. Prove the row's statement (the work); the ties are given (YtkefklemcoehmaaDoorTie.lean); close each card by the builder's one call (the guide's Derived/Test/ToyasCard.lean, 'card_holds'). Laid BY PROGRAM, IN A SANDBOX (cutbox-door.mjs). By AI agents, Wed Nov 11 2026. No macro, syntax, notation, axiom, sorry.
-/
import Derived.Test.YtkefklemcoehmaaDoorRows
import GoSem.ClaimSeven
namespace Go.Proofs.YtkefklemcoehmaaDoor
namespace Rows

/-- THE TIED CARD OF 'laws.FnBitsPlain'. -/
def fnBitsPlainCard : Claim7 := { stood := { row := fnBitsPlainRow, standIns := [], harness := (true, "38cd59cd4fef4ed9f02a1d69c0cd8466156340f842bca95ae82ab23694c5eb82"), looks := false }, kinds := [], alts := [], laidByText := true, laidKinds := [.sentinel], laidTests := true, laidLooks := .later }
def FnBitsPlainCardSaid : Prop := Claim7.holds Tryd.pinned (.plain (OpenSpec.ofChange fnBitsPlainSpec)) fnBitsPlainCard

/-- THE TIED CARD OF 'laws.FnPlainInt64s'. -/
def fnPlainInt64sCard : Claim7 := { stood := { row := fnPlainInt64sRow, standIns := [], harness := (true, "38cd59cd4fef4ed9f02a1d69c0cd8466156340f842bca95ae82ab23694c5eb82"), looks := false }, kinds := [], alts := [], laidByText := true, laidKinds := [.sentinel], laidTests := true, laidLooks := .later }
def FnPlainInt64sCardSaid : Prop := Claim7.holds Tryd.pinned (.plain (OpenSpec.ofChange fnPlainInt64sSpec)) fnPlainInt64sCard

/-- THE TIED CARD OF 'laws.FnPlainFixed'. -/
def fnPlainFixedCard : Claim7 := { stood := { row := fnPlainFixedRow, standIns := [], harness := (true, "38cd59cd4fef4ed9f02a1d69c0cd8466156340f842bca95ae82ab23694c5eb82"), looks := false }, kinds := [], alts := [], laidByText := true, laidKinds := [.sentinel, .sentinel, .sentinel, .sentinel], laidTests := true, laidLooks := .later }
def FnPlainFixedCardSaid : Prop := Claim7.holds Tryd.pinned (.plain (OpenSpec.ofChange fnPlainFixedSpec)) fnPlainFixedCard

/-- THE TIED CARD OF 'laws.FnPlainTexts'. -/
def fnPlainTextsCard : Claim7 := { stood := { row := fnPlainTextsRow, standIns := [], harness := (true, "38cd59cd4fef4ed9f02a1d69c0cd8466156340f842bca95ae82ab23694c5eb82"), looks := false }, kinds := [], alts := [], laidByText := true, laidKinds := [.sentinel], laidTests := true, laidLooks := .later }
def FnPlainTextsCardSaid : Prop := Claim7.holds Tryd.pinned (.plain (OpenSpec.ofChange fnPlainTextsSpec)) fnPlainTextsCard

/-- THE TIED CARD OF 'laws.FnPlainInt32s'. -/
def fnPlainInt32sCard : Claim7 := { stood := { row := fnPlainInt32sRow, standIns := [], harness := (true, "38cd59cd4fef4ed9f02a1d69c0cd8466156340f842bca95ae82ab23694c5eb82"), looks := false }, kinds := [], alts := [], laidByText := true, laidKinds := [.sentinel], laidTests := true, laidLooks := .later }
def FnPlainInt32sCardSaid : Prop := Claim7.holds Tryd.pinned (.plain (OpenSpec.ofChange fnPlainInt32sSpec)) fnPlainInt32sCard

/-- THE SECOND FORM's CARD OF 'laws.FnBitsPlain'. -/
def fnBitsPlainUptoCard : Claim7 := { stood := { row := fnBitsPlainUptoRow, standIns := [], harness := (true, "38cd59cd4fef4ed9f02a1d69c0cd8466156340f842bca95ae82ab23694c5eb82"), looks := false }, kinds := [], alts := [], laidByText := true, laidKinds := [.sentinel], laidTests := true, laidLooks := .later }
def FnBitsPlainUptoCardSaid : Prop := Claim7.holds Tryd.pinned (.plain (OpenSpec.upto fnBitsPlainSpec)) fnBitsPlainUptoCard

/-- THE SECOND FORM's CARD OF 'laws.FnPlainInt64s'. -/
def fnPlainInt64sUptoCard : Claim7 := { stood := { row := fnPlainInt64sUptoRow, standIns := [], harness := (true, "38cd59cd4fef4ed9f02a1d69c0cd8466156340f842bca95ae82ab23694c5eb82"), looks := false }, kinds := [], alts := [], laidByText := true, laidKinds := [.sentinel], laidTests := true, laidLooks := .later }
def FnPlainInt64sUptoCardSaid : Prop := Claim7.holds Tryd.pinned (.plain (OpenSpec.upto fnPlainInt64sSpec)) fnPlainInt64sUptoCard

/-- THE SECOND FORM's CARD OF 'laws.FnPlainFixed'. -/
def fnPlainFixedUptoCard : Claim7 := { stood := { row := fnPlainFixedUptoRow, standIns := [], harness := (true, "38cd59cd4fef4ed9f02a1d69c0cd8466156340f842bca95ae82ab23694c5eb82"), looks := false }, kinds := [], alts := [], laidByText := true, laidKinds := [.sentinel, .sentinel, .sentinel, .sentinel], laidTests := true, laidLooks := .later }
def FnPlainFixedUptoCardSaid : Prop := Claim7.holds Tryd.pinned (.plain (OpenSpec.upto fnPlainFixedSpec)) fnPlainFixedUptoCard

/-- THE SECOND FORM's CARD OF 'laws.FnPlainTexts'. -/
def fnPlainTextsUptoCard : Claim7 := { stood := { row := fnPlainTextsUptoRow, standIns := [], harness := (true, "38cd59cd4fef4ed9f02a1d69c0cd8466156340f842bca95ae82ab23694c5eb82"), looks := false }, kinds := [], alts := [], laidByText := true, laidKinds := [.sentinel], laidTests := true, laidLooks := .later }
def FnPlainTextsUptoCardSaid : Prop := Claim7.holds Tryd.pinned (.plain (OpenSpec.upto fnPlainTextsSpec)) fnPlainTextsUptoCard

/-- THE SECOND FORM's CARD OF 'laws.FnPlainInt32s'. -/
def fnPlainInt32sUptoCard : Claim7 := { stood := { row := fnPlainInt32sUptoRow, standIns := [], harness := (true, "38cd59cd4fef4ed9f02a1d69c0cd8466156340f842bca95ae82ab23694c5eb82"), looks := false }, kinds := [], alts := [], laidByText := true, laidKinds := [.sentinel], laidTests := true, laidLooks := .later }
def FnPlainInt32sUptoCardSaid : Prop := Claim7.holds Tryd.pinned (.plain (OpenSpec.upto fnPlainInt32sSpec)) fnPlainInt32sUptoCard
end Rows
end Go.Proofs.YtkefklemcoehmaaDoor
