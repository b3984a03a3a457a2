/-
  DERIVED. GIVEN WITH THE SEED: THE CARDS: each row of YtcboegodjlfmnaaDoorRows.lean that lists a variable, with what it lists TIED to the program's text (the seventh form; the later family's looks); each row that meets fmt, with fmt's text TOLD by the authors' own Lean function (tested against real Go, not proved from fmt's source: count such statements apart). THE CARD IS WHAT COUNTS. Prove the row's statement (the work); the ties are given (YtcboegodjlfmnaaDoorTie.lean); close each card by the builder's one call (the guide's Derived/Test/ToyasCard.lean, 'card_holds'). Laid BY PROGRAM, IN A SANDBOX (cutbox-door.mjs). By AI agents, Wed Nov 11 2026. No macro, syntax, notation, axiom, sorry.
-/
import Derived.Test.YtcboegodjlfmnaaDoorRows
import GoSem.ClaimSeven
namespace Go.Proofs.YtcboegodjlfmnaaDoor
namespace Rows

/-- THE TIED CARD OF 'laws.FnThriftCut'. -/
def fnThriftCutCard : Claim7 := { stood := { row := fnThriftCutRow, standIns := [], harness := (true, "e62820aa3f5798b1fd911a8736ff093748ffc20bd61a52c6e251be8b3f36cfbf"), looks := true }, kinds := [], alts := [], laidByText := true, laidKinds := [.sentinel, .sentinel], laidTests := true, laidLooks := .later }
def FnThriftCutCardSaid : Prop := Claim7.holds Tryd.pinned (.plain (OpenSpec.ofChange fnThriftCutSpec)) fnThriftCutCard

/-- THE TIED CARD OF 'laws.FnThriftLong'. -/
def fnThriftLongCard : Claim7 := { stood := { row := fnThriftLongRow, standIns := [], harness := (true, "e62820aa3f5798b1fd911a8736ff093748ffc20bd61a52c6e251be8b3f36cfbf"), looks := true }, kinds := [], alts := [], laidByText := true, laidKinds := [.sentinel, .sentinel], laidTests := true, laidLooks := .later }
def FnThriftLongCardSaid : Prop := Claim7.holds Tryd.pinned (.plain (OpenSpec.ofChange fnThriftLongSpec)) fnThriftLongCard

/-- THE TIED CARD OF 'laws.FnThriftRead'. -/
def fnThriftReadCard : Claim7 := { stood := { row := fnThriftReadRow, standIns := [], harness := (true, "e62820aa3f5798b1fd911a8736ff093748ffc20bd61a52c6e251be8b3f36cfbf"), looks := true }, kinds := [], alts := [], laidByText := true, laidKinds := [.sentinel, .sentinel], laidTests := true, laidLooks := .later }
def FnThriftReadCardSaid : Prop := Claim7.holds Tryd.pinned (.plain (OpenSpec.ofChange fnThriftReadSpec)) fnThriftReadCard

/-- THE TIED CARD OF 'laws.FnThriftSkip'. -/
def fnThriftSkipCard : Claim7 := { stood := { row := fnThriftSkipRow, standIns := [], harness := (true, "e62820aa3f5798b1fd911a8736ff093748ffc20bd61a52c6e251be8b3f36cfbf"), looks := true }, kinds := [], alts := [], laidByText := true, laidKinds := [.sentinel, .sentinel], laidTests := true, laidLooks := .later }
def FnThriftSkipCardSaid : Prop := Claim7.holds Tryd.pinned (.plain (OpenSpec.ofChange fnThriftSkipSpec)) fnThriftSkipCard

/-- THE TIED CARD OF 'laws.FnThriftAny'. -/
def fnThriftAnyCard : Claim7 := { stood := { row := fnThriftAnyRow, standIns := [], harness := (true, "e62820aa3f5798b1fd911a8736ff093748ffc20bd61a52c6e251be8b3f36cfbf"), looks := true }, kinds := [], alts := [], laidByText := true, laidKinds := [.sentinel, .sentinel], laidTests := true, laidLooks := .later }
def FnThriftAnyCardSaid : Prop := Claim7.holds Tryd.pinned (.plain (OpenSpec.ofChange fnThriftAnySpec)) fnThriftAnyCard

/-- THE TIED CARD OF 'laws.FnThriftAnyCut'. -/
def fnThriftAnyCutCard : Claim7 := { stood := { row := fnThriftAnyCutRow, standIns := [], harness := (true, "e62820aa3f5798b1fd911a8736ff093748ffc20bd61a52c6e251be8b3f36cfbf"), looks := true }, kinds := [], alts := [], laidByText := true, laidKinds := [.sentinel, .sentinel], laidTests := true, laidLooks := .later }
def FnThriftAnyCutCardSaid : Prop := Claim7.holds Tryd.pinned (.plain (OpenSpec.ofChange fnThriftAnyCutSpec)) fnThriftAnyCutCard

/-- THE TIED CARD OF 'laws.FnThriftBoth'. -/
def fnThriftBothCard : Claim7 := { stood := { row := fnThriftBothRow, standIns := [], harness := (true, "e62820aa3f5798b1fd911a8736ff093748ffc20bd61a52c6e251be8b3f36cfbf"), looks := true }, kinds := [], alts := [], laidByText := true, laidKinds := [.sentinel, .sentinel], laidTests := true, laidLooks := .later }
def FnThriftBothCardSaid : Prop := Claim7.holds Tryd.pinned (.plain (OpenSpec.ofChange fnThriftBothSpec)) fnThriftBothCard

/-- THE SECOND FORM's CARD OF 'laws.FnThriftCut'. -/
def fnThriftCutUptoCard : Claim7 := { stood := { row := fnThriftCutUptoRow, standIns := [], harness := (true, "e62820aa3f5798b1fd911a8736ff093748ffc20bd61a52c6e251be8b3f36cfbf"), looks := true }, kinds := [], alts := [], laidByText := true, laidKinds := [.sentinel, .sentinel], laidTests := true, laidLooks := .later }
def FnThriftCutUptoCardSaid : Prop := Claim7.holds Tryd.pinned (.plain (OpenSpec.upto fnThriftCutSpec)) fnThriftCutUptoCard

/-- THE SECOND FORM's CARD OF 'laws.FnThriftLong'. -/
def fnThriftLongUptoCard : Claim7 := { stood := { row := fnThriftLongUptoRow, standIns := [], harness := (true, "e62820aa3f5798b1fd911a8736ff093748ffc20bd61a52c6e251be8b3f36cfbf"), looks := true }, kinds := [], alts := [], laidByText := true, laidKinds := [.sentinel, .sentinel], laidTests := true, laidLooks := .later }
def FnThriftLongUptoCardSaid : Prop := Claim7.holds Tryd.pinned (.plain (OpenSpec.upto fnThriftLongSpec)) fnThriftLongUptoCard

/-- THE SECOND FORM's CARD OF 'laws.FnThriftRead'. -/
def fnThriftReadUptoCard : Claim7 := { stood := { row := fnThriftReadUptoRow, standIns := [], harness := (true, "e62820aa3f5798b1fd911a8736ff093748ffc20bd61a52c6e251be8b3f36cfbf"), looks := true }, kinds := [], alts := [], laidByText := true, laidKinds := [.sentinel, .sentinel], laidTests := true, laidLooks := .later }
def FnThriftReadUptoCardSaid : Prop := Claim7.holds Tryd.pinned (.plain (OpenSpec.upto fnThriftReadSpec)) fnThriftReadUptoCard

/-- THE SECOND FORM's CARD OF 'laws.FnThriftSkip'. -/
def fnThriftSkipUptoCard : Claim7 := { stood := { row := fnThriftSkipUptoRow, standIns := [], harness := (true, "e62820aa3f5798b1fd911a8736ff093748ffc20bd61a52c6e251be8b3f36cfbf"), looks := true }, kinds := [], alts := [], laidByText := true, laidKinds := [.sentinel, .sentinel], laidTests := true, laidLooks := .later }
def FnThriftSkipUptoCardSaid : Prop := Claim7.holds Tryd.pinned (.plain (OpenSpec.upto fnThriftSkipSpec)) fnThriftSkipUptoCard

/-- THE SECOND FORM's CARD OF 'laws.FnThriftAny'. -/
def fnThriftAnyUptoCard : Claim7 := { stood := { row := fnThriftAnyUptoRow, standIns := [], harness := (true, "e62820aa3f5798b1fd911a8736ff093748ffc20bd61a52c6e251be8b3f36cfbf"), looks := true }, kinds := [], alts := [], laidByText := true, laidKinds := [.sentinel, .sentinel], laidTests := true, laidLooks := .later }
def FnThriftAnyUptoCardSaid : Prop := Claim7.holds Tryd.pinned (.plain (OpenSpec.upto fnThriftAnySpec)) fnThriftAnyUptoCard

/-- THE SECOND FORM's CARD OF 'laws.FnThriftAnyCut'. -/
def fnThriftAnyCutUptoCard : Claim7 := { stood := { row := fnThriftAnyCutUptoRow, standIns := [], harness := (true, "e62820aa3f5798b1fd911a8736ff093748ffc20bd61a52c6e251be8b3f36cfbf"), looks := true }, kinds := [], alts := [], laidByText := true, laidKinds := [.sentinel, .sentinel], laidTests := true, laidLooks := .later }
def FnThriftAnyCutUptoCardSaid : Prop := Claim7.holds Tryd.pinned (.plain (OpenSpec.upto fnThriftAnyCutSpec)) fnThriftAnyCutUptoCard

/-- THE SECOND FORM's CARD OF 'laws.FnThriftBoth'. -/
def fnThriftBothUptoCard : Claim7 := { stood := { row := fnThriftBothUptoRow, standIns := [], harness := (true, "e62820aa3f5798b1fd911a8736ff093748ffc20bd61a52c6e251be8b3f36cfbf"), looks := true }, kinds := [], alts := [], laidByText := true, laidKinds := [.sentinel, .sentinel], laidTests := true, laidLooks := .later }
def FnThriftBothUptoCardSaid : Prop := Claim7.holds Tryd.pinned (.plain (OpenSpec.upto fnThriftBothSpec)) fnThriftBothUptoCard
end Rows
end Go.Proofs.YtcboegodjlfmnaaDoor
