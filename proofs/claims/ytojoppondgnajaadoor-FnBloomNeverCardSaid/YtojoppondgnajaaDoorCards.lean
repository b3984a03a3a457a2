/-
  DERIVED. GIVEN WITH THE SEED: THE CARDS: each row of YtojoppondgnajaaDoorRows.lean that lists a variable, with what it lists TIED to the program's text (the seventh form; the later family's looks); each row that meets fmt, with fmt's text TOLD by the authors' own Lean function (tested against real Go, not proved from fmt's source: count such statements apart). THE CARD IS WHAT COUNTS. Prove the row's statement (the work); the ties are given (YtojoppondgnajaaDoorTie.lean); close each card by the builder's one call (the guide's Derived/Test/ToyasCard.lean, 'card_holds'). Laid BY PROGRAM, IN A SANDBOX (cutbox-door.mjs). By AI agents, Wed Nov 11 2026. No macro, syntax, notation, axiom, sorry.
-/
import Derived.Test.YtojoppondgnajaaDoorRows
import GoSem.ClaimSeven
namespace Go.Proofs.YtojoppondgnajaaDoor
namespace Rows

/-- THE TIED CARD OF 'laws.FnBloomCheck'. -/
def fnBloomCheckCard : Claim7 := { stood := { row := fnBloomCheckRow, standIns := [], harness := (true, "0fc5cde47f78a1a78ac628bb7a0b1d5cf95ac219a77fa29cf7e4b8d011a07366"), looks := false }, kinds := [], alts := [], laidByText := true, laidKinds := [.data], laidTests := true, laidLooks := .later }
def FnBloomCheckCardSaid : Prop := Claim7.holds Tryd.pinned (.plain (OpenSpec.ofChange fnBloomCheckSpec)) fnBloomCheckCard

/-- THE TIED CARD OF 'laws.FnBloomInsert'. -/
def fnBloomInsertCard : Claim7 := { stood := { row := fnBloomInsertRow, standIns := [], harness := (true, "0fc5cde47f78a1a78ac628bb7a0b1d5cf95ac219a77fa29cf7e4b8d011a07366"), looks := false }, kinds := [], alts := [], laidByText := true, laidKinds := [.data], laidTests := true, laidLooks := .later }
def FnBloomInsertCardSaid : Prop := Claim7.holds Tryd.pinned (.plain (OpenSpec.ofChange fnBloomInsertSpec)) fnBloomInsertCard

/-- THE TIED CARD OF 'laws.FnBloomFound'. -/
def fnBloomFoundCard : Claim7 := { stood := { row := fnBloomFoundRow, standIns := [], harness := (true, "0fc5cde47f78a1a78ac628bb7a0b1d5cf95ac219a77fa29cf7e4b8d011a07366"), looks := false }, kinds := [], alts := [], laidByText := true, laidKinds := [.data], laidTests := true, laidLooks := .later }
def FnBloomFoundCardSaid : Prop := Claim7.holds Tryd.pinned (.plain (OpenSpec.ofChange fnBloomFoundSpec)) fnBloomFoundCard

/-- THE TIED CARD OF 'laws.FnBloomNever'. -/
def fnBloomNeverCard : Claim7 := { stood := { row := fnBloomNeverRow, standIns := [], harness := (true, "0fc5cde47f78a1a78ac628bb7a0b1d5cf95ac219a77fa29cf7e4b8d011a07366"), looks := false }, kinds := [], alts := [], laidByText := true, laidKinds := [.data], laidTests := true, laidLooks := .later }
def FnBloomNeverCardSaid : Prop := Claim7.holds Tryd.pinned (.plain (OpenSpec.ofChange fnBloomNeverSpec)) fnBloomNeverCard

/-- THE SECOND FORM's CARD OF 'laws.FnBloomCheck'. -/
def fnBloomCheckUptoCard : Claim7 := { stood := { row := fnBloomCheckUptoRow, standIns := [], harness := (true, "0fc5cde47f78a1a78ac628bb7a0b1d5cf95ac219a77fa29cf7e4b8d011a07366"), looks := false }, kinds := [], alts := [], laidByText := true, laidKinds := [.data], laidTests := true, laidLooks := .later }
def FnBloomCheckUptoCardSaid : Prop := Claim7.holds Tryd.pinned (.plain (OpenSpec.upto fnBloomCheckSpec)) fnBloomCheckUptoCard

/-- THE SECOND FORM's CARD OF 'laws.FnBloomInsert'. -/
def fnBloomInsertUptoCard : Claim7 := { stood := { row := fnBloomInsertUptoRow, standIns := [], harness := (true, "0fc5cde47f78a1a78ac628bb7a0b1d5cf95ac219a77fa29cf7e4b8d011a07366"), looks := false }, kinds := [], alts := [], laidByText := true, laidKinds := [.data], laidTests := true, laidLooks := .later }
def FnBloomInsertUptoCardSaid : Prop := Claim7.holds Tryd.pinned (.plain (OpenSpec.upto fnBloomInsertSpec)) fnBloomInsertUptoCard

/-- THE SECOND FORM's CARD OF 'laws.FnBloomFound'. -/
def fnBloomFoundUptoCard : Claim7 := { stood := { row := fnBloomFoundUptoRow, standIns := [], harness := (true, "0fc5cde47f78a1a78ac628bb7a0b1d5cf95ac219a77fa29cf7e4b8d011a07366"), looks := false }, kinds := [], alts := [], laidByText := true, laidKinds := [.data], laidTests := true, laidLooks := .later }
def FnBloomFoundUptoCardSaid : Prop := Claim7.holds Tryd.pinned (.plain (OpenSpec.upto fnBloomFoundSpec)) fnBloomFoundUptoCard

/-- THE SECOND FORM's CARD OF 'laws.FnBloomNever'. -/
def fnBloomNeverUptoCard : Claim7 := { stood := { row := fnBloomNeverUptoRow, standIns := [], harness := (true, "0fc5cde47f78a1a78ac628bb7a0b1d5cf95ac219a77fa29cf7e4b8d011a07366"), looks := false }, kinds := [], alts := [], laidByText := true, laidKinds := [.data], laidTests := true, laidLooks := .later }
def FnBloomNeverUptoCardSaid : Prop := Claim7.holds Tryd.pinned (.plain (OpenSpec.upto fnBloomNeverSpec)) fnBloomNeverUptoCard
end Rows
end Go.Proofs.YtojoppondgnajaaDoor
