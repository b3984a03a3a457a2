/-
  NARROWER THAN 'FOR EVERY INPUT', by the rows' own cells (each row's printed sentence says how): FnPlainCut: laid.
  DERIVED. THE GIVEN ROWS OF THIS SEAT. 1 by the template 'for every input the law returns true; each argument reads behind the call as it read before'; 0 by the template 'total and deterministic' (their statements: YtkefklemcoehmaaGreatDoorTotals.lean).
  GIVEN WITH THE SEED: the statements are not yours to turn. If you find one false, say at which input.
  Laid BY PROGRAM, IN A SANDBOX (cutbox-rows.mjs): the forced cells as the released guide's own fill.sh prints them over the translation ae1a8608bd8a863b… (all of the seat's roots in one cut). By AI agents, Wed Nov 11 2026. No macro, syntax, notation, axiom, sorry.
-/
import Derived.Test.YtkefklemcoehmaaGreatDoorChecked
import GoSem.Claim
import GoSem.ClaimJoined
import GoSem.ClaimMapViews
import Derived.JoinedTies
import Derived.KernelRfl
namespace Go.Proofs.YtkefklemcoehmaaGreatDoor
/- THE CELL 'sum', in the pinned program and in every row, IS THE sha256 OF THE DUMP (.gsa) THAT YtkefklemcoehmaaGreatDoorProg.lean LOADS. Nothing in Lean hashes anything: it is a label: what it is worth is what the hold of that sum in a sandbox is worth. -/
noncomputable def Tryz.pinned : Pinned := { name := "ytkefklemcoehmaagreatdoor", sum := "ae1a8608bd8a863bdb85d4925df399a174c0218dbaa8a83c40455aefd4a89c10", checked := Tryz.checked }
namespace Rows
def none {H : Type} : Left H := { results := [], args := [] }

/- WHAT THE LISTED PACKAGE-LEVEL VARIABLES READ AS WHEN THE CALL BEGINS. Each datum BY PROGRAM (the guide's laid-datum.mjs) off the statement by which the dump's own 'gosem.cut.vars' lays the variable. In a bare row this is a premise. The card (YtkefklemcoehmaaGreatDoorCards.lean) ties it to the program's text. -/
def laid_io_ErrUnexpectedEOF {H : Type} : DataW H := .iface "*errors.errorString" (.ptr (.agg [.lit (.string [117, 110, 101, 120, 112, 101, 99, 116, 101, 100, 32, 69, 79, 70])]))

/-- 'laws.FnPlainCut': WHATEVER THE INPUT: true; the input reads as it did. -/
def fnPlainCutSpec : ChangeSpec := { name := "fnPlainCut", fn := fun _ => fun
  | [d1, d2, d3] => { results := [.lit (.bool true)], args := [d1, d2, d3] }
  | _ => none }
def fnPlainCutRow : OpenClaim := { program := "ytkefklemcoehmaagreatdoor", sum := "ae1a8608bd8a863bdb85d4925df399a174c0218dbaa8a83c40455aefd4a89c10", func := "loop.example/pub-g01502/laws.FnPlainCut", spec := "fnPlainCut", unfollowed := true, recurses := true, named := ["io.ErrUnexpectedEOF"], apart := false, laid := [("io.ErrUnexpectedEOF", laid_io_ErrUnexpectedEOF)] }
def FnPlainCutSaid : Prop := fnPlainCutRow.holds Tryz.pinned (OpenSpec.ofChange fnPlainCutSpec)

/-- ITS FALSE NEIGHBOUR: 'it returns false'. Refute it at one input. -/
def fnPlainCutWrong : ChangeSpec := { name := "fnPlainCut", fn := fun _ => fun
  | [d1, d2, d3] => { results := [.lit (.bool false)], args := [d1, d2, d3] }
  | _ => none }
def FnPlainCutWrongFalsely : Prop := fnPlainCutRow.holds Tryz.pinned (OpenSpec.ofChange fnPlainCutWrong)

/- THE SECOND FORM. 'bulk': how many values and letters a reading holds, each counted each time it is reached (what is shared counts as often as it is met; a slice's spare places count too). A statement '..UptoSaid' is the law's where the arguments, and the package variables that the reading takes, are together of bulk at most 1048576: NARROWER than '..Said'. Prove '..Said' where nothing that the law and all that it calls make is longer than what came in: it says more and counts as full. Else prove '..UptoSaid'. A law counts once. -/
mutual
def uptoBulk {H : Type} : DataW H → Nat
  | .lit (.string bytes) => bytes.length + 1
  | .lit _ => 1
  | .nil => 1
  | .ptr d => uptoBulk d + 1
  | .slice elems spare => uptoBulkAll elems + uptoBulkAll spare + 1
  | .agg parts => uptoBulkAll parts + 1
  | .iface _ d => uptoBulk d + 1
  | .map entries => uptoBulkEntries entries + 1
  | .held _ => 1
def uptoBulkAll {H : Type} : List (DataW H) → Nat
  | [] => 0
  | d :: r => uptoBulk d + uptoBulkAll r
def uptoBulkEntries {H : Type} : List (Lit × DataW H) → Nat
  | [] => 0
  | x :: r => uptoBulkEntry x + uptoBulkEntries r
def uptoBulkEntry {H : Type} : Lit × DataW H → Nat
  | (.string bytes, d) => bytes.length + uptoBulk d + 1
  | (_, d) => uptoBulk d + 1
 end
def uptoSmall : (H : Type) → List (DataW H) → Bool := fun _ ds => decide (uptoBulkAll ds ≤ 1048576)
def OpenSpec.upto (s : _root_.Go.ChangeSpec) : _root_.Go.OpenSpec := { _root_.Go.OpenSpec.ofChange s with cond := some uptoSmall }

/-- 'laws.FnPlainCut', WHERE WHAT IT READS IS OF BULK AT MOST 1048576: true; the input reads as it did. -/
def fnPlainCutUptoRow : OpenClaim := { program := "ytkefklemcoehmaagreatdoor", sum := "ae1a8608bd8a863bdb85d4925df399a174c0218dbaa8a83c40455aefd4a89c10", func := "loop.example/pub-g01502/laws.FnPlainCut", spec := "fnPlainCut", unfollowed := true, recurses := true, named := ["io.ErrUnexpectedEOF"], apart := false, laid := [("io.ErrUnexpectedEOF", laid_io_ErrUnexpectedEOF)], narrowed := true }
def FnPlainCutUptoSaid : Prop := fnPlainCutUptoRow.holds Tryz.pinned (OpenSpec.upto fnPlainCutSpec)

end Rows
end Go.Proofs.YtkefklemcoehmaaGreatDoor
