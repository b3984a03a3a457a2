/-
  NARROWER THAN 'FOR EVERY INPUT', by the rows' own cells (each row's printed sentence says how): FnThriftWritten: loops.
  DERIVED. THE GIVEN ROWS OF THIS SEAT. 2 by the template 'for every input the law returns true; each argument reads behind the call as it read before'; 0 by the template 'total and deterministic' (their statements: YtcboegodjlfmnaaTotals.lean).
  GIVEN WITH THE SEED: the statements are not yours to turn. If you find one false, say at which input.
  Laid BY PROGRAM, IN A SANDBOX (cutbox-rows.mjs): the forced cells as the released guide's own fill.sh prints them over the translation a02f1c9fbcf7a862… (all of the seat's roots in one cut). By AI agents, Wed Nov 11 2026. No macro, syntax, notation, axiom, sorry.
-/
import Derived.Test.YtcboegodjlfmnaaChecked
import GoSem.Claim
import GoSem.ClaimJoined
import GoSem.ClaimMapViews
import Derived.JoinedTies
import Derived.KernelRfl
namespace Go.Proofs.Ytcboegodjlfmnaa
/- THE CELL 'sum', in the pinned program and in every row, IS THE sha256 OF THE DUMP (.gsa) THAT YtcboegodjlfmnaaProg.lean LOADS. Nothing in Lean hashes anything: it is a label: what it is worth is what the hold of that sum in a sandbox is worth. -/
noncomputable def Try.pinned : Pinned := { name := "ytcboegodjlfmnaa", sum := "a02f1c9fbcf7a862d8332e87aef1d223109ef41e28886ca1d75b19d4b5c488ac", checked := Try.checked }
namespace Rows
def none {H : Type} : Left H := { results := [], args := [] }

/-- 'laws.FnTokensRead': WHATEVER THE INPUT: true; the input reads as it did. -/
def fnTokensReadSpec : ChangeSpec := { name := "fnTokensRead", fn := fun _ => fun
  | [d1, d2] => { results := [.lit (.bool true)], args := [d1, d2] }
  | _ => none }
def fnTokensReadRow : OpenClaim := { program := "ytcboegodjlfmnaa", sum := "a02f1c9fbcf7a862d8332e87aef1d223109ef41e28886ca1d75b19d4b5c488ac", func := "loop.example/pub-g01502/laws.FnTokensRead", spec := "fnTokensRead", inPlace := ["math.Float64bits"], unfollowed := true, recurses := true, apart := false }
def FnTokensReadSaid : Prop := fnTokensReadRow.holds Try.pinned (OpenSpec.ofChange fnTokensReadSpec)

/-- ITS FALSE NEIGHBOUR: 'it returns false'. Refute it at one input. -/
def fnTokensReadWrong : ChangeSpec := { name := "fnTokensRead", fn := fun _ => fun
  | [d1, d2] => { results := [.lit (.bool false)], args := [d1, d2] }
  | _ => none }
def FnTokensReadWrongFalsely : Prop := fnTokensReadRow.holds Try.pinned (OpenSpec.ofChange fnTokensReadWrong)

/-- 'laws.FnThriftWritten': WHATEVER THE INPUT: true; the input reads as it did. -/
def fnThriftWrittenSpec : ChangeSpec := { name := "fnThriftWritten", fn := fun _ => fun
  | [d] => { results := [.lit (.bool true)], args := [d] }
  | _ => none }
def fnThriftWrittenRow : OpenClaim := { program := "ytcboegodjlfmnaa", sum := "a02f1c9fbcf7a862d8332e87aef1d223109ef41e28886ca1d75b19d4b5c488ac", func := "loop.example/pub-g01502/laws.FnThriftWritten", spec := "fnThriftWritten", inPlace := ["math.Float64frombits"], unfollowed := true, recurses := true, loops := true, apart := false }
def FnThriftWrittenSaid : Prop := fnThriftWrittenRow.holds Try.pinned (OpenSpec.ofChange fnThriftWrittenSpec)

/-- ITS FALSE NEIGHBOUR: 'it returns false'. Refute it at one input. -/
def fnThriftWrittenWrong : ChangeSpec := { name := "fnThriftWritten", fn := fun _ => fun
  | [d] => { results := [.lit (.bool false)], args := [d] }
  | _ => none }
def FnThriftWrittenWrongFalsely : Prop := fnThriftWrittenRow.holds Try.pinned (OpenSpec.ofChange fnThriftWrittenWrong)

/- THE SECOND FORM. 'bulk': how many values and letters a reading holds, each counted each time it is reached (what is shared counts as often as it is met; a slice's spare places count too). A statement '..UptoSaid' is the law's where the arguments, and the package variables that the reading takes, are together of bulk at most 1048576: NARROWER than '..Said'. Prove '..Said' where nothing that the law and all that it calls make is longer than what came in: it says more and counts as full. Else prove '..UptoSaid'. A law counts once. -/
mutual
def uptoBulk {H : Type} : DataW H → Nat
  | .lit (.string bytes) => bytes.length + 1
  | .lit _ => 1
  | .nil => 1
  | .ptr d => uptoBulk d + 1
  | .slice elems spare => uptoBulkAll elems + uptoBulkAll spare + 1
  | .agg parts => uptoBulkAll parts + 1
  | .iface _ d => uptoBulk d + 1
  | .map entries => uptoBulkEntries entries + 1
  | .held _ => 1
def uptoBulkAll {H : Type} : List (DataW H) → Nat
  | [] => 0
  | d :: r => uptoBulk d + uptoBulkAll r
def uptoBulkEntries {H : Type} : List (Lit × DataW H) → Nat
  | [] => 0
  | x :: r => uptoBulkEntry x + uptoBulkEntries r
def uptoBulkEntry {H : Type} : Lit × DataW H → Nat
  | (.string bytes, d) => bytes.length + uptoBulk d + 1
  | (_, d) => uptoBulk d + 1
 end
def uptoSmall : (H : Type) → List (DataW H) → Bool := fun _ ds => decide (uptoBulkAll ds ≤ 1048576)
def OpenSpec.upto (s : _root_.Go.ChangeSpec) : _root_.Go.OpenSpec := { _root_.Go.OpenSpec.ofChange s with cond := some uptoSmall }

/-- 'laws.FnTokensRead', WHERE WHAT IT READS IS OF BULK AT MOST 1048576: true; the input reads as it did. -/
def fnTokensReadUptoRow : OpenClaim := { program := "ytcboegodjlfmnaa", sum := "a02f1c9fbcf7a862d8332e87aef1d223109ef41e28886ca1d75b19d4b5c488ac", func := "loop.example/pub-g01502/laws.FnTokensRead", spec := "fnTokensRead", inPlace := ["math.Float64bits"], unfollowed := true, recurses := true, apart := false, narrowed := true }
def FnTokensReadUptoSaid : Prop := fnTokensReadUptoRow.holds Try.pinned (OpenSpec.upto fnTokensReadSpec)

/-- 'laws.FnThriftWritten', WHERE WHAT IT READS IS OF BULK AT MOST 1048576: true; the input reads as it did. -/
def fnThriftWrittenUptoRow : OpenClaim := { program := "ytcboegodjlfmnaa", sum := "a02f1c9fbcf7a862d8332e87aef1d223109ef41e28886ca1d75b19d4b5c488ac", func := "loop.example/pub-g01502/laws.FnThriftWritten", spec := "fnThriftWritten", inPlace := ["math.Float64frombits"], unfollowed := true, recurses := true, loops := true, apart := false, narrowed := true }
def FnThriftWrittenUptoSaid : Prop := fnThriftWrittenUptoRow.holds Try.pinned (OpenSpec.upto fnThriftWrittenSpec)

end Rows
end Go.Proofs.Ytcboegodjlfmnaa
