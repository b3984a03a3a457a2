/-
  NARROWER THAN 'FOR EVERY INPUT', by the rows' own cells (each row's printed sentence says how): FnThriftCut: loops, laid · FnThriftLong: loops, laid · FnThriftRead: loops, laid · FnThriftSkip: loops, laid · FnThriftAny: laid · FnThriftAnyCut: laid · FnThriftBoth: loops, laid.
  DERIVED. THE GIVEN ROWS OF THIS SEAT. 7 by the template 'for every input the law returns true; each argument reads behind the call as it read before'; 0 by the template 'total and deterministic' (their statements: YtcboegodjlfmnaaDoorTotals.lean).
  GIVEN WITH THE SEED: the statements are not yours to turn. If you find one false, say at which input.
  Laid BY PROGRAM, IN A SANDBOX (cutbox-rows.mjs): the forced cells as the released guide's own fill.sh prints them over the translation 0af0dc418aaad0b0… (all of the seat's roots in one cut). By AI agents, Wed Nov 11 2026. No macro, syntax, notation, axiom, sorry.
-/
import Derived.Test.YtcboegodjlfmnaaDoorChecked
import GoSem.Claim
import GoSem.ClaimJoined
import GoSem.ClaimMapViews
import Derived.JoinedTies
import Derived.KernelRfl
namespace Go.Proofs.YtcboegodjlfmnaaDoor
/- THE CELL 'sum', in the pinned program and in every row, IS THE sha256 OF THE DUMP (.gsa) THAT YtcboegodjlfmnaaDoorProg.lean LOADS. Nothing in Lean hashes anything: it is a label: what it is worth is what the hold of that sum in a sandbox is worth. -/
noncomputable def Tryd.pinned : Pinned := { name := "ytcboegodjlfmnaadoor", sum := "0af0dc418aaad0b038bff2924e1762e213c710446f7e5a28f524193ed3f1682c", checked := Tryd.checked }
namespace Rows
def none {H : Type} : Left H := { results := [], args := [] }

/- WHAT THE LISTED PACKAGE-LEVEL VARIABLES READ AS WHEN THE CALL BEGINS. Each datum BY PROGRAM (the guide's laid-datum.mjs) off the statement by which the dump's own 'gosem.cut.vars' lays the variable. In a bare row this is a premise. The card (YtcboegodjlfmnaaDoorCards.lean) ties it to the program's text. -/
def laid_io_EOF {H : Type} : DataW H := .iface "*errors.errorString" (.ptr (.agg [.lit (.string [69, 79, 70])]))
def laid_io_ErrUnexpectedEOF {H : Type} : DataW H := .iface "*errors.errorString" (.ptr (.agg [.lit (.string [117, 110, 101, 120, 112, 101, 99, 116, 101, 100, 32, 69, 79, 70])]))

/-- 'laws.FnThriftCut': WHATEVER THE INPUT: true; the input reads as it did. -/
def fnThriftCutSpec : ChangeSpec := { name := "fnThriftCut", fn := fun _ => fun
  | [d1, d2] => { results := [.lit (.bool true)], args := [d1, d2] }
  | _ => none }
def fnThriftCutRow : OpenClaim := { program := "ytcboegodjlfmnaadoor", sum := "0af0dc418aaad0b038bff2924e1762e213c710446f7e5a28f524193ed3f1682c", func := "loop.example/pub-g01502/laws.FnThriftCut", spec := "fnThriftCut", inPlace := ["math.Float64bits"], unfollowed := true, recurses := true, named := ["io.EOF", "io.ErrUnexpectedEOF"], loops := true, apart := false, laid := [("io.EOF", laid_io_EOF), ("io.ErrUnexpectedEOF", laid_io_ErrUnexpectedEOF)] }
def FnThriftCutSaid : Prop := fnThriftCutRow.holds Tryd.pinned (OpenSpec.ofChange fnThriftCutSpec)

/-- ITS FALSE NEIGHBOUR: 'it returns false'. Refute it at one input. -/
def fnThriftCutWrong : ChangeSpec := { name := "fnThriftCut", fn := fun _ => fun
  | [d1, d2] => { results := [.lit (.bool false)], args := [d1, d2] }
  | _ => none }
def FnThriftCutWrongFalsely : Prop := fnThriftCutRow.holds Tryd.pinned (OpenSpec.ofChange fnThriftCutWrong)

/-- 'laws.FnThriftLong': WHATEVER THE INPUT: true; the input reads as it did. -/
def fnThriftLongSpec : ChangeSpec := { name := "fnThriftLong", fn := fun _ => fun
  | [d1, d2] => { results := [.lit (.bool true)], args := [d1, d2] }
  | _ => none }
def fnThriftLongRow : OpenClaim := { program := "ytcboegodjlfmnaadoor", sum := "0af0dc418aaad0b038bff2924e1762e213c710446f7e5a28f524193ed3f1682c", func := "loop.example/pub-g01502/laws.FnThriftLong", spec := "fnThriftLong", inPlace := ["math.Float64bits"], unfollowed := true, recurses := true, named := ["io.EOF", "io.ErrUnexpectedEOF"], loops := true, apart := false, laid := [("io.EOF", laid_io_EOF), ("io.ErrUnexpectedEOF", laid_io_ErrUnexpectedEOF)] }
def FnThriftLongSaid : Prop := fnThriftLongRow.holds Tryd.pinned (OpenSpec.ofChange fnThriftLongSpec)

/-- ITS FALSE NEIGHBOUR: 'it returns false'. Refute it at one input. -/
def fnThriftLongWrong : ChangeSpec := { name := "fnThriftLong", fn := fun _ => fun
  | [d1, d2] => { results := [.lit (.bool false)], args := [d1, d2] }
  | _ => none }
def FnThriftLongWrongFalsely : Prop := fnThriftLongRow.holds Tryd.pinned (OpenSpec.ofChange fnThriftLongWrong)

/-- 'laws.FnThriftRead': WHATEVER THE INPUT: true; the input reads as it did. -/
def fnThriftReadSpec : ChangeSpec := { name := "fnThriftRead", fn := fun _ => fun
  | [d1, d2] => { results := [.lit (.bool true)], args := [d1, d2] }
  | _ => none }
def fnThriftReadRow : OpenClaim := { program := "ytcboegodjlfmnaadoor", sum := "0af0dc418aaad0b038bff2924e1762e213c710446f7e5a28f524193ed3f1682c", func := "loop.example/pub-g01502/laws.FnThriftRead", spec := "fnThriftRead", inPlace := ["math.Float64bits"], unfollowed := true, recurses := true, named := ["io.EOF", "io.ErrUnexpectedEOF"], loops := true, apart := false, laid := [("io.EOF", laid_io_EOF), ("io.ErrUnexpectedEOF", laid_io_ErrUnexpectedEOF)] }
def FnThriftReadSaid : Prop := fnThriftReadRow.holds Tryd.pinned (OpenSpec.ofChange fnThriftReadSpec)

/-- ITS FALSE NEIGHBOUR: 'it returns false'. Refute it at one input. -/
def fnThriftReadWrong : ChangeSpec := { name := "fnThriftRead", fn := fun _ => fun
  | [d1, d2] => { results := [.lit (.bool false)], args := [d1, d2] }
  | _ => none }
def FnThriftReadWrongFalsely : Prop := fnThriftReadRow.holds Tryd.pinned (OpenSpec.ofChange fnThriftReadWrong)

/-- 'laws.FnThriftSkip': WHATEVER THE INPUT: true; the input reads as it did. -/
def fnThriftSkipSpec : ChangeSpec := { name := "fnThriftSkip", fn := fun _ => fun
  | [d1, d2, d3] => { results := [.lit (.bool true)], args := [d1, d2, d3] }
  | _ => none }
def fnThriftSkipRow : OpenClaim := { program := "ytcboegodjlfmnaadoor", sum := "0af0dc418aaad0b038bff2924e1762e213c710446f7e5a28f524193ed3f1682c", func := "loop.example/pub-g01502/laws.FnThriftSkip", spec := "fnThriftSkip", inPlace := ["internal/reflectlite.TypeOf"], unfollowed := true, recurses := true, named := ["io.EOF", "io.ErrUnexpectedEOF"], loops := true, apart := false, laid := [("io.EOF", laid_io_EOF), ("io.ErrUnexpectedEOF", laid_io_ErrUnexpectedEOF)] }
def FnThriftSkipSaid : Prop := fnThriftSkipRow.holds Tryd.pinned (OpenSpec.ofChange fnThriftSkipSpec)

/-- ITS FALSE NEIGHBOUR: 'it returns false'. Refute it at one input. -/
def fnThriftSkipWrong : ChangeSpec := { name := "fnThriftSkip", fn := fun _ => fun
  | [d1, d2, d3] => { results := [.lit (.bool false)], args := [d1, d2, d3] }
  | _ => none }
def FnThriftSkipWrongFalsely : Prop := fnThriftSkipRow.holds Tryd.pinned (OpenSpec.ofChange fnThriftSkipWrong)

/-- 'laws.FnThriftAny': WHATEVER THE INPUT: true; the input reads as it did. -/
def fnThriftAnySpec : ChangeSpec := { name := "fnThriftAny", fn := fun _ => fun
  | [d1, d2] => { results := [.lit (.bool true)], args := [d1, d2] }
  | _ => none }
def fnThriftAnyRow : OpenClaim := { program := "ytcboegodjlfmnaadoor", sum := "0af0dc418aaad0b038bff2924e1762e213c710446f7e5a28f524193ed3f1682c", func := "loop.example/pub-g01502/laws.FnThriftAny", spec := "fnThriftAny", inPlace := ["math.Float64bits", "internal/reflectlite.TypeOf"], unfollowed := true, recurses := true, named := ["io.EOF", "io.ErrUnexpectedEOF"], apart := false, laid := [("io.EOF", laid_io_EOF), ("io.ErrUnexpectedEOF", laid_io_ErrUnexpectedEOF)] }
def FnThriftAnySaid : Prop := fnThriftAnyRow.holds Tryd.pinned (OpenSpec.ofChange fnThriftAnySpec)

/-- ITS FALSE NEIGHBOUR: 'it returns false'. Refute it at one input. -/
def fnThriftAnyWrong : ChangeSpec := { name := "fnThriftAny", fn := fun _ => fun
  | [d1, d2] => { results := [.lit (.bool false)], args := [d1, d2] }
  | _ => none }
def FnThriftAnyWrongFalsely : Prop := fnThriftAnyRow.holds Tryd.pinned (OpenSpec.ofChange fnThriftAnyWrong)

/-- 'laws.FnThriftAnyCut': WHATEVER THE INPUT: true; the input reads as it did. -/
def fnThriftAnyCutSpec : ChangeSpec := { name := "fnThriftAnyCut", fn := fun _ => fun
  | [d1, d2] => { results := [.lit (.bool true)], args := [d1, d2] }
  | _ => none }
def fnThriftAnyCutRow : OpenClaim := { program := "ytcboegodjlfmnaadoor", sum := "0af0dc418aaad0b038bff2924e1762e213c710446f7e5a28f524193ed3f1682c", func := "loop.example/pub-g01502/laws.FnThriftAnyCut", spec := "fnThriftAnyCut", inPlace := ["math.Float64bits", "internal/reflectlite.TypeOf"], unfollowed := true, recurses := true, named := ["io.EOF", "io.ErrUnexpectedEOF"], apart := false, laid := [("io.EOF", laid_io_EOF), ("io.ErrUnexpectedEOF", laid_io_ErrUnexpectedEOF)] }
def FnThriftAnyCutSaid : Prop := fnThriftAnyCutRow.holds Tryd.pinned (OpenSpec.ofChange fnThriftAnyCutSpec)

/-- ITS FALSE NEIGHBOUR: 'it returns false'. Refute it at one input. -/
def fnThriftAnyCutWrong : ChangeSpec := { name := "fnThriftAnyCut", fn := fun _ => fun
  | [d1, d2] => { results := [.lit (.bool false)], args := [d1, d2] }
  | _ => none }
def FnThriftAnyCutWrongFalsely : Prop := fnThriftAnyCutRow.holds Tryd.pinned (OpenSpec.ofChange fnThriftAnyCutWrong)

/-- 'laws.FnThriftBoth': WHATEVER THE INPUT: true; the input reads as it did. -/
def fnThriftBothSpec : ChangeSpec := { name := "fnThriftBoth", fn := fun _ => fun
  | [d] => { results := [.lit (.bool true)], args := [d] }
  | _ => none }
def fnThriftBothRow : OpenClaim := { program := "ytcboegodjlfmnaadoor", sum := "0af0dc418aaad0b038bff2924e1762e213c710446f7e5a28f524193ed3f1682c", func := "loop.example/pub-g01502/laws.FnThriftBoth", spec := "fnThriftBoth", inPlace := ["math.Float64frombits", "math.Float64bits"], unfollowed := true, recurses := true, named := ["io.EOF", "io.ErrUnexpectedEOF"], loops := true, apart := false, laid := [("io.EOF", laid_io_EOF), ("io.ErrUnexpectedEOF", laid_io_ErrUnexpectedEOF)] }
def FnThriftBothSaid : Prop := fnThriftBothRow.holds Tryd.pinned (OpenSpec.ofChange fnThriftBothSpec)

/-- ITS FALSE NEIGHBOUR: 'it returns false'. Refute it at one input. -/
def fnThriftBothWrong : ChangeSpec := { name := "fnThriftBoth", fn := fun _ => fun
  | [d] => { results := [.lit (.bool false)], args := [d] }
  | _ => none }
def FnThriftBothWrongFalsely : Prop := fnThriftBothRow.holds Tryd.pinned (OpenSpec.ofChange fnThriftBothWrong)

/- THE SECOND FORM. 'bulk': how many values and letters a reading holds, each counted each time it is reached (what is shared counts as often as it is met; a slice's spare places count too). A statement '..UptoSaid' is the law's where the arguments, and the package variables that the reading takes, are together of bulk at most 1048576: NARROWER than '..Said'. Prove '..Said' where nothing that the law and all that it calls make is longer than what came in: it says more and counts as full. Else prove '..UptoSaid'. A law counts once. -/
mutual
def uptoBulk {H : Type} : DataW H → Nat
  | .lit (.string bytes) => bytes.length + 1
  | .lit _ => 1
  | .nil => 1
  | .ptr d => uptoBulk d + 1
  | .slice elems spare => uptoBulkAll elems + uptoBulkAll spare + 1
  | .agg parts => uptoBulkAll parts + 1
  | .iface _ d => uptoBulk d + 1
  | .map entries => uptoBulkEntries entries + 1
  | .held _ => 1
def uptoBulkAll {H : Type} : List (DataW H) → Nat
  | [] => 0
  | d :: r => uptoBulk d + uptoBulkAll r
def uptoBulkEntries {H : Type} : List (Lit × DataW H) → Nat
  | [] => 0
  | x :: r => uptoBulkEntry x + uptoBulkEntries r
def uptoBulkEntry {H : Type} : Lit × DataW H → Nat
  | (.string bytes, d) => bytes.length + uptoBulk d + 1
  | (_, d) => uptoBulk d + 1
 end
def uptoSmall : (H : Type) → List (DataW H) → Bool := fun _ ds => decide (uptoBulkAll ds ≤ 1048576)
def OpenSpec.upto (s : _root_.Go.ChangeSpec) : _root_.Go.OpenSpec := { _root_.Go.OpenSpec.ofChange s with cond := some uptoSmall }

/-- 'laws.FnThriftCut', WHERE WHAT IT READS IS OF BULK AT MOST 1048576: true; the input reads as it did. -/
def fnThriftCutUptoRow : OpenClaim := { program := "ytcboegodjlfmnaadoor", sum := "0af0dc418aaad0b038bff2924e1762e213c710446f7e5a28f524193ed3f1682c", func := "loop.example/pub-g01502/laws.FnThriftCut", spec := "fnThriftCut", inPlace := ["math.Float64bits"], unfollowed := true, recurses := true, named := ["io.EOF", "io.ErrUnexpectedEOF"], loops := true, apart := false, laid := [("io.EOF", laid_io_EOF), ("io.ErrUnexpectedEOF", laid_io_ErrUnexpectedEOF)], narrowed := true }
def FnThriftCutUptoSaid : Prop := fnThriftCutUptoRow.holds Tryd.pinned (OpenSpec.upto fnThriftCutSpec)

/-- 'laws.FnThriftLong', WHERE WHAT IT READS IS OF BULK AT MOST 1048576: true; the input reads as it did. -/
def fnThriftLongUptoRow : OpenClaim := { program := "ytcboegodjlfmnaadoor", sum := "0af0dc418aaad0b038bff2924e1762e213c710446f7e5a28f524193ed3f1682c", func := "loop.example/pub-g01502/laws.FnThriftLong", spec := "fnThriftLong", inPlace := ["math.Float64bits"], unfollowed := true, recurses := true, named := ["io.EOF", "io.ErrUnexpectedEOF"], loops := true, apart := false, laid := [("io.EOF", laid_io_EOF), ("io.ErrUnexpectedEOF", laid_io_ErrUnexpectedEOF)], narrowed := true }
def FnThriftLongUptoSaid : Prop := fnThriftLongUptoRow.holds Tryd.pinned (OpenSpec.upto fnThriftLongSpec)

/-- 'laws.FnThriftRead', WHERE WHAT IT READS IS OF BULK AT MOST 1048576: true; the input reads as it did. -/
def fnThriftReadUptoRow : OpenClaim := { program := "ytcboegodjlfmnaadoor", sum := "0af0dc418aaad0b038bff2924e1762e213c710446f7e5a28f524193ed3f1682c", func := "loop.example/pub-g01502/laws.FnThriftRead", spec := "fnThriftRead", inPlace := ["math.Float64bits"], unfollowed := true, recurses := true, named := ["io.EOF", "io.ErrUnexpectedEOF"], loops := true, apart := false, laid := [("io.EOF", laid_io_EOF), ("io.ErrUnexpectedEOF", laid_io_ErrUnexpectedEOF)], narrowed := true }
def FnThriftReadUptoSaid : Prop := fnThriftReadUptoRow.holds Tryd.pinned (OpenSpec.upto fnThriftReadSpec)

/-- 'laws.FnThriftSkip', WHERE WHAT IT READS IS OF BULK AT MOST 1048576: true; the input reads as it did. -/
def fnThriftSkipUptoRow : OpenClaim := { program := "ytcboegodjlfmnaadoor", sum := "0af0dc418aaad0b038bff2924e1762e213c710446f7e5a28f524193ed3f1682c", func := "loop.example/pub-g01502/laws.FnThriftSkip", spec := "fnThriftSkip", inPlace := ["internal/reflectlite.TypeOf"], unfollowed := true, recurses := true, named := ["io.EOF", "io.ErrUnexpectedEOF"], loops := true, apart := false, laid := [("io.EOF", laid_io_EOF), ("io.ErrUnexpectedEOF", laid_io_ErrUnexpectedEOF)], narrowed := true }
def FnThriftSkipUptoSaid : Prop := fnThriftSkipUptoRow.holds Tryd.pinned (OpenSpec.upto fnThriftSkipSpec)

/-- 'laws.FnThriftAny', WHERE WHAT IT READS IS OF BULK AT MOST 1048576: true; the input reads as it did. -/
def fnThriftAnyUptoRow : OpenClaim := { program := "ytcboegodjlfmnaadoor", sum := "0af0dc418aaad0b038bff2924e1762e213c710446f7e5a28f524193ed3f1682c", func := "loop.example/pub-g01502/laws.FnThriftAny", spec := "fnThriftAny", inPlace := ["math.Float64bits", "internal/reflectlite.TypeOf"], unfollowed := true, recurses := true, named := ["io.EOF", "io.ErrUnexpectedEOF"], apart := false, laid := [("io.EOF", laid_io_EOF), ("io.ErrUnexpectedEOF", laid_io_ErrUnexpectedEOF)], narrowed := true }
def FnThriftAnyUptoSaid : Prop := fnThriftAnyUptoRow.holds Tryd.pinned (OpenSpec.upto fnThriftAnySpec)

/-- 'laws.FnThriftAnyCut', WHERE WHAT IT READS IS OF BULK AT MOST 1048576: true; the input reads as it did. -/
def fnThriftAnyCutUptoRow : OpenClaim := { program := "ytcboegodjlfmnaadoor", sum := "0af0dc418aaad0b038bff2924e1762e213c710446f7e5a28f524193ed3f1682c", func := "loop.example/pub-g01502/laws.FnThriftAnyCut", spec := "fnThriftAnyCut", inPlace := ["math.Float64bits", "internal/reflectlite.TypeOf"], unfollowed := true, recurses := true, named := ["io.EOF", "io.ErrUnexpectedEOF"], apart := false, laid := [("io.EOF", laid_io_EOF), ("io.ErrUnexpectedEOF", laid_io_ErrUnexpectedEOF)], narrowed := true }
def FnThriftAnyCutUptoSaid : Prop := fnThriftAnyCutUptoRow.holds Tryd.pinned (OpenSpec.upto fnThriftAnyCutSpec)

/-- 'laws.FnThriftBoth', WHERE WHAT IT READS IS OF BULK AT MOST 1048576: true; the input reads as it did. -/
def fnThriftBothUptoRow : OpenClaim := { program := "ytcboegodjlfmnaadoor", sum := "0af0dc418aaad0b038bff2924e1762e213c710446f7e5a28f524193ed3f1682c", func := "loop.example/pub-g01502/laws.FnThriftBoth", spec := "fnThriftBoth", inPlace := ["math.Float64frombits", "math.Float64bits"], unfollowed := true, recurses := true, named := ["io.EOF", "io.ErrUnexpectedEOF"], loops := true, apart := false, laid := [("io.EOF", laid_io_EOF), ("io.ErrUnexpectedEOF", laid_io_ErrUnexpectedEOF)], narrowed := true }
def FnThriftBothUptoSaid : Prop := fnThriftBothUptoRow.holds Tryd.pinned (OpenSpec.upto fnThriftBothSpec)

end Rows
end Go.Proofs.YtcboegodjlfmnaaDoor
