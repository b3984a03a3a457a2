/-
  NARROWER THAN 'FOR EVERY INPUT', by the rows' own cells (each row's printed sentence says how): FnBitsRead: laid · FnLevelsRead: laid · FnLevelsBoth: laid · FnLevelsPacked: laid · FnIndexRead: laid · FnRunsRead: laid · FnIndexBoth: laid.
  DERIVED. THE GIVEN ROWS OF THIS SEAT. 7 by the template 'for every input the law returns true; each argument reads behind the call as it read before'; 0 by the template 'total and deterministic' (their statements: YtoopljlbiifmfaaDoorTotals.lean).
  GIVEN WITH THE SEED: the statements are not yours to turn. If you find one false, say at which input.
  Laid BY PROGRAM, IN A SANDBOX (cutbox-rows.mjs): the forced cells as the released guide's own fill.sh prints them over the translation 7f3e6b06df33f4cd… (all of the seat's roots in one cut). By AI agents, Wed Nov 11 2026. No macro, syntax, notation, axiom, sorry.
-/
import Derived.Test.YtoopljlbiifmfaaDoorChecked
import GoSem.Claim
import GoSem.ClaimJoined
import GoSem.ClaimMapViews
import Derived.JoinedTies
import Derived.KernelRfl
namespace Go.Proofs.YtoopljlbiifmfaaDoor
/- THE CELL 'sum', in the pinned program and in every row, IS THE sha256 OF THE DUMP (.gsa) THAT YtoopljlbiifmfaaDoorProg.lean LOADS. Nothing in Lean hashes anything: it is a label: what it is worth is what the hold of that sum in a sandbox is worth. -/
noncomputable def Tryd.pinned : Pinned := { name := "ytoopljlbiifmfaadoor", sum := "7f3e6b06df33f4cdb277f1f55e4e7d668c5db58fe5792485c56b3a8187e0a777", checked := Tryd.checked }
namespace Rows
def none {H : Type} : Left H := { results := [], args := [] }

/- WHAT THE LISTED PACKAGE-LEVEL VARIABLES READ AS WHEN THE CALL BEGINS. Each datum BY PROGRAM (the guide's laid-datum.mjs) off the statement by which the dump's own 'gosem.cut.vars' lays the variable. In a bare row this is a premise. The card (YtoopljlbiifmfaaDoorCards.lean) ties it to the program's text. -/
def laid_io_ErrUnexpectedEOF {H : Type} : DataW H := .iface "*errors.errorString" (.ptr (.agg [.lit (.string [117, 110, 101, 120, 112, 101, 99, 116, 101, 100, 32, 69, 79, 70])]))

/-- 'laws.FnBitsRead': WHATEVER THE INPUT: true; the input reads as it did. -/
def fnBitsReadSpec : ChangeSpec := { name := "fnBitsRead", fn := fun _ => fun
  | [d] => { results := [.lit (.bool true)], args := [d] }
  | _ => none }
def fnBitsReadRow : OpenClaim := { program := "ytoopljlbiifmfaadoor", sum := "7f3e6b06df33f4cdb277f1f55e4e7d668c5db58fe5792485c56b3a8187e0a777", func := "loop.example/pub-g01502/laws.FnBitsRead", spec := "fnBitsRead", named := ["io.ErrUnexpectedEOF"], apart := false, laid := [("io.ErrUnexpectedEOF", laid_io_ErrUnexpectedEOF)] }
def FnBitsReadSaid : Prop := fnBitsReadRow.holds Tryd.pinned (OpenSpec.ofChange fnBitsReadSpec)

/-- ITS FALSE NEIGHBOUR: 'it returns false'. Refute it at one input. -/
def fnBitsReadWrong : ChangeSpec := { name := "fnBitsRead", fn := fun _ => fun
  | [d] => { results := [.lit (.bool false)], args := [d] }
  | _ => none }
def FnBitsReadWrongFalsely : Prop := fnBitsReadRow.holds Tryd.pinned (OpenSpec.ofChange fnBitsReadWrong)

/-- 'laws.FnLevelsRead': WHATEVER THE INPUT: true; the input reads as it did. -/
def fnLevelsReadSpec : ChangeSpec := { name := "fnLevelsRead", fn := fun _ => fun
  | [d1, d2] => { results := [.lit (.bool true)], args := [d1, d2] }
  | _ => none }
def fnLevelsReadRow : OpenClaim := { program := "ytoopljlbiifmfaadoor", sum := "7f3e6b06df33f4cdb277f1f55e4e7d668c5db58fe5792485c56b3a8187e0a777", func := "loop.example/pub-g01502/laws.FnLevelsRead", spec := "fnLevelsRead", named := ["io.ErrUnexpectedEOF"], apart := false, laid := [("io.ErrUnexpectedEOF", laid_io_ErrUnexpectedEOF)] }
def FnLevelsReadSaid : Prop := fnLevelsReadRow.holds Tryd.pinned (OpenSpec.ofChange fnLevelsReadSpec)

/-- ITS FALSE NEIGHBOUR: 'it returns false'. Refute it at one input. -/
def fnLevelsReadWrong : ChangeSpec := { name := "fnLevelsRead", fn := fun _ => fun
  | [d1, d2] => { results := [.lit (.bool false)], args := [d1, d2] }
  | _ => none }
def FnLevelsReadWrongFalsely : Prop := fnLevelsReadRow.holds Tryd.pinned (OpenSpec.ofChange fnLevelsReadWrong)

/-- 'laws.FnLevelsBoth': WHATEVER THE INPUT: true; the input reads as it did. -/
def fnLevelsBothSpec : ChangeSpec := { name := "fnLevelsBoth", fn := fun _ => fun
  | [d1, d2] => { results := [.lit (.bool true)], args := [d1, d2] }
  | _ => none }
def fnLevelsBothRow : OpenClaim := { program := "ytoopljlbiifmfaadoor", sum := "7f3e6b06df33f4cdb277f1f55e4e7d668c5db58fe5792485c56b3a8187e0a777", func := "loop.example/pub-g01502/laws.FnLevelsBoth", spec := "fnLevelsBoth", named := ["io.ErrUnexpectedEOF"], apart := false, laid := [("io.ErrUnexpectedEOF", laid_io_ErrUnexpectedEOF)] }
def FnLevelsBothSaid : Prop := fnLevelsBothRow.holds Tryd.pinned (OpenSpec.ofChange fnLevelsBothSpec)

/-- ITS FALSE NEIGHBOUR: 'it returns false'. Refute it at one input. -/
def fnLevelsBothWrong : ChangeSpec := { name := "fnLevelsBoth", fn := fun _ => fun
  | [d1, d2] => { results := [.lit (.bool false)], args := [d1, d2] }
  | _ => none }
def FnLevelsBothWrongFalsely : Prop := fnLevelsBothRow.holds Tryd.pinned (OpenSpec.ofChange fnLevelsBothWrong)

/-- 'laws.FnLevelsPacked': WHATEVER THE INPUT: true; the input reads as it did. -/
def fnLevelsPackedSpec : ChangeSpec := { name := "fnLevelsPacked", fn := fun _ => fun
  | [d1, d2] => { results := [.lit (.bool true)], args := [d1, d2] }
  | _ => none }
def fnLevelsPackedRow : OpenClaim := { program := "ytoopljlbiifmfaadoor", sum := "7f3e6b06df33f4cdb277f1f55e4e7d668c5db58fe5792485c56b3a8187e0a777", func := "loop.example/pub-g01502/laws.FnLevelsPacked", spec := "fnLevelsPacked", named := ["io.ErrUnexpectedEOF"], apart := false, laid := [("io.ErrUnexpectedEOF", laid_io_ErrUnexpectedEOF)] }
def FnLevelsPackedSaid : Prop := fnLevelsPackedRow.holds Tryd.pinned (OpenSpec.ofChange fnLevelsPackedSpec)

/-- ITS FALSE NEIGHBOUR: 'it returns false'. Refute it at one input. -/
def fnLevelsPackedWrong : ChangeSpec := { name := "fnLevelsPacked", fn := fun _ => fun
  | [d1, d2] => { results := [.lit (.bool false)], args := [d1, d2] }
  | _ => none }
def FnLevelsPackedWrongFalsely : Prop := fnLevelsPackedRow.holds Tryd.pinned (OpenSpec.ofChange fnLevelsPackedWrong)

/-- 'laws.FnIndexRead': WHATEVER THE INPUT: true; the input reads as it did. -/
def fnIndexReadSpec : ChangeSpec := { name := "fnIndexRead", fn := fun _ => fun
  | [d1, d2] => { results := [.lit (.bool true)], args := [d1, d2] }
  | _ => none }
def fnIndexReadRow : OpenClaim := { program := "ytoopljlbiifmfaadoor", sum := "7f3e6b06df33f4cdb277f1f55e4e7d668c5db58fe5792485c56b3a8187e0a777", func := "loop.example/pub-g01502/laws.FnIndexRead", spec := "fnIndexRead", named := ["io.ErrUnexpectedEOF"], apart := false, laid := [("io.ErrUnexpectedEOF", laid_io_ErrUnexpectedEOF)] }
def FnIndexReadSaid : Prop := fnIndexReadRow.holds Tryd.pinned (OpenSpec.ofChange fnIndexReadSpec)

/-- ITS FALSE NEIGHBOUR: 'it returns false'. Refute it at one input. -/
def fnIndexReadWrong : ChangeSpec := { name := "fnIndexRead", fn := fun _ => fun
  | [d1, d2] => { results := [.lit (.bool false)], args := [d1, d2] }
  | _ => none }
def FnIndexReadWrongFalsely : Prop := fnIndexReadRow.holds Tryd.pinned (OpenSpec.ofChange fnIndexReadWrong)

/-- 'laws.FnRunsRead': WHATEVER THE INPUT: true; the input reads as it did. -/
def fnRunsReadSpec : ChangeSpec := { name := "fnRunsRead", fn := fun _ => fun
  | [d1, d2] => { results := [.lit (.bool true)], args := [d1, d2] }
  | _ => none }
def fnRunsReadRow : OpenClaim := { program := "ytoopljlbiifmfaadoor", sum := "7f3e6b06df33f4cdb277f1f55e4e7d668c5db58fe5792485c56b3a8187e0a777", func := "loop.example/pub-g01502/laws.FnRunsRead", spec := "fnRunsRead", named := ["io.ErrUnexpectedEOF"], apart := false, laid := [("io.ErrUnexpectedEOF", laid_io_ErrUnexpectedEOF)] }
def FnRunsReadSaid : Prop := fnRunsReadRow.holds Tryd.pinned (OpenSpec.ofChange fnRunsReadSpec)

/-- ITS FALSE NEIGHBOUR: 'it returns false'. Refute it at one input. -/
def fnRunsReadWrong : ChangeSpec := { name := "fnRunsRead", fn := fun _ => fun
  | [d1, d2] => { results := [.lit (.bool false)], args := [d1, d2] }
  | _ => none }
def FnRunsReadWrongFalsely : Prop := fnRunsReadRow.holds Tryd.pinned (OpenSpec.ofChange fnRunsReadWrong)

/-- 'laws.FnIndexBoth': WHATEVER THE INPUT: true; the input reads as it did. -/
def fnIndexBothSpec : ChangeSpec := { name := "fnIndexBoth", fn := fun _ => fun
  | [d] => { results := [.lit (.bool true)], args := [d] }
  | _ => none }
def fnIndexBothRow : OpenClaim := { program := "ytoopljlbiifmfaadoor", sum := "7f3e6b06df33f4cdb277f1f55e4e7d668c5db58fe5792485c56b3a8187e0a777", func := "loop.example/pub-g01502/laws.FnIndexBoth", spec := "fnIndexBoth", named := ["io.ErrUnexpectedEOF"], apart := false, laid := [("io.ErrUnexpectedEOF", laid_io_ErrUnexpectedEOF)] }
def FnIndexBothSaid : Prop := fnIndexBothRow.holds Tryd.pinned (OpenSpec.ofChange fnIndexBothSpec)

/-- ITS FALSE NEIGHBOUR: 'it returns false'. Refute it at one input. -/
def fnIndexBothWrong : ChangeSpec := { name := "fnIndexBoth", fn := fun _ => fun
  | [d] => { results := [.lit (.bool false)], args := [d] }
  | _ => none }
def FnIndexBothWrongFalsely : Prop := fnIndexBothRow.holds Tryd.pinned (OpenSpec.ofChange fnIndexBothWrong)

/- THE SECOND FORM. 'bulk': how many values and letters a reading holds, each counted each time it is reached (what is shared counts as often as it is met; a slice's spare places count too). A statement '..UptoSaid' is the law's where the arguments, and the package variables that the reading takes, are together of bulk at most 1048576: NARROWER than '..Said'. Prove '..Said' where nothing that the law and all that it calls make is longer than what came in: it says more and counts as full. Else prove '..UptoSaid'. A law counts once. -/
mutual
def uptoBulk {H : Type} : DataW H → Nat
  | .lit (.string bytes) => bytes.length + 1
  | .lit _ => 1
  | .nil => 1
  | .ptr d => uptoBulk d + 1
  | .slice elems spare => uptoBulkAll elems + uptoBulkAll spare + 1
  | .agg parts => uptoBulkAll parts + 1
  | .iface _ d => uptoBulk d + 1
  | .map entries => uptoBulkEntries entries + 1
  | .held _ => 1
def uptoBulkAll {H : Type} : List (DataW H) → Nat
  | [] => 0
  | d :: r => uptoBulk d + uptoBulkAll r
def uptoBulkEntries {H : Type} : List (Lit × DataW H) → Nat
  | [] => 0
  | x :: r => uptoBulkEntry x + uptoBulkEntries r
def uptoBulkEntry {H : Type} : Lit × DataW H → Nat
  | (.string bytes, d) => bytes.length + uptoBulk d + 1
  | (_, d) => uptoBulk d + 1
 end
def uptoSmall : (H : Type) → List (DataW H) → Bool := fun _ ds => decide (uptoBulkAll ds ≤ 1048576)
def OpenSpec.upto (s : _root_.Go.ChangeSpec) : _root_.Go.OpenSpec := { _root_.Go.OpenSpec.ofChange s with cond := some uptoSmall }

/-- 'laws.FnBitsRead', WHERE WHAT IT READS IS OF BULK AT MOST 1048576: true; the input reads as it did. -/
def fnBitsReadUptoRow : OpenClaim := { program := "ytoopljlbiifmfaadoor", sum := "7f3e6b06df33f4cdb277f1f55e4e7d668c5db58fe5792485c56b3a8187e0a777", func := "loop.example/pub-g01502/laws.FnBitsRead", spec := "fnBitsRead", named := ["io.ErrUnexpectedEOF"], apart := false, laid := [("io.ErrUnexpectedEOF", laid_io_ErrUnexpectedEOF)], narrowed := true }
def FnBitsReadUptoSaid : Prop := fnBitsReadUptoRow.holds Tryd.pinned (OpenSpec.upto fnBitsReadSpec)

/-- 'laws.FnLevelsRead', WHERE WHAT IT READS IS OF BULK AT MOST 1048576: true; the input reads as it did. -/
def fnLevelsReadUptoRow : OpenClaim := { program := "ytoopljlbiifmfaadoor", sum := "7f3e6b06df33f4cdb277f1f55e4e7d668c5db58fe5792485c56b3a8187e0a777", func := "loop.example/pub-g01502/laws.FnLevelsRead", spec := "fnLevelsRead", named := ["io.ErrUnexpectedEOF"], apart := false, laid := [("io.ErrUnexpectedEOF", laid_io_ErrUnexpectedEOF)], narrowed := true }
def FnLevelsReadUptoSaid : Prop := fnLevelsReadUptoRow.holds Tryd.pinned (OpenSpec.upto fnLevelsReadSpec)

/-- 'laws.FnLevelsBoth', WHERE WHAT IT READS IS OF BULK AT MOST 1048576: true; the input reads as it did. -/
def fnLevelsBothUptoRow : OpenClaim := { program := "ytoopljlbiifmfaadoor", sum := "7f3e6b06df33f4cdb277f1f55e4e7d668c5db58fe5792485c56b3a8187e0a777", func := "loop.example/pub-g01502/laws.FnLevelsBoth", spec := "fnLevelsBoth", named := ["io.ErrUnexpectedEOF"], apart := false, laid := [("io.ErrUnexpectedEOF", laid_io_ErrUnexpectedEOF)], narrowed := true }
def FnLevelsBothUptoSaid : Prop := fnLevelsBothUptoRow.holds Tryd.pinned (OpenSpec.upto fnLevelsBothSpec)

/-- 'laws.FnLevelsPacked', WHERE WHAT IT READS IS OF BULK AT MOST 1048576: true; the input reads as it did. -/
def fnLevelsPackedUptoRow : OpenClaim := { program := "ytoopljlbiifmfaadoor", sum := "7f3e6b06df33f4cdb277f1f55e4e7d668c5db58fe5792485c56b3a8187e0a777", func := "loop.example/pub-g01502/laws.FnLevelsPacked", spec := "fnLevelsPacked", named := ["io.ErrUnexpectedEOF"], apart := false, laid := [("io.ErrUnexpectedEOF", laid_io_ErrUnexpectedEOF)], narrowed := true }
def FnLevelsPackedUptoSaid : Prop := fnLevelsPackedUptoRow.holds Tryd.pinned (OpenSpec.upto fnLevelsPackedSpec)

/-- 'laws.FnIndexRead', WHERE WHAT IT READS IS OF BULK AT MOST 1048576: true; the input reads as it did. -/
def fnIndexReadUptoRow : OpenClaim := { program := "ytoopljlbiifmfaadoor", sum := "7f3e6b06df33f4cdb277f1f55e4e7d668c5db58fe5792485c56b3a8187e0a777", func := "loop.example/pub-g01502/laws.FnIndexRead", spec := "fnIndexRead", named := ["io.ErrUnexpectedEOF"], apart := false, laid := [("io.ErrUnexpectedEOF", laid_io_ErrUnexpectedEOF)], narrowed := true }
def FnIndexReadUptoSaid : Prop := fnIndexReadUptoRow.holds Tryd.pinned (OpenSpec.upto fnIndexReadSpec)

/-- 'laws.FnRunsRead', WHERE WHAT IT READS IS OF BULK AT MOST 1048576: true; the input reads as it did. -/
def fnRunsReadUptoRow : OpenClaim := { program := "ytoopljlbiifmfaadoor", sum := "7f3e6b06df33f4cdb277f1f55e4e7d668c5db58fe5792485c56b3a8187e0a777", func := "loop.example/pub-g01502/laws.FnRunsRead", spec := "fnRunsRead", named := ["io.ErrUnexpectedEOF"], apart := false, laid := [("io.ErrUnexpectedEOF", laid_io_ErrUnexpectedEOF)], narrowed := true }
def FnRunsReadUptoSaid : Prop := fnRunsReadUptoRow.holds Tryd.pinned (OpenSpec.upto fnRunsReadSpec)

/-- 'laws.FnIndexBoth', WHERE WHAT IT READS IS OF BULK AT MOST 1048576: true; the input reads as it did. -/
def fnIndexBothUptoRow : OpenClaim := { program := "ytoopljlbiifmfaadoor", sum := "7f3e6b06df33f4cdb277f1f55e4e7d668c5db58fe5792485c56b3a8187e0a777", func := "loop.example/pub-g01502/laws.FnIndexBoth", spec := "fnIndexBoth", named := ["io.ErrUnexpectedEOF"], apart := false, laid := [("io.ErrUnexpectedEOF", laid_io_ErrUnexpectedEOF)], narrowed := true }
def FnIndexBothUptoSaid : Prop := fnIndexBothUptoRow.holds Tryd.pinned (OpenSpec.upto fnIndexBothSpec)

end Rows
end Go.Proofs.YtoopljlbiifmfaaDoor
