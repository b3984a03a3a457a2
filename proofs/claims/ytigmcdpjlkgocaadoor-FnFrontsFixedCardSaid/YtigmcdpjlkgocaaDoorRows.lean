/-
  NARROWER THAN 'FOR EVERY INPUT', by the rows' own cells (each row's printed sentence says how): FnDelta64Read: laid · FnDeltaCut: laid · FnFrontsRead: laid · FnLengthsRead: laid · FnDelta32Read: laid · FnFrontsFixed: ifaces, laid · FnFrontsBoth: laid · FnLengthsBoth: laid.
  DERIVED. THE GIVEN ROWS OF THIS SEAT. 8 by the template 'for every input the law returns true; each argument reads behind the call as it read before'; 0 by the template 'total and deterministic' (their statements: YtigmcdpjlkgocaaDoorTotals.lean).
  GIVEN WITH THE SEED: the statements are not yours to turn. If you find one false, say at which input.
  Laid BY PROGRAM, IN A SANDBOX (cutbox-rows.mjs): the forced cells as the released guide's own fill.sh prints them over the translation c541f640b9b58391… (all of the seat's roots in one cut). By AI agents, Wed Nov 11 2026. No macro, syntax, notation, axiom, sorry.
-/
import Derived.Test.YtigmcdpjlkgocaaDoorChecked
import GoSem.Claim
import GoSem.ClaimJoined
import GoSem.ClaimMapViews
import Derived.JoinedTies
import Derived.KernelRfl
namespace Go.Proofs.YtigmcdpjlkgocaaDoor
/- THE CELL 'sum', in the pinned program and in every row, IS THE sha256 OF THE DUMP (.gsa) THAT YtigmcdpjlkgocaaDoorProg.lean LOADS. Nothing in Lean hashes anything: it is a label: what it is worth is what the hold of that sum in a sandbox is worth. -/
noncomputable def Tryd.pinned : Pinned := { name := "ytigmcdpjlkgocaadoor", sum := "c541f640b9b58391178263c3379a9fc9f11a6bcbadd5c2c6f04fdb116aad0e18", checked := Tryd.checked }
namespace Rows
def none {H : Type} : Left H := { results := [], args := [] }

/- WHAT THE LISTED PACKAGE-LEVEL VARIABLES READ AS WHEN THE CALL BEGINS. Each datum BY PROGRAM (the guide's laid-datum.mjs) off the statement by which the dump's own 'gosem.cut.vars' lays the variable. In a bare row this is a premise. The card (YtigmcdpjlkgocaaDoorCards.lean) ties it to the program's text. -/
def laid_io_ErrUnexpectedEOF {H : Type} : DataW H := .iface "*errors.errorString" (.ptr (.agg [.lit (.string [117, 110, 101, 120, 112, 101, 99, 116, 101, 100, 32, 69, 79, 70])]))
def laid_loop_example_pub_g01502_pub_pqsplit_ErrInvalidArgument {H : Type} : DataW H := .iface "*errors.errorString" (.ptr (.agg [.lit (.string [105, 110, 118, 97, 108, 105, 100, 32, 97, 114, 103, 117, 109, 101, 110, 116])]))
def laid_loop_example_pub_g01502_pub_pqplain_ErrInvalidArgument {H : Type} : DataW H := .iface "*errors.errorString" (.ptr (.agg [.lit (.string [105, 110, 118, 97, 108, 105, 100, 32, 97, 114, 103, 117, 109, 101, 110, 116])]))
def laid_loop_example_pub_g01502_pub_pqdelta_ErrInvalidArgument {H : Type} : DataW H := .iface "*errors.errorString" (.ptr (.agg [.lit (.string [105, 110, 118, 97, 108, 105, 100, 32, 97, 114, 103, 117, 109, 101, 110, 116])]))

/-- 'laws.FnDelta64Read': WHATEVER THE INPUT: true; the input reads as it did. -/
def fnDelta64ReadSpec : ChangeSpec := { name := "fnDelta64Read", fn := fun _ => fun
  | [d1, d2] => { results := [.lit (.bool true)], args := [d1, d2] }
  | _ => none }
def fnDelta64ReadRow : OpenClaim := { program := "ytigmcdpjlkgocaadoor", sum := "c541f640b9b58391178263c3379a9fc9f11a6bcbadd5c2c6f04fdb116aad0e18", func := "loop.example/pub-g01502/laws.FnDelta64Read", spec := "fnDelta64Read", named := ["io.ErrUnexpectedEOF"], apart := false, laid := [("io.ErrUnexpectedEOF", laid_io_ErrUnexpectedEOF)] }
def FnDelta64ReadSaid : Prop := fnDelta64ReadRow.holds Tryd.pinned (OpenSpec.ofChange fnDelta64ReadSpec)

/-- ITS FALSE NEIGHBOUR: 'it returns false'. Refute it at one input. -/
def fnDelta64ReadWrong : ChangeSpec := { name := "fnDelta64Read", fn := fun _ => fun
  | [d1, d2] => { results := [.lit (.bool false)], args := [d1, d2] }
  | _ => none }
def FnDelta64ReadWrongFalsely : Prop := fnDelta64ReadRow.holds Tryd.pinned (OpenSpec.ofChange fnDelta64ReadWrong)

/-- 'laws.FnDeltaCut': WHATEVER THE INPUT: true; the input reads as it did. -/
def fnDeltaCutSpec : ChangeSpec := { name := "fnDeltaCut", fn := fun _ => fun
  | [d1, d2, d3] => { results := [.lit (.bool true)], args := [d1, d2, d3] }
  | _ => none }
def fnDeltaCutRow : OpenClaim := { program := "ytigmcdpjlkgocaadoor", sum := "c541f640b9b58391178263c3379a9fc9f11a6bcbadd5c2c6f04fdb116aad0e18", func := "loop.example/pub-g01502/laws.FnDeltaCut", spec := "fnDeltaCut", named := ["io.ErrUnexpectedEOF"], apart := false, laid := [("io.ErrUnexpectedEOF", laid_io_ErrUnexpectedEOF)] }
def FnDeltaCutSaid : Prop := fnDeltaCutRow.holds Tryd.pinned (OpenSpec.ofChange fnDeltaCutSpec)

/-- ITS FALSE NEIGHBOUR: 'it returns false'. Refute it at one input. -/
def fnDeltaCutWrong : ChangeSpec := { name := "fnDeltaCut", fn := fun _ => fun
  | [d1, d2, d3] => { results := [.lit (.bool false)], args := [d1, d2, d3] }
  | _ => none }
def FnDeltaCutWrongFalsely : Prop := fnDeltaCutRow.holds Tryd.pinned (OpenSpec.ofChange fnDeltaCutWrong)

/-- 'laws.FnFrontsRead': WHATEVER THE INPUT: true; the input reads as it did. -/
def fnFrontsReadSpec : ChangeSpec := { name := "fnFrontsRead", fn := fun _ => fun
  | [d1, d2, d3] => { results := [.lit (.bool true)], args := [d1, d2, d3] }
  | _ => none }
def fnFrontsReadRow : OpenClaim := { program := "ytigmcdpjlkgocaadoor", sum := "c541f640b9b58391178263c3379a9fc9f11a6bcbadd5c2c6f04fdb116aad0e18", func := "loop.example/pub-g01502/laws.FnFrontsRead", spec := "fnFrontsRead", named := ["io.ErrUnexpectedEOF"], apart := false, laid := [("io.ErrUnexpectedEOF", laid_io_ErrUnexpectedEOF)] }
def FnFrontsReadSaid : Prop := fnFrontsReadRow.holds Tryd.pinned (OpenSpec.ofChange fnFrontsReadSpec)

/-- ITS FALSE NEIGHBOUR: 'it returns false'. Refute it at one input. -/
def fnFrontsReadWrong : ChangeSpec := { name := "fnFrontsRead", fn := fun _ => fun
  | [d1, d2, d3] => { results := [.lit (.bool false)], args := [d1, d2, d3] }
  | _ => none }
def FnFrontsReadWrongFalsely : Prop := fnFrontsReadRow.holds Tryd.pinned (OpenSpec.ofChange fnFrontsReadWrong)

/-- 'laws.FnLengthsRead': WHATEVER THE INPUT: true; the input reads as it did. -/
def fnLengthsReadSpec : ChangeSpec := { name := "fnLengthsRead", fn := fun _ => fun
  | [d1, d2] => { results := [.lit (.bool true)], args := [d1, d2] }
  | _ => none }
def fnLengthsReadRow : OpenClaim := { program := "ytigmcdpjlkgocaadoor", sum := "c541f640b9b58391178263c3379a9fc9f11a6bcbadd5c2c6f04fdb116aad0e18", func := "loop.example/pub-g01502/laws.FnLengthsRead", spec := "fnLengthsRead", named := ["io.ErrUnexpectedEOF"], apart := false, laid := [("io.ErrUnexpectedEOF", laid_io_ErrUnexpectedEOF)] }
def FnLengthsReadSaid : Prop := fnLengthsReadRow.holds Tryd.pinned (OpenSpec.ofChange fnLengthsReadSpec)

/-- ITS FALSE NEIGHBOUR: 'it returns false'. Refute it at one input. -/
def fnLengthsReadWrong : ChangeSpec := { name := "fnLengthsRead", fn := fun _ => fun
  | [d1, d2] => { results := [.lit (.bool false)], args := [d1, d2] }
  | _ => none }
def FnLengthsReadWrongFalsely : Prop := fnLengthsReadRow.holds Tryd.pinned (OpenSpec.ofChange fnLengthsReadWrong)

/-- 'laws.FnDelta32Read': WHATEVER THE INPUT: true; the input reads as it did. -/
def fnDelta32ReadSpec : ChangeSpec := { name := "fnDelta32Read", fn := fun _ => fun
  | [d1, d2] => { results := [.lit (.bool true)], args := [d1, d2] }
  | _ => none }
def fnDelta32ReadRow : OpenClaim := { program := "ytigmcdpjlkgocaadoor", sum := "c541f640b9b58391178263c3379a9fc9f11a6bcbadd5c2c6f04fdb116aad0e18", func := "loop.example/pub-g01502/laws.FnDelta32Read", spec := "fnDelta32Read", named := ["io.ErrUnexpectedEOF"], apart := false, laid := [("io.ErrUnexpectedEOF", laid_io_ErrUnexpectedEOF)] }
def FnDelta32ReadSaid : Prop := fnDelta32ReadRow.holds Tryd.pinned (OpenSpec.ofChange fnDelta32ReadSpec)

/-- ITS FALSE NEIGHBOUR: 'it returns false'. Refute it at one input. -/
def fnDelta32ReadWrong : ChangeSpec := { name := "fnDelta32Read", fn := fun _ => fun
  | [d1, d2] => { results := [.lit (.bool false)], args := [d1, d2] }
  | _ => none }
def FnDelta32ReadWrongFalsely : Prop := fnDelta32ReadRow.holds Tryd.pinned (OpenSpec.ofChange fnDelta32ReadWrong)

/-- 'laws.FnFrontsFixed': WHATEVER THE INPUT: true; the input reads as it did. -/
def fnFrontsFixedSpec : ChangeSpec := { name := "fnFrontsFixed", vars := ["loop.example/pub-g01502/pub/pqplain.ErrInvalidArgument", "loop.example/pub-g01502/pub/pqdelta.ErrInvalidArgument", "loop.example/pub-g01502/pub/pqsplit.ErrInvalidArgument"], fn := fun _ => fun
  | [d1, d2, d3, d4, g1, g2, g3] => { results := [.lit (.bool true)], args := [d1, d2, d3, d4], vars := [g1, g2, g3] }
  | _ => none }
def fnFrontsFixedRow : OpenClaim := { program := "ytigmcdpjlkgocaadoor", sum := "c541f640b9b58391178263c3379a9fc9f11a6bcbadd5c2c6f04fdb116aad0e18", func := "loop.example/pub-g01502/laws.FnFrontsFixed", spec := "fnFrontsFixed", named := ["loop.example/pub-g01502/pub/pqplain.ErrInvalidArgument", "loop.example/pub-g01502/pub/pqdelta.ErrInvalidArgument", "loop.example/pub-g01502/pub/pqsplit.ErrInvalidArgument", "io.ErrUnexpectedEOF"], ifaces := true, apart := false, laid := [("loop.example/pub-g01502/pub/pqsplit.ErrInvalidArgument", laid_loop_example_pub_g01502_pub_pqsplit_ErrInvalidArgument), ("io.ErrUnexpectedEOF", laid_io_ErrUnexpectedEOF), ("loop.example/pub-g01502/pub/pqplain.ErrInvalidArgument", laid_loop_example_pub_g01502_pub_pqplain_ErrInvalidArgument), ("loop.example/pub-g01502/pub/pqdelta.ErrInvalidArgument", laid_loop_example_pub_g01502_pub_pqdelta_ErrInvalidArgument)] }
def FnFrontsFixedSaid : Prop := fnFrontsFixedRow.holds Tryd.pinned (OpenSpec.ofChange fnFrontsFixedSpec)

/-- ITS FALSE NEIGHBOUR: 'it returns false'. Refute it at one input. -/
def fnFrontsFixedWrong : ChangeSpec := { name := "fnFrontsFixed", vars := ["loop.example/pub-g01502/pub/pqplain.ErrInvalidArgument", "loop.example/pub-g01502/pub/pqdelta.ErrInvalidArgument", "loop.example/pub-g01502/pub/pqsplit.ErrInvalidArgument"], fn := fun _ => fun
  | [d1, d2, d3, d4, g1, g2, g3] => { results := [.lit (.bool false)], args := [d1, d2, d3, d4], vars := [g1, g2, g3] }
  | _ => none }
def FnFrontsFixedWrongFalsely : Prop := fnFrontsFixedRow.holds Tryd.pinned (OpenSpec.ofChange fnFrontsFixedWrong)

/-- 'laws.FnFrontsBoth': WHATEVER THE INPUT: true; the input reads as it did. -/
def fnFrontsBothSpec : ChangeSpec := { name := "fnFrontsBoth", fn := fun _ => fun
  | [d] => { results := [.lit (.bool true)], args := [d] }
  | _ => none }
def fnFrontsBothRow : OpenClaim := { program := "ytigmcdpjlkgocaadoor", sum := "c541f640b9b58391178263c3379a9fc9f11a6bcbadd5c2c6f04fdb116aad0e18", func := "loop.example/pub-g01502/laws.FnFrontsBoth", spec := "fnFrontsBoth", unfollowed := true, recurses := true, named := ["io.ErrUnexpectedEOF"], apart := false, laid := [("io.ErrUnexpectedEOF", laid_io_ErrUnexpectedEOF)] }
def FnFrontsBothSaid : Prop := fnFrontsBothRow.holds Tryd.pinned (OpenSpec.ofChange fnFrontsBothSpec)

/-- ITS FALSE NEIGHBOUR: 'it returns false'. Refute it at one input. -/
def fnFrontsBothWrong : ChangeSpec := { name := "fnFrontsBoth", fn := fun _ => fun
  | [d] => { results := [.lit (.bool false)], args := [d] }
  | _ => none }
def FnFrontsBothWrongFalsely : Prop := fnFrontsBothRow.holds Tryd.pinned (OpenSpec.ofChange fnFrontsBothWrong)

/-- 'laws.FnLengthsBoth': WHATEVER THE INPUT: true; the input reads as it did. -/
def fnLengthsBothSpec : ChangeSpec := { name := "fnLengthsBoth", fn := fun _ => fun
  | [d] => { results := [.lit (.bool true)], args := [d] }
  | _ => none }
def fnLengthsBothRow : OpenClaim := { program := "ytigmcdpjlkgocaadoor", sum := "c541f640b9b58391178263c3379a9fc9f11a6bcbadd5c2c6f04fdb116aad0e18", func := "loop.example/pub-g01502/laws.FnLengthsBoth", spec := "fnLengthsBoth", unfollowed := true, recurses := true, named := ["io.ErrUnexpectedEOF"], apart := false, laid := [("io.ErrUnexpectedEOF", laid_io_ErrUnexpectedEOF)] }
def FnLengthsBothSaid : Prop := fnLengthsBothRow.holds Tryd.pinned (OpenSpec.ofChange fnLengthsBothSpec)

/-- ITS FALSE NEIGHBOUR: 'it returns false'. Refute it at one input. -/
def fnLengthsBothWrong : ChangeSpec := { name := "fnLengthsBoth", fn := fun _ => fun
  | [d] => { results := [.lit (.bool false)], args := [d] }
  | _ => none }
def FnLengthsBothWrongFalsely : Prop := fnLengthsBothRow.holds Tryd.pinned (OpenSpec.ofChange fnLengthsBothWrong)

/- THE SECOND FORM. 'bulk': how many values and letters a reading holds, each counted each time it is reached (what is shared counts as often as it is met; a slice's spare places count too). A statement '..UptoSaid' is the law's where the arguments, and the package variables that the reading takes, are together of bulk at most 1048576: NARROWER than '..Said'. Prove '..Said' where nothing that the law and all that it calls make is longer than what came in: it says more and counts as full. Else prove '..UptoSaid'. A law counts once. -/
mutual
def uptoBulk {H : Type} : DataW H → Nat
  | .lit (.string bytes) => bytes.length + 1
  | .lit _ => 1
  | .nil => 1
  | .ptr d => uptoBulk d + 1
  | .slice elems spare => uptoBulkAll elems + uptoBulkAll spare + 1
  | .agg parts => uptoBulkAll parts + 1
  | .iface _ d => uptoBulk d + 1
  | .map entries => uptoBulkEntries entries + 1
  | .held _ => 1
def uptoBulkAll {H : Type} : List (DataW H) → Nat
  | [] => 0
  | d :: r => uptoBulk d + uptoBulkAll r
def uptoBulkEntries {H : Type} : List (Lit × DataW H) → Nat
  | [] => 0
  | x :: r => uptoBulkEntry x + uptoBulkEntries r
def uptoBulkEntry {H : Type} : Lit × DataW H → Nat
  | (.string bytes, d) => bytes.length + uptoBulk d + 1
  | (_, d) => uptoBulk d + 1
 end
def uptoSmall : (H : Type) → List (DataW H) → Bool := fun _ ds => decide (uptoBulkAll ds ≤ 1048576)
def OpenSpec.upto (s : _root_.Go.ChangeSpec) : _root_.Go.OpenSpec := { _root_.Go.OpenSpec.ofChange s with cond := some uptoSmall }

/-- 'laws.FnDelta64Read', WHERE WHAT IT READS IS OF BULK AT MOST 1048576: true; the input reads as it did. -/
def fnDelta64ReadUptoRow : OpenClaim := { program := "ytigmcdpjlkgocaadoor", sum := "c541f640b9b58391178263c3379a9fc9f11a6bcbadd5c2c6f04fdb116aad0e18", func := "loop.example/pub-g01502/laws.FnDelta64Read", spec := "fnDelta64Read", named := ["io.ErrUnexpectedEOF"], apart := false, laid := [("io.ErrUnexpectedEOF", laid_io_ErrUnexpectedEOF)], narrowed := true }
def FnDelta64ReadUptoSaid : Prop := fnDelta64ReadUptoRow.holds Tryd.pinned (OpenSpec.upto fnDelta64ReadSpec)

/-- 'laws.FnDeltaCut', WHERE WHAT IT READS IS OF BULK AT MOST 1048576: true; the input reads as it did. -/
def fnDeltaCutUptoRow : OpenClaim := { program := "ytigmcdpjlkgocaadoor", sum := "c541f640b9b58391178263c3379a9fc9f11a6bcbadd5c2c6f04fdb116aad0e18", func := "loop.example/pub-g01502/laws.FnDeltaCut", spec := "fnDeltaCut", named := ["io.ErrUnexpectedEOF"], apart := false, laid := [("io.ErrUnexpectedEOF", laid_io_ErrUnexpectedEOF)], narrowed := true }
def FnDeltaCutUptoSaid : Prop := fnDeltaCutUptoRow.holds Tryd.pinned (OpenSpec.upto fnDeltaCutSpec)

/-- 'laws.FnFrontsRead', WHERE WHAT IT READS IS OF BULK AT MOST 1048576: true; the input reads as it did. -/
def fnFrontsReadUptoRow : OpenClaim := { program := "ytigmcdpjlkgocaadoor", sum := "c541f640b9b58391178263c3379a9fc9f11a6bcbadd5c2c6f04fdb116aad0e18", func := "loop.example/pub-g01502/laws.FnFrontsRead", spec := "fnFrontsRead", named := ["io.ErrUnexpectedEOF"], apart := false, laid := [("io.ErrUnexpectedEOF", laid_io_ErrUnexpectedEOF)], narrowed := true }
def FnFrontsReadUptoSaid : Prop := fnFrontsReadUptoRow.holds Tryd.pinned (OpenSpec.upto fnFrontsReadSpec)

/-- 'laws.FnLengthsRead', WHERE WHAT IT READS IS OF BULK AT MOST 1048576: true; the input reads as it did. -/
def fnLengthsReadUptoRow : OpenClaim := { program := "ytigmcdpjlkgocaadoor", sum := "c541f640b9b58391178263c3379a9fc9f11a6bcbadd5c2c6f04fdb116aad0e18", func := "loop.example/pub-g01502/laws.FnLengthsRead", spec := "fnLengthsRead", named := ["io.ErrUnexpectedEOF"], apart := false, laid := [("io.ErrUnexpectedEOF", laid_io_ErrUnexpectedEOF)], narrowed := true }
def FnLengthsReadUptoSaid : Prop := fnLengthsReadUptoRow.holds Tryd.pinned (OpenSpec.upto fnLengthsReadSpec)

/-- 'laws.FnDelta32Read', WHERE WHAT IT READS IS OF BULK AT MOST 1048576: true; the input reads as it did. -/
def fnDelta32ReadUptoRow : OpenClaim := { program := "ytigmcdpjlkgocaadoor", sum := "c541f640b9b58391178263c3379a9fc9f11a6bcbadd5c2c6f04fdb116aad0e18", func := "loop.example/pub-g01502/laws.FnDelta32Read", spec := "fnDelta32Read", named := ["io.ErrUnexpectedEOF"], apart := false, laid := [("io.ErrUnexpectedEOF", laid_io_ErrUnexpectedEOF)], narrowed := true }
def FnDelta32ReadUptoSaid : Prop := fnDelta32ReadUptoRow.holds Tryd.pinned (OpenSpec.upto fnDelta32ReadSpec)

/-- 'laws.FnFrontsFixed', WHERE WHAT IT READS IS OF BULK AT MOST 1048576: true; the input reads as it did. -/
def fnFrontsFixedUptoRow : OpenClaim := { program := "ytigmcdpjlkgocaadoor", sum := "c541f640b9b58391178263c3379a9fc9f11a6bcbadd5c2c6f04fdb116aad0e18", func := "loop.example/pub-g01502/laws.FnFrontsFixed", spec := "fnFrontsFixed", named := ["loop.example/pub-g01502/pub/pqplain.ErrInvalidArgument", "loop.example/pub-g01502/pub/pqdelta.ErrInvalidArgument", "loop.example/pub-g01502/pub/pqsplit.ErrInvalidArgument", "io.ErrUnexpectedEOF"], ifaces := true, apart := false, laid := [("loop.example/pub-g01502/pub/pqsplit.ErrInvalidArgument", laid_loop_example_pub_g01502_pub_pqsplit_ErrInvalidArgument), ("io.ErrUnexpectedEOF", laid_io_ErrUnexpectedEOF), ("loop.example/pub-g01502/pub/pqplain.ErrInvalidArgument", laid_loop_example_pub_g01502_pub_pqplain_ErrInvalidArgument), ("loop.example/pub-g01502/pub/pqdelta.ErrInvalidArgument", laid_loop_example_pub_g01502_pub_pqdelta_ErrInvalidArgument)], narrowed := true }
def FnFrontsFixedUptoSaid : Prop := fnFrontsFixedUptoRow.holds Tryd.pinned (OpenSpec.upto fnFrontsFixedSpec)

/-- 'laws.FnFrontsBoth', WHERE WHAT IT READS IS OF BULK AT MOST 1048576: true; the input reads as it did. -/
def fnFrontsBothUptoRow : OpenClaim := { program := "ytigmcdpjlkgocaadoor", sum := "c541f640b9b58391178263c3379a9fc9f11a6bcbadd5c2c6f04fdb116aad0e18", func := "loop.example/pub-g01502/laws.FnFrontsBoth", spec := "fnFrontsBoth", unfollowed := true, recurses := true, named := ["io.ErrUnexpectedEOF"], apart := false, laid := [("io.ErrUnexpectedEOF", laid_io_ErrUnexpectedEOF)], narrowed := true }
def FnFrontsBothUptoSaid : Prop := fnFrontsBothUptoRow.holds Tryd.pinned (OpenSpec.upto fnFrontsBothSpec)

/-- 'laws.FnLengthsBoth', WHERE WHAT IT READS IS OF BULK AT MOST 1048576: true; the input reads as it did. -/
def fnLengthsBothUptoRow : OpenClaim := { program := "ytigmcdpjlkgocaadoor", sum := "c541f640b9b58391178263c3379a9fc9f11a6bcbadd5c2c6f04fdb116aad0e18", func := "loop.example/pub-g01502/laws.FnLengthsBoth", spec := "fnLengthsBoth", unfollowed := true, recurses := true, named := ["io.ErrUnexpectedEOF"], apart := false, laid := [("io.ErrUnexpectedEOF", laid_io_ErrUnexpectedEOF)], narrowed := true }
def FnLengthsBothUptoSaid : Prop := fnLengthsBothUptoRow.holds Tryd.pinned (OpenSpec.upto fnLengthsBothSpec)

end Rows
end Go.Proofs.YtigmcdpjlkgocaaDoor
