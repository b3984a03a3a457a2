/-
  NARROWER THAN 'FOR EVERY INPUT', by the rows' own cells (each row's printed sentence says how): FnBitsPlain: laid · FnPlainInt64s: laid · FnPlainFixed: ifaces, laid · FnPlainTexts: laid · FnPlainInt32s: laid.
  DERIVED. THE GIVEN ROWS OF THIS SEAT. 5 by the template 'for every input the law returns true; each argument reads behind the call as it read before'; 0 by the template 'total and deterministic' (their statements: YtkefklemcoehmaaDoorTotals.lean).
  GIVEN WITH THE SEED: the statements are not yours to turn. If you find one false, say at which input.
  Laid BY PROGRAM, IN A SANDBOX (cutbox-rows.mjs): the forced cells as the released guide's own fill.sh prints them over the translation 64d686323db96027… (all of the seat's roots in one cut). By AI agents, Wed Nov 11 2026. No macro, syntax, notation, axiom, sorry.
-/
import Derived.Test.YtkefklemcoehmaaDoorChecked
import GoSem.Claim
import GoSem.ClaimJoined
import GoSem.ClaimMapViews
import Derived.JoinedTies
import Derived.KernelRfl
namespace Go.Proofs.YtkefklemcoehmaaDoor
/- THE CELL 'sum', in the pinned program and in every row, IS THE sha256 OF THE DUMP (.gsa) THAT YtkefklemcoehmaaDoorProg.lean LOADS. Nothing in Lean hashes anything: it is a label: what it is worth is what the hold of that sum in a sandbox is worth. -/
noncomputable def Tryd.pinned : Pinned := { name := "ytkefklemcoehmaadoor", sum := "64d686323db96027cca5cd4830b69c6b7d4e485329c59b6467fa45d207fe4232", checked := Tryd.checked }
namespace Rows
def none {H : Type} : Left H := { results := [], args := [] }

/- WHAT THE LISTED PACKAGE-LEVEL VARIABLES READ AS WHEN THE CALL BEGINS. Each datum BY PROGRAM (the guide's laid-datum.mjs) off the statement by which the dump's own 'gosem.cut.vars' lays the variable. In a bare row this is a premise. The card (YtkefklemcoehmaaDoorCards.lean) ties it to the program's text. -/
def laid_io_ErrUnexpectedEOF {H : Type} : DataW H := .iface "*errors.errorString" (.ptr (.agg [.lit (.string [117, 110, 101, 120, 112, 101, 99, 116, 101, 100, 32, 69, 79, 70])]))
def laid_loop_example_pub_g01502_pub_pqsplit_ErrInvalidArgument {H : Type} : DataW H := .iface "*errors.errorString" (.ptr (.agg [.lit (.string [105, 110, 118, 97, 108, 105, 100, 32, 97, 114, 103, 117, 109, 101, 110, 116])]))
def laid_loop_example_pub_g01502_pub_pqplain_ErrInvalidArgument {H : Type} : DataW H := .iface "*errors.errorString" (.ptr (.agg [.lit (.string [105, 110, 118, 97, 108, 105, 100, 32, 97, 114, 103, 117, 109, 101, 110, 116])]))
def laid_loop_example_pub_g01502_pub_pqdelta_ErrInvalidArgument {H : Type} : DataW H := .iface "*errors.errorString" (.ptr (.agg [.lit (.string [105, 110, 118, 97, 108, 105, 100, 32, 97, 114, 103, 117, 109, 101, 110, 116])]))

/-- 'laws.FnBitsPlain': WHATEVER THE INPUT: true; the input reads as it did. -/
def fnBitsPlainSpec : ChangeSpec := { name := "fnBitsPlain", fn := fun _ => fun
  | [d] => { results := [.lit (.bool true)], args := [d] }
  | _ => none }
def fnBitsPlainRow : OpenClaim := { program := "ytkefklemcoehmaadoor", sum := "64d686323db96027cca5cd4830b69c6b7d4e485329c59b6467fa45d207fe4232", func := "loop.example/pub-g01502/laws.FnBitsPlain", spec := "fnBitsPlain", named := ["io.ErrUnexpectedEOF"], apart := false, laid := [("io.ErrUnexpectedEOF", laid_io_ErrUnexpectedEOF)] }
def FnBitsPlainSaid : Prop := fnBitsPlainRow.holds Tryd.pinned (OpenSpec.ofChange fnBitsPlainSpec)

/-- ITS FALSE NEIGHBOUR: 'it returns false'. Refute it at one input. -/
def fnBitsPlainWrong : ChangeSpec := { name := "fnBitsPlain", fn := fun _ => fun
  | [d] => { results := [.lit (.bool false)], args := [d] }
  | _ => none }
def FnBitsPlainWrongFalsely : Prop := fnBitsPlainRow.holds Tryd.pinned (OpenSpec.ofChange fnBitsPlainWrong)

/-- 'laws.FnPlainInt64s': WHATEVER THE INPUT: true; the input reads as it did. -/
def fnPlainInt64sSpec : ChangeSpec := { name := "fnPlainInt64s", fn := fun _ => fun
  | [d] => { results := [.lit (.bool true)], args := [d] }
  | _ => none }
def fnPlainInt64sRow : OpenClaim := { program := "ytkefklemcoehmaadoor", sum := "64d686323db96027cca5cd4830b69c6b7d4e485329c59b6467fa45d207fe4232", func := "loop.example/pub-g01502/laws.FnPlainInt64s", spec := "fnPlainInt64s", named := ["io.ErrUnexpectedEOF"], apart := false, laid := [("io.ErrUnexpectedEOF", laid_io_ErrUnexpectedEOF)] }
def FnPlainInt64sSaid : Prop := fnPlainInt64sRow.holds Tryd.pinned (OpenSpec.ofChange fnPlainInt64sSpec)

/-- ITS FALSE NEIGHBOUR: 'it returns false'. Refute it at one input. -/
def fnPlainInt64sWrong : ChangeSpec := { name := "fnPlainInt64s", fn := fun _ => fun
  | [d] => { results := [.lit (.bool false)], args := [d] }
  | _ => none }
def FnPlainInt64sWrongFalsely : Prop := fnPlainInt64sRow.holds Tryd.pinned (OpenSpec.ofChange fnPlainInt64sWrong)

/-- 'laws.FnPlainFixed': WHATEVER THE INPUT: true; the input reads as it did. -/
def fnPlainFixedSpec : ChangeSpec := { name := "fnPlainFixed", vars := ["loop.example/pub-g01502/pub/pqplain.ErrInvalidArgument", "loop.example/pub-g01502/pub/pqdelta.ErrInvalidArgument", "loop.example/pub-g01502/pub/pqsplit.ErrInvalidArgument"], fn := fun _ => fun
  | [d1, d2, g1, g2, g3] => { results := [.lit (.bool true)], args := [d1, d2], vars := [g1, g2, g3] }
  | _ => none }
def fnPlainFixedRow : OpenClaim := { program := "ytkefklemcoehmaadoor", sum := "64d686323db96027cca5cd4830b69c6b7d4e485329c59b6467fa45d207fe4232", func := "loop.example/pub-g01502/laws.FnPlainFixed", spec := "fnPlainFixed", named := ["loop.example/pub-g01502/pub/pqplain.ErrInvalidArgument", "loop.example/pub-g01502/pub/pqdelta.ErrInvalidArgument", "loop.example/pub-g01502/pub/pqsplit.ErrInvalidArgument", "io.ErrUnexpectedEOF"], ifaces := true, apart := false, laid := [("loop.example/pub-g01502/pub/pqsplit.ErrInvalidArgument", laid_loop_example_pub_g01502_pub_pqsplit_ErrInvalidArgument), ("io.ErrUnexpectedEOF", laid_io_ErrUnexpectedEOF), ("loop.example/pub-g01502/pub/pqplain.ErrInvalidArgument", laid_loop_example_pub_g01502_pub_pqplain_ErrInvalidArgument), ("loop.example/pub-g01502/pub/pqdelta.ErrInvalidArgument", laid_loop_example_pub_g01502_pub_pqdelta_ErrInvalidArgument)] }
def FnPlainFixedSaid : Prop := fnPlainFixedRow.holds Tryd.pinned (OpenSpec.ofChange fnPlainFixedSpec)

/-- ITS FALSE NEIGHBOUR: 'it returns false'. Refute it at one input. -/
def fnPlainFixedWrong : ChangeSpec := { name := "fnPlainFixed", vars := ["loop.example/pub-g01502/pub/pqplain.ErrInvalidArgument", "loop.example/pub-g01502/pub/pqdelta.ErrInvalidArgument", "loop.example/pub-g01502/pub/pqsplit.ErrInvalidArgument"], fn := fun _ => fun
  | [d1, d2, g1, g2, g3] => { results := [.lit (.bool false)], args := [d1, d2], vars := [g1, g2, g3] }
  | _ => none }
def FnPlainFixedWrongFalsely : Prop := fnPlainFixedRow.holds Tryd.pinned (OpenSpec.ofChange fnPlainFixedWrong)

/-- 'laws.FnPlainTexts': WHATEVER THE INPUT: true; the input reads as it did. -/
def fnPlainTextsSpec : ChangeSpec := { name := "fnPlainTexts", fn := fun _ => fun
  | [d] => { results := [.lit (.bool true)], args := [d] }
  | _ => none }
def fnPlainTextsRow : OpenClaim := { program := "ytkefklemcoehmaadoor", sum := "64d686323db96027cca5cd4830b69c6b7d4e485329c59b6467fa45d207fe4232", func := "loop.example/pub-g01502/laws.FnPlainTexts", spec := "fnPlainTexts", unfollowed := true, recurses := true, named := ["io.ErrUnexpectedEOF"], apart := false, laid := [("io.ErrUnexpectedEOF", laid_io_ErrUnexpectedEOF)] }
def FnPlainTextsSaid : Prop := fnPlainTextsRow.holds Tryd.pinned (OpenSpec.ofChange fnPlainTextsSpec)

/-- ITS FALSE NEIGHBOUR: 'it returns false'. Refute it at one input. -/
def fnPlainTextsWrong : ChangeSpec := { name := "fnPlainTexts", fn := fun _ => fun
  | [d] => { results := [.lit (.bool false)], args := [d] }
  | _ => none }
def FnPlainTextsWrongFalsely : Prop := fnPlainTextsRow.holds Tryd.pinned (OpenSpec.ofChange fnPlainTextsWrong)

/-- 'laws.FnPlainInt32s': WHATEVER THE INPUT: true; the input reads as it did. -/
def fnPlainInt32sSpec : ChangeSpec := { name := "fnPlainInt32s", fn := fun _ => fun
  | [d] => { results := [.lit (.bool true)], args := [d] }
  | _ => none }
def fnPlainInt32sRow : OpenClaim := { program := "ytkefklemcoehmaadoor", sum := "64d686323db96027cca5cd4830b69c6b7d4e485329c59b6467fa45d207fe4232", func := "loop.example/pub-g01502/laws.FnPlainInt32s", spec := "fnPlainInt32s", named := ["io.ErrUnexpectedEOF"], apart := false, laid := [("io.ErrUnexpectedEOF", laid_io_ErrUnexpectedEOF)] }
def FnPlainInt32sSaid : Prop := fnPlainInt32sRow.holds Tryd.pinned (OpenSpec.ofChange fnPlainInt32sSpec)

/-- ITS FALSE NEIGHBOUR: 'it returns false'. Refute it at one input. -/
def fnPlainInt32sWrong : ChangeSpec := { name := "fnPlainInt32s", fn := fun _ => fun
  | [d] => { results := [.lit (.bool false)], args := [d] }
  | _ => none }
def FnPlainInt32sWrongFalsely : Prop := fnPlainInt32sRow.holds Tryd.pinned (OpenSpec.ofChange fnPlainInt32sWrong)

/- THE SECOND FORM. 'bulk': how many values and letters a reading holds, each counted each time it is reached (what is shared counts as often as it is met; a slice's spare places count too). A statement '..UptoSaid' is the law's where the arguments, and the package variables that the reading takes, are together of bulk at most 1048576: NARROWER than '..Said'. Prove '..Said' where nothing that the law and all that it calls make is longer than what came in: it says more and counts as full. Else prove '..UptoSaid'. A law counts once. -/
mutual
def uptoBulk {H : Type} : DataW H → Nat
  | .lit (.string bytes) => bytes.length + 1
  | .lit _ => 1
  | .nil => 1
  | .ptr d => uptoBulk d + 1
  | .slice elems spare => uptoBulkAll elems + uptoBulkAll spare + 1
  | .agg parts => uptoBulkAll parts + 1
  | .iface _ d => uptoBulk d + 1
  | .map entries => uptoBulkEntries entries + 1
  | .held _ => 1
def uptoBulkAll {H : Type} : List (DataW H) → Nat
  | [] => 0
  | d :: r => uptoBulk d + uptoBulkAll r
def uptoBulkEntries {H : Type} : List (Lit × DataW H) → Nat
  | [] => 0
  | x :: r => uptoBulkEntry x + uptoBulkEntries r
def uptoBulkEntry {H : Type} : Lit × DataW H → Nat
  | (.string bytes, d) => bytes.length + uptoBulk d + 1
  | (_, d) => uptoBulk d + 1
 end
def uptoSmall : (H : Type) → List (DataW H) → Bool := fun _ ds => decide (uptoBulkAll ds ≤ 1048576)
def OpenSpec.upto (s : _root_.Go.ChangeSpec) : _root_.Go.OpenSpec := { _root_.Go.OpenSpec.ofChange s with cond := some uptoSmall }

/-- 'laws.FnBitsPlain', WHERE WHAT IT READS IS OF BULK AT MOST 1048576: true; the input reads as it did. -/
def fnBitsPlainUptoRow : OpenClaim := { program := "ytkefklemcoehmaadoor", sum := "64d686323db96027cca5cd4830b69c6b7d4e485329c59b6467fa45d207fe4232", func := "loop.example/pub-g01502/laws.FnBitsPlain", spec := "fnBitsPlain", named := ["io.ErrUnexpectedEOF"], apart := false, laid := [("io.ErrUnexpectedEOF", laid_io_ErrUnexpectedEOF)], narrowed := true }
def FnBitsPlainUptoSaid : Prop := fnBitsPlainUptoRow.holds Tryd.pinned (OpenSpec.upto fnBitsPlainSpec)

/-- 'laws.FnPlainInt64s', WHERE WHAT IT READS IS OF BULK AT MOST 1048576: true; the input reads as it did. -/
def fnPlainInt64sUptoRow : OpenClaim := { program := "ytkefklemcoehmaadoor", sum := "64d686323db96027cca5cd4830b69c6b7d4e485329c59b6467fa45d207fe4232", func := "loop.example/pub-g01502/laws.FnPlainInt64s", spec := "fnPlainInt64s", named := ["io.ErrUnexpectedEOF"], apart := false, laid := [("io.ErrUnexpectedEOF", laid_io_ErrUnexpectedEOF)], narrowed := true }
def FnPlainInt64sUptoSaid : Prop := fnPlainInt64sUptoRow.holds Tryd.pinned (OpenSpec.upto fnPlainInt64sSpec)

/-- 'laws.FnPlainFixed', WHERE WHAT IT READS IS OF BULK AT MOST 1048576: true; the input reads as it did. -/
def fnPlainFixedUptoRow : OpenClaim := { program := "ytkefklemcoehmaadoor", sum := "64d686323db96027cca5cd4830b69c6b7d4e485329c59b6467fa45d207fe4232", func := "loop.example/pub-g01502/laws.FnPlainFixed", spec := "fnPlainFixed", named := ["loop.example/pub-g01502/pub/pqplain.ErrInvalidArgument", "loop.example/pub-g01502/pub/pqdelta.ErrInvalidArgument", "loop.example/pub-g01502/pub/pqsplit.ErrInvalidArgument", "io.ErrUnexpectedEOF"], ifaces := true, apart := false, laid := [("loop.example/pub-g01502/pub/pqsplit.ErrInvalidArgument", laid_loop_example_pub_g01502_pub_pqsplit_ErrInvalidArgument), ("io.ErrUnexpectedEOF", laid_io_ErrUnexpectedEOF), ("loop.example/pub-g01502/pub/pqplain.ErrInvalidArgument", laid_loop_example_pub_g01502_pub_pqplain_ErrInvalidArgument), ("loop.example/pub-g01502/pub/pqdelta.ErrInvalidArgument", laid_loop_example_pub_g01502_pub_pqdelta_ErrInvalidArgument)], narrowed := true }
def FnPlainFixedUptoSaid : Prop := fnPlainFixedUptoRow.holds Tryd.pinned (OpenSpec.upto fnPlainFixedSpec)

/-- 'laws.FnPlainTexts', WHERE WHAT IT READS IS OF BULK AT MOST 1048576: true; the input reads as it did. -/
def fnPlainTextsUptoRow : OpenClaim := { program := "ytkefklemcoehmaadoor", sum := "64d686323db96027cca5cd4830b69c6b7d4e485329c59b6467fa45d207fe4232", func := "loop.example/pub-g01502/laws.FnPlainTexts", spec := "fnPlainTexts", unfollowed := true, recurses := true, named := ["io.ErrUnexpectedEOF"], apart := false, laid := [("io.ErrUnexpectedEOF", laid_io_ErrUnexpectedEOF)], narrowed := true }
def FnPlainTextsUptoSaid : Prop := fnPlainTextsUptoRow.holds Tryd.pinned (OpenSpec.upto fnPlainTextsSpec)

/-- 'laws.FnPlainInt32s', WHERE WHAT IT READS IS OF BULK AT MOST 1048576: true; the input reads as it did. -/
def fnPlainInt32sUptoRow : OpenClaim := { program := "ytkefklemcoehmaadoor", sum := "64d686323db96027cca5cd4830b69c6b7d4e485329c59b6467fa45d207fe4232", func := "loop.example/pub-g01502/laws.FnPlainInt32s", spec := "fnPlainInt32s", named := ["io.ErrUnexpectedEOF"], apart := false, laid := [("io.ErrUnexpectedEOF", laid_io_ErrUnexpectedEOF)], narrowed := true }
def FnPlainInt32sUptoSaid : Prop := fnPlainInt32sUptoRow.holds Tryd.pinned (OpenSpec.upto fnPlainInt32sSpec)

end Rows
end Go.Proofs.YtkefklemcoehmaaDoor
