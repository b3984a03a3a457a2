/-
  NARROWER THAN 'FOR EVERY INPUT', by the rows' own cells (each row's printed sentence says how): FnBloomCheck: laid · FnBloomInsert: laid · FnBloomFound: laid · FnBloomNever: laid.
  DERIVED. THE GIVEN ROWS OF THIS SEAT. 4 by the template 'for every input the law returns true; each argument reads behind the call as it read before'; 0 by the template 'total and deterministic' (their statements: YtojoppondgnajaaDoorTotals.lean).
  GIVEN WITH THE SEED: the statements are not yours to turn. If you find one false, say at which input.
  Laid BY PROGRAM, IN A SANDBOX (cutbox-rows.mjs): the forced cells as the released guide's own fill.sh prints them over the translation c6f8311fd6389b14… (all of the seat's roots in one cut). By AI agents, Wed Nov 11 2026. No macro, syntax, notation, axiom, sorry.
-/
import Derived.Test.YtojoppondgnajaaDoorChecked
import GoSem.Claim
import GoSem.ClaimJoined
import GoSem.ClaimMapViews
import Derived.JoinedTies
import Derived.KernelRfl
namespace Go.Proofs.YtojoppondgnajaaDoor
/- THE CELL 'sum', in the pinned program and in every row, IS THE sha256 OF THE DUMP (.gsa) THAT YtojoppondgnajaaDoorProg.lean LOADS. Nothing in Lean hashes anything: it is a label: what it is worth is what the hold of that sum in a sandbox is worth. -/
noncomputable def Tryd.pinned : Pinned := { name := "ytojoppondgnajaadoor", sum := "c6f8311fd6389b1463ef2dbbf6e5cd3cb580cff7f59d9a17f14ef1c280294441", checked := Tryd.checked }
namespace Rows
def none {H : Type} : Left H := { results := [], args := [] }

/- WHAT THE LISTED PACKAGE-LEVEL VARIABLES READ AS WHEN THE CALL BEGINS. Each datum BY PROGRAM (the guide's laid-datum.mjs) off the statement by which the dump's own 'gosem.cut.vars' lays the variable. In a bare row this is a premise. The card (YtojoppondgnajaaDoorCards.lean) ties it to the program's text. -/
def laid_loop_example_pub_g01502_pub_pqbloom_salt {H : Type} : DataW H := .agg [.lit (.int .u32 1203114875), .lit (.int .u32 1150766481), .lit (.int .u32 2284105051), .lit (.int .u32 2729912477), .lit (.int .u32 1884591559), .lit (.int .u32 770785867), .lit (.int .u32 2667333959), .lit (.int .u32 1550580529)]

/-- 'laws.FnBloomCheck': WHATEVER THE INPUT: true; the input reads as it did. -/
def fnBloomCheckSpec : ChangeSpec := { name := "fnBloomCheck", vars := ["loop.example/pub-g01502/pub/pqbloom.salt"], fn := fun _ => fun
  | [d1, d2, g1] => { results := [.lit (.bool true)], args := [d1, d2], vars := [g1] }
  | _ => none }
def fnBloomCheckRow : OpenClaim := { program := "ytojoppondgnajaadoor", sum := "c6f8311fd6389b1463ef2dbbf6e5cd3cb580cff7f59d9a17f14ef1c280294441", func := "loop.example/pub-g01502/laws.FnBloomCheck", spec := "fnBloomCheck", named := ["loop.example/pub-g01502/pub/pqbloom.salt"], apart := false, laid := [("loop.example/pub-g01502/pub/pqbloom.salt", laid_loop_example_pub_g01502_pub_pqbloom_salt)] }
def FnBloomCheckSaid : Prop := fnBloomCheckRow.holds Tryd.pinned (OpenSpec.ofChange fnBloomCheckSpec)

/-- ITS FALSE NEIGHBOUR: 'it returns false'. Refute it at one input. -/
def fnBloomCheckWrong : ChangeSpec := { name := "fnBloomCheck", vars := ["loop.example/pub-g01502/pub/pqbloom.salt"], fn := fun _ => fun
  | [d1, d2, g1] => { results := [.lit (.bool false)], args := [d1, d2], vars := [g1] }
  | _ => none }
def FnBloomCheckWrongFalsely : Prop := fnBloomCheckRow.holds Tryd.pinned (OpenSpec.ofChange fnBloomCheckWrong)

/-- 'laws.FnBloomInsert': WHATEVER THE INPUT: true; the input reads as it did. -/
def fnBloomInsertSpec : ChangeSpec := { name := "fnBloomInsert", vars := ["loop.example/pub-g01502/pub/pqbloom.salt"], fn := fun _ => fun
  | [d1, d2, g1] => { results := [.lit (.bool true)], args := [d1, d2], vars := [g1] }
  | _ => none }
def fnBloomInsertRow : OpenClaim := { program := "ytojoppondgnajaadoor", sum := "c6f8311fd6389b1463ef2dbbf6e5cd3cb580cff7f59d9a17f14ef1c280294441", func := "loop.example/pub-g01502/laws.FnBloomInsert", spec := "fnBloomInsert", named := ["loop.example/pub-g01502/pub/pqbloom.salt"], apart := false, laid := [("loop.example/pub-g01502/pub/pqbloom.salt", laid_loop_example_pub_g01502_pub_pqbloom_salt)] }
def FnBloomInsertSaid : Prop := fnBloomInsertRow.holds Tryd.pinned (OpenSpec.ofChange fnBloomInsertSpec)

/-- ITS FALSE NEIGHBOUR: 'it returns false'. Refute it at one input. -/
def fnBloomInsertWrong : ChangeSpec := { name := "fnBloomInsert", vars := ["loop.example/pub-g01502/pub/pqbloom.salt"], fn := fun _ => fun
  | [d1, d2, g1] => { results := [.lit (.bool false)], args := [d1, d2], vars := [g1] }
  | _ => none }
def FnBloomInsertWrongFalsely : Prop := fnBloomInsertRow.holds Tryd.pinned (OpenSpec.ofChange fnBloomInsertWrong)

/-- 'laws.FnBloomFound': WHATEVER THE INPUT: true; the input reads as it did. -/
def fnBloomFoundSpec : ChangeSpec := { name := "fnBloomFound", vars := ["loop.example/pub-g01502/pub/pqbloom.salt"], fn := fun _ => fun
  | [d1, d2, g1] => { results := [.lit (.bool true)], args := [d1, d2], vars := [g1] }
  | _ => none }
def fnBloomFoundRow : OpenClaim := { program := "ytojoppondgnajaadoor", sum := "c6f8311fd6389b1463ef2dbbf6e5cd3cb580cff7f59d9a17f14ef1c280294441", func := "loop.example/pub-g01502/laws.FnBloomFound", spec := "fnBloomFound", named := ["loop.example/pub-g01502/pub/pqbloom.salt"], apart := false, laid := [("loop.example/pub-g01502/pub/pqbloom.salt", laid_loop_example_pub_g01502_pub_pqbloom_salt)] }
def FnBloomFoundSaid : Prop := fnBloomFoundRow.holds Tryd.pinned (OpenSpec.ofChange fnBloomFoundSpec)

/-- ITS FALSE NEIGHBOUR: 'it returns false'. Refute it at one input. -/
def fnBloomFoundWrong : ChangeSpec := { name := "fnBloomFound", vars := ["loop.example/pub-g01502/pub/pqbloom.salt"], fn := fun _ => fun
  | [d1, d2, g1] => { results := [.lit (.bool false)], args := [d1, d2], vars := [g1] }
  | _ => none }
def FnBloomFoundWrongFalsely : Prop := fnBloomFoundRow.holds Tryd.pinned (OpenSpec.ofChange fnBloomFoundWrong)

/-- 'laws.FnBloomNever': WHATEVER THE INPUT: true; the input reads as it did. -/
def fnBloomNeverSpec : ChangeSpec := { name := "fnBloomNever", vars := ["loop.example/pub-g01502/pub/pqbloom.salt"], fn := fun _ => fun
  | [d1, d2, g1] => { results := [.lit (.bool true)], args := [d1, d2], vars := [g1] }
  | _ => none }
def fnBloomNeverRow : OpenClaim := { program := "ytojoppondgnajaadoor", sum := "c6f8311fd6389b1463ef2dbbf6e5cd3cb580cff7f59d9a17f14ef1c280294441", func := "loop.example/pub-g01502/laws.FnBloomNever", spec := "fnBloomNever", named := ["loop.example/pub-g01502/pub/pqbloom.salt"], apart := false, laid := [("loop.example/pub-g01502/pub/pqbloom.salt", laid_loop_example_pub_g01502_pub_pqbloom_salt)] }
def FnBloomNeverSaid : Prop := fnBloomNeverRow.holds Tryd.pinned (OpenSpec.ofChange fnBloomNeverSpec)

/-- ITS FALSE NEIGHBOUR: 'it returns false'. Refute it at one input. -/
def fnBloomNeverWrong : ChangeSpec := { name := "fnBloomNever", vars := ["loop.example/pub-g01502/pub/pqbloom.salt"], fn := fun _ => fun
  | [d1, d2, g1] => { results := [.lit (.bool false)], args := [d1, d2], vars := [g1] }
  | _ => none }
def FnBloomNeverWrongFalsely : Prop := fnBloomNeverRow.holds Tryd.pinned (OpenSpec.ofChange fnBloomNeverWrong)

/- THE SECOND FORM. 'bulk': how many values and letters a reading holds, each counted each time it is reached (what is shared counts as often as it is met; a slice's spare places count too). A statement '..UptoSaid' is the law's where the arguments, and the package variables that the reading takes, are together of bulk at most 1048576: NARROWER than '..Said'. Prove '..Said' where nothing that the law and all that it calls make is longer than what came in: it says more and counts as full. Else prove '..UptoSaid'. A law counts once. -/
mutual
def uptoBulk {H : Type} : DataW H → Nat
  | .lit (.string bytes) => bytes.length + 1
  | .lit _ => 1
  | .nil => 1
  | .ptr d => uptoBulk d + 1
  | .slice elems spare => uptoBulkAll elems + uptoBulkAll spare + 1
  | .agg parts => uptoBulkAll parts + 1
  | .iface _ d => uptoBulk d + 1
  | .map entries => uptoBulkEntries entries + 1
  | .held _ => 1
def uptoBulkAll {H : Type} : List (DataW H) → Nat
  | [] => 0
  | d :: r => uptoBulk d + uptoBulkAll r
def uptoBulkEntries {H : Type} : List (Lit × DataW H) → Nat
  | [] => 0
  | x :: r => uptoBulkEntry x + uptoBulkEntries r
def uptoBulkEntry {H : Type} : Lit × DataW H → Nat
  | (.string bytes, d) => bytes.length + uptoBulk d + 1
  | (_, d) => uptoBulk d + 1
 end
def uptoSmall : (H : Type) → List (DataW H) → Bool := fun _ ds => decide (uptoBulkAll ds ≤ 1048576)
def OpenSpec.upto (s : _root_.Go.ChangeSpec) : _root_.Go.OpenSpec := { _root_.Go.OpenSpec.ofChange s with cond := some uptoSmall }

/-- 'laws.FnBloomCheck', WHERE WHAT IT READS IS OF BULK AT MOST 1048576: true; the input reads as it did. -/
def fnBloomCheckUptoRow : OpenClaim := { program := "ytojoppondgnajaadoor", sum := "c6f8311fd6389b1463ef2dbbf6e5cd3cb580cff7f59d9a17f14ef1c280294441", func := "loop.example/pub-g01502/laws.FnBloomCheck", spec := "fnBloomCheck", named := ["loop.example/pub-g01502/pub/pqbloom.salt"], apart := false, laid := [("loop.example/pub-g01502/pub/pqbloom.salt", laid_loop_example_pub_g01502_pub_pqbloom_salt)], narrowed := true }
def FnBloomCheckUptoSaid : Prop := fnBloomCheckUptoRow.holds Tryd.pinned (OpenSpec.upto fnBloomCheckSpec)

/-- 'laws.FnBloomInsert', WHERE WHAT IT READS IS OF BULK AT MOST 1048576: true; the input reads as it did. -/
def fnBloomInsertUptoRow : OpenClaim := { program := "ytojoppondgnajaadoor", sum := "c6f8311fd6389b1463ef2dbbf6e5cd3cb580cff7f59d9a17f14ef1c280294441", func := "loop.example/pub-g01502/laws.FnBloomInsert", spec := "fnBloomInsert", named := ["loop.example/pub-g01502/pub/pqbloom.salt"], apart := false, laid := [("loop.example/pub-g01502/pub/pqbloom.salt", laid_loop_example_pub_g01502_pub_pqbloom_salt)], narrowed := true }
def FnBloomInsertUptoSaid : Prop := fnBloomInsertUptoRow.holds Tryd.pinned (OpenSpec.upto fnBloomInsertSpec)

/-- 'laws.FnBloomFound', WHERE WHAT IT READS IS OF BULK AT MOST 1048576: true; the input reads as it did. -/
def fnBloomFoundUptoRow : OpenClaim := { program := "ytojoppondgnajaadoor", sum := "c6f8311fd6389b1463ef2dbbf6e5cd3cb580cff7f59d9a17f14ef1c280294441", func := "loop.example/pub-g01502/laws.FnBloomFound", spec := "fnBloomFound", named := ["loop.example/pub-g01502/pub/pqbloom.salt"], apart := false, laid := [("loop.example/pub-g01502/pub/pqbloom.salt", laid_loop_example_pub_g01502_pub_pqbloom_salt)], narrowed := true }
def FnBloomFoundUptoSaid : Prop := fnBloomFoundUptoRow.holds Tryd.pinned (OpenSpec.upto fnBloomFoundSpec)

/-- 'laws.FnBloomNever', WHERE WHAT IT READS IS OF BULK AT MOST 1048576: true; the input reads as it did. -/
def fnBloomNeverUptoRow : OpenClaim := { program := "ytojoppondgnajaadoor", sum := "c6f8311fd6389b1463ef2dbbf6e5cd3cb580cff7f59d9a17f14ef1c280294441", func := "loop.example/pub-g01502/laws.FnBloomNever", spec := "fnBloomNever", named := ["loop.example/pub-g01502/pub/pqbloom.salt"], apart := false, laid := [("loop.example/pub-g01502/pub/pqbloom.salt", laid_loop_example_pub_g01502_pub_pqbloom_salt)], narrowed := true }
def FnBloomNeverUptoSaid : Prop := fnBloomNeverUptoRow.holds Tryd.pinned (OpenSpec.upto fnBloomNeverSpec)

end Rows
end Go.Proofs.YtojoppondgnajaaDoor
