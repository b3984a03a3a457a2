/-
  No cell of these rows narrows 'for every input' (looked for: loops, veiled, ifaces, maps, wideKeys, modest, calm, conditions, laid).
  DERIVED. THE GIVEN ROWS OF THIS SEAT. 4 by the template 'for every input the law returns true; each argument reads behind the call as it read before'; 0 by the template 'total and deterministic' (their statements: YtigmcdpjlkgocaaTotals.lean).
  GIVEN WITH THE SEED: the statements are not yours to turn. If you find one false, say at which input.
  Laid BY PROGRAM, IN A SANDBOX (cutbox-rows.mjs): the forced cells as the released guide's own fill.sh prints them over the translation b96a696f40397fc1… (all of the seat's roots in one cut). By AI agents, Wed Nov 11 2026. No macro, syntax, notation, axiom, sorry.
-/
import Derived.Test.YtigmcdpjlkgocaaChecked
import GoSem.Claim
import GoSem.ClaimJoined
import GoSem.ClaimMapViews
import Derived.JoinedTies
import Derived.KernelRfl
namespace Go.Proofs.Ytigmcdpjlkgocaa
/- THE CELL 'sum', in the pinned program and in every row, IS THE sha256 OF THE DUMP (.gsa) THAT YtigmcdpjlkgocaaProg.lean LOADS. Nothing in Lean hashes anything: it is a label: what it is worth is what the hold of that sum in a sandbox is worth. -/
noncomputable def Try.pinned : Pinned := { name := "ytigmcdpjlkgocaa", sum := "b96a696f40397fc1f2bfed02873b74145ef1c7b1921b40a332797ed886517e96", checked := Try.checked }
namespace Rows
def none {H : Type} : Left H := { results := [], args := [] }

/-- 'laws.FnDelta64Written': WHATEVER THE INPUT: true; the input reads as it did. -/
def fnDelta64WrittenSpec : ChangeSpec := { name := "fnDelta64Written", fn := fun _ => fun
  | [d] => { results := [.lit (.bool true)], args := [d] }
  | _ => none }
def fnDelta64WrittenRow : OpenClaim := { program := "ytigmcdpjlkgocaa", sum := "b96a696f40397fc1f2bfed02873b74145ef1c7b1921b40a332797ed886517e96", func := "loop.example/pub-g01502/laws.FnDelta64Written", spec := "fnDelta64Written", apart := false }
def FnDelta64WrittenSaid : Prop := fnDelta64WrittenRow.holds Try.pinned (OpenSpec.ofChange fnDelta64WrittenSpec)

/-- ITS FALSE NEIGHBOUR: 'it returns false'. Refute it at one input. -/
def fnDelta64WrittenWrong : ChangeSpec := { name := "fnDelta64Written", fn := fun _ => fun
  | [d] => { results := [.lit (.bool false)], args := [d] }
  | _ => none }
def FnDelta64WrittenWrongFalsely : Prop := fnDelta64WrittenRow.holds Try.pinned (OpenSpec.ofChange fnDelta64WrittenWrong)

/-- 'laws.FnFrontsWritten': WHATEVER THE INPUT: true; the input reads as it did. -/
def fnFrontsWrittenSpec : ChangeSpec := { name := "fnFrontsWritten", fn := fun _ => fun
  | [d] => { results := [.lit (.bool true)], args := [d] }
  | _ => none }
def fnFrontsWrittenRow : OpenClaim := { program := "ytigmcdpjlkgocaa", sum := "b96a696f40397fc1f2bfed02873b74145ef1c7b1921b40a332797ed886517e96", func := "loop.example/pub-g01502/laws.FnFrontsWritten", spec := "fnFrontsWritten", unfollowed := true, recurses := true, apart := false }
def FnFrontsWrittenSaid : Prop := fnFrontsWrittenRow.holds Try.pinned (OpenSpec.ofChange fnFrontsWrittenSpec)

/-- ITS FALSE NEIGHBOUR: 'it returns false'. Refute it at one input. -/
def fnFrontsWrittenWrong : ChangeSpec := { name := "fnFrontsWritten", fn := fun _ => fun
  | [d] => { results := [.lit (.bool false)], args := [d] }
  | _ => none }
def FnFrontsWrittenWrongFalsely : Prop := fnFrontsWrittenRow.holds Try.pinned (OpenSpec.ofChange fnFrontsWrittenWrong)

/-- 'laws.FnLengthsWritten': WHATEVER THE INPUT: true; the input reads as it did. -/
def fnLengthsWrittenSpec : ChangeSpec := { name := "fnLengthsWritten", fn := fun _ => fun
  | [d] => { results := [.lit (.bool true)], args := [d] }
  | _ => none }
def fnLengthsWrittenRow : OpenClaim := { program := "ytigmcdpjlkgocaa", sum := "b96a696f40397fc1f2bfed02873b74145ef1c7b1921b40a332797ed886517e96", func := "loop.example/pub-g01502/laws.FnLengthsWritten", spec := "fnLengthsWritten", unfollowed := true, recurses := true, apart := false }
def FnLengthsWrittenSaid : Prop := fnLengthsWrittenRow.holds Try.pinned (OpenSpec.ofChange fnLengthsWrittenSpec)

/-- ITS FALSE NEIGHBOUR: 'it returns false'. Refute it at one input. -/
def fnLengthsWrittenWrong : ChangeSpec := { name := "fnLengthsWritten", fn := fun _ => fun
  | [d] => { results := [.lit (.bool false)], args := [d] }
  | _ => none }
def FnLengthsWrittenWrongFalsely : Prop := fnLengthsWrittenRow.holds Try.pinned (OpenSpec.ofChange fnLengthsWrittenWrong)

/-- 'laws.FnDelta32Written': WHATEVER THE INPUT: true; the input reads as it did. -/
def fnDelta32WrittenSpec : ChangeSpec := { name := "fnDelta32Written", fn := fun _ => fun
  | [d] => { results := [.lit (.bool true)], args := [d] }
  | _ => none }
def fnDelta32WrittenRow : OpenClaim := { program := "ytigmcdpjlkgocaa", sum := "b96a696f40397fc1f2bfed02873b74145ef1c7b1921b40a332797ed886517e96", func := "loop.example/pub-g01502/laws.FnDelta32Written", spec := "fnDelta32Written", apart := false }
def FnDelta32WrittenSaid : Prop := fnDelta32WrittenRow.holds Try.pinned (OpenSpec.ofChange fnDelta32WrittenSpec)

/-- ITS FALSE NEIGHBOUR: 'it returns false'. Refute it at one input. -/
def fnDelta32WrittenWrong : ChangeSpec := { name := "fnDelta32Written", fn := fun _ => fun
  | [d] => { results := [.lit (.bool false)], args := [d] }
  | _ => none }
def FnDelta32WrittenWrongFalsely : Prop := fnDelta32WrittenRow.holds Try.pinned (OpenSpec.ofChange fnDelta32WrittenWrong)

/- THE SECOND FORM. 'bulk': how many values and letters a reading holds, each counted each time it is reached (what is shared counts as often as it is met; a slice's spare places count too). A statement '..UptoSaid' is the law's where the arguments, and the package variables that the reading takes, are together of bulk at most 1048576: NARROWER than '..Said'. Prove '..Said' where nothing that the law and all that it calls make is longer than what came in: it says more and counts as full. Else prove '..UptoSaid'. A law counts once. -/
mutual
def uptoBulk {H : Type} : DataW H → Nat
  | .lit (.string bytes) => bytes.length + 1
  | .lit _ => 1
  | .nil => 1
  | .ptr d => uptoBulk d + 1
  | .slice elems spare => uptoBulkAll elems + uptoBulkAll spare + 1
  | .agg parts => uptoBulkAll parts + 1
  | .iface _ d => uptoBulk d + 1
  | .map entries => uptoBulkEntries entries + 1
  | .held _ => 1
def uptoBulkAll {H : Type} : List (DataW H) → Nat
  | [] => 0
  | d :: r => uptoBulk d + uptoBulkAll r
def uptoBulkEntries {H : Type} : List (Lit × DataW H) → Nat
  | [] => 0
  | x :: r => uptoBulkEntry x + uptoBulkEntries r
def uptoBulkEntry {H : Type} : Lit × DataW H → Nat
  | (.string bytes, d) => bytes.length + uptoBulk d + 1
  | (_, d) => uptoBulk d + 1
 end
def uptoSmall : (H : Type) → List (DataW H) → Bool := fun _ ds => decide (uptoBulkAll ds ≤ 1048576)
def OpenSpec.upto (s : _root_.Go.ChangeSpec) : _root_.Go.OpenSpec := { _root_.Go.OpenSpec.ofChange s with cond := some uptoSmall }

/-- 'laws.FnDelta64Written', WHERE WHAT IT READS IS OF BULK AT MOST 1048576: true; the input reads as it did. -/
def fnDelta64WrittenUptoRow : OpenClaim := { program := "ytigmcdpjlkgocaa", sum := "b96a696f40397fc1f2bfed02873b74145ef1c7b1921b40a332797ed886517e96", func := "loop.example/pub-g01502/laws.FnDelta64Written", spec := "fnDelta64Written", apart := false, narrowed := true }
def FnDelta64WrittenUptoSaid : Prop := fnDelta64WrittenUptoRow.holds Try.pinned (OpenSpec.upto fnDelta64WrittenSpec)

/-- 'laws.FnFrontsWritten', WHERE WHAT IT READS IS OF BULK AT MOST 1048576: true; the input reads as it did. -/
def fnFrontsWrittenUptoRow : OpenClaim := { program := "ytigmcdpjlkgocaa", sum := "b96a696f40397fc1f2bfed02873b74145ef1c7b1921b40a332797ed886517e96", func := "loop.example/pub-g01502/laws.FnFrontsWritten", spec := "fnFrontsWritten", unfollowed := true, recurses := true, apart := false, narrowed := true }
def FnFrontsWrittenUptoSaid : Prop := fnFrontsWrittenUptoRow.holds Try.pinned (OpenSpec.upto fnFrontsWrittenSpec)

/-- 'laws.FnLengthsWritten', WHERE WHAT IT READS IS OF BULK AT MOST 1048576: true; the input reads as it did. -/
def fnLengthsWrittenUptoRow : OpenClaim := { program := "ytigmcdpjlkgocaa", sum := "b96a696f40397fc1f2bfed02873b74145ef1c7b1921b40a332797ed886517e96", func := "loop.example/pub-g01502/laws.FnLengthsWritten", spec := "fnLengthsWritten", unfollowed := true, recurses := true, apart := false, narrowed := true }
def FnLengthsWrittenUptoSaid : Prop := fnLengthsWrittenUptoRow.holds Try.pinned (OpenSpec.upto fnLengthsWrittenSpec)

/-- 'laws.FnDelta32Written', WHERE WHAT IT READS IS OF BULK AT MOST 1048576: true; the input reads as it did. -/
def fnDelta32WrittenUptoRow : OpenClaim := { program := "ytigmcdpjlkgocaa", sum := "b96a696f40397fc1f2bfed02873b74145ef1c7b1921b40a332797ed886517e96", func := "loop.example/pub-g01502/laws.FnDelta32Written", spec := "fnDelta32Written", apart := false, narrowed := true }
def FnDelta32WrittenUptoSaid : Prop := fnDelta32WrittenUptoRow.holds Try.pinned (OpenSpec.upto fnDelta32WrittenSpec)

end Rows
end Go.Proofs.Ytigmcdpjlkgocaa
