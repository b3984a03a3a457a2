/-
  No cell of these rows narrows 'for every input' (looked for: loops, veiled, ifaces, maps, wideKeys, modest, calm, conditions, laid).
  DERIVED. THE GIVEN ROWS OF THIS SEAT. 4 by the template 'for every input the law returns true; each argument reads behind the call as it read before'; 0 by the template 'total and deterministic' (their statements: YtkefklemcoehmaaTotals.lean).
  GIVEN WITH THE SEED: the statements are not yours to turn. If you find one false, say at which input.
  Laid BY PROGRAM, IN A SANDBOX (cutbox-rows.mjs): the forced cells as the released guide's own fill.sh prints them over the translation 42e14921362b7fe8… (all of the seat's roots in one cut). By AI agents, Wed Nov 11 2026. No macro, syntax, notation, axiom, sorry.
-/
import Derived.Test.YtkefklemcoehmaaChecked
import GoSem.Claim
import GoSem.ClaimJoined
import GoSem.ClaimMapViews
import Derived.JoinedTies
import Derived.KernelRfl
namespace Go.Proofs.Ytkefklemcoehmaa
/- THE CELL 'sum', in the pinned program and in every row, IS THE sha256 OF THE DUMP (.gsa) THAT YtkefklemcoehmaaProg.lean LOADS. Nothing in Lean hashes anything: it is a label: what it is worth is what the hold of that sum in a sandbox is worth. -/
noncomputable def Try.pinned : Pinned := { name := "ytkefklemcoehmaa", sum := "42e14921362b7fe885c5533a94486fd45fe096c2ab6ef72e13426376c8f047bd", checked := Try.checked }
namespace Rows
def none {H : Type} : Left H := { results := [], args := [] }

/-- 'laws.FnPlainInt96s': WHATEVER THE INPUT: true; the input reads as it did. -/
def fnPlainInt96sSpec : ChangeSpec := { name := "fnPlainInt96s", fn := fun _ => fun
  | [d] => { results := [.lit (.bool true)], args := [d] }
  | _ => none }
def fnPlainInt96sRow : OpenClaim := { program := "ytkefklemcoehmaa", sum := "42e14921362b7fe885c5533a94486fd45fe096c2ab6ef72e13426376c8f047bd", func := "loop.example/pub-g01502/laws.FnPlainInt96s", spec := "fnPlainInt96s", apart := false }
def FnPlainInt96sSaid : Prop := fnPlainInt96sRow.holds Try.pinned (OpenSpec.ofChange fnPlainInt96sSpec)

/-- ITS FALSE NEIGHBOUR: 'it returns false'. Refute it at one input. -/
def fnPlainInt96sWrong : ChangeSpec := { name := "fnPlainInt96s", fn := fun _ => fun
  | [d] => { results := [.lit (.bool false)], args := [d] }
  | _ => none }
def FnPlainInt96sWrongFalsely : Prop := fnPlainInt96sRow.holds Try.pinned (OpenSpec.ofChange fnPlainInt96sWrong)

/-- 'laws.FnSplitFloats': WHATEVER THE INPUT: true; the input reads as it did. -/
def fnSplitFloatsSpec : ChangeSpec := { name := "fnSplitFloats", fn := fun _ => fun
  | [d] => { results := [.lit (.bool true)], args := [d] }
  | _ => none }
def fnSplitFloatsRow : OpenClaim := { program := "ytkefklemcoehmaa", sum := "42e14921362b7fe885c5533a94486fd45fe096c2ab6ef72e13426376c8f047bd", func := "loop.example/pub-g01502/laws.FnSplitFloats", spec := "fnSplitFloats", inPlace := ["math.Float32frombits", "math.Float32bits"], apart := false }
def FnSplitFloatsSaid : Prop := fnSplitFloatsRow.holds Try.pinned (OpenSpec.ofChange fnSplitFloatsSpec)

/-- ITS FALSE NEIGHBOUR: 'it returns false'. Refute it at one input. -/
def fnSplitFloatsWrong : ChangeSpec := { name := "fnSplitFloats", fn := fun _ => fun
  | [d] => { results := [.lit (.bool false)], args := [d] }
  | _ => none }
def FnSplitFloatsWrongFalsely : Prop := fnSplitFloatsRow.holds Try.pinned (OpenSpec.ofChange fnSplitFloatsWrong)

/-- 'laws.FnSplitDoubles': WHATEVER THE INPUT: true; the input reads as it did. -/
def fnSplitDoublesSpec : ChangeSpec := { name := "fnSplitDoubles", fn := fun _ => fun
  | [d] => { results := [.lit (.bool true)], args := [d] }
  | _ => none }
def fnSplitDoublesRow : OpenClaim := { program := "ytkefklemcoehmaa", sum := "42e14921362b7fe885c5533a94486fd45fe096c2ab6ef72e13426376c8f047bd", func := "loop.example/pub-g01502/laws.FnSplitDoubles", spec := "fnSplitDoubles", inPlace := ["math.Float64frombits", "math.Float64bits"], apart := false }
def FnSplitDoublesSaid : Prop := fnSplitDoublesRow.holds Try.pinned (OpenSpec.ofChange fnSplitDoublesSpec)

/-- ITS FALSE NEIGHBOUR: 'it returns false'. Refute it at one input. -/
def fnSplitDoublesWrong : ChangeSpec := { name := "fnSplitDoubles", fn := fun _ => fun
  | [d] => { results := [.lit (.bool false)], args := [d] }
  | _ => none }
def FnSplitDoublesWrongFalsely : Prop := fnSplitDoublesRow.holds Try.pinned (OpenSpec.ofChange fnSplitDoublesWrong)

/-- 'laws.FnPlainFloats': WHATEVER THE INPUT: true; the input reads as it did. -/
def fnPlainFloatsSpec : ChangeSpec := { name := "fnPlainFloats", fn := fun _ => fun
  | [d1, d2] => { results := [.lit (.bool true)], args := [d1, d2] }
  | _ => none }
def fnPlainFloatsRow : OpenClaim := { program := "ytkefklemcoehmaa", sum := "42e14921362b7fe885c5533a94486fd45fe096c2ab6ef72e13426376c8f047bd", func := "loop.example/pub-g01502/laws.FnPlainFloats", spec := "fnPlainFloats", inPlace := ["math.Float32frombits", "math.Float32bits", "math.Float64frombits", "math.Float64bits"], apart := false }
def FnPlainFloatsSaid : Prop := fnPlainFloatsRow.holds Try.pinned (OpenSpec.ofChange fnPlainFloatsSpec)

/-- ITS FALSE NEIGHBOUR: 'it returns false'. Refute it at one input. -/
def fnPlainFloatsWrong : ChangeSpec := { name := "fnPlainFloats", fn := fun _ => fun
  | [d1, d2] => { results := [.lit (.bool false)], args := [d1, d2] }
  | _ => none }
def FnPlainFloatsWrongFalsely : Prop := fnPlainFloatsRow.holds Try.pinned (OpenSpec.ofChange fnPlainFloatsWrong)

/- THE SECOND FORM. 'bulk': how many values and letters a reading holds, each counted each time it is reached (what is shared counts as often as it is met; a slice's spare places count too). A statement '..UptoSaid' is the law's where the arguments, and the package variables that the reading takes, are together of bulk at most 1048576: NARROWER than '..Said'. Prove '..Said' where nothing that the law and all that it calls make is longer than what came in: it says more and counts as full. Else prove '..UptoSaid'. A law counts once. -/
mutual
def uptoBulk {H : Type} : DataW H → Nat
  | .lit (.string bytes) => bytes.length + 1
  | .lit _ => 1
  | .nil => 1
  | .ptr d => uptoBulk d + 1
  | .slice elems spare => uptoBulkAll elems + uptoBulkAll spare + 1
  | .agg parts => uptoBulkAll parts + 1
  | .iface _ d => uptoBulk d + 1
  | .map entries => uptoBulkEntries entries + 1
  | .held _ => 1
def uptoBulkAll {H : Type} : List (DataW H) → Nat
  | [] => 0
  | d :: r => uptoBulk d + uptoBulkAll r
def uptoBulkEntries {H : Type} : List (Lit × DataW H) → Nat
  | [] => 0
  | x :: r => uptoBulkEntry x + uptoBulkEntries r
def uptoBulkEntry {H : Type} : Lit × DataW H → Nat
  | (.string bytes, d) => bytes.length + uptoBulk d + 1
  | (_, d) => uptoBulk d + 1
 end
def uptoSmall : (H : Type) → List (DataW H) → Bool := fun _ ds => decide (uptoBulkAll ds ≤ 1048576)
def OpenSpec.upto (s : _root_.Go.ChangeSpec) : _root_.Go.OpenSpec := { _root_.Go.OpenSpec.ofChange s with cond := some uptoSmall }

/-- 'laws.FnPlainInt96s', WHERE WHAT IT READS IS OF BULK AT MOST 1048576: true; the input reads as it did. -/
def fnPlainInt96sUptoRow : OpenClaim := { program := "ytkefklemcoehmaa", sum := "42e14921362b7fe885c5533a94486fd45fe096c2ab6ef72e13426376c8f047bd", func := "loop.example/pub-g01502/laws.FnPlainInt96s", spec := "fnPlainInt96s", apart := false, narrowed := true }
def FnPlainInt96sUptoSaid : Prop := fnPlainInt96sUptoRow.holds Try.pinned (OpenSpec.upto fnPlainInt96sSpec)

/-- 'laws.FnSplitFloats', WHERE WHAT IT READS IS OF BULK AT MOST 1048576: true; the input reads as it did. -/
def fnSplitFloatsUptoRow : OpenClaim := { program := "ytkefklemcoehmaa", sum := "42e14921362b7fe885c5533a94486fd45fe096c2ab6ef72e13426376c8f047bd", func := "loop.example/pub-g01502/laws.FnSplitFloats", spec := "fnSplitFloats", inPlace := ["math.Float32frombits", "math.Float32bits"], apart := false, narrowed := true }
def FnSplitFloatsUptoSaid : Prop := fnSplitFloatsUptoRow.holds Try.pinned (OpenSpec.upto fnSplitFloatsSpec)

/-- 'laws.FnSplitDoubles', WHERE WHAT IT READS IS OF BULK AT MOST 1048576: true; the input reads as it did. -/
def fnSplitDoublesUptoRow : OpenClaim := { program := "ytkefklemcoehmaa", sum := "42e14921362b7fe885c5533a94486fd45fe096c2ab6ef72e13426376c8f047bd", func := "loop.example/pub-g01502/laws.FnSplitDoubles", spec := "fnSplitDoubles", inPlace := ["math.Float64frombits", "math.Float64bits"], apart := false, narrowed := true }
def FnSplitDoublesUptoSaid : Prop := fnSplitDoublesUptoRow.holds Try.pinned (OpenSpec.upto fnSplitDoublesSpec)

/-- 'laws.FnPlainFloats', WHERE WHAT IT READS IS OF BULK AT MOST 1048576: true; the input reads as it did. -/
def fnPlainFloatsUptoRow : OpenClaim := { program := "ytkefklemcoehmaa", sum := "42e14921362b7fe885c5533a94486fd45fe096c2ab6ef72e13426376c8f047bd", func := "loop.example/pub-g01502/laws.FnPlainFloats", spec := "fnPlainFloats", inPlace := ["math.Float32frombits", "math.Float32bits", "math.Float64frombits", "math.Float64bits"], apart := false, narrowed := true }
def FnPlainFloatsUptoSaid : Prop := fnPlainFloatsUptoRow.holds Try.pinned (OpenSpec.upto fnPlainFloatsSpec)

end Rows
end Go.Proofs.Ytkefklemcoehmaa
