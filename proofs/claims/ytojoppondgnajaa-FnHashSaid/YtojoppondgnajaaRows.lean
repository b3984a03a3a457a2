/-
  No cell of these rows narrows 'for every input' (looked for: loops, veiled, ifaces, maps, wideKeys, modest, calm, conditions, laid).
  DERIVED. THE GIVEN ROWS OF THIS SEAT. 4 by the template 'for every input the law returns true; each argument reads behind the call as it read before'; 0 by the template 'total and deterministic' (their statements: YtojoppondgnajaaTotals.lean).
  GIVEN WITH THE SEED: the statements are not yours to turn. If you find one false, say at which input.
  Laid BY PROGRAM, IN A SANDBOX (cutbox-rows.mjs): the forced cells as the released guide's own fill.sh prints them over the translation 57611bb984fe5ff5… (all of the seat's roots in one cut). By AI agents, Wed Nov 11 2026. No macro, syntax, notation, axiom, sorry.
-/
import Derived.Test.YtojoppondgnajaaChecked
import GoSem.Claim
import GoSem.ClaimJoined
import GoSem.ClaimMapViews
import Derived.JoinedTies
import Derived.KernelRfl
namespace Go.Proofs.Ytojoppondgnajaa
/- THE CELL 'sum', in the pinned program and in every row, IS THE sha256 OF THE DUMP (.gsa) THAT YtojoppondgnajaaProg.lean LOADS. Nothing in Lean hashes anything: it is a label: what it is worth is what the hold of that sum in a sandbox is worth. -/
noncomputable def Try.pinned : Pinned := { name := "ytojoppondgnajaa", sum := "57611bb984fe5ff5426f3deea4f94c334ca9d873561ae9e7fd0bb6b79b8e3a0d", checked := Try.checked }
namespace Rows
def none {H : Type} : Left H := { results := [], args := [] }

/-- 'laws.FnBloomBlocks': WHATEVER THE INPUT: true; the input reads as it did. -/
def fnBloomBlocksSpec : ChangeSpec := { name := "fnBloomBlocks", fn := fun _ => fun
  | [d1, d2] => { results := [.lit (.bool true)], args := [d1, d2] }
  | _ => none }
def fnBloomBlocksRow : OpenClaim := { program := "ytojoppondgnajaa", sum := "57611bb984fe5ff5426f3deea4f94c334ca9d873561ae9e7fd0bb6b79b8e3a0d", func := "loop.example/pub-g01502/laws.FnBloomBlocks", spec := "fnBloomBlocks", apart := false }
def FnBloomBlocksSaid : Prop := fnBloomBlocksRow.holds Try.pinned (OpenSpec.ofChange fnBloomBlocksSpec)

/-- ITS FALSE NEIGHBOUR: 'it returns false'. Refute it at one input. -/
def fnBloomBlocksWrong : ChangeSpec := { name := "fnBloomBlocks", fn := fun _ => fun
  | [d1, d2] => { results := [.lit (.bool false)], args := [d1, d2] }
  | _ => none }
def FnBloomBlocksWrongFalsely : Prop := fnBloomBlocksRow.holds Try.pinned (OpenSpec.ofChange fnBloomBlocksWrong)

/-- 'laws.FnHashInt': WHATEVER THE INPUT: true; the input reads as it did. -/
def fnHashIntSpec : ChangeSpec := { name := "fnHashInt", fn := fun _ => fun
  | [d1, d2] => { results := [.lit (.bool true)], args := [d1, d2] }
  | _ => none }
def fnHashIntRow : OpenClaim := { program := "ytojoppondgnajaa", sum := "57611bb984fe5ff5426f3deea4f94c334ca9d873561ae9e7fd0bb6b79b8e3a0d", func := "loop.example/pub-g01502/laws.FnHashInt", spec := "fnHashInt", apart := false }
def FnHashIntSaid : Prop := fnHashIntRow.holds Try.pinned (OpenSpec.ofChange fnHashIntSpec)

/-- ITS FALSE NEIGHBOUR: 'it returns false'. Refute it at one input. -/
def fnHashIntWrong : ChangeSpec := { name := "fnHashInt", fn := fun _ => fun
  | [d1, d2] => { results := [.lit (.bool false)], args := [d1, d2] }
  | _ => none }
def FnHashIntWrongFalsely : Prop := fnHashIntRow.holds Try.pinned (OpenSpec.ofChange fnHashIntWrong)

/-- 'laws.FnHash': WHATEVER THE INPUT: true; the input reads as it did. -/
def fnHashSpec : ChangeSpec := { name := "fnHash", fn := fun _ => fun
  | [d] => { results := [.lit (.bool true)], args := [d] }
  | _ => none }
def fnHashRow : OpenClaim := { program := "ytojoppondgnajaa", sum := "57611bb984fe5ff5426f3deea4f94c334ca9d873561ae9e7fd0bb6b79b8e3a0d", func := "loop.example/pub-g01502/laws.FnHash", spec := "fnHash", apart := false }
def FnHashSaid : Prop := fnHashRow.holds Try.pinned (OpenSpec.ofChange fnHashSpec)

/-- ITS FALSE NEIGHBOUR: 'it returns false'. Refute it at one input. -/
def fnHashWrong : ChangeSpec := { name := "fnHash", fn := fun _ => fun
  | [d] => { results := [.lit (.bool false)], args := [d] }
  | _ => none }
def FnHashWrongFalsely : Prop := fnHashRow.holds Try.pinned (OpenSpec.ofChange fnHashWrong)

/-- 'laws.FnHashInts': WHATEVER THE INPUT: true; the input reads as it did. -/
def fnHashIntsSpec : ChangeSpec := { name := "fnHashInts", fn := fun _ => fun
  | [d1, d2] => { results := [.lit (.bool true)], args := [d1, d2] }
  | _ => none }
def fnHashIntsRow : OpenClaim := { program := "ytojoppondgnajaa", sum := "57611bb984fe5ff5426f3deea4f94c334ca9d873561ae9e7fd0bb6b79b8e3a0d", func := "loop.example/pub-g01502/laws.FnHashInts", spec := "fnHashInts", apart := false }
def FnHashIntsSaid : Prop := fnHashIntsRow.holds Try.pinned (OpenSpec.ofChange fnHashIntsSpec)

/-- ITS FALSE NEIGHBOUR: 'it returns false'. Refute it at one input. -/
def fnHashIntsWrong : ChangeSpec := { name := "fnHashInts", fn := fun _ => fun
  | [d1, d2] => { results := [.lit (.bool false)], args := [d1, d2] }
  | _ => none }
def FnHashIntsWrongFalsely : Prop := fnHashIntsRow.holds Try.pinned (OpenSpec.ofChange fnHashIntsWrong)

/- THE SECOND FORM. 'bulk': how many values and letters a reading holds, each counted each time it is reached (what is shared counts as often as it is met; a slice's spare places count too). A statement '..UptoSaid' is the law's where the arguments, and the package variables that the reading takes, are together of bulk at most 1048576: NARROWER than '..Said'. Prove '..Said' where nothing that the law and all that it calls make is longer than what came in: it says more and counts as full. Else prove '..UptoSaid'. A law counts once. -/
mutual
def uptoBulk {H : Type} : DataW H → Nat
  | .lit (.string bytes) => bytes.length + 1
  | .lit _ => 1
  | .nil => 1
  | .ptr d => uptoBulk d + 1
  | .slice elems spare => uptoBulkAll elems + uptoBulkAll spare + 1
  | .agg parts => uptoBulkAll parts + 1
  | .iface _ d => uptoBulk d + 1
  | .map entries => uptoBulkEntries entries + 1
  | .held _ => 1
def uptoBulkAll {H : Type} : List (DataW H) → Nat
  | [] => 0
  | d :: r => uptoBulk d + uptoBulkAll r
def uptoBulkEntries {H : Type} : List (Lit × DataW H) → Nat
  | [] => 0
  | x :: r => uptoBulkEntry x + uptoBulkEntries r
def uptoBulkEntry {H : Type} : Lit × DataW H → Nat
  | (.string bytes, d) => bytes.length + uptoBulk d + 1
  | (_, d) => uptoBulk d + 1
 end
def uptoSmall : (H : Type) → List (DataW H) → Bool := fun _ ds => decide (uptoBulkAll ds ≤ 1048576)
def OpenSpec.upto (s : _root_.Go.ChangeSpec) : _root_.Go.OpenSpec := { _root_.Go.OpenSpec.ofChange s with cond := some uptoSmall }

/-- 'laws.FnBloomBlocks', WHERE WHAT IT READS IS OF BULK AT MOST 1048576: true; the input reads as it did. -/
def fnBloomBlocksUptoRow : OpenClaim := { program := "ytojoppondgnajaa", sum := "57611bb984fe5ff5426f3deea4f94c334ca9d873561ae9e7fd0bb6b79b8e3a0d", func := "loop.example/pub-g01502/laws.FnBloomBlocks", spec := "fnBloomBlocks", apart := false, narrowed := true }
def FnBloomBlocksUptoSaid : Prop := fnBloomBlocksUptoRow.holds Try.pinned (OpenSpec.upto fnBloomBlocksSpec)

/-- 'laws.FnHashInt', WHERE WHAT IT READS IS OF BULK AT MOST 1048576: true; the input reads as it did. -/
def fnHashIntUptoRow : OpenClaim := { program := "ytojoppondgnajaa", sum := "57611bb984fe5ff5426f3deea4f94c334ca9d873561ae9e7fd0bb6b79b8e3a0d", func := "loop.example/pub-g01502/laws.FnHashInt", spec := "fnHashInt", apart := false, narrowed := true }
def FnHashIntUptoSaid : Prop := fnHashIntUptoRow.holds Try.pinned (OpenSpec.upto fnHashIntSpec)

/-- 'laws.FnHash', WHERE WHAT IT READS IS OF BULK AT MOST 1048576: true; the input reads as it did. -/
def fnHashUptoRow : OpenClaim := { program := "ytojoppondgnajaa", sum := "57611bb984fe5ff5426f3deea4f94c334ca9d873561ae9e7fd0bb6b79b8e3a0d", func := "loop.example/pub-g01502/laws.FnHash", spec := "fnHash", apart := false, narrowed := true }
def FnHashUptoSaid : Prop := fnHashUptoRow.holds Try.pinned (OpenSpec.upto fnHashSpec)

/-- 'laws.FnHashInts', WHERE WHAT IT READS IS OF BULK AT MOST 1048576: true; the input reads as it did. -/
def fnHashIntsUptoRow : OpenClaim := { program := "ytojoppondgnajaa", sum := "57611bb984fe5ff5426f3deea4f94c334ca9d873561ae9e7fd0bb6b79b8e3a0d", func := "loop.example/pub-g01502/laws.FnHashInts", spec := "fnHashInts", apart := false, narrowed := true }
def FnHashIntsUptoSaid : Prop := fnHashIntsUptoRow.holds Try.pinned (OpenSpec.upto fnHashIntsSpec)

end Rows
end Go.Proofs.Ytojoppondgnajaa
