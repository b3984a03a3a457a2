-- Laid by a program of this session over the kit's print (stand-ins: functions proved by hand).
import Derived.Test.YtojoppondgnajaaProg
import Derived.Below
import Derived.Deep.Draws
import Derived.Deep.AppendLies
import Derived.Maps.AppendAt
import Derived.OwnWalk
import Derived.Laws.BytesArg
import Derived.Laws.MakeOwn
import Derived.Laws.OwnMore
import Derived.Deep.OwnRows
import Derived.Tactics
import Derived.Lib.ConvBytes
import Derived.Laws.Slices
import Derived.WalkKit
import Derived.KernelRfl
import Derived.RowKit3
import Derived.Deep.LoopGhost
import Derived.Deep.QuietTactic
import Derived.BigQuiet
import Derived.WideLaws
import Derived.Deep.DeepCutAuto
import Derived.Deep.CutBlock
import Derived.Deep.RegionHeld3
import Derived.Laws.Rows
import Derived.Lib.AppendStr
import Derived.ArgAppend
import Derived.Laws.IdiomCopy
import Derived.OrdersHeld
import Derived.Laws.BitsLemmas
import Derived.RowKit
import Derived.Test.YtojoppondgnajaaAid
import Derived.Test.YtojoppondgnajaaXx
import Derived.Test.YtojoppondgnajaaWWords
import Derived.Test.YtojoppondgnajaaWLast
import Derived.Test.YtojoppondgnajaaWTab
import Derived.Test.YtojoppondgnajaaWFour
import Derived.Test.YtojoppondgnajaaWQPut
import Derived.Test.YtojoppondgnajaaWApart
import Derived.Test.YtojoppondgnajaaWArr
import Derived.Test.YtojoppondgnajaaWZeros
import Derived.Test.YtojoppondgnajaaWFoot
import Derived.Test.YtojoppondgnajaaWKept
import Derived.Test.YtojoppondgnajaaWShare
import Derived.Test.YtojoppondgnajaaWN
import Derived.Test.YtojoppondgnajaaWFootNe
import Derived.Test.YtojoppondgnajaaWAt
import Derived.Test.YtojoppondgnajaaWEqStruct
import Derived.Test.YtojoppondgnajaaWRepsOne
import Derived.Test.YtojoppondgnajaaWInv
import Derived.Test.YtojoppondgnajaaWInvWords
import Derived.Test.YtojoppondgnajaaWGuard
import Derived.Test.YtojoppondgnajaaWNEv
import Derived.Test.YtojoppondgnajaaWMore
namespace Go.Proofs.Ytojoppondgnajaa.PFnHashInts
open Go.Proofs.Ytojoppondgnajaa.Aid Go.Proofs.Ytojoppondgnajaa.Xx
open Go.RowKit Go.Proofs.YtojoppondgnajaaW.PrintWords Go.Proofs.YtojoppondgnajaaW.PrintLast Go.Proofs.YtojoppondgnajaaW.PrintMore
attribute [local go_sem] max2_int min2_int max_two min_two max_three min_three max_four min_four   -- for this text's walks alone
set_option linter.unusedVariables false
set_option linter.unusedSimpArgs false



def errW : Option Int → Value
  | none => .nilIface
  | some c => .iface 0 (.int .i64 c)
theorem errW_none : errW none = .nilIface := rfl
theorem errW_some (c : Int) : errW (some c) = .iface 0 (.int .i64 c) := rfl

theorem info5 : (Try.prog.info? 5).map (fun i => (i.zero, i.size, i.bytes)) = some (some (.int .u8 0), 1, 1) := by kernel_rfl
theorem info25 : (Try.prog.info? 25).map (fun i => (i.zero, i.size, i.bytes)) = some (some (.int .u64 0), 1, 8) := by kernel_rfl
theorem info39 : (Try.prog.info? 39).map (fun i => (i.zero, i.size, i.bytes)) = some (some (.int .u16 0), 1, 2) := by kernel_rfl
theorem info41 : (Try.prog.info? 41).map (fun i => (i.zero, i.size, i.bytes)) = some (some (.int .u32 0), 1, 4) := by kernel_rfl
-- the values' own types

end Go.Proofs.Ytojoppondgnajaa.PFnHashInts
