-- Laid by a program of this session over the kit's print (stand-ins: functions proved by hand).
import Derived.Test.YtojoppondgnajaaDoorProg
import Derived.Below
import Derived.Deep.Draws
import Derived.Deep.AppendLies
import Derived.Maps.AppendAt
import Derived.OwnWalk
import Derived.Laws.BytesArg
import Derived.Laws.MakeOwn
import Derived.Laws.OwnMore
import Derived.Deep.OwnRows
import Derived.Tactics
import Derived.Lib.ConvBytes
import Derived.Laws.Slices
import Derived.WalkKit
import Derived.KernelRfl
import Derived.RowKit3
import Derived.Deep.LoopGhost
import Derived.Deep.QuietTactic
import Derived.BigQuiet
import Derived.WideLaws
import Derived.Deep.DeepCutAuto
import Derived.Deep.CutBlock
import Derived.Deep.RegionHeld3
import Derived.Laws.Rows
import Derived.Lib.AppendStr
import Derived.ArgAppend
import Derived.Laws.IdiomCopy
import Derived.OrdersHeld
import Derived.Laws.BitsLemmas
import Derived.RowKit
import Derived.Test.YtojoppondgnajaaDoorAid
import Derived.Test.YtojoppondgnajaaDoorWWords
import Derived.Test.YtojoppondgnajaaDoorWLast
import Derived.Test.YtojoppondgnajaaDoorWTab
import Derived.Test.YtojoppondgnajaaDoorWFour
import Derived.Test.YtojoppondgnajaaDoorWQPut
import Derived.Test.YtojoppondgnajaaDoorWApart
import Derived.Test.YtojoppondgnajaaDoorWArr
import Derived.Test.YtojoppondgnajaaDoorWZeros
import Derived.Test.YtojoppondgnajaaDoorWFoot
import Derived.Test.YtojoppondgnajaaDoorWKept
import Derived.Test.YtojoppondgnajaaDoorWShare
import Derived.Test.YtojoppondgnajaaDoorWN
import Derived.Test.YtojoppondgnajaaDoorWFootNe
import Derived.Test.YtojoppondgnajaaDoorWAt
import Derived.Test.YtojoppondgnajaaDoorWEqStruct
import Derived.Test.YtojoppondgnajaaDoorWRepsOne
import Derived.Test.YtojoppondgnajaaDoorWInv
import Derived.Test.YtojoppondgnajaaDoorWInvWords
import Derived.Test.YtojoppondgnajaaDoorWGuard
import Derived.Test.YtojoppondgnajaaDoorWNEv
import Derived.Test.YtojoppondgnajaaDoorWMore
namespace Go.Proofs.YtojoppondgnajaaDoor.PFnBloomInsert
open Go.Proofs.YtojoppondgnajaaDoor.Aid
open Go.RowKit Go.Proofs.YtojoppondgnajaaDoorW.PrintWords Go.Proofs.YtojoppondgnajaaDoorW.PrintLast Go.Proofs.YtojoppondgnajaaDoorW.PrintMore
attribute [local go_sem] max2_int min2_int max_two min_two max_three min_three max_four min_four   -- for this text's walks alone
set_option linter.unusedVariables false
set_option linter.unusedSimpArgs false



def errW : Option Int → Value
  | none => .nilIface
  | some c => .iface 0 (.int .i64 c)
theorem errW_none : errW none = .nilIface := rfl
theorem errW_some (c : Int) : errW (some c) = .iface 0 (.int .i64 c) := rfl

theorem info5 : (Tryd.prog.info? 5).map (fun i => (i.zero, i.size, i.bytes)) = some (some (.int .u8 0), 1, 1) := by kernel_rfl
-- the values' own types

end Go.Proofs.YtojoppondgnajaaDoor.PFnBloomInsert
