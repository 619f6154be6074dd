-- PRINTED BY print.sh 35421559b90ae4d0a3588c463048766b98c2df88dd9212a6774a882060cdf62d: not written by this session
import Derived.Test.YtipnmcnacgmmnaaProg
import Derived.Below
import Derived.Deep.Draws
import Derived.Deep.AppendLies
import Derived.Maps.AppendAt
import Derived.OwnWalk
import Derived.Laws.BytesArg
import Derived.Laws.MakeOwn
import Derived.Laws.OwnMore
import Derived.Deep.OwnRows
import Derived.Tactics
import Derived.Lib.ConvBytes
import Derived.Laws.Slices
import Derived.WalkKit
import Derived.KernelRfl
import Derived.RowKit3
import Derived.Deep.LoopGhost
import Derived.Deep.QuietTactic
import Derived.BigQuiet
import Derived.WideLaws
import Derived.Deep.DeepCutAuto
import Derived.Deep.CutBlock
import Derived.Deep.RegionHeld3
import Derived.Laws.Rows
import Derived.Lib.AppendStr
import Derived.ArgAppend
import Derived.Laws.IdiomCopy
import Derived.OrdersHeld
import Derived.Laws.BitsLemmas
import Derived.RowKit
import Derived.Test.YtipnmcnacgmmnaaWWords
import Derived.Test.YtipnmcnacgmmnaaWLast
import Derived.Test.YtipnmcnacgmmnaaWTab
import Derived.Test.YtipnmcnacgmmnaaWFour
import Derived.Test.YtipnmcnacgmmnaaWQPut
import Derived.Test.YtipnmcnacgmmnaaWApart
import Derived.Test.YtipnmcnacgmmnaaWArr
import Derived.Test.YtipnmcnacgmmnaaWZeros
import Derived.Test.YtipnmcnacgmmnaaWFoot
import Derived.Test.YtipnmcnacgmmnaaWKept
import Derived.Test.YtipnmcnacgmmnaaWShare
import Derived.Test.YtipnmcnacgmmnaaWN
import Derived.Test.YtipnmcnacgmmnaaWFootNe
import Derived.Test.YtipnmcnacgmmnaaWAt
import Derived.Test.YtipnmcnacgmmnaaWEqStruct
import Derived.Test.YtipnmcnacgmmnaaWRepsOne
import Derived.Test.YtipnmcnacgmmnaaWInv
import Derived.Test.YtipnmcnacgmmnaaWInvWords
import Derived.Test.YtipnmcnacgmmnaaWGuard
import Derived.Test.YtipnmcnacgmmnaaWNEv
import Derived.Test.YtipnmcnacgmmnaaWMore
namespace Go.Proofs.Ytipnmcnacgmmnaa.PmagDiv
open Go.RowKit Go.Proofs.YtipnmcnacgmmnaaW.PrintWords Go.Proofs.YtipnmcnacgmmnaaW.PrintLast Go.Proofs.YtipnmcnacgmmnaaW.PrintMore
attribute [local go_sem] max2_int min2_int max_two min_two max_three min_three max_four min_four   -- for this text's walks alone
set_option linter.unusedVariables false
set_option linter.unusedSimpArgs false



def errW : Option Int → Value
  | none => .nilIface
  | some c => .iface 0 (.int .i64 c)
theorem errW_none : errW none = .nilIface := rfl
theorem errW_some (c : Int) : errW (some c) = .iface 0 (.int .i64 c) := rfl

theorem info39 : (Try.prog.info? 39).map (fun i => (i.zero, i.size, i.bytes)) = some (some (.int .u32 0), 1, 4) := by kernel_rfl
-- the values' own types

end Go.Proofs.Ytipnmcnacgmmnaa.PmagDiv
