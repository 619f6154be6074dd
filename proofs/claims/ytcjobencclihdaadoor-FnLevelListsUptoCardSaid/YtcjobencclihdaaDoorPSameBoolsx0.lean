-- PRINTED BY print.sh 35421559b90ae4d0a3588c463048766b98c2df88dd9212a6774a882060cdf62d: not written by this session
import Derived.Test.YtcjobencclihdaaDoorProg
import Derived.Below
import Derived.Deep.Draws
import Derived.Deep.AppendLies
import Derived.Maps.AppendAt
import Derived.OwnWalk
import Derived.Laws.BytesArg
import Derived.Laws.MakeOwn
import Derived.Laws.OwnMore
import Derived.Deep.OwnRows
import Derived.Tactics
import Derived.Lib.ConvBytes
import Derived.Laws.Slices
import Derived.WalkKit
import Derived.KernelRfl
import Derived.RowKit3
import Derived.Deep.LoopGhost
import Derived.Deep.QuietTactic
import Derived.BigQuiet
import Derived.WideLaws
import Derived.Deep.DeepCutAuto
import Derived.Deep.CutBlock
import Derived.Deep.RegionHeld3
import Derived.Laws.Rows
import Derived.Lib.AppendStr
import Derived.ArgAppend
import Derived.Laws.IdiomCopy
import Derived.OrdersHeld
import Derived.Laws.BitsLemmas
import Derived.RowKit
import Derived.Test.YtcjobencclihdaaDoorWWords
import Derived.Test.YtcjobencclihdaaDoorWLast
import Derived.Test.YtcjobencclihdaaDoorWTab
import Derived.Test.YtcjobencclihdaaDoorWFour
import Derived.Test.YtcjobencclihdaaDoorWQPut
import Derived.Test.YtcjobencclihdaaDoorWApart
import Derived.Test.YtcjobencclihdaaDoorWArr
import Derived.Test.YtcjobencclihdaaDoorWZeros
import Derived.Test.YtcjobencclihdaaDoorWFoot
import Derived.Test.YtcjobencclihdaaDoorWKept
import Derived.Test.YtcjobencclihdaaDoorWShare
import Derived.Test.YtcjobencclihdaaDoorWN
import Derived.Test.YtcjobencclihdaaDoorWFootNe
import Derived.Test.YtcjobencclihdaaDoorWAt
import Derived.Test.YtcjobencclihdaaDoorWEqStruct
import Derived.Test.YtcjobencclihdaaDoorWRepsOne
import Derived.Test.YtcjobencclihdaaDoorWInv
import Derived.Test.YtcjobencclihdaaDoorWInvWords
import Derived.Test.YtcjobencclihdaaDoorWGuard
import Derived.Test.YtcjobencclihdaaDoorWNEv
import Derived.Test.YtcjobencclihdaaDoorWMore
namespace Go.Proofs.YtcjobencclihdaaDoor.PSameBools
open Go.RowKit Go.Proofs.YtcjobencclihdaaDoorW.PrintWords Go.Proofs.YtcjobencclihdaaDoorW.PrintLast Go.Proofs.YtcjobencclihdaaDoorW.PrintMore
attribute [local go_sem] max2_int min2_int max_two min_two max_three min_three max_four min_four   -- for this text's walks alone
set_option linter.unusedVariables false
set_option linter.unusedSimpArgs false



def errW : Option Int → Value
  | none => .nilIface
  | some c => .iface 0 (.int .i64 c)
theorem errW_none : errW none = .nilIface := rfl
theorem errW_some (c : Int) : errW (some c) = .iface 0 (.int .i64 c) := rfl

-- the values' own types

end Go.Proofs.YtcjobencclihdaaDoor.PSameBools
