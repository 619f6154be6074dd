-- PRINTED BY print.sh 35421559b90ae4d0a3588c463048766b98c2df88dd9212a6774a882060cdf62d: not written by this session
import Derived.Test.YtmdmpdbnnegpiaaGreatDoorProg
import Derived.Below
import Derived.Deep.Draws
import Derived.Deep.AppendLies
import Derived.Maps.AppendAt
import Derived.OwnWalk
import Derived.Laws.BytesArg
import Derived.Laws.MakeOwn
import Derived.Laws.OwnMore
import Derived.Deep.OwnRows
import Derived.Tactics
import Derived.Lib.ConvBytes
import Derived.Laws.Slices
import Derived.WalkKit
import Derived.KernelRfl
import Derived.RowKit3
import Derived.Deep.LoopGhost
import Derived.Deep.QuietTactic
import Derived.BigQuiet
import Derived.WideLaws
import Derived.Deep.DeepCutAuto
import Derived.Deep.CutBlock
import Derived.Deep.RegionHeld3
import Derived.Laws.Rows
import Derived.Lib.AppendStr
import Derived.ArgAppend
import Derived.Laws.IdiomCopy
import Derived.OrdersHeld
import Derived.Laws.BitsLemmas
import Derived.RowKit
import Derived.Test.YtmdmpdbnnegpiaaGreatDoorWWords
import Derived.Test.YtmdmpdbnnegpiaaGreatDoorWLast
import Derived.Test.YtmdmpdbnnegpiaaGreatDoorWTab
import Derived.Test.YtmdmpdbnnegpiaaGreatDoorWFour
import Derived.Test.YtmdmpdbnnegpiaaGreatDoorWQPut
import Derived.Test.YtmdmpdbnnegpiaaGreatDoorWApart
import Derived.Test.YtmdmpdbnnegpiaaGreatDoorWArr
import Derived.Test.YtmdmpdbnnegpiaaGreatDoorWZeros
import Derived.Test.YtmdmpdbnnegpiaaGreatDoorWFoot
import Derived.Test.YtmdmpdbnnegpiaaGreatDoorWKept
import Derived.Test.YtmdmpdbnnegpiaaGreatDoorWShare
import Derived.Test.YtmdmpdbnnegpiaaGreatDoorWN
import Derived.Test.YtmdmpdbnnegpiaaGreatDoorWFootNe
import Derived.Test.YtmdmpdbnnegpiaaGreatDoorWAt
import Derived.Test.YtmdmpdbnnegpiaaGreatDoorWEqStruct
import Derived.Test.YtmdmpdbnnegpiaaGreatDoorWRepsOne
import Derived.Test.YtmdmpdbnnegpiaaGreatDoorWInv
import Derived.Test.YtmdmpdbnnegpiaaGreatDoorWInvWords
import Derived.Test.YtmdmpdbnnegpiaaGreatDoorWGuard
import Derived.Test.YtmdmpdbnnegpiaaGreatDoorWNEv
import Derived.Test.YtmdmpdbnnegpiaaGreatDoorWMore
namespace Go.Proofs.YtmdmpdbnnegpiaaGreatDoor.PbitsDue
open Go.RowKit Go.Proofs.YtmdmpdbnnegpiaaGreatDoorW.PrintWords Go.Proofs.YtmdmpdbnnegpiaaGreatDoorW.PrintLast Go.Proofs.YtmdmpdbnnegpiaaGreatDoorW.PrintMore
attribute [local go_sem] max2_int min2_int max_two min_two max_three min_three max_four min_four   -- for this text's walks alone
set_option linter.unusedVariables false
set_option linter.unusedSimpArgs false



def errW : Option Int → Value
  | none => .nilIface
  | some c => .iface 0 (.int .i64 c)
theorem errW_none : errW none = .nilIface := rfl
theorem errW_some (c : Int) : errW (some c) = .iface 0 (.int .i64 c) := rfl

-- the values' own types

end Go.Proofs.YtmdmpdbnnegpiaaGreatDoor.PbitsDue
