-- PRINTED BY print.sh 35421559b90ae4d0a3588c463048766b98c2df88dd9212a6774a882060cdf62d: not written by this session
import Derived.Test.YtmildhkegpmacaaDoorProg
import Derived.Below
import Derived.Deep.Draws
import Derived.Deep.AppendLies
import Derived.Maps.AppendAt
import Derived.OwnWalk
import Derived.Laws.BytesArg
import Derived.Laws.MakeOwn
import Derived.Laws.OwnMore
import Derived.Deep.OwnRows
import Derived.Tactics
import Derived.Lib.ConvBytes
import Derived.Laws.Slices
import Derived.WalkKit
import Derived.KernelRfl
import Derived.RowKit3
import Derived.Deep.LoopGhost
import Derived.Deep.QuietTactic
import Derived.BigQuiet
import Derived.WideLaws
import Derived.Deep.DeepCutAuto
import Derived.Deep.CutBlock
import Derived.Deep.RegionHeld3
import Derived.Laws.Rows
import Derived.Lib.AppendStr
import Derived.ArgAppend
import Derived.Laws.IdiomCopy
import Derived.OrdersHeld
import Derived.Laws.BitsLemmas
import Derived.RowKit
import Derived.Test.YtmildhkegpmacaaDoorWWords
import Derived.Test.YtmildhkegpmacaaDoorWLast
import Derived.Test.YtmildhkegpmacaaDoorWTab
import Derived.Test.YtmildhkegpmacaaDoorWFour
import Derived.Test.YtmildhkegpmacaaDoorWQPut
import Derived.Test.YtmildhkegpmacaaDoorWApart
import Derived.Test.YtmildhkegpmacaaDoorWArr
import Derived.Test.YtmildhkegpmacaaDoorWZeros
import Derived.Test.YtmildhkegpmacaaDoorWFoot
import Derived.Test.YtmildhkegpmacaaDoorWKept
import Derived.Test.YtmildhkegpmacaaDoorWShare
import Derived.Test.YtmildhkegpmacaaDoorWN
import Derived.Test.YtmildhkegpmacaaDoorWFootNe
import Derived.Test.YtmildhkegpmacaaDoorWAt
import Derived.Test.YtmildhkegpmacaaDoorWEqStruct
import Derived.Test.YtmildhkegpmacaaDoorWRepsOne
import Derived.Test.YtmildhkegpmacaaDoorWInv
import Derived.Test.YtmildhkegpmacaaDoorWInvWords
import Derived.Test.YtmildhkegpmacaaDoorWGuard
import Derived.Test.YtmildhkegpmacaaDoorWNEv
import Derived.Test.YtmildhkegpmacaaDoorWMore
namespace Go.Proofs.YtmildhkegpmacaaDoor.PFnHeaderRead
open Go.RowKit Go.Proofs.YtmildhkegpmacaaDoorW.PrintWords Go.Proofs.YtmildhkegpmacaaDoorW.PrintLast Go.Proofs.YtmildhkegpmacaaDoorW.PrintMore
attribute [local go_sem] max2_int min2_int max_two min_two max_three min_three max_four min_four   -- for this text's walks alone
set_option linter.unusedVariables false
set_option linter.unusedSimpArgs false



def errW : Option Int → Value
  | none => .nilIface
  | some c => .iface 189 (.int .i64 c)
theorem errW_none : errW none = .nilIface := rfl
theorem errW_some (c : Int) : errW (some c) = .iface 189 (.int .i64 c) := rfl

-- the values' own types

end Go.Proofs.YtmildhkegpmacaaDoor.PFnHeaderRead
