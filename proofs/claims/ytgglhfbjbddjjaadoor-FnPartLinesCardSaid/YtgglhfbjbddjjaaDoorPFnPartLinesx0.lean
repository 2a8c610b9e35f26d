-- PRINTED BY print.sh 35421559b90ae4d0a3588c463048766b98c2df88dd9212a6774a882060cdf62d: not written by this session
import Derived.Test.YtgglhfbjbddjjaaDoorProg
import Derived.Below
import Derived.Deep.Draws
import Derived.Deep.AppendLies
import Derived.Maps.AppendAt
import Derived.OwnWalk
import Derived.Laws.BytesArg
import Derived.Laws.MakeOwn
import Derived.Laws.OwnMore
import Derived.Deep.OwnRows
import Derived.Tactics
import Derived.Lib.ConvBytes
import Derived.Laws.Slices
import Derived.WalkKit
import Derived.KernelRfl
import Derived.RowKit3
import Derived.Deep.LoopGhost
import Derived.Deep.QuietTactic
import Derived.BigQuiet
import Derived.WideLaws
import Derived.Deep.DeepCutAuto
import Derived.Deep.CutBlock
import Derived.Deep.RegionHeld3
import Derived.Laws.Rows
import Derived.Lib.AppendStr
import Derived.ArgAppend
import Derived.Laws.IdiomCopy
import Derived.OrdersHeld
import Derived.Laws.BitsLemmas
import Derived.RowKit
import Derived.Test.YtgglhfbjbddjjaaDoorWWords
import Derived.Test.YtgglhfbjbddjjaaDoorWLast
import Derived.Test.YtgglhfbjbddjjaaDoorWTab
import Derived.Test.YtgglhfbjbddjjaaDoorWFour
import Derived.Test.YtgglhfbjbddjjaaDoorWQPut
import Derived.Test.YtgglhfbjbddjjaaDoorWApart
import Derived.Test.YtgglhfbjbddjjaaDoorWArr
import Derived.Test.YtgglhfbjbddjjaaDoorWZeros
import Derived.Test.YtgglhfbjbddjjaaDoorWFoot
import Derived.Test.YtgglhfbjbddjjaaDoorWKept
import Derived.Test.YtgglhfbjbddjjaaDoorWShare
import Derived.Test.YtgglhfbjbddjjaaDoorWN
import Derived.Test.YtgglhfbjbddjjaaDoorWFootNe
import Derived.Test.YtgglhfbjbddjjaaDoorWAt
import Derived.Test.YtgglhfbjbddjjaaDoorWEqStruct
import Derived.Test.YtgglhfbjbddjjaaDoorWRepsOne
import Derived.Test.YtgglhfbjbddjjaaDoorWInv
import Derived.Test.YtgglhfbjbddjjaaDoorWInvWords
import Derived.Test.YtgglhfbjbddjjaaDoorWGuard
import Derived.Test.YtgglhfbjbddjjaaDoorWNEv
import Derived.Test.YtgglhfbjbddjjaaDoorWMore
namespace Go.Proofs.YtgglhfbjbddjjaaDoor.PFnPartLines
open Go.RowKit Go.Proofs.YtgglhfbjbddjjaaDoorW.PrintWords Go.Proofs.YtgglhfbjbddjjaaDoorW.PrintLast Go.Proofs.YtgglhfbjbddjjaaDoorW.PrintMore
attribute [local go_sem] max2_int min2_int max_two min_two max_three min_three max_four min_four   -- for this text's walks alone
set_option linter.unusedVariables false
set_option linter.unusedSimpArgs false



def errW : Option Int → Value
  | none => .nilIface
  | some c => .iface 0 (.int .i64 c)
theorem errW_none : errW none = .nilIface := rfl
theorem errW_some (c : Int) : errW (some c) = .iface 0 (.int .i64 c) := rfl

theorem info5 : (Tryd.prog.info? 5).map (fun i => (i.zero, i.size, i.bytes)) = some (some (.int .u8 0), 1, 1) := by kernel_rfl
theorem info21 : (Tryd.prog.info? 21).map (fun i => (i.zero, i.size, i.bytes)) = some (some (.int .i32 0), 1, 4) := by kernel_rfl
-- the values' own types

end Go.Proofs.YtgglhfbjbddjjaaDoor.PFnPartLines
