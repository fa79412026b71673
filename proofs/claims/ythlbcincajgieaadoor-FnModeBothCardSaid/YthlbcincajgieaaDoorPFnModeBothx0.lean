-- PRINTED BY print.sh 35421559b90ae4d0a3588c463048766b98c2df88dd9212a6774a882060cdf62d: not written by this session
import Derived.Test.YthlbcincajgieaaDoorProg
import Derived.Below
import Derived.Deep.Draws
import Derived.Deep.AppendLies
import Derived.Maps.AppendAt
import Derived.OwnWalk
import Derived.Laws.BytesArg
import Derived.Laws.MakeOwn
import Derived.Laws.OwnMore
import Derived.Deep.OwnRows
import Derived.Tactics
import Derived.Lib.ConvBytes
import Derived.Laws.Slices
import Derived.WalkKit
import Derived.KernelRfl
import Derived.RowKit3
import Derived.Deep.LoopGhost
import Derived.Deep.QuietTactic
import Derived.BigQuiet
import Derived.WideLaws
import Derived.Deep.DeepCutAuto
import Derived.Deep.CutBlock
import Derived.Deep.RegionHeld3
import Derived.Laws.Rows
import Derived.Lib.AppendStr
import Derived.ArgAppend
import Derived.Laws.IdiomCopy
import Derived.OrdersHeld
import Derived.Laws.BitsLemmas
import Derived.RowKit
import Derived.Test.YthlbcincajgieaaDoorWWords
import Derived.Test.YthlbcincajgieaaDoorWLast
import Derived.Test.YthlbcincajgieaaDoorWTab
import Derived.Test.YthlbcincajgieaaDoorWFour
import Derived.Test.YthlbcincajgieaaDoorWQPut
import Derived.Test.YthlbcincajgieaaDoorWApart
import Derived.Test.YthlbcincajgieaaDoorWArr
import Derived.Test.YthlbcincajgieaaDoorWZeros
import Derived.Test.YthlbcincajgieaaDoorWFoot
import Derived.Test.YthlbcincajgieaaDoorWKept
import Derived.Test.YthlbcincajgieaaDoorWShare
import Derived.Test.YthlbcincajgieaaDoorWN
import Derived.Test.YthlbcincajgieaaDoorWFootNe
import Derived.Test.YthlbcincajgieaaDoorWAt
import Derived.Test.YthlbcincajgieaaDoorWEqStruct
import Derived.Test.YthlbcincajgieaaDoorWRepsOne
import Derived.Test.YthlbcincajgieaaDoorWInv
import Derived.Test.YthlbcincajgieaaDoorWInvWords
import Derived.Test.YthlbcincajgieaaDoorWGuard
import Derived.Test.YthlbcincajgieaaDoorWNEv
import Derived.Test.YthlbcincajgieaaDoorWMore
namespace Go.Proofs.YthlbcincajgieaaDoor.PFnModeBoth
open Go.RowKit Go.Proofs.YthlbcincajgieaaDoorW.PrintWords Go.Proofs.YthlbcincajgieaaDoorW.PrintLast Go.Proofs.YthlbcincajgieaaDoorW.PrintMore
attribute [local go_sem] max2_int min2_int max_two min_two max_three min_three max_four min_four   -- for this text's walks alone
set_option linter.unusedVariables false
set_option linter.unusedSimpArgs false



def errW : Option Int → Value
  | none => .nilIface
  | some c => .iface 149 (.int .i64 c)
theorem errW_none : errW none = .nilIface := rfl
theorem errW_some (c : Int) : errW (some c) = .iface 149 (.int .i64 c) := rfl

-- the values' own types

end Go.Proofs.YthlbcincajgieaaDoor.PFnModeBoth
