-- PRINTED BY print.sh 35421559b90ae4d0a3588c463048766b98c2df88dd9212a6774a882060cdf62d: not written by this session
import Derived.Test.YtmdffoplfiamlaaDoorProg
import Derived.Below
import Derived.Deep.Draws
import Derived.Deep.AppendLies
import Derived.Maps.AppendAt
import Derived.OwnWalk
import Derived.Laws.BytesArg
import Derived.Laws.MakeOwn
import Derived.Laws.OwnMore
import Derived.Deep.OwnRows
import Derived.Tactics
import Derived.Lib.ConvBytes
import Derived.Laws.Slices
import Derived.WalkKit
import Derived.KernelRfl
import Derived.RowKit3
import Derived.Deep.LoopGhost
import Derived.Deep.QuietTactic
import Derived.BigQuiet
import Derived.WideLaws
import Derived.Deep.DeepCutAuto
import Derived.Deep.CutBlock
import Derived.Deep.RegionHeld3
import Derived.Laws.Rows
import Derived.Lib.AppendStr
import Derived.ArgAppend
import Derived.Laws.IdiomCopy
import Derived.OrdersHeld
import Derived.Laws.BitsLemmas
import Derived.RowKit
import Derived.Test.YtmdffoplfiamlaaDoorWWords
import Derived.Test.YtmdffoplfiamlaaDoorWLast
import Derived.Test.YtmdffoplfiamlaaDoorWTab
import Derived.Test.YtmdffoplfiamlaaDoorWFour
import Derived.Test.YtmdffoplfiamlaaDoorWQPut
import Derived.Test.YtmdffoplfiamlaaDoorWApart
import Derived.Test.YtmdffoplfiamlaaDoorWArr
import Derived.Test.YtmdffoplfiamlaaDoorWZeros
import Derived.Test.YtmdffoplfiamlaaDoorWFoot
import Derived.Test.YtmdffoplfiamlaaDoorWKept
import Derived.Test.YtmdffoplfiamlaaDoorWShare
import Derived.Test.YtmdffoplfiamlaaDoorWN
import Derived.Test.YtmdffoplfiamlaaDoorWFootNe
import Derived.Test.YtmdffoplfiamlaaDoorWAt
import Derived.Test.YtmdffoplfiamlaaDoorWEqStruct
import Derived.Test.YtmdffoplfiamlaaDoorWRepsOne
import Derived.Test.YtmdffoplfiamlaaDoorWInv
import Derived.Test.YtmdffoplfiamlaaDoorWInvWords
import Derived.Test.YtmdffoplfiamlaaDoorWGuard
import Derived.Test.YtmdffoplfiamlaaDoorWNEv
import Derived.Test.YtmdffoplfiamlaaDoorWMore
namespace Go.Proofs.YtmdffoplfiamlaaDoor.PFnWhoRead
open Go.RowKit Go.Proofs.YtmdffoplfiamlaaDoorW.PrintWords Go.Proofs.YtmdffoplfiamlaaDoorW.PrintLast Go.Proofs.YtmdffoplfiamlaaDoorW.PrintMore
attribute [local go_sem] max2_int min2_int max_two min_two max_three min_three max_four min_four   -- for this text's walks alone
set_option linter.unusedVariables false
set_option linter.unusedSimpArgs false



def errW : Option Int → Value
  | none => .nilIface
  | some c => .iface 161 (.int .i64 c)
theorem errW_none : errW none = .nilIface := rfl
theorem errW_some (c : Int) : errW (some c) = .iface 161 (.int .i64 c) := rfl

theorem info5 : (Tryd.prog.info? 5).map (fun i => (i.zero, i.size, i.bytes)) = some (some (.int .u8 0), 1, 1) := by kernel_rfl
-- the values' own types

end Go.Proofs.YtmdffoplfiamlaaDoor.PFnWhoRead
