-- PRINTED BY print.sh 35421559b90ae4d0a3588c463048766b98c2df88dd9212a6774a882060cdf62d: not written by this session
import Derived.Test.YtghcecngdhcjpaaDoorProg
import Derived.Below
import Derived.Deep.Draws
import Derived.Deep.AppendLies
import Derived.Maps.AppendAt
import Derived.OwnWalk
import Derived.Laws.BytesArg
import Derived.Laws.MakeOwn
import Derived.Laws.OwnMore
import Derived.Deep.OwnRows
import Derived.Tactics
import Derived.Lib.ConvBytes
import Derived.Laws.Slices
import Derived.WalkKit
import Derived.KernelRfl
import Derived.RowKit3
import Derived.Deep.LoopGhost
import Derived.Deep.QuietTactic
import Derived.BigQuiet
import Derived.WideLaws
import Derived.Deep.DeepCutAuto
import Derived.Deep.CutBlock
import Derived.Deep.RegionHeld3
import Derived.Laws.Rows
import Derived.Lib.AppendStr
import Derived.ArgAppend
import Derived.Laws.IdiomCopy
import Derived.OrdersHeld
import Derived.Laws.BitsLemmas
import Derived.RowKit
import Derived.Test.YtghcecngdhcjpaaDoorWWords
import Derived.Test.YtghcecngdhcjpaaDoorWLast
import Derived.Test.YtghcecngdhcjpaaDoorWTab
import Derived.Test.YtghcecngdhcjpaaDoorWFour
import Derived.Test.YtghcecngdhcjpaaDoorWQPut
import Derived.Test.YtghcecngdhcjpaaDoorWApart
import Derived.Test.YtghcecngdhcjpaaDoorWArr
import Derived.Test.YtghcecngdhcjpaaDoorWZeros
import Derived.Test.YtghcecngdhcjpaaDoorWFoot
import Derived.Test.YtghcecngdhcjpaaDoorWKept
import Derived.Test.YtghcecngdhcjpaaDoorWShare
import Derived.Test.YtghcecngdhcjpaaDoorWN
import Derived.Test.YtghcecngdhcjpaaDoorWFootNe
import Derived.Test.YtghcecngdhcjpaaDoorWAt
import Derived.Test.YtghcecngdhcjpaaDoorWEqStruct
import Derived.Test.YtghcecngdhcjpaaDoorWRepsOne
import Derived.Test.YtghcecngdhcjpaaDoorWInv
import Derived.Test.YtghcecngdhcjpaaDoorWInvWords
import Derived.Test.YtghcecngdhcjpaaDoorWGuard
import Derived.Test.YtghcecngdhcjpaaDoorWNEv
import Derived.Test.YtghcecngdhcjpaaDoorWMore
namespace Go.Proofs.YtghcecngdhcjpaaDoor.PFnDeltaRoads
open Go.RowKit Go.Proofs.YtghcecngdhcjpaaDoorW.PrintWords Go.Proofs.YtghcecngdhcjpaaDoorW.PrintLast Go.Proofs.YtghcecngdhcjpaaDoorW.PrintMore
attribute [local go_sem] max2_int min2_int max_two min_two max_three min_three max_four min_four   -- for this text's walks alone
set_option linter.unusedVariables false
set_option linter.unusedSimpArgs false



def errW : Option Int → Value
  | none => .nilIface
  | some c => .iface 0 (.int .i64 c)
theorem errW_none : errW none = .nilIface := rfl
theorem errW_some (c : Int) : errW (some c) = .iface 0 (.int .i64 c) := rfl

theorem info5 : (Tryd.prog.info? 5).map (fun i => (i.zero, i.size, i.bytes)) = some (some (.int .u8 0), 1, 1) := by kernel_rfl
-- the values' own types

end Go.Proofs.YtghcecngdhcjpaaDoor.PFnDeltaRoads
