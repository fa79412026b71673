-- PRINTED BY print.sh 35421559b90ae4d0a3588c463048766b98c2df88dd9212a6774a882060cdf62d: not written by this session
import Derived.Test.YtbiflpbajgafaaaProg
import Derived.Below
import Derived.Deep.Draws
import Derived.Deep.AppendLies
import Derived.Maps.AppendAt
import Derived.OwnWalk
import Derived.Laws.BytesArg
import Derived.Laws.MakeOwn
import Derived.Laws.OwnMore
import Derived.Deep.OwnRows
import Derived.Tactics
import Derived.Lib.ConvBytes
import Derived.Laws.Slices
import Derived.WalkKit
import Derived.KernelRfl
import Derived.RowKit3
import Derived.Deep.LoopGhost
import Derived.Deep.QuietTactic
import Derived.BigQuiet
import Derived.WideLaws
import Derived.Deep.DeepCutAuto
import Derived.Deep.CutBlock
import Derived.Deep.RegionHeld3
import Derived.Laws.Rows
import Derived.Lib.AppendStr
import Derived.ArgAppend
import Derived.Laws.IdiomCopy
import Derived.OrdersHeld
import Derived.Laws.BitsLemmas
import Derived.RowKit
import Derived.Test.YtbiflpbajgafaaaWWords
import Derived.Test.YtbiflpbajgafaaaWLast
import Derived.Test.YtbiflpbajgafaaaWTab
import Derived.Test.YtbiflpbajgafaaaWFour
import Derived.Test.YtbiflpbajgafaaaWQPut
import Derived.Test.YtbiflpbajgafaaaWApart
import Derived.Test.YtbiflpbajgafaaaWArr
import Derived.Test.YtbiflpbajgafaaaWZeros
import Derived.Test.YtbiflpbajgafaaaWFoot
import Derived.Test.YtbiflpbajgafaaaWKept
import Derived.Test.YtbiflpbajgafaaaWShare
import Derived.Test.YtbiflpbajgafaaaWN
import Derived.Test.YtbiflpbajgafaaaWFootNe
import Derived.Test.YtbiflpbajgafaaaWAt
import Derived.Test.YtbiflpbajgafaaaWEqStruct
import Derived.Test.YtbiflpbajgafaaaWRepsOne
import Derived.Test.YtbiflpbajgafaaaWInv
import Derived.Test.YtbiflpbajgafaaaWInvWords
import Derived.Test.YtbiflpbajgafaaaWGuard
import Derived.Test.YtbiflpbajgafaaaWNEv
import Derived.Test.YtbiflpbajgafaaaWMore
namespace Go.Proofs.Ytbiflpbajgafaaa.PFnIgnoreRoot
open Go.RowKit Go.Proofs.YtbiflpbajgafaaaW.PrintWords Go.Proofs.YtbiflpbajgafaaaW.PrintLast Go.Proofs.YtbiflpbajgafaaaW.PrintMore
attribute [local go_sem] max2_int min2_int max_two min_two max_three min_three max_four min_four   -- for this text's walks alone
set_option linter.unusedVariables false
set_option linter.unusedSimpArgs false



def errW : Option Int → Value
  | none => .nilIface
  | some c => .iface 0 (.int .i64 c)
theorem errW_none : errW none = .nilIface := rfl
theorem errW_some (c : Int) : errW (some c) = .iface 0 (.int .i64 c) := rfl

theorem info9 : (Try.prog.info? 9).map (fun i => (i.zero, i.size, i.bytes)) = some (some (.string ⟨#[]⟩), 1, 16) := by kernel_rfl
-- the values' own types

end Go.Proofs.Ytbiflpbajgafaaa.PFnIgnoreRoot
