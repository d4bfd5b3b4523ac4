-- PRINTED BY print.sh 35421559b90ae4d0a3588c463048766b98c2df88dd9212a6774a882060cdf62d: not written by this session
import Derived.Test.YtghjjcglapfjmaaProg
import Derived.Below
import Derived.Deep.Draws
import Derived.Deep.AppendLies
import Derived.Maps.AppendAt
import Derived.OwnWalk
import Derived.Laws.BytesArg
import Derived.Laws.MakeOwn
import Derived.Laws.OwnMore
import Derived.Deep.OwnRows
import Derived.Tactics
import Derived.Lib.ConvBytes
import Derived.Laws.Slices
import Derived.WalkKit
import Derived.KernelRfl
import Derived.RowKit3
import Derived.Deep.LoopGhost
import Derived.Deep.QuietTactic
import Derived.BigQuiet
import Derived.WideLaws
import Derived.Deep.DeepCutAuto
import Derived.Deep.CutBlock
import Derived.Deep.RegionHeld3
import Derived.Laws.Rows
import Derived.Lib.AppendStr
import Derived.ArgAppend
import Derived.Laws.IdiomCopy
import Derived.OrdersHeld
import Derived.Laws.BitsLemmas
import Derived.RowKit
import Derived.Test.YtghjjcglapfjmaaWWords
import Derived.Test.YtghjjcglapfjmaaWLast
import Derived.Test.YtghjjcglapfjmaaWTab
import Derived.Test.YtghjjcglapfjmaaWFour
import Derived.Test.YtghjjcglapfjmaaWQPut
import Derived.Test.YtghjjcglapfjmaaWApart
import Derived.Test.YtghjjcglapfjmaaWArr
import Derived.Test.YtghjjcglapfjmaaWZeros
import Derived.Test.YtghjjcglapfjmaaWFoot
import Derived.Test.YtghjjcglapfjmaaWKept
import Derived.Test.YtghjjcglapfjmaaWShare
import Derived.Test.YtghjjcglapfjmaaWN
import Derived.Test.YtghjjcglapfjmaaWFootNe
import Derived.Test.YtghjjcglapfjmaaWAt
import Derived.Test.YtghjjcglapfjmaaWEqStruct
import Derived.Test.YtghjjcglapfjmaaWRepsOne
import Derived.Test.YtghjjcglapfjmaaWInv
import Derived.Test.YtghjjcglapfjmaaWInvWords
import Derived.Test.YtghjjcglapfjmaaWGuard
import Derived.Test.YtghjjcglapfjmaaWNEv
import Derived.Test.YtghjjcglapfjmaaWMore
namespace Go.Proofs.Ytghjjcglapfjmaa.PFnSequenceIs
open Go.RowKit Go.Proofs.YtghjjcglapfjmaaW.PrintWords Go.Proofs.YtghjjcglapfjmaaW.PrintLast Go.Proofs.YtghjjcglapfjmaaW.PrintMore
attribute [local go_sem] max2_int min2_int max_two min_two max_three min_three max_four min_four   -- for this text's walks alone
set_option linter.unusedVariables false
set_option linter.unusedSimpArgs false



def errW : Option Int → Value
  | none => .nilIface
  | some c => .iface 0 (.int .i64 c)
theorem errW_none : errW none = .nilIface := rfl
theorem errW_some (c : Int) : errW (some c) = .iface 0 (.int .i64 c) := rfl

-- the values' own types

end Go.Proofs.Ytghjjcglapfjmaa.PFnSequenceIs
