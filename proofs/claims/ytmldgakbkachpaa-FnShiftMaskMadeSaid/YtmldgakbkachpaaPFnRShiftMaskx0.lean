-- PRINTED BY print.sh 35421559b90ae4d0a3588c463048766b98c2df88dd9212a6774a882060cdf62d: not written by this session
import Derived.Test.YtmldgakbkachpaaProg
import Derived.Below
import Derived.Deep.Draws
import Derived.Deep.AppendLies
import Derived.Maps.AppendAt
import Derived.OwnWalk
import Derived.Laws.BytesArg
import Derived.Laws.MakeOwn
import Derived.Laws.OwnMore
import Derived.Deep.OwnRows
import Derived.Tactics
import Derived.Lib.ConvBytes
import Derived.Laws.Slices
import Derived.WalkKit
import Derived.KernelRfl
import Derived.RowKit3
import Derived.Deep.LoopGhost
import Derived.Deep.QuietTactic
import Derived.BigQuiet
import Derived.WideLaws
import Derived.Deep.DeepCutAuto
import Derived.Deep.CutBlock
import Derived.Deep.RegionHeld3
import Derived.Laws.Rows
import Derived.Lib.AppendStr
import Derived.ArgAppend
import Derived.Laws.IdiomCopy
import Derived.OrdersHeld
import Derived.Laws.BitsLemmas
import Derived.RowKit
import Derived.Test.YtmldgakbkachpaaWWords
import Derived.Test.YtmldgakbkachpaaWLast
import Derived.Test.YtmldgakbkachpaaWTab
import Derived.Test.YtmldgakbkachpaaWFour
import Derived.Test.YtmldgakbkachpaaWQPut
import Derived.Test.YtmldgakbkachpaaWApart
import Derived.Test.YtmldgakbkachpaaWArr
import Derived.Test.YtmldgakbkachpaaWZeros
import Derived.Test.YtmldgakbkachpaaWFoot
import Derived.Test.YtmldgakbkachpaaWKept
import Derived.Test.YtmldgakbkachpaaWShare
import Derived.Test.YtmldgakbkachpaaWN
import Derived.Test.YtmldgakbkachpaaWFootNe
import Derived.Test.YtmldgakbkachpaaWAt
import Derived.Test.YtmldgakbkachpaaWEqStruct
import Derived.Test.YtmldgakbkachpaaWRepsOne
import Derived.Test.YtmldgakbkachpaaWInv
import Derived.Test.YtmldgakbkachpaaWInvWords
import Derived.Test.YtmldgakbkachpaaWGuard
import Derived.Test.YtmldgakbkachpaaWNEv
import Derived.Test.YtmldgakbkachpaaWMore
namespace Go.Proofs.Ytmldgakbkachpaa.PFnRShiftMask
open Go.RowKit Go.Proofs.YtmldgakbkachpaaW.PrintWords Go.Proofs.YtmldgakbkachpaaW.PrintLast Go.Proofs.YtmldgakbkachpaaW.PrintMore
attribute [local go_sem] max2_int min2_int max_two min_two max_three min_three max_four min_four   -- for this text's walks alone
set_option linter.unusedVariables false
set_option linter.unusedSimpArgs false



def errW : Option Int → Value
  | none => .nilIface
  | some c => .iface 0 (.int .i64 c)
theorem errW_none : errW none = .nilIface := rfl
theorem errW_some (c : Int) : errW (some c) = .iface 0 (.int .i64 c) := rfl

-- the values' own types

end Go.Proofs.Ytmldgakbkachpaa.PFnRShiftMask
