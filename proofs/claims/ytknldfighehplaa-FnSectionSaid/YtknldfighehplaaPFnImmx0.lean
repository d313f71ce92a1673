-- PRINTED BY print.sh 35421559b90ae4d0a3588c463048766b98c2df88dd9212a6774a882060cdf62d: not written by this session
import Derived.Test.YtknldfighehplaaProg
import Derived.Below
import Derived.Deep.Draws
import Derived.Deep.AppendLies
import Derived.Maps.AppendAt
import Derived.OwnWalk
import Derived.Laws.BytesArg
import Derived.Laws.MakeOwn
import Derived.Laws.OwnMore
import Derived.Deep.OwnRows
import Derived.Tactics
import Derived.Lib.ConvBytes
import Derived.Laws.Slices
import Derived.WalkKit
import Derived.KernelRfl
import Derived.RowKit3
import Derived.Deep.LoopGhost
import Derived.Deep.QuietTactic
import Derived.BigQuiet
import Derived.WideLaws
import Derived.Deep.DeepCutAuto
import Derived.Deep.CutBlock
import Derived.Deep.RegionHeld3
import Derived.Laws.Rows
import Derived.Lib.AppendStr
import Derived.ArgAppend
import Derived.Laws.IdiomCopy
import Derived.OrdersHeld
import Derived.Laws.BitsLemmas
import Derived.RowKit
import Derived.Test.YtknldfighehplaaWWords
import Derived.Test.YtknldfighehplaaWLast
import Derived.Test.YtknldfighehplaaWTab
import Derived.Test.YtknldfighehplaaWFour
import Derived.Test.YtknldfighehplaaWQPut
import Derived.Test.YtknldfighehplaaWApart
import Derived.Test.YtknldfighehplaaWArr
import Derived.Test.YtknldfighehplaaWZeros
import Derived.Test.YtknldfighehplaaWFoot
import Derived.Test.YtknldfighehplaaWKept
import Derived.Test.YtknldfighehplaaWShare
import Derived.Test.YtknldfighehplaaWN
import Derived.Test.YtknldfighehplaaWFootNe
import Derived.Test.YtknldfighehplaaWAt
import Derived.Test.YtknldfighehplaaWEqStruct
import Derived.Test.YtknldfighehplaaWRepsOne
import Derived.Test.YtknldfighehplaaWInv
import Derived.Test.YtknldfighehplaaWInvWords
import Derived.Test.YtknldfighehplaaWGuard
import Derived.Test.YtknldfighehplaaWNEv
import Derived.Test.YtknldfighehplaaWMore
namespace Go.Proofs.Ytknldfighehplaa.PFnImm
open Go.RowKit Go.Proofs.YtknldfighehplaaW.PrintWords Go.Proofs.YtknldfighehplaaW.PrintLast Go.Proofs.YtknldfighehplaaW.PrintMore
attribute [local go_sem] max2_int min2_int max_two min_two max_three min_three max_four min_four   -- for this text's walks alone
set_option linter.unusedVariables false
set_option linter.unusedSimpArgs false



def errW : Option Int → Value
  | none => .nilIface
  | some c => .iface 0 (.int .i64 c)
theorem errW_none : errW none = .nilIface := rfl
theorem errW_some (c : Int) : errW (some c) = .iface 0 (.int .i64 c) := rfl

-- the values' own types

end Go.Proofs.Ytknldfighehplaa.PFnImm
