-- PRINTED BY print.sh 35421559b90ae4d0a3588c463048766b98c2df88dd9212a6774a882060cdf62d: not written by this session
import Derived.Test.YtdjilnhalpmabaaProg
import Derived.Below
import Derived.Deep.Draws
import Derived.Deep.AppendLies
import Derived.Maps.AppendAt
import Derived.OwnWalk
import Derived.Laws.BytesArg
import Derived.Laws.MakeOwn
import Derived.Laws.OwnMore
import Derived.Deep.OwnRows
import Derived.Tactics
import Derived.Lib.ConvBytes
import Derived.Laws.Slices
import Derived.WalkKit
import Derived.KernelRfl
import Derived.RowKit3
import Derived.Deep.LoopGhost
import Derived.Deep.QuietTactic
import Derived.BigQuiet
import Derived.WideLaws
import Derived.Deep.DeepCutAuto
import Derived.Deep.CutBlock
import Derived.Deep.RegionHeld3
import Derived.Laws.Rows
import Derived.Lib.AppendStr
import Derived.ArgAppend
import Derived.Laws.IdiomCopy
import Derived.OrdersHeld
import Derived.Laws.BitsLemmas
import Derived.RowKit
import Derived.Test.YtdjilnhalpmabaaWWords
import Derived.Test.YtdjilnhalpmabaaWLast
import Derived.Test.YtdjilnhalpmabaaWTab
import Derived.Test.YtdjilnhalpmabaaWFour
import Derived.Test.YtdjilnhalpmabaaWQPut
import Derived.Test.YtdjilnhalpmabaaWApart
import Derived.Test.YtdjilnhalpmabaaWArr
import Derived.Test.YtdjilnhalpmabaaWZeros
import Derived.Test.YtdjilnhalpmabaaWFoot
import Derived.Test.YtdjilnhalpmabaaWKept
import Derived.Test.YtdjilnhalpmabaaWShare
import Derived.Test.YtdjilnhalpmabaaWN
import Derived.Test.YtdjilnhalpmabaaWFootNe
import Derived.Test.YtdjilnhalpmabaaWAt
import Derived.Test.YtdjilnhalpmabaaWEqStruct
import Derived.Test.YtdjilnhalpmabaaWRepsOne
import Derived.Test.YtdjilnhalpmabaaWInv
import Derived.Test.YtdjilnhalpmabaaWInvWords
import Derived.Test.YtdjilnhalpmabaaWGuard
import Derived.Test.YtdjilnhalpmabaaWNEv
import Derived.Test.YtdjilnhalpmabaaWMore
namespace Go.Proofs.Ytdjilnhalpmabaa.PFnGjSimpleName
open Go.RowKit Go.Proofs.YtdjilnhalpmabaaW.PrintWords Go.Proofs.YtdjilnhalpmabaaW.PrintLast Go.Proofs.YtdjilnhalpmabaaW.PrintMore
attribute [local go_sem] max2_int min2_int max_two min_two max_three min_three max_four min_four   -- for this text's walks alone
set_option linter.unusedVariables false
set_option linter.unusedSimpArgs false



def errW : Option Int → Value
  | none => .nilIface
  | some c => .iface 0 (.int .i64 c)
theorem errW_none : errW none = .nilIface := rfl
theorem errW_some (c : Int) : errW (some c) = .iface 0 (.int .i64 c) := rfl

-- the values' own types

end Go.Proofs.Ytdjilnhalpmabaa.PFnGjSimpleName
