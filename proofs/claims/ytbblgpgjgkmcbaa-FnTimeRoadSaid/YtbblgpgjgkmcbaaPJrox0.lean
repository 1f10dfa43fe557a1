/- Written by a program (print.py, called by prints.sh) for this claim: Go functions as plain Lean functions, and that the code comes to their answers. -/
import Derived.Test.YtbblgpgjgkmcbaaProg
import Derived.Below
import Derived.Deep.Draws
import Derived.Deep.AppendLies
import Derived.Maps.AppendAt
import Derived.OwnWalk
import Derived.Laws.BytesArg
import Derived.Laws.MakeOwn
import Derived.Laws.OwnMore
import Derived.Deep.OwnRows
import Derived.Tactics
import Derived.Lib.ConvBytes
import Derived.Laws.Slices
import Derived.WalkKit
import Derived.KernelRfl
import Derived.RowKit3
import Derived.Deep.LoopGhost
import Derived.Deep.QuietTactic
import Derived.BigQuiet
import Derived.WideLaws
import Derived.Deep.DeepCutAuto
import Derived.Deep.CutBlock
import Derived.Deep.RegionHeld3
import Derived.Laws.Rows
import Derived.Lib.AppendStr
import Derived.ArgAppend
import Derived.Laws.IdiomCopy
import Derived.OrdersHeld
import Derived.Laws.BitsLemmas
import Derived.RowKit
import Derived.Test.YtbblgpgjgkmcbaaWWords
import Derived.Test.YtbblgpgjgkmcbaaWLast
import Derived.Test.YtbblgpgjgkmcbaaWTab
import Derived.Test.YtbblgpgjgkmcbaaWFour
import Derived.Test.YtbblgpgjgkmcbaaWQPut
import Derived.Test.YtbblgpgjgkmcbaaWApart
import Derived.Test.YtbblgpgjgkmcbaaWArr
import Derived.Test.YtbblgpgjgkmcbaaWZeros
import Derived.Test.YtbblgpgjgkmcbaaWFoot
import Derived.Test.YtbblgpgjgkmcbaaWKept
import Derived.Test.YtbblgpgjgkmcbaaWShare
import Derived.Test.YtbblgpgjgkmcbaaWN
import Derived.Test.YtbblgpgjgkmcbaaWFootNe
import Derived.Test.YtbblgpgjgkmcbaaWAt
import Derived.Test.YtbblgpgjgkmcbaaWEqStruct
import Derived.Test.YtbblgpgjgkmcbaaWRepsOne
import Derived.Test.YtbblgpgjgkmcbaaWInv
import Derived.Test.YtbblgpgjgkmcbaaWInvWords
import Derived.Test.YtbblgpgjgkmcbaaWGuard
import Derived.Test.YtbblgpgjgkmcbaaWNEv
import Derived.Test.YtbblgpgjgkmcbaaWMore
namespace Go.Proofs.Ytbblgpgjgkmcbaa.PJro
open Go.RowKit Go.Proofs.YtbblgpgjgkmcbaaW.PrintWords Go.Proofs.YtbblgpgjgkmcbaaW.PrintLast Go.Proofs.YtbblgpgjgkmcbaaW.PrintMore
attribute [local go_sem] max2_int min2_int max_two min_two max_three min_three max_four min_four   -- for this text's walks alone
set_option linter.unusedVariables false
set_option linter.unusedSimpArgs false



def errW : Option Int → Value
  | none => .nilIface
  | some c => .iface 0 (.int .i64 c)
theorem errW_none : errW none = .nilIface := rfl
theorem errW_some (c : Int) : errW (some c) = .iface 0 (.int .i64 c) := rfl

-- the values' own types

end Go.Proofs.Ytbblgpgjgkmcbaa.PJro
