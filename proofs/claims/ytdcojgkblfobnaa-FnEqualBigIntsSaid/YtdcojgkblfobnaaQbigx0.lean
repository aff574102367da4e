/- Walks of the functions that laws.FnEqualBigInts reaches: each Go function comes to what the Lean function of its name tells. The shape of these texts is that of print.sh's, one of which did not build; they are kept by hand here and are no print. -/
import Derived.Test.YtdcojgkblfobnaaProg
import Derived.Below
import Derived.Deep.Draws
import Derived.Deep.AppendLies
import Derived.Maps.AppendAt
import Derived.OwnWalk
import Derived.Laws.BytesArg
import Derived.Laws.MakeOwn
import Derived.Laws.OwnMore
import Derived.Deep.OwnRows
import Derived.Tactics
import Derived.Lib.ConvBytes
import Derived.Laws.Slices
import Derived.WalkKit
import Derived.KernelRfl
import Derived.RowKit3
import Derived.Deep.LoopGhost
import Derived.Deep.QuietTactic
import Derived.BigQuiet
import Derived.WideLaws
import Derived.Deep.DeepCutAuto
import Derived.Deep.CutBlock
import Derived.Deep.RegionHeld3
import Derived.Laws.Rows
import Derived.Lib.AppendStr
import Derived.ArgAppend
import Derived.Laws.IdiomCopy
import Derived.OrdersHeld
import Derived.Laws.BitsLemmas
import Derived.RowKit
import Derived.Test.YtdcojgkblfobnaaWWords
import Derived.Test.YtdcojgkblfobnaaWLast
import Derived.Test.YtdcojgkblfobnaaWTab
import Derived.Test.YtdcojgkblfobnaaWFour
import Derived.Test.YtdcojgkblfobnaaWQPut
import Derived.Test.YtdcojgkblfobnaaWApart
import Derived.Test.YtdcojgkblfobnaaWArr
import Derived.Test.YtdcojgkblfobnaaWZeros
import Derived.Test.YtdcojgkblfobnaaWFoot
import Derived.Test.YtdcojgkblfobnaaWKept
import Derived.Test.YtdcojgkblfobnaaWShare
import Derived.Test.YtdcojgkblfobnaaWN
import Derived.Test.YtdcojgkblfobnaaWFootNe
import Derived.Test.YtdcojgkblfobnaaWAt
import Derived.Test.YtdcojgkblfobnaaWEqStruct
import Derived.Test.YtdcojgkblfobnaaWRepsOne
import Derived.Test.YtdcojgkblfobnaaWInv
import Derived.Test.YtdcojgkblfobnaaWInvWords
import Derived.Test.YtdcojgkblfobnaaWGuard
import Derived.Test.YtdcojgkblfobnaaWNEv
import Derived.Test.YtdcojgkblfobnaaWMore
namespace Go.Proofs.Ytdcojgkblfobnaa.Qbig
open Go.RowKit Go.Proofs.YtdcojgkblfobnaaW.PrintWords Go.Proofs.YtdcojgkblfobnaaW.PrintLast Go.Proofs.YtdcojgkblfobnaaW.PrintMore
attribute [local go_sem] max2_int min2_int max_two min_two max_three min_three max_four min_four   -- for this text's walks alone
set_option linter.unusedVariables false
set_option linter.unusedSimpArgs false



def errW : Option Int → Value
  | none => .nilIface
  | some c => .iface 0 (.int .i64 c)
theorem errW_none : errW none = .nilIface := rfl
theorem errW_some (c : Int) : errW (some c) = .iface 0 (.int .i64 c) := rfl

theorem info92 : (Try.prog.info? 92).map (fun i => (i.zero, i.size, i.bytes)) = some (some (.int .u64 0), 1, 8) := by kernel_rfl
-- the values' own types

end Go.Proofs.Ytdcojgkblfobnaa.Qbig
