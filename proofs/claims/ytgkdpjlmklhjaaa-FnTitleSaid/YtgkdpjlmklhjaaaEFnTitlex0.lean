/- Printed by the program extprint.py of this session, out of the kit's print and contracts of this session's own; Lean checks it. -/
import Derived.Test.YtgkdpjlmklhjaaaProg
import Derived.Below
import Derived.Deep.Draws
import Derived.Deep.AppendLies
import Derived.Maps.AppendAt
import Derived.OwnWalk
import Derived.Laws.BytesArg
import Derived.Laws.MakeOwn
import Derived.Laws.OwnMore
import Derived.Deep.OwnRows
import Derived.Tactics
import Derived.Lib.ConvBytes
import Derived.Laws.Slices
import Derived.WalkKit
import Derived.KernelRfl
import Derived.RowKit3
import Derived.Deep.LoopGhost
import Derived.Deep.QuietTactic
import Derived.BigQuiet
import Derived.WideLaws
import Derived.Deep.DeepCutAuto
import Derived.Deep.CutBlock
import Derived.Deep.RegionHeld3
import Derived.Laws.Rows
import Derived.Lib.AppendStr
import Derived.ArgAppend
import Derived.Laws.IdiomCopy
import Derived.OrdersHeld
import Derived.Laws.BitsLemmas
import Derived.RowKit
import Derived.Test.YtgkdpjlmklhjaaaWWords
import Derived.Test.YtgkdpjlmklhjaaaWLast
import Derived.Test.YtgkdpjlmklhjaaaWTab
import Derived.Test.YtgkdpjlmklhjaaaWFour
import Derived.Test.YtgkdpjlmklhjaaaWQPut
import Derived.Test.YtgkdpjlmklhjaaaWApart
import Derived.Test.YtgkdpjlmklhjaaaWArr
import Derived.Test.YtgkdpjlmklhjaaaWZeros
import Derived.Test.YtgkdpjlmklhjaaaWFoot
import Derived.Test.YtgkdpjlmklhjaaaWKept
import Derived.Test.YtgkdpjlmklhjaaaWShare
import Derived.Test.YtgkdpjlmklhjaaaWN
import Derived.Test.YtgkdpjlmklhjaaaWFootNe
import Derived.Test.YtgkdpjlmklhjaaaWAt
import Derived.Test.YtgkdpjlmklhjaaaWEqStruct
import Derived.Test.YtgkdpjlmklhjaaaWRepsOne
import Derived.Test.YtgkdpjlmklhjaaaWInv
import Derived.Test.YtgkdpjlmklhjaaaWInvWords
import Derived.Test.YtgkdpjlmklhjaaaWGuard
import Derived.Test.YtgkdpjlmklhjaaaWNEv
import Derived.Test.YtgkdpjlmklhjaaaWMore
namespace Go.Proofs.Ytgkdpjlmklhjaaa.PFnTitle
open Go.RowKit Go.Proofs.YtgkdpjlmklhjaaaW.PrintWords Go.Proofs.YtgkdpjlmklhjaaaW.PrintLast Go.Proofs.YtgkdpjlmklhjaaaW.PrintMore
attribute [local go_sem] max2_int min2_int max_two min_two max_three min_three max_four min_four   -- for this text's walks alone
set_option linter.unusedVariables false
set_option linter.unusedSimpArgs false



def errW : Option Int → Value
  | none => .nilIface
  | some c => .iface 0 (.int .i64 c)
theorem errW_none : errW none = .nilIface := rfl
theorem errW_some (c : Int) : errW (some c) = .iface 0 (.int .i64 c) := rfl

theorem info5 : (Try.prog.info? 5).map (fun i => (i.zero, i.size, i.bytes)) = some (some (.int .u8 0), 1, 1) := by kernel_rfl
-- the values' own types

end Go.Proofs.Ytgkdpjlmklhjaaa.PFnTitle
