/- Printed by the program extprint.py of this session, out of the kit's print and contracts of this session's own; Lean checks it. -/
import Derived.Test.YtbhcoeabhdangaaProg
import Derived.Below
import Derived.Deep.Draws
import Derived.Deep.AppendLies
import Derived.Maps.AppendAt
import Derived.OwnWalk
import Derived.Laws.BytesArg
import Derived.Laws.MakeOwn
import Derived.Laws.OwnMore
import Derived.Deep.OwnRows
import Derived.Tactics
import Derived.Lib.ConvBytes
import Derived.Laws.Slices
import Derived.WalkKit
import Derived.KernelRfl
import Derived.RowKit3
import Derived.Deep.LoopGhost
import Derived.Deep.QuietTactic
import Derived.BigQuiet
import Derived.WideLaws
import Derived.Deep.DeepCutAuto
import Derived.Deep.CutBlock
import Derived.Deep.RegionHeld3
import Derived.Laws.Rows
import Derived.Lib.AppendStr
import Derived.ArgAppend
import Derived.Laws.IdiomCopy
import Derived.OrdersHeld
import Derived.Laws.BitsLemmas
import Derived.RowKit
import Derived.Test.YtbhcoeabhdangaaWWords
import Derived.Test.YtbhcoeabhdangaaWLast
import Derived.Test.YtbhcoeabhdangaaWTab
import Derived.Test.YtbhcoeabhdangaaWFour
import Derived.Test.YtbhcoeabhdangaaWQPut
import Derived.Test.YtbhcoeabhdangaaWApart
import Derived.Test.YtbhcoeabhdangaaWArr
import Derived.Test.YtbhcoeabhdangaaWZeros
import Derived.Test.YtbhcoeabhdangaaWFoot
import Derived.Test.YtbhcoeabhdangaaWKept
import Derived.Test.YtbhcoeabhdangaaWShare
import Derived.Test.YtbhcoeabhdangaaWN
import Derived.Test.YtbhcoeabhdangaaWFootNe
import Derived.Test.YtbhcoeabhdangaaWAt
import Derived.Test.YtbhcoeabhdangaaWEqStruct
import Derived.Test.YtbhcoeabhdangaaWRepsOne
import Derived.Test.YtbhcoeabhdangaaWInv
import Derived.Test.YtbhcoeabhdangaaWInvWords
import Derived.Test.YtbhcoeabhdangaaWGuard
import Derived.Test.YtbhcoeabhdangaaWNEv
import Derived.Test.YtbhcoeabhdangaaWMore
namespace Go.Proofs.Ytbhcoeabhdangaa.PVal
open Go.RowKit Go.Proofs.YtbhcoeabhdangaaW.PrintWords Go.Proofs.YtbhcoeabhdangaaW.PrintLast Go.Proofs.YtbhcoeabhdangaaW.PrintMore
attribute [local go_sem] max2_int min2_int max_two min_two max_three min_three max_four min_four   -- for this text's walks alone
set_option linter.unusedVariables false
set_option linter.unusedSimpArgs false



def errW : Option Int → Value
  | none => .nilIface
  | some c => .iface 0 (.int .i64 c)
theorem errW_none : errW none = .nilIface := rfl
theorem errW_some (c : Int) : errW (some c) = .iface 0 (.int .i64 c) := rfl

theorem info9 : (Try.prog.info? 9).map (fun i => (i.zero, i.size, i.bytes)) = some (some (.string ⟨#[]⟩), 1, 16) := by kernel_rfl
-- the values' own types

end Go.Proofs.Ytbhcoeabhdangaa.PVal
