/- Printed by a program of this session over the kit's print.py: functions of the Go program told as Lean functions, each with the proof that its call answers so. No conditions. -/
import Derived.Test.YtpcejdmhdjajcaaProg
import Derived.Below
import Derived.Deep.Draws
import Derived.Deep.AppendLies
import Derived.Maps.AppendAt
import Derived.OwnWalk
import Derived.Laws.BytesArg
import Derived.Laws.MakeOwn
import Derived.Laws.OwnMore
import Derived.Deep.OwnRows
import Derived.Tactics
import Derived.Lib.ConvBytes
import Derived.Laws.Slices
import Derived.WalkKit
import Derived.KernelRfl
import Derived.RowKit3
import Derived.Deep.LoopGhost
import Derived.Deep.QuietTactic
import Derived.BigQuiet
import Derived.WideLaws
import Derived.Deep.DeepCutAuto
import Derived.Deep.CutBlock
import Derived.Deep.RegionHeld3
import Derived.Laws.Rows
import Derived.Lib.AppendStr
import Derived.ArgAppend
import Derived.Laws.IdiomCopy
import Derived.OrdersHeld
import Derived.Laws.BitsLemmas
import Derived.RowKit
import Derived.Test.YtpcejdmhdjajcaaG
import Derived.Laws.Runes
import Derived.Test.YtpcejdmhdjajcaaGN
import Derived.Test.YtpcejdmhdjajcaaF
import Derived.WalkLawsBesides
import Derived.Test.YtpcejdmhdjajcaaWWords
import Derived.Test.YtpcejdmhdjajcaaWLast
import Derived.Test.YtpcejdmhdjajcaaWTab
import Derived.Test.YtpcejdmhdjajcaaWFour
import Derived.Test.YtpcejdmhdjajcaaWQPut
import Derived.Test.YtpcejdmhdjajcaaWApart
import Derived.Test.YtpcejdmhdjajcaaWArr
import Derived.Test.YtpcejdmhdjajcaaWZeros
import Derived.Test.YtpcejdmhdjajcaaWFoot
import Derived.Test.YtpcejdmhdjajcaaWKept
import Derived.Test.YtpcejdmhdjajcaaWShare
import Derived.Test.YtpcejdmhdjajcaaWN
import Derived.Test.YtpcejdmhdjajcaaWFootNe
import Derived.Test.YtpcejdmhdjajcaaWAt
import Derived.Test.YtpcejdmhdjajcaaWEqStruct
import Derived.Test.YtpcejdmhdjajcaaWRepsOne
import Derived.Test.YtpcejdmhdjajcaaWInv
import Derived.Test.YtpcejdmhdjajcaaWInvWords
import Derived.Test.YtpcejdmhdjajcaaWGuard
import Derived.Test.YtpcejdmhdjajcaaWNEv
import Derived.Test.YtpcejdmhdjajcaaWMore
namespace Go.Proofs.Ytpcejdmhdjajcaa.P
open Go.RowKit Go.Proofs.Ytpcejdmhdjajcaa.G Go.Proofs.YtpcejdmhdjajcaaW.PrintWords Go.Proofs.YtpcejdmhdjajcaaW.PrintLast Go.Proofs.YtpcejdmhdjajcaaW.PrintMore
attribute [local go_sem high] G.str_leq G.str_gtr
attribute [local go_sem] max2_int min2_int max_two min_two max_three min_three max_four min_four   -- for this text's walks alone
set_option linter.unusedVariables false
set_option linter.unusedSimpArgs false



def errW : Option Int → Value
  | none => .nilIface
  | some c => .iface 0 (.int .i64 c)
theorem errW_none : errW none = .nilIface := rfl
theorem errW_some (c : Int) : errW (some c) = .iface 0 (.int .i64 c) := rfl

theorem info3 : (Try.prog.info? 3).map (fun i => (i.zero, i.size, i.bytes)) = some (some (.int .i64 0), 1, 8) := by kernel_rfl
theorem info5 : (Try.prog.info? 5).map (fun i => (i.zero, i.size, i.bytes)) = some (some (.int .u8 0), 1, 1) := by kernel_rfl
-- the values' own types

end Go.Proofs.Ytpcejdmhdjajcaa.P
