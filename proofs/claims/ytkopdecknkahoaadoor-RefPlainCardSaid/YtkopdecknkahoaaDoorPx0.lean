/- Printed by a program of this session over the kit's print.py: functions of the Go program told as Lean functions, each with the proof that its call answers so. No conditions. -/
import Derived.Test.YtkopdecknkahoaaDoorProg
import Derived.Below
import Derived.Deep.Draws
import Derived.Deep.AppendLies
import Derived.Maps.AppendAt
import Derived.OwnWalk
import Derived.Laws.BytesArg
import Derived.Laws.MakeOwn
import Derived.Laws.OwnMore
import Derived.Deep.OwnRows
import Derived.Tactics
import Derived.Lib.ConvBytes
import Derived.Laws.Slices
import Derived.WalkKit
import Derived.KernelRfl
import Derived.RowKit3
import Derived.Deep.LoopGhost
import Derived.Deep.QuietTactic
import Derived.BigQuiet
import Derived.WideLaws
import Derived.Deep.DeepCutAuto
import Derived.Deep.CutBlock
import Derived.Deep.RegionHeld3
import Derived.Laws.Rows
import Derived.Lib.AppendStr
import Derived.ArgAppend
import Derived.Laws.IdiomCopy
import Derived.OrdersHeld
import Derived.Laws.BitsLemmas
import Derived.RowKit
import Derived.Test.YtkopdecknkahoaaDoorG
import Derived.Test.YtkopdecknkahoaaDoorGR
import Derived.Lib.Builder
import Derived.Test.YtkopdecknkahoaaDoorShelf
import Derived.Outline
import Derived.Handy
import Derived.Test.YtkopdecknkahoaaDoorGC
import Derived.Test.YtkopdecknkahoaaDoorGW
import Derived.Test.YtkopdecknkahoaaDoorF
import Derived.WalkLawsBesides
import Derived.Laws.Runes
import Derived.Test.YtkopdecknkahoaaDoorGN
import Derived.ScopeJumps
import Derived.Test.YtkopdecknkahoaaDoorGS
import Derived.Test.YtkopdecknkahoaaDoorWWords
import Derived.Test.YtkopdecknkahoaaDoorWLast
import Derived.Test.YtkopdecknkahoaaDoorWTab
import Derived.Test.YtkopdecknkahoaaDoorWFour
import Derived.Test.YtkopdecknkahoaaDoorWQPut
import Derived.Test.YtkopdecknkahoaaDoorWApart
import Derived.Test.YtkopdecknkahoaaDoorWArr
import Derived.Test.YtkopdecknkahoaaDoorWZeros
import Derived.Test.YtkopdecknkahoaaDoorWFoot
import Derived.Test.YtkopdecknkahoaaDoorWKept
import Derived.Test.YtkopdecknkahoaaDoorWShare
import Derived.Test.YtkopdecknkahoaaDoorWN
import Derived.Test.YtkopdecknkahoaaDoorWFootNe
import Derived.Test.YtkopdecknkahoaaDoorWAt
import Derived.Test.YtkopdecknkahoaaDoorWEqStruct
import Derived.Test.YtkopdecknkahoaaDoorWRepsOne
import Derived.Test.YtkopdecknkahoaaDoorWInv
import Derived.Test.YtkopdecknkahoaaDoorWInvWords
import Derived.Test.YtkopdecknkahoaaDoorWGuard
import Derived.Test.YtkopdecknkahoaaDoorWNEv
import Derived.Test.YtkopdecknkahoaaDoorWMore
namespace Go.Proofs.YtkopdecknkahoaaDoor.P
open Go.RowKit Go.Proofs.YtkopdecknkahoaaDoor.G Go.Proofs.YtkopdecknkahoaaDoorW.PrintWords Go.Proofs.YtkopdecknkahoaaDoorW.PrintLast Go.Proofs.YtkopdecknkahoaaDoorW.PrintMore
attribute [local go_sem high] G.str_leq G.str_gtr
attribute [local go_sem] max2_int min2_int max_two min_two max_three min_three max_four min_four   -- for this text's walks alone
set_option linter.unusedVariables false
set_option linter.unusedSimpArgs false
noncomputable section



def errW : Option Int → Value
  | none => .nilIface
  | some c => .iface 0 (.int .i64 c)
theorem errW_none : errW none = .nilIface := rfl
theorem errW_some (c : Int) : errW (some c) = .iface 0 (.int .i64 c) := rfl

theorem info3 : (Tryd.prog.info? 3).map (fun i => (i.zero, i.size, i.bytes)) = some (some (.int .i64 0), 1, 8) := by kernel_rfl
theorem info5 : (Tryd.prog.info? 5).map (fun i => (i.zero, i.size, i.bytes)) = some (some (.int .u8 0), 1, 1) := by kernel_rfl
-- the values' own types

end
end Go.Proofs.YtkopdecknkahoaaDoor.P
