/- Printed by a program of this session over the kit's print.py: functions of the Go program told as Lean functions, each with the proof that its call answers so. No conditions. -/
import Derived.Test.YthmaiolfpinfmaaDoorProg
import Derived.Below
import Derived.Deep.Draws
import Derived.Deep.AppendLies
import Derived.Maps.AppendAt
import Derived.OwnWalk
import Derived.Laws.BytesArg
import Derived.Laws.MakeOwn
import Derived.Laws.OwnMore
import Derived.Deep.OwnRows
import Derived.Tactics
import Derived.Lib.ConvBytes
import Derived.Laws.Slices
import Derived.WalkKit
import Derived.KernelRfl
import Derived.RowKit3
import Derived.Deep.LoopGhost
import Derived.Deep.QuietTactic
import Derived.BigQuiet
import Derived.WideLaws
import Derived.Deep.DeepCutAuto
import Derived.Deep.CutBlock
import Derived.Deep.RegionHeld3
import Derived.Laws.Rows
import Derived.Lib.AppendStr
import Derived.ArgAppend
import Derived.Laws.IdiomCopy
import Derived.OrdersHeld
import Derived.Laws.BitsLemmas
import Derived.RowKit
import Derived.Test.YthmaiolfpinfmaaDoorG
import Derived.Test.YthmaiolfpinfmaaDoorGT
import Derived.Lib.Builder
import Derived.Test.YthmaiolfpinfmaaDoorShelf
import Derived.Outline
import Derived.Handy
import Derived.Test.YthmaiolfpinfmaaDoorGC
import Derived.Test.YthmaiolfpinfmaaDoorGW
import Derived.Test.YthmaiolfpinfmaaDoorF
import Derived.WalkLawsBesides
import Derived.Laws.Runes
import Derived.Test.YthmaiolfpinfmaaDoorGN
import Derived.ScopeJumps
import Derived.Test.YthmaiolfpinfmaaDoorGS
import Derived.Test.YthmaiolfpinfmaaDoorGI
import Derived.LoopTactic
import Derived.LoopN
import Derived.Laws.EntriesVeiled
import Derived.Test.YthmaiolfpinfmaaDoorGR
import Derived.Test.YthmaiolfpinfmaaDoorWWords
import Derived.Test.YthmaiolfpinfmaaDoorWLast
import Derived.Test.YthmaiolfpinfmaaDoorWTab
import Derived.Test.YthmaiolfpinfmaaDoorWFour
import Derived.Test.YthmaiolfpinfmaaDoorWQPut
import Derived.Test.YthmaiolfpinfmaaDoorWApart
import Derived.Test.YthmaiolfpinfmaaDoorWArr
import Derived.Test.YthmaiolfpinfmaaDoorWZeros
import Derived.Test.YthmaiolfpinfmaaDoorWFoot
import Derived.Test.YthmaiolfpinfmaaDoorWKept
import Derived.Test.YthmaiolfpinfmaaDoorWShare
import Derived.Test.YthmaiolfpinfmaaDoorWN
import Derived.Test.YthmaiolfpinfmaaDoorWFootNe
import Derived.Test.YthmaiolfpinfmaaDoorWAt
import Derived.Test.YthmaiolfpinfmaaDoorWEqStruct
import Derived.Test.YthmaiolfpinfmaaDoorWRepsOne
import Derived.Test.YthmaiolfpinfmaaDoorWInv
import Derived.Test.YthmaiolfpinfmaaDoorWInvWords
import Derived.Test.YthmaiolfpinfmaaDoorWGuard
import Derived.Test.YthmaiolfpinfmaaDoorWNEv
import Derived.Test.YthmaiolfpinfmaaDoorWMore
namespace Go.Proofs.YthmaiolfpinfmaaDoor.P
open Go.RowKit Go.Proofs.YthmaiolfpinfmaaDoor.G Go.Proofs.YthmaiolfpinfmaaDoorW.PrintWords Go.Proofs.YthmaiolfpinfmaaDoorW.PrintLast Go.Proofs.YthmaiolfpinfmaaDoorW.PrintMore
attribute [local go_sem high] G.str_leq G.str_gtr
attribute [local go_sem] max2_int min2_int max_two min_two max_three min_three max_four min_four   -- for this text's walks alone
set_option linter.unusedVariables false
set_option linter.unusedSimpArgs false
noncomputable section



def errW : Option Int → Value
  | none => .nilIface
  | some c => .iface 0 (.int .i64 c)
theorem errW_none : errW none = .nilIface := rfl
theorem errW_some (c : Int) : errW (some c) = .iface 0 (.int .i64 c) := rfl

theorem info5 : (Tryd.prog.info? 5).map (fun i => (i.zero, i.size, i.bytes)) = some (some (.int .u8 0), 1, 1) := by kernel_rfl
theorem info9 : (Tryd.prog.info? 9).map (fun i => (i.zero, i.size, i.bytes)) = some (some (.string ⟨#[]⟩), 1, 16) := by kernel_rfl
-- the values' own types

end
end Go.Proofs.YthmaiolfpinfmaaDoor.P
