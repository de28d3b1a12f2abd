/- Printed by a program of this session over the kit's print.py: functions of the Go program told as Lean functions, each with the proof that its call answers so. No conditions. -/
import Derived.Test.YthmaiolfpinfmaaGreatDoorProg
import Derived.Below
import Derived.Deep.Draws
import Derived.Deep.AppendLies
import Derived.Maps.AppendAt
import Derived.OwnWalk
import Derived.Laws.BytesArg
import Derived.Laws.MakeOwn
import Derived.Laws.OwnMore
import Derived.Deep.OwnRows
import Derived.Tactics
import Derived.Lib.ConvBytes
import Derived.Laws.Slices
import Derived.WalkKit
import Derived.KernelRfl
import Derived.RowKit3
import Derived.Deep.LoopGhost
import Derived.Deep.QuietTactic
import Derived.BigQuiet
import Derived.WideLaws
import Derived.Deep.DeepCutAuto
import Derived.Deep.CutBlock
import Derived.Deep.RegionHeld3
import Derived.Laws.Rows
import Derived.Lib.AppendStr
import Derived.ArgAppend
import Derived.Laws.IdiomCopy
import Derived.OrdersHeld
import Derived.Laws.BitsLemmas
import Derived.RowKit
import Derived.Test.YthmaiolfpinfmaaGreatDoorG
import Derived.Test.YthmaiolfpinfmaaGreatDoorGT
import Derived.Lib.Builder
import Derived.Test.YthmaiolfpinfmaaGreatDoorShelf
import Derived.Outline
import Derived.Handy
import Derived.Test.YthmaiolfpinfmaaGreatDoorGC
import Derived.Test.YthmaiolfpinfmaaGreatDoorGW
import Derived.Test.YthmaiolfpinfmaaGreatDoorF
import Derived.WalkLawsBesides
import Derived.Laws.Runes
import Derived.Test.YthmaiolfpinfmaaGreatDoorGN
import Derived.ScopeJumps
import Derived.Test.YthmaiolfpinfmaaGreatDoorGR
import Derived.Test.YthmaiolfpinfmaaGreatDoorGS
import Derived.Test.YthmaiolfpinfmaaGreatDoorGI
import Derived.LoopTactic
import Derived.LoopN
import Derived.Laws.EntriesVeiled
import Derived.Test.YthmaiolfpinfmaaGreatDoorGU
import Derived.Test.YthmaiolfpinfmaaGreatDoorWWords
import Derived.Test.YthmaiolfpinfmaaGreatDoorWMore
namespace Go.Proofs.YthmaiolfpinfmaaGreatDoor.P
open Go.RowKit Go.Proofs.YthmaiolfpinfmaaGreatDoor.G Go.Proofs.YthmaiolfpinfmaaGreatDoorW.PrintWords Go.Proofs.YthmaiolfpinfmaaGreatDoorW.PrintLast Go.Proofs.YthmaiolfpinfmaaGreatDoorW.PrintMore
attribute [local go_sem high] G.str_leq G.str_gtr
attribute [local go_sem] max2_int min2_int max_two min_two max_three min_three max_four min_four   -- for this text's walks alone
set_option linter.unusedVariables false
set_option linter.unusedSimpArgs false
noncomputable section



def errW : Option Int → Value
  | none => .nilIface
  | some c => .iface 0 (.int .i64 c)
theorem errW_none : errW none = .nilIface := rfl
theorem errW_some (c : Int) : errW (some c) = .iface 0 (.int .i64 c) := rfl

theorem info3 : (Tryz.prog.info? 3).map (fun i => (i.zero, i.size, i.bytes)) = some (some (.int .i64 0), 1, 8) := by kernel_rfl
theorem info5 : (Tryz.prog.info? 5).map (fun i => (i.zero, i.size, i.bytes)) = some (some (.int .u8 0), 1, 1) := by kernel_rfl
-- the values' own types

end
end Go.Proofs.YthmaiolfpinfmaaGreatDoor.P
