-- pruned2
/- Proved: markup is of one kind; where it begins (chapter 14). No conditions. -/
import Derived.Test.YtmokjaddbmcopaaDoorGT
namespace Go.Proofs.YtmokjaddbmcopaaDoor.G
open Go.RowKit Go.Proofs.YtmokjaddbmcopaaDoorW.PrintWords
set_option linter.unusedVariables false
set_option linter.unusedSimpArgs false
theorem tagK_two (c : UInt8) (w : List UInt8) : tagK (60 :: c :: w) = if letB c then 1 else if c = 47 ∧ hdLet w = true then 2 else 0 := rfl
end Go.Proofs.YtmokjaddbmcopaaDoor.G
