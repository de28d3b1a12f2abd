-- pruned2
/- Proved: what some names stand for, by the kernel's own look into the program's list; where the longest name ends. No conditions. -/
import Derived.Test.YtmokjaddbmcopaaDoorGR
namespace Go.Proofs.YtmokjaddbmcopaaDoor.G
open Go.RowKit Go.Proofs.YtmokjaddbmcopaaDoorW.PrintWords
set_option linter.unusedVariables false
set_option linter.unusedSimpArgs false
end Go.Proofs.YtmokjaddbmcopaaDoor.G
