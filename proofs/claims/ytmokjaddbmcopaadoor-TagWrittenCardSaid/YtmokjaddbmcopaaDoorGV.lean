-- pruned2
/- Proved: laws of where a text ends that ends with its own tag, over lists of bytes. No conditions. -/
import Derived.Test.YtmokjaddbmcopaaDoorGL
import Derived.Test.YtmokjaddbmcopaaDoorGE
namespace Go.Proofs.YtmokjaddbmcopaaDoor.G
open Go.RowKit Go.Proofs.YtmokjaddbmcopaaDoorW.PrintWords
set_option linter.unusedVariables false
set_option linter.unusedSimpArgs false
end Go.Proofs.YtmokjaddbmcopaaDoor.G
