/- Proved: what the printed function of the law NamesShort answers is true, for all arguments within the row's own bounds: over numbers and lists alone. No further conditions. -/
import Derived.Test.YtgbgmjhnlmncnaaDoorPx10
namespace Go.Proofs.YtgbgmjhnlmncnaaDoor.Pure
open Go.RowKit Go.Proofs.YtgbgmjhnlmncnaaDoor.P Go.Proofs.YtgbgmjhnlmncnaaDoor.G Go.Proofs.YtgbgmjhnlmncnaaDoorW.PrintWords Go.Proofs.YtgbgmjhnlmncnaaDoorW.PrintLast Go.Proofs.YtgbgmjhnlmncnaaDoorW.PrintMore
set_option linter.unusedVariables false
set_option linter.unusedSimpArgs false
theorem NamesShort (a0 : Int) (w0 : (Lit.int .u16 a0).wf = true) : flaillaw06_NamesShort.f a0 = some true := by
  unfold flaillaw06_NamesShort.f; exact if_pos (wf_u16 w0)
end Go.Proofs.YtgbgmjhnlmncnaaDoor.Pure
