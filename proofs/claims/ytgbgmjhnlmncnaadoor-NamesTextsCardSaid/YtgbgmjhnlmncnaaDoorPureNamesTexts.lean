/- Proved: what the printed function of the law NamesTexts answers is true, for all arguments within the row's own bounds: over numbers and lists alone. No further conditions. -/
import Derived.Test.YtgbgmjhnlmncnaaDoorPx11
namespace Go.Proofs.YtgbgmjhnlmncnaaDoor.Pure
open Go.RowKit Go.Proofs.YtgbgmjhnlmncnaaDoor.P Go.Proofs.YtgbgmjhnlmncnaaDoor.G Go.Proofs.YtgbgmjhnlmncnaaDoorW.PrintWords Go.Proofs.YtgbgmjhnlmncnaaDoorW.PrintLast Go.Proofs.YtgbgmjhnlmncnaaDoorW.PrintMore
set_option linter.unusedVariables false
set_option linter.unusedSimpArgs false
theorem NamesTexts (a0 a1 : Int) (w0 : (Lit.int .u32 a0).wf = true) (w1 : (Lit.int .u32 a1).wf = true) : flaillaw06_NamesTexts.f a0 a1 = some true := by
  have h0 := wf_u32 w0
  have h1 := wf_u32 w1
  unfold flaillaw06_NamesTexts.f; exact if_pos ⟨h0.1, h0.2, h1⟩
end Go.Proofs.YtgbgmjhnlmncnaaDoor.Pure
