/- Proved: what the printed function of the law NamesEach answers is true, for all arguments within the row's own bounds: over numbers and lists alone. No further conditions. -/
import Derived.Test.YtpcpcimbkdogcaaDoorPx12
namespace Go.Proofs.YtpcpcimbkdogcaaDoor.Pure
open Go.RowKit Go.Proofs.YtpcpcimbkdogcaaDoor.P Go.Proofs.YtpcpcimbkdogcaaDoor.G Go.Proofs.YtpcpcimbkdogcaaDoorW.PrintWords Go.Proofs.YtpcpcimbkdogcaaDoorW.PrintLast Go.Proofs.YtpcpcimbkdogcaaDoorW.PrintMore
set_option linter.unusedVariables false
set_option linter.unusedSimpArgs false
theorem NamesEach (a0 : Int) (w0 : (Lit.int .u16 a0).wf = true) : flaillaw06_NamesEach.f a0 = some true := by
  unfold flaillaw06_NamesEach.f; exact if_pos (wf_u16 w0)
end Go.Proofs.YtpcpcimbkdogcaaDoor.Pure
