/- Proved: what the printed function of the law NamesTells answers is true, for all arguments within the row's own bounds: over numbers and lists alone. No further conditions. -/
import Derived.Test.YtgbgmjhnlmncnaaDoorPx8
namespace Go.Proofs.YtgbgmjhnlmncnaaDoor.Pure
open Go.RowKit Go.Proofs.YtgbgmjhnlmncnaaDoor.P Go.Proofs.YtgbgmjhnlmncnaaDoor.G Go.Proofs.YtgbgmjhnlmncnaaDoorW.PrintWords Go.Proofs.YtgbgmjhnlmncnaaDoorW.PrintLast Go.Proofs.YtgbgmjhnlmncnaaDoorW.PrintMore
set_option linter.unusedVariables false
set_option linter.unusedSimpArgs false
theorem NamesTells (a0 a1 : ByteArray) (a2 : Int) (w0 : a0.size ≤ 140737488351232) (w1 : a1.size ≤ 140737488351232) (w2 : (Lit.int .i64 a2).wf = true) : flaillaw06_NamesTells.f a0 a1 a2 = some true := by
  unfold flaillaw06_NamesTells.f; exact if_pos ⟨w0, w1, wf_i64 w2⟩
end Go.Proofs.YtgbgmjhnlmncnaaDoor.Pure
