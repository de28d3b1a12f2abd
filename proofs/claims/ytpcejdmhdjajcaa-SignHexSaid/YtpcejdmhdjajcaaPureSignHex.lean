/- Proved: what the printed function of the law SignHex answers is true, for all arguments within the row's own bounds: over numbers and lists alone. No further conditions. -/
import Derived.Test.YtpcejdmhdjajcaaPx7
namespace Go.Proofs.Ytpcejdmhdjajcaa.Pure
open Go.RowKit Go.Proofs.Ytpcejdmhdjajcaa.P Go.Proofs.Ytpcejdmhdjajcaa.G Go.Proofs.YtpcejdmhdjajcaaW.PrintWords Go.Proofs.YtpcejdmhdjajcaaW.PrintLast Go.Proofs.YtpcejdmhdjajcaaW.PrintMore
set_option linter.unusedVariables false
set_option linter.unusedSimpArgs false
theorem SignHex : flaillaw03_SignHex.Pure := by
  intro a0 h
  obtain ⟨h0, h1⟩ := wf_u8 h
  exact byte_all (p := fun c => flaillaw03_SignHex.f c = some true) (by decide +kernel) h0 h1
end Go.Proofs.Ytpcejdmhdjajcaa.Pure
