/- Proved: what the printed function of the law NumberFixes answers is true, for all arguments within the row's own bounds: over numbers and lists alone. No further conditions. -/
import Derived.Test.YtpcejdmhdjajcaaPx12
namespace Go.Proofs.Ytpcejdmhdjajcaa.Pure
open Go.RowKit Go.Proofs.Ytpcejdmhdjajcaa.P Go.Proofs.Ytpcejdmhdjajcaa.G Go.Proofs.YtpcejdmhdjajcaaW.PrintWords Go.Proofs.YtpcejdmhdjajcaaW.PrintLast Go.Proofs.YtpcejdmhdjajcaaW.PrintMore
set_option linter.unusedVariables false
set_option linter.unusedSimpArgs false
theorem awake : flaillaw04_awake.f = some true := by decide +kernel
theorem NumberFixes : flaillaw04_NumberFixes.Pure := by
  intro a0 h
  have hr := wf_i64 h
  rw [flaillaw04_NumberFixes.f, awake, Option.bind_some, if_pos rfl, number_Fix.f, if_pos hr, Option.bind_some, flailref04_Fix_o.f, Option.bind_some]
  simp
end Go.Proofs.Ytpcejdmhdjajcaa.Pure
