/- Proved: what the printed function of the law NumberReads answers is true, for all arguments within the row's own bounds: over numbers and lists alone. No further conditions. -/
import Derived.Test.YtpcejdmhdjajcaaPx15
namespace Go.Proofs.Ytpcejdmhdjajcaa.Pure
open Go.RowKit Go.Proofs.Ytpcejdmhdjajcaa.P Go.Proofs.Ytpcejdmhdjajcaa.G Go.Proofs.YtpcejdmhdjajcaaW.PrintWords Go.Proofs.YtpcejdmhdjajcaaW.PrintLast Go.Proofs.YtpcejdmhdjajcaaW.PrintMore
set_option linter.unusedVariables false
set_option linter.unusedSimpArgs false
theorem awake : flaillaw04_awake.f = some true := by decide +kernel
theorem NumberReads : flaillaw04_NumberReads.Pure := by
  intro a0 a1 a2 h0 h1
  have hr := wf_i64 h1
  rw [flaillaw04_NumberReads.f, awake, Option.bind_some]
  by_cases c : (a0.size : Int) > 300
  · rw [if_pos c]
  rw [if_neg c, number_Read_o.f, if_pos ⟨by omega, hr⟩, Option.bind_some, flailref04_Read_o.f, if_pos (by omega), Option.bind_some, if_pos rfl, if_pos rfl, if_pos rfl, if_pos (by simp), number_Value.f, if_pos (by omega), Option.bind_some, flailref04_Value_o.f, if_pos (by omega), Option.bind_some]
  simp
end Go.Proofs.Ytpcejdmhdjajcaa.Pure
