/- Proved: what the printed function of the law SignLowers answers is true, for all arguments within the row's own bounds: over numbers and lists alone. No further conditions. -/
import Derived.Test.YtpcejdmhdjajcaaPx6
namespace Go.Proofs.Ytpcejdmhdjajcaa.Pure
open Go.RowKit Go.Proofs.Ytpcejdmhdjajcaa.P Go.Proofs.Ytpcejdmhdjajcaa.G Go.Proofs.YtpcejdmhdjajcaaW.PrintWords Go.Proofs.YtpcejdmhdjajcaaW.PrintLast Go.Proofs.YtpcejdmhdjajcaaW.PrintMore
set_option linter.unusedVariables false
set_option linter.unusedSimpArgs false
theorem awake : flaillaw03_awake.f = some true := by decide +kernel
theorem SignLowers : flaillaw03_SignLowers.Pure := by
  intro a0 a1 a2 h0 h1 h2
  refine ⟨1, ?_⟩
  unfold flaillaw03_SignLowers.f
  rw [awake, Option.bind_some]
  by_cases c1 : (a0.size : Int) > 300
  · rw [if_pos c1]; rfl
  rw [if_neg c1]
  by_cases c2 : 300 < (a2.size : Int)
  · rw [decide_eq_true c2]; rfl
  rw [decide_eq_false c2]
  simp [flaillaw03_SignLowers.j0, sign_Lower.f, flailref03_Lower_o.f, sign_Begins_o.f, flailref03_Begins_o.f, show a0.size ≤ 1099511627776 by omega, show a2.size ≤ 1099511627776 by omega]
end Go.Proofs.Ytpcejdmhdjajcaa.Pure
