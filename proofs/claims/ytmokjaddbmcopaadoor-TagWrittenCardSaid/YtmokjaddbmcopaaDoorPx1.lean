/- Printed by a program of this session over the kit's print.py: functions of the Go program told as Lean functions, each with the proof that its call answers so. No conditions. -/
import Derived.Test.YtmokjaddbmcopaaDoorPx0
namespace Go.Proofs.YtmokjaddbmcopaaDoor.P
open Go.RowKit Go.Proofs.YtmokjaddbmcopaaDoor.G Go.Proofs.YtmokjaddbmcopaaDoorW.PrintWords Go.Proofs.YtmokjaddbmcopaaDoorW.PrintLast Go.Proofs.YtmokjaddbmcopaaDoorW.PrintMore
attribute [local go_sem high] G.str_leq G.str_gtr
attribute [local go_sem] max2_int min2_int max_two min_two max_three min_three max_four min_four   -- for this text's walks alone
set_option linter.unusedVariables false
set_option linter.unusedSimpArgs false
noncomputable section

theorem eqA33 (d : Nat) (w : World) (x0 y0 : ByteArray) (x1 y1 : ByteArray) :
    (Op.equalIn (d + 2) 33 (.agg #[.string x0, .string x1]) (.agg #[.string y0, .string y1])).run Tryd.prog w = .ok (x0.toList == y0.toList && (x1.toList == y1.toList)) w := by
  refine eqA_of Tryd.underlying33 (by kernel_rfl) ?_
  refine eqf_cons (by rfl) (by go_simp; rfl) (by go_simp; rfl) (by go_simp) ?_
  exact eqf_last (by rfl) (by go_simp; rfl) (by go_simp; rfl) (by go_simp)
end
end Go.Proofs.YtmokjaddbmcopaaDoor.P
