-- WRITTEN BY A PROGRAM OF THIS SESSION, out of the loaded program, with words of the kit
import Derived.Test.YthjgfdjihlciaaaDoorQAllx0
namespace Go.Proofs.YthjgfdjihlciaaaDoor.QAll
open Go.RowKit Go.Proofs.YthjgfdjihlciaaaDoorW.PrintWords Go.Proofs.YthjgfdjihlciaaaDoorW.PrintLast Go.Proofs.YthjgfdjihlciaaaDoorW.PrintMore
attribute [local go_sem] max2_int min2_int max_two min_two max_three min_three max_four min_four   -- for this text's walks alone
set_option linter.unusedVariables false
set_option linter.unusedSimpArgs false

theorem eqA28 (d : Nat) (w : World) (x0 y0 : ByteArray) (x1 y1 : Int) (x2 y2 : ByteArray) :
    (Op.equalIn (d + 2) 28 (.agg #[.string x0, .int .u32 x1, .string x2]) (.agg #[.string y0, .int .u32 y1, .string y2])).run Tryd.prog w = .ok (x0.toList == y0.toList && (x1 == y1 && (x2.toList == y2.toList))) w := by
  refine eqA_of Tryd.underlying28 (by kernel_rfl) ?_
  refine eqf_cons (by rfl) (by go_simp; rfl) (by go_simp; rfl) (by go_simp) ?_
  refine eqf_cons (by rfl) (by go_simp; rfl) (by go_simp; rfl) (by go_simp) ?_
  exact eqf_last (by rfl) (by go_simp; rfl) (by go_simp; rfl) (by go_simp)
end Go.Proofs.YthjgfdjihlciaaaDoor.QAll
