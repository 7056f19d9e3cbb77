-- WRITTEN BY A PROGRAM OF THIS SESSION, out of the loaded program, with words of the kit
import Derived.Test.YtcokggnbgakonaaDoorQAllx0
namespace Go.Proofs.YtcokggnbgakonaaDoor.QAll
open Go.RowKit Go.Proofs.YtcokggnbgakonaaDoorW.PrintWords Go.Proofs.YtcokggnbgakonaaDoorW.PrintLast Go.Proofs.YtcokggnbgakonaaDoorW.PrintMore
attribute [local go_sem] max2_int min2_int max_two min_two max_three min_three max_four min_four   -- for this text's walks alone
set_option linter.unusedVariables false
set_option linter.unusedSimpArgs false

theorem eqA28 (d : Nat) (w : World) (x0 y0 : Int) (x1 y1 : Int) :
    (Op.equalIn (d + 2) 28 (.agg #[.int .i64 x0, .int .i64 x1]) (.agg #[.int .i64 y0, .int .i64 y1])).run Tryd.prog w = .ok (x0 == y0 && (x1 == y1)) w := by
  refine eqA_of Tryd.underlying28 (by kernel_rfl) ?_
  refine eqf_cons (by rfl) (by go_simp; rfl) (by go_simp; rfl) (by go_simp) ?_
  exact eqf_last (by rfl) (by go_simp; rfl) (by go_simp; rfl) (by go_simp)
theorem eqA31 (d : Nat) (w : World) (x0 y0 : Int) (x1 y1 : Int) (x2 y2 : Int) (x3 y3 : Int) (x4 y4 : Int) (x5 y5 : Int) (x6 y6 : Int) (x7 y7 : Int) (x8 y8 : Int) (x9 y9 : Int) (x10 y10 : ByteArray) (x11 y11 : ByteArray) (x12 y12 : Int) (x13 y13 : Bool) (x14 y14 : Bool) :
    (Op.equalIn (d + 3) 31 (.agg #[.int .i64 x0, .int .i64 x1, .int .i64 x2, .int .i64 x3, .int .u32 x4, .int .u32 x5, .int .u32 x6, .int .u32 x7, .int .u32 x8, .int .u32 x9, .string x10, .string x11, .int .i64 x12, .bool x13, .bool x14]) (.agg #[.int .i64 y0, .int .i64 y1, .int .i64 y2, .int .i64 y3, .int .u32 y4, .int .u32 y5, .int .u32 y6, .int .u32 y7, .int .u32 y8, .int .u32 y9, .string y10, .string y11, .int .i64 y12, .bool y13, .bool y14])).run Tryd.prog w = .ok ((x0 == y0 && (x1 == y1)) && ((x2 == y2 && (x3 == y3)) && (x4 == y4 && (x5 == y5 && (x6 == y6 && (x7 == y7 && (x8 == y8 && (x9 == y9 && (x10.toList == y10.toList && (x11.toList == y11.toList && (x12 == y12 && (x13 == y13 && (x14 == y14))))))))))))) w := by
  refine eqA_of Tryd.underlying31 (by kernel_rfl) ?_
  refine eqf_cons (by rfl) (by go_simp) (by go_simp) (eqA28 (d + 0) w _ _ _ _) ?_
  refine eqf_cons (by rfl) (by go_simp) (by go_simp) (eqA28 (d + 0) w _ _ _ _) ?_
  refine eqf_cons (by rfl) (by go_simp; rfl) (by go_simp; rfl) (by go_simp) ?_
  refine eqf_cons (by rfl) (by go_simp; rfl) (by go_simp; rfl) (by go_simp) ?_
  refine eqf_cons (by rfl) (by go_simp; rfl) (by go_simp; rfl) (by go_simp) ?_
  refine eqf_cons (by rfl) (by go_simp; rfl) (by go_simp; rfl) (by go_simp) ?_
  refine eqf_cons (by rfl) (by go_simp; rfl) (by go_simp; rfl) (by go_simp) ?_
  refine eqf_cons (by rfl) (by go_simp; rfl) (by go_simp; rfl) (by go_simp) ?_
  refine eqf_cons (by rfl) (by go_simp; rfl) (by go_simp; rfl) (by go_simp) ?_
  refine eqf_cons (by rfl) (by go_simp; rfl) (by go_simp; rfl) (by go_simp) ?_
  refine eqf_cons (by rfl) (by go_simp; rfl) (by go_simp; rfl) (by go_simp) ?_
  refine eqf_cons (by rfl) (by go_simp; rfl) (by go_simp; rfl) (by go_simp) ?_
  exact eqf_last (by rfl) (by go_simp; rfl) (by go_simp; rfl) (by go_simp)
end Go.Proofs.YtcokggnbgakonaaDoor.QAll
