-- Written by ext_print.py (a wrapper round the print), with given contracts. Not trusted: Lean checks it.
import Derived.Test.YtgmhhdpggnmipaaPQx0
namespace Go.Proofs.Ytgmhhdpggnmipaa.PQ
open Go.RowKit Go.Proofs.YtgmhhdpggnmipaaW.PrintWords Go.Proofs.YtgmhhdpggnmipaaW.PrintLast
set_option linter.unusedVariables false
set_option linter.unusedSimpArgs false

theorem eqA57 (d : Nat) (w : World) (x0 y0 : Int) (x1 y1 : ByteArray) :
    (Op.equalIn (d + 2) 57 (.agg #[.int .i64 x0, .string x1]) (.agg #[.int .i64 y0, .string y1])).run Try.prog w = .ok (x0 == y0 && (x1.toList == y1.toList)) w := by
  refine eqA_of Try.underlying57 (by kernel_rfl) ?_
  refine eqf_cons (by rfl) (by go_simp; rfl) (by go_simp; rfl) (by go_simp) ?_
  exact eqf_last (by rfl) (by go_simp; rfl) (by go_simp; rfl) (by go_simp)
end Go.Proofs.Ytgmhhdpggnmipaa.PQ
