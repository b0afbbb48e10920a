-- Written by a program of this session (xprint) out of the translation; Lean checks it.
import Derived.Test.YtlbmfnjhpojghaaPFnContoursx0
import Derived.Test.YtlbmfnjhpojghaaPFnContoursx1
namespace Go.Proofs.Ytlbmfnjhpojghaa.PFnContours
open Go.RowKit Go.Proofs.YtlbmfnjhpojghaaW.PrintWords Go.Proofs.YtlbmfnjhpojghaaW.PrintLast Go.Proofs.YtlbmfnjhpojghaaW.PrintMore
attribute [local go_sem] max2_int min2_int max_two min_two max_three min_three max_four min_four   -- for this text's walks alone
set_option linter.unusedVariables false
set_option linter.unusedSimpArgs false

attribute [local go_sem] f_add f_sub f_mul f_quo f_conv f_same f_int f_max f_store
theorem eqA129 (d : Nat) (w : World) (x0 y0 : Bool) (x1 y1 : Nat) (x2 y2 : Nat) (x3 y3 : Nat) (x4 y4 : Nat) (x5 y5 : Nat) (x6 y6 : Nat) :
    (Op.equalIn (d + 3) 129 (.agg #[.bool x0, .float .f32 x1, .float .f32 x2, .float .f32 x3, .float .f32 x4, .float .f32 x5, .float .f32 x6]) (.agg #[.bool y0, .float .f32 y1, .float .f32 y2, .float .f32 y3, .float .f32 y4, .float .f32 y5, .float .f32 y6])).run Try.prog w = .ok (x0 == y0 && ((FloatKind.f32.format.order x1 y1 == some .eq && (FloatKind.f32.format.order x2 y2 == some .eq)) && ((FloatKind.f32.format.order x3 y3 == some .eq && (FloatKind.f32.format.order x4 y4 == some .eq)) && ((FloatKind.f32.format.order x5 y5 == some .eq && (FloatKind.f32.format.order x6 y6 == some .eq)))))) w := by
  refine eqA_of Try.underlying129 (by kernel_rfl) ?_
  refine eqf_cons (by rfl) (by go_simp; rfl) (by go_simp; rfl) (by go_simp) ?_
  refine eqf_cons (by rfl) (by go_simp) (by go_simp) (eqA124 (d + 0) w _ _ _ _) ?_
  refine eqf_cons (by rfl) (by go_simp) (by go_simp) (eqA124 (d + 0) w _ _ _ _) ?_
  exact eqf_last (by rfl) (by go_simp) (by go_simp) (eqA124 (d + 0) w _ _ _ _)
end Go.Proofs.Ytlbmfnjhpojghaa.PFnContours
