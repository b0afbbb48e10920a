-- Written by a program of this session (xprint) out of the translation; Lean checks it.
import Derived.Test.YtlbmfnjhpojghaaPFnContoursx0
namespace Go.Proofs.Ytlbmfnjhpojghaa.PFnContours
open Go.RowKit Go.Proofs.YtlbmfnjhpojghaaW.PrintWords Go.Proofs.YtlbmfnjhpojghaaW.PrintLast Go.Proofs.YtlbmfnjhpojghaaW.PrintMore
attribute [local go_sem] max2_int min2_int max_two min_two max_three min_three max_four min_four   -- for this text's walks alone
set_option linter.unusedVariables false
set_option linter.unusedSimpArgs false

attribute [local go_sem] f_add f_sub f_mul f_quo f_conv f_same f_int f_max f_store
theorem eqL34 (d : Nat) (w : World) (x y : Nat) : (Op.equalIn (d + 1) 34 (.float .f32 x) (.float .f32 y)).run Try.prog w = .ok (FloatKind.f32.format.order x y == some .eq) w := by
  rw [Op.equalIn]
  simp only [Sem.run_bind, run_underlying Try.underlying34, Result.andThen_ok, if_pos, Sem.run_pure, Op.floatEq]
theorem eqA124 (d : Nat) (w : World) (x0 y0 : Nat) (x1 y1 : Nat) :
    (Op.equalIn (d + 2) 124 (.agg #[.float .f32 x0, .float .f32 x1]) (.agg #[.float .f32 y0, .float .f32 y1])).run Try.prog w = .ok (FloatKind.f32.format.order x0 y0 == some .eq && (FloatKind.f32.format.order x1 y1 == some .eq)) w := by
  have u3 := Try.underlying34
  rw [show d + 2 = (d + 1) + 1 from rfl, Op.equalIn]
  simp only [Sem.run_bind, run_underlying Try.underlying124, Result.andThen_ok]
  simp only [Std.Legacy.Range.forIn_eq_forIn_range', Std.Legacy.Range.size, Nat.sub_zero, Nat.add_sub_cancel, Nat.div_one, List.range'_succ, List.range'_zero, List.forIn_cons, List.forIn_nil]
  go_simp
  cases h0 : (FloatKind.f32.format.order x0 y0 == some .eq) <;> cases h1 : (FloatKind.f32.format.order x1 y1 == some .eq) <;> simp [eqL34, h0, h1]
end Go.Proofs.Ytlbmfnjhpojghaa.PFnContours
