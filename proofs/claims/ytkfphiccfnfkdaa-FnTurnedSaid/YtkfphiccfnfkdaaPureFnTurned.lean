/- The law FnTurned holds for every byte: the other direction of an axis is the direction with its last bit turned, and turned twice it is itself. Condition: none. -/
import Derived.Test.YtkfphiccfnfkdaaPFnTurnedx1
namespace Go.Proofs.Ytkfphiccfnfkdaa.Pure
open Go.RowKit Go.Proofs.Ytkfphiccfnfkdaa.PFnTurned Go.Proofs.YtkfphiccfnfkdaaW.PrintWords Go.Proofs.YtkfphiccfnfkdaaW.PrintLast

theorem FnTurned : laws_FnTurned.Pure := by
  intro a0 h
  unfold laws_FnTurned.f
  have h0 : 0 ≤ a0 := by simp only [Lit.wf, Bool.and_eq_true, decide_eq_true_eq] at h; exact h.1
  have h1 : 0 ≤ Int.tmod a0 4 := Int.tmod_nonneg 4 h0
  have h2 : Int.tmod a0 4 < 4 := Int.tmod_lt_of_pos a0 (by omega)
  generalize Int.tmod a0 4 = m at *
  obtain rfl | rfl | rfl | rfl : m = 0 ∨ m = 1 ∨ m = 2 ∨ m = 3 := by omega
  all_goals decide +kernel
end Go.Proofs.Ytkfphiccfnfkdaa.Pure
