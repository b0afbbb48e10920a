-- Written by a program of this session (xprint) out of the translation; Lean checks it.
import Derived.Test.YtkfphiccfnfkdaaRows
import Derived.Test.YtkfphiccfnfkdaaPFnBearingsx3
import Derived.Test.YtkfphiccfnfkdaaPureFnBearings
import Derived.Test.YtkfphiccfnfkdaaReads
import Derived.WalkKit
import Derived.ProofKit
import Derived.OpenShut
import Derived.ShutString
import Derived.ChangeOld
import Derived.Below
import Derived.SizedLaws
import Derived.Test.YtkfphiccfnfkdaaWSized
namespace Go.Proofs.Ytkfphiccfnfkdaa.fnBearings
open Go.ChangeShapes Go.WideShapes Go.ChangeAt Go.RowKit
open Go.ChangeMaps (open_string shut_string)
set_option linter.unusedVariables false
theorem own : ownKnob Try.prog.godebug = none := by kernel_rfl
theorem laidOut : laidOutB Try.prog = true := by kernel_rfl
def IsRow (k : IntKind) (w : World) (a : Option Addr) (len cap : Nat) (zs : List Int) : Prop :=
  (a = none ∧ len = 0 ∧ cap = 0 ∧ zs = []) ∨
  ∃ x, a = some x ∧ len ≤ cap ∧ cap ≤ maxLen ∧ zs.length = cap ∧ (∀ i, i < zs.length → w.cell? (x.add i) = some (.int k (zs.getD i 0))) ∧ ∀ n ∈ zs, (Lit.int k n).wf = true
theorem o36 : Go.Proofs.Ytkfphiccfnfkdaa.Reads.Opens Try.prog 36 PFnBearings.k36 PFnBearings.good36 := Go.Proofs.Ytkfphiccfnfkdaa.Reads.Opens.structB (P := Try.prog) (t := 36) (f := (fun x : PFnBearings.S36 => (x.f0, x.f1, x.f2, x.f3, x.f4, x.f5, x.f6, x.f7, x.f8, x.f9))) (fun y => ⟨y.1, y.2.1, y.2.2.1, y.2.2.2.1, y.2.2.2.2.1, y.2.2.2.2.2.1, y.2.2.2.2.2.2.1, y.2.2.2.2.2.2.2.1, y.2.2.2.2.2.2.2.2.1, y.2.2.2.2.2.2.2.2.2⟩) (fun _ => rfl) Try.underlying36 (by kernel_rfl) (by kernel_rfl) (by kernel_rfl) (Go.Proofs.Ytkfphiccfnfkdaa.Reads.OpensL.cons (Go.Proofs.Ytkfphiccfnfkdaa.Reads.Opens.int Try.underlying3 (by kernel_rfl)) (Go.Proofs.Ytkfphiccfnfkdaa.Reads.OpensL.cons (Go.Proofs.Ytkfphiccfnfkdaa.Reads.Opens.int Try.underlying3 (by kernel_rfl)) (Go.Proofs.Ytkfphiccfnfkdaa.Reads.OpensL.cons (Go.Proofs.Ytkfphiccfnfkdaa.Reads.Opens.int Try.underlying3 (by kernel_rfl)) (Go.Proofs.Ytkfphiccfnfkdaa.Reads.OpensL.cons (Go.Proofs.Ytkfphiccfnfkdaa.Reads.Opens.int Try.underlying3 (by kernel_rfl)) (Go.Proofs.Ytkfphiccfnfkdaa.Reads.OpensL.cons (Go.Proofs.Ytkfphiccfnfkdaa.Reads.Opens.int Try.underlying3 (by kernel_rfl)) (Go.Proofs.Ytkfphiccfnfkdaa.Reads.OpensL.cons (Go.Proofs.Ytkfphiccfnfkdaa.Reads.Opens.int Try.underlying3 (by kernel_rfl)) (Go.Proofs.Ytkfphiccfnfkdaa.Reads.OpensL.cons (Go.Proofs.Ytkfphiccfnfkdaa.Reads.Opens.int Try.underlying3 (by kernel_rfl)) (Go.Proofs.Ytkfphiccfnfkdaa.Reads.OpensL.cons (Go.Proofs.Ytkfphiccfnfkdaa.Reads.Opens.int Try.underlying3 (by kernel_rfl)) (Go.Proofs.Ytkfphiccfnfkdaa.Reads.OpensL.cons (Go.Proofs.Ytkfphiccfnfkdaa.Reads.Opens.int Try.underlying3 (by kernel_rfl)) (Go.Proofs.Ytkfphiccfnfkdaa.Reads.OpensL.one (Go.Proofs.Ytkfphiccfnfkdaa.Reads.Opens.int Try.underlying3 (by kernel_rfl))))))))))))
set_option maxRecDepth 100000 in
theorem lifted (os : Os) (started : os.Started) (H : Type) (enc : TypeId × Value → H) :
    ReturnsInHanded {} Try.checked os 7 .any (Rows.fnBearingsSpec.pre6 enc Try.prog Try.f7 Rows.fnBearingsRow.domain false) (Rows.fnBearingsSpec.post enc Try.prog Try.f7 false true false false) := by
  refine returnsInHanded_of_change_sized (C := Try.checked) own started (by kernel_rfl) Try.func7
    (ChangeSpec.witness6 (enc := enc) (C := Try.checked) false ⟨#[], #[.agg #[.int .i64 0, .int .i64 0, .int .i64 0, .int .i64 0, .int .i64 0, .int .i64 0, .int .i64 0, .int .i64 0, .int .i64 0, .int .i64 0]], []⟩ 8 (by kernel_rfl) (by kernel_rfl) (by kernel_rfl) (by kernel_rfl)) ?_
  intro W base args ds gs before hval0 hW hcnd hsz0 _
  have hsz : (DataW.weightsEach Try.prog (Try.f7.params.toList ++ Rows.fnBearingsSpec.plain.varTypes Try.prog) (ds ++ gs)).all (· ≤ reachBytes) = true := hsz0
  have hval : ∀ (j : Nat) t v, Try.f7.params[j]? = some t → args[j]? = some v → Value.okWide Try.prog W .any base t v := hval0
  have hW' := hW
  obtain ⟨p, q, hA0, hV, rfl, hfz, hnd⟩ := hW
  have hA : DataW.TrodAll enc Try.prog W 0 (fun _ => true) true Try.f7.params.toList args.toList ds p := hA0
  rw [Try.params7] at hA hval hsz
  obtain ⟨v0, vs0, d0, ds0, p0, q0, hargs, rfl, rfl, h0, r0⟩ := trodAll_cons hA
  obtain ⟨rfl, rfl, rfl⟩ := trodAll_nil r0
  obtain rfl : args = #[v0] := by cases args; simp_all
  obtain ⟨rfl, rfl⟩ := trodVars_none hV
  obtain ⟨cs0, rfl, hcs0⟩ := okWide_struct Try.underlying36 (hval 0 36 v0 rfl rfl)
  have k0 := h0
  have lt0 : ∀ x ∈ p0, x.block < W.heap.size := by obtain ⟨m, hm⟩ := k0; exact DataW.trod_lt m _ _ _ hm
  obtain ⟨y0, hK0, hg0⟩ := Go.Proofs.Ytkfphiccfnfkdaa.Reads.arg_struct o36 h0
  obtain rfl : cs0 = #[.int .i64 y0.f0, .int .i64 y0.f1, .int .i64 y0.f2, .int .i64 y0.f3, .int .i64 y0.f4, .int .i64 y0.f5, .int .i64 y0.f6, .int .i64 y0.f7, .int .i64 y0.f8, .int .i64 y0.f9] := by
    have q := PFnBearings.k36_open hK0
    cases cs0
    exact congrArg Array.mk q
  clear hA0 hval0 hsz0 hsz
  refine (PFnBearings.laws_FnBearings.walk Pure.FnBearings y0.f0 y0.f1 y0.f2 y0.f3 y0.f4 y0.f5 y0.f6 y0.f7 y0.f8 y0.f9 W hg0.1 hg0.2.1 hg0.2.2.1 hg0.2.2.2.1 hg0.2.2.2.2.1 hg0.2.2.2.2.2.1 hg0.2.2.2.2.2.2.1 hg0.2.2.2.2.2.2.2.1 hg0.2.2.2.2.2.2.2.2.1 hg0.2.2.2.2.2.2.2.2.2).mono fun e W' ⟨he, bel⟩ => ?_
  subst he
  exact ⟨_, rfl, _, _, _, [], _, [], hW', trodAll_mk1 (shut_bool Try.underlying4 _), (trodAll_cons_mk (Below.trod laidOut (by kernel_rfl) (of_decide_eq_true (by kernel_rfl)) k0 bel lt0) trodAll_mk0), rfl, bel.frame _, fun h => by cases h⟩
theorem over : Rows.fnBearingsRow.holds Try.pinned (OpenSpec.ofChange Rows.fnBearingsSpec) :=
  OpenClaim.holds_of_wide 7 Try.f7 rfl rfl rfl rfl rfl rfl rfl ⟨rfl, rfl, rfl, rfl, rfl⟩ rfl rfl rfl rfl rfl (by kernel_rfl) Try.func7 (by kernel_rfl)
    (of_decide_eq_true (by kernel_rfl)) (by unfold Func.isWrapper; first | (rw [if_pos (by decide +kernel)]; kernel_rfl) | (rw [if_neg (by decide +kernel)]; exact ⟨rfl, rfl⟩))
    (fun os started H enc _ => lifted os started H enc)
theorem proved : Rows.FnBearingsSaid := over
#print axioms proved
end Go.Proofs.Ytkfphiccfnfkdaa.fnBearings
namespace Go.Proofs.Ytkfphiccfnfkdaa
/-- The row, under a short name, for the claim. -/
theorem fnBearings_holds : Rows.FnBearingsSaid := fnBearings.proved
end Go.Proofs.Ytkfphiccfnfkdaa
