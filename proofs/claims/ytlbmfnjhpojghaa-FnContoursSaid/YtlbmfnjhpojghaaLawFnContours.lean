-- Written by a program of this session (xprint) out of the translation; Lean checks it.
import Derived.Test.YtlbmfnjhpojghaaRows
import Derived.Test.YtlbmfnjhpojghaaPFnContoursx11
import Derived.Test.YtlbmfnjhpojghaaPureFnContours
import Derived.Test.YtlbmfnjhpojghaaReads
import Derived.WalkKit
import Derived.ProofKit
import Derived.OpenShut
import Derived.ShutString
import Derived.ChangeOld
import Derived.Below
import Derived.SizedLaws
import Derived.Test.YtlbmfnjhpojghaaWSized
namespace Go.Proofs.Ytlbmfnjhpojghaa.fnContours
open Go.ChangeShapes Go.WideShapes Go.ChangeAt Go.RowKit
open Go.ChangeMaps (open_string shut_string)
set_option linter.unusedVariables false
theorem own : ownKnob Try.prog.godebug = none := by kernel_rfl
theorem laidOut : laidOutB Try.prog = true := by kernel_rfl
def IsRow (k : IntKind) (w : World) (a : Option Addr) (len cap : Nat) (zs : List Int) : Prop :=
  (a = none ∧ len = 0 ∧ cap = 0 ∧ zs = []) ∨
  ∃ x, a = some x ∧ len ≤ cap ∧ cap ≤ maxLen ∧ zs.length = cap ∧ (∀ i, i < zs.length → w.cell? (x.add i) = some (.int k (zs.getD i 0))) ∧ ∀ n ∈ zs, (Lit.int k n).wf = true
theorem o65 : Go.Proofs.Ytlbmfnjhpojghaa.Reads.Opens Try.prog 65 PFnContours.k65 PFnContours.good65 := Go.Proofs.Ytlbmfnjhpojghaa.Reads.Opens.structB (P := Try.prog) (t := 65) (f := (fun x : PFnContours.S65 => (x.f0, x.f1, x.f2))) (fun y => ⟨y.1, y.2.1, y.2.2⟩) (fun _ => rfl) Try.underlying65 (by kernel_rfl) (by kernel_rfl) (by kernel_rfl) (Go.Proofs.Ytlbmfnjhpojghaa.Reads.OpensL.cons (Go.Proofs.Ytlbmfnjhpojghaa.Reads.Opens.bool Try.underlying4 (by kernel_rfl)) (Go.Proofs.Ytlbmfnjhpojghaa.Reads.OpensL.cons (Go.Proofs.Ytlbmfnjhpojghaa.Reads.Opens.int Try.underlying3 (by kernel_rfl)) (Go.Proofs.Ytlbmfnjhpojghaa.Reads.OpensL.one (Go.Proofs.Ytlbmfnjhpojghaa.Reads.Opens.int Try.underlying3 (by kernel_rfl)))))
set_option maxRecDepth 100000 in
theorem lifted (os : Os) (started : os.Started) (H : Type) (enc : TypeId × Value → H) :
    ReturnsInHanded {} Try.checked os 5 .any (Rows.fnContoursSpec.pre6 enc Try.prog Try.f5 Rows.fnContoursRow.domain false) (Rows.fnContoursSpec.post enc Try.prog Try.f5 false true false false) := by
  refine returnsInHanded_of_change_sized (C := Try.checked) own started (by kernel_rfl) Try.func5
    (ChangeSpec.witness6 (enc := enc) (C := Try.checked) false ⟨#[], #[.slice none 0 0], []⟩ 8 (by kernel_rfl) (by kernel_rfl) (by kernel_rfl) (by kernel_rfl)) ?_
  intro W base args ds gs before hval0 hW hcnd hsz0 _
  have hsz : (DataW.weightsEach Try.prog (Try.f5.params.toList ++ Rows.fnContoursSpec.plain.varTypes Try.prog) (ds ++ gs)).all (· ≤ reachBytes) = true := hsz0
  have hval : ∀ (j : Nat) t v, Try.f5.params[j]? = some t → args[j]? = some v → Value.okWide Try.prog W .any base t v := hval0
  have hW' := hW
  obtain ⟨p, q, hA0, hV, rfl, hfz, hnd⟩ := hW
  have hA : DataW.TrodAll enc Try.prog W 0 (fun _ => true) true Try.f5.params.toList args.toList ds p := hA0
  rw [Try.params5] at hA hval hsz
  obtain ⟨v0, vs0, d0, ds0, p0, q0, hargs, rfl, rfl, h0, r0⟩ := trodAll_cons hA
  obtain ⟨rfl, rfl, rfl⟩ := trodAll_nil r0
  obtain rfl : args = #[v0] := by cases args; simp_all
  obtain ⟨rfl, rfl⟩ := trodVars_none hV
  obtain ⟨a0, len0, cap0, rfl⟩ := okWide_slice Try.underlying52 (hval 0 52 v0 rfl rfl)
  have k0 := h0
  have lt0 : ∀ x ∈ p0, x.block < W.heap.size := by obtain ⟨m, hm⟩ := k0; exact DataW.trod_lt m _ _ _ hm
  obtain ⟨l0, hl0, hc0, hC0, hm0, hg0⟩ := Go.Proofs.Ytlbmfnjhpojghaa.Reads.arg_slice Try.underlying52 (Go.Proofs.Ytlbmfnjhpojghaa.Reads.Opens.slice Try.underlying60 (by kernel_rfl) o65) h0
  subst hl0
  clear hA0 hval0 hsz0 hsz
  refine (PFnContours.laws_FnContours.walk Pure.FnContours a0 cap0 l0 W hc0 hC0 hm0 hg0).mono fun e W' ⟨he, bel⟩ => ?_
  subst he
  exact ⟨_, rfl, _, _, _, [], _, [], hW', trodAll_mk1 (shut_bool Try.underlying4 _), (trodAll_cons_mk (Below.trod laidOut (by kernel_rfl) (of_decide_eq_true (by kernel_rfl)) k0 bel lt0) trodAll_mk0), rfl, bel.frame _, fun h => by cases h⟩
theorem and_t {a b : Bool} (ha : a = true) (hb : b = true) : (a && b) = true := by rw [ha, hb]; rfl
set_option maxHeartbeats 8000000 in
theorem closed0 : joinedFacts Try.prog 5 Try.f5 Rows.fnContoursSpec Rows.fnContoursRow = true := by
  unfold joinedFacts
  repeat' (with_reducible refine and_t ?_ ?_)
  all_goals (as_aux_lemma => kernel_rfl)
theorem closed : joinedFacts Try.pinned.checked.prog 5 Try.f5 Rows.fnContoursSpec Rows.fnContoursRow = true := closed0
theorem over : Rows.fnContoursRow.holds Try.pinned (OpenSpec.ofChange Rows.fnContoursSpec) :=
  OpenClaim.holds_of_wide 5 Try.f5 rfl rfl rfl rfl rfl rfl rfl ⟨rfl, rfl, rfl, rfl, rfl⟩ rfl rfl rfl rfl rfl (by kernel_rfl) Try.func5 closed
    (of_decide_eq_true (by kernel_rfl)) (by unfold Func.isWrapper; first | (rw [if_pos (by decide +kernel)]; kernel_rfl) | (rw [if_neg (by decide +kernel)]; exact ⟨rfl, rfl⟩))
    (fun os started H enc _ => lifted os started H enc)
theorem proved : Rows.FnContoursSaid := over
#print axioms proved
end Go.Proofs.Ytlbmfnjhpojghaa.fnContours
namespace Go.Proofs.Ytlbmfnjhpojghaa
/-- The row, under a short name, for the claim. -/
theorem fnContours_holds : Rows.FnContoursSaid := fnContours.proved
end Go.Proofs.Ytlbmfnjhpojghaa
