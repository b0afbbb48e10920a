-- Written by a program of this session (xprint) out of the translation; Lean checks it.
import Derived.Test.YtlbmfnjhpojghaaRows
import Derived.Test.YtlbmfnjhpojghaaPFnAdvanceDeltax9
import Derived.Test.YtlbmfnjhpojghaaPureFnAdvanceDelta
import Derived.Test.YtlbmfnjhpojghaaReads
import Derived.WalkKit
import Derived.ProofKit
import Derived.OpenShut
import Derived.ShutString
import Derived.ChangeOld
import Derived.Below
import Derived.SizedLaws
import Derived.Test.YtlbmfnjhpojghaaWSized
namespace Go.Proofs.Ytlbmfnjhpojghaa.fnAdvanceDelta
open Go.ChangeShapes Go.WideShapes Go.ChangeAt Go.RowKit
open Go.ChangeMaps (open_string shut_string)
set_option linter.unusedVariables false
theorem own : ownKnob Try.prog.godebug = none := by kernel_rfl
theorem laidOut : laidOutB Try.prog = true := by kernel_rfl
def IsRow (k : IntKind) (w : World) (a : Option Addr) (len cap : Nat) (zs : List Int) : Prop :=
  (a = none ∧ len = 0 ∧ cap = 0 ∧ zs = []) ∨
  ∃ x, a = some x ∧ len ≤ cap ∧ cap ≤ maxLen ∧ zs.length = cap ∧ (∀ i, i < zs.length → w.cell? (x.add i) = some (.int k (zs.getD i 0))) ∧ ∀ n ∈ zs, (Lit.int k n).wf = true
theorem o161 : Go.Proofs.Ytlbmfnjhpojghaa.Reads.Opens Try.prog 161 PFnAdvanceDelta.k161 PFnAdvanceDelta.good161 := Go.Proofs.Ytlbmfnjhpojghaa.Reads.Opens.array (P := Try.prog) (t := 161) (f := (fun x : PFnAdvanceDelta.S161 => (x.f0, x.f1, x.f2))) (fun y => ⟨y.1, y.2.1, y.2.2⟩) (fun _ => rfl) Try.underlying161 (by kernel_rfl) (Go.Proofs.Ytlbmfnjhpojghaa.Reads.OpensL.cons (Go.Proofs.Ytlbmfnjhpojghaa.Reads.Opens.int Try.underlying98 (by kernel_rfl)) (Go.Proofs.Ytlbmfnjhpojghaa.Reads.OpensL.cons (Go.Proofs.Ytlbmfnjhpojghaa.Reads.Opens.int Try.underlying98 (by kernel_rfl)) (Go.Proofs.Ytlbmfnjhpojghaa.Reads.OpensL.one (Go.Proofs.Ytlbmfnjhpojghaa.Reads.Opens.int Try.underlying98 (by kernel_rfl)))))
theorem o47 : Go.Proofs.Ytlbmfnjhpojghaa.Reads.Opens Try.prog 47 PFnAdvanceDelta.k47 PFnAdvanceDelta.good47 := Go.Proofs.Ytlbmfnjhpojghaa.Reads.Opens.array (P := Try.prog) (t := 47) (f := (fun x : PFnAdvanceDelta.S47 => (x.f0, x.f1))) (fun y => ⟨y.1, y.2⟩) (fun _ => rfl) Try.underlying47 (by kernel_rfl) (Go.Proofs.Ytlbmfnjhpojghaa.Reads.OpensL.cons (Go.Proofs.Ytlbmfnjhpojghaa.Reads.Opens.int Try.underlying5 (by kernel_rfl)) (Go.Proofs.Ytlbmfnjhpojghaa.Reads.OpensL.one (Go.Proofs.Ytlbmfnjhpojghaa.Reads.Opens.int Try.underlying5 (by kernel_rfl))))
set_option maxRecDepth 100000 in
theorem lifted (os : Os) (started : os.Started) (H : Type) (enc : TypeId × Value → H) :
    ReturnsInHanded {} Try.checked os 4 .any (Rows.fnAdvanceDeltaSpec.pre6 enc Try.prog Try.f4 Rows.fnAdvanceDeltaRow.domain false) (Rows.fnAdvanceDeltaSpec.post enc Try.prog Try.f4 false true false false) := by
  refine returnsInHanded_of_change_sized (C := Try.checked) own started (by kernel_rfl) Try.func4
    (ChangeSpec.witness6 (enc := enc) (C := Try.checked) false ⟨#[], #[.slice none 0 0, .slice none 0 0, .slice none 0 0, .slice none 0 0, .int .u8 0, .slice none 0 0], []⟩ 8 (by kernel_rfl) (by kernel_rfl) (by kernel_rfl) (by kernel_rfl)) ?_
  intro W base args ds gs before hval0 hW hcnd hsz0 _
  have hsz : (DataW.weightsEach Try.prog (Try.f4.params.toList ++ Rows.fnAdvanceDeltaSpec.plain.varTypes Try.prog) (ds ++ gs)).all (· ≤ reachBytes) = true := hsz0
  have hval : ∀ (j : Nat) t v, Try.f4.params[j]? = some t → args[j]? = some v → Value.okWide Try.prog W .any base t v := hval0
  have hW' := hW
  obtain ⟨p, q, hA0, hV, rfl, hfz, hnd⟩ := hW
  have hA : DataW.TrodAll enc Try.prog W 0 (fun _ => true) true Try.f4.params.toList args.toList ds p := hA0
  rw [Try.params4] at hA hval hsz
  obtain ⟨v0, vs0, d0, ds0, p0, q0, hargs, rfl, rfl, h0, r0⟩ := trodAll_cons hA
  obtain ⟨v1, vs1, d1, ds1, p1, q1, rfl, rfl, rfl, h1, r1⟩ := trodAll_cons r0
  obtain ⟨v2, vs2, d2, ds2, p2, q2, rfl, rfl, rfl, h2, r2⟩ := trodAll_cons r1
  obtain ⟨v3, vs3, d3, ds3, p3, q3, rfl, rfl, rfl, h3, r3⟩ := trodAll_cons r2
  obtain ⟨v4, vs4, d4, ds4, p4, q4, rfl, rfl, rfl, h4, r4⟩ := trodAll_cons r3
  obtain ⟨v5, vs5, d5, ds5, p5, q5, rfl, rfl, rfl, h5, r5⟩ := trodAll_cons r4
  obtain ⟨rfl, rfl, rfl⟩ := trodAll_nil r5
  obtain rfl : args = #[v0, v1, v2, v3, v4, v5] := by cases args; simp_all
  obtain ⟨rfl, rfl⟩ := trodVars_none hV
  obtain ⟨a0, len0, cap0, rfl⟩ := okWide_slice Try.underlying22 (hval 0 22 v0 rfl rfl)
  have k0 := h0
  have lt0 : ∀ x ∈ p0, x.block < W.heap.size := by obtain ⟨m, hm⟩ := k0; exact DataW.trod_lt m _ _ _ hm
  obtain ⟨l0, hl0, hc0, hC0, hm0, hg0⟩ := Go.Proofs.Ytlbmfnjhpojghaa.Reads.arg_slice Try.underlying22 (Go.Proofs.Ytlbmfnjhpojghaa.Reads.Opens.slice Try.underlying80 (by kernel_rfl) o161) h0
  subst hl0
  obtain ⟨a1, len1, cap1, rfl⟩ := okWide_slice Try.underlying23 (hval 1 23 v1 rfl rfl)
  have k1 := h1
  have lt1 : ∀ x ∈ p1, x.block < W.heap.size := by obtain ⟨m, hm⟩ := k1; exact DataW.trod_lt m _ _ _ hm
  obtain ⟨l1, hl1, hc1, hC1, hm1, hg1⟩ := Go.Proofs.Ytlbmfnjhpojghaa.Reads.arg_slice Try.underlying23 (Go.Proofs.Ytlbmfnjhpojghaa.Reads.Opens.slice Try.underlying95 (by kernel_rfl) (Go.Proofs.Ytlbmfnjhpojghaa.Reads.Opens.int Try.underlying5 (by kernel_rfl))) h1
  subst hl1
  obtain ⟨a2, len2, cap2, rfl⟩ := okWide_slice Try.underlying24 (hval 2 24 v2 rfl rfl)
  have k2 := h2
  have lt2 : ∀ x ∈ p2, x.block < W.heap.size := by obtain ⟨m, hm⟩ := k2; exact DataW.trod_lt m _ _ _ hm
  obtain ⟨l2, hl2, hc2, hC2, hm2, hg2⟩ := Go.Proofs.Ytlbmfnjhpojghaa.Reads.arg_slice Try.underlying24 (Go.Proofs.Ytlbmfnjhpojghaa.Reads.Opens.slice Try.underlying25 (by kernel_rfl) (Go.Proofs.Ytlbmfnjhpojghaa.Reads.Opens.int Try.underlying98 (by kernel_rfl))) h2
  subst hl2
  obtain ⟨a3, len3, cap3, rfl⟩ := okWide_slice Try.underlying45 (hval 3 45 v3 rfl rfl)
  have k3 := h3
  have lt3 : ∀ x ∈ p3, x.block < W.heap.size := by obtain ⟨m, hm⟩ := k3; exact DataW.trod_lt m _ _ _ hm
  obtain ⟨l3, hl3, hc3, hC3, hm3, hg3⟩ := Go.Proofs.Ytlbmfnjhpojghaa.Reads.arg_slice Try.underlying45 o47 h3
  subst hl3
  obtain ⟨a4, rfl, rfl, rfl, w4⟩ := open_int Try.underlying5 (hval 4 5 v4 rfl rfl) h4
  obtain ⟨a5, len5, cap5, rfl⟩ := okWide_slice Try.underlying25 (hval 5 25 v5 rfl rfl)
  have k5 := h5
  have lt5 : ∀ x ∈ p5, x.block < W.heap.size := by obtain ⟨m, hm⟩ := k5; exact DataW.trod_lt m _ _ _ hm
  obtain ⟨z5, w5⟩ : ∃ zs, IsRow .i16 W a5 len5 cap5 zs := by
    obtain ⟨fuel, hf⟩ := h5
    rcases open_ints Try.underlying25 Try.underlying98 (by kernel_rfl) hf with ⟨hcs, _⟩ | ⟨x, l, c, zs, hcs, _, hl, hm, hz, _, hcell, hwz⟩
    · simp [Value.cells] at hcs
      obtain ⟨rfl, rfl, rfl⟩ := hcs
      exact ⟨[], .inl ⟨rfl, rfl, rfl, rfl⟩⟩
    · simp [Value.cells] at hcs
      obtain ⟨rfl, rfl, rfl⟩ := hcs
      exact ⟨zs, .inr ⟨_, rfl, hl, hm, by simpa using hz, hcell, hwz⟩⟩
  have y5 : len5 * 2 ≤ 140737488351232 := Go.Proofs.YtlbmfnjhpojghaaW.PrintWords.sized_ints hsz (j := 5) (t := 25) rfl rfl Try.underlying25 Try.underlying98 (by kernel_rfl) (by kernel_rfl) h5
  clear hA0 hval0 hsz0 hsz
  refine (PFnAdvanceDelta.laws_FnAdvanceDelta.walk Pure.FnAdvanceDelta a0 cap0 l0 a1 cap1 l1 a2 cap2 l2 a3 cap3 l3 a4 a5 len5 cap5 z5 W hc0 hC0 hm0 hg0 hc1 hC1 hm1 hg1 hc2 hC2 hm2 hg2 hc3 hC3 hm3 hg3 w4 w5 y5).mono fun e W' ⟨he, bel⟩ => ?_
  subst he
  exact ⟨_, rfl, _, _, _, [], _, [], hW', trodAll_mk1 (shut_bool Try.underlying4 _), (trodAll_cons_mk (Below.trod laidOut (by kernel_rfl) (of_decide_eq_true (by kernel_rfl)) k0 bel lt0) (trodAll_cons_mk (Below.trod laidOut (by kernel_rfl) (of_decide_eq_true (by kernel_rfl)) k1 bel lt1) (trodAll_cons_mk (Below.trod laidOut (by kernel_rfl) (of_decide_eq_true (by kernel_rfl)) k2 bel lt2) (trodAll_cons_mk (Below.trod laidOut (by kernel_rfl) (of_decide_eq_true (by kernel_rfl)) k3 bel lt3) (trodAll_cons_mk (shut_int Try.underlying5 w4) (trodAll_cons_mk (Below.trod laidOut (by kernel_rfl) (of_decide_eq_true (by kernel_rfl)) k5 bel lt5) trodAll_mk0)))))), rfl, bel.frame _, fun h => by cases h⟩
theorem and_t {a b : Bool} (ha : a = true) (hb : b = true) : (a && b) = true := by rw [ha, hb]; rfl
set_option maxHeartbeats 8000000 in
theorem closed0 : joinedFacts Try.prog 4 Try.f4 Rows.fnAdvanceDeltaSpec Rows.fnAdvanceDeltaRow = true := by
  unfold joinedFacts
  repeat' (with_reducible refine and_t ?_ ?_)
  all_goals (as_aux_lemma => kernel_rfl)
theorem closed : joinedFacts Try.pinned.checked.prog 4 Try.f4 Rows.fnAdvanceDeltaSpec Rows.fnAdvanceDeltaRow = true := closed0
theorem over : Rows.fnAdvanceDeltaRow.holds Try.pinned (OpenSpec.ofChange Rows.fnAdvanceDeltaSpec) :=
  OpenClaim.holds_of_wide 4 Try.f4 rfl rfl rfl rfl rfl rfl rfl ⟨rfl, rfl, rfl, rfl, rfl⟩ rfl rfl rfl rfl rfl (by kernel_rfl) Try.func4 closed
    (of_decide_eq_true (by kernel_rfl)) (by unfold Func.isWrapper; first | (rw [if_pos (by decide +kernel)]; kernel_rfl) | (rw [if_neg (by decide +kernel)]; exact ⟨rfl, rfl⟩))
    (fun os started H enc _ => lifted os started H enc)
theorem proved : Rows.FnAdvanceDeltaSaid := over
#print axioms proved
end Go.Proofs.Ytlbmfnjhpojghaa.fnAdvanceDelta
namespace Go.Proofs.Ytlbmfnjhpojghaa
/-- The row, under a short name, for the claim. -/
theorem fnAdvanceDelta_holds : Rows.FnAdvanceDeltaSaid := fnAdvanceDelta.proved
end Go.Proofs.Ytlbmfnjhpojghaa
