-- Written by a program of this session (xprint) out of the translation; Lean checks it.
import Derived.Test.YtchkmmbedgolbaaRows
import Derived.Test.YtchkmmbedgolbaaPFnGlyphSpotsx10
import Derived.Test.YtchkmmbedgolbaaPureFnGlyphSpots
import Derived.Test.YtchkmmbedgolbaaReads
import Derived.WalkKit
import Derived.ProofKit
import Derived.OpenShut
import Derived.ShutString
import Derived.ChangeOld
import Derived.Below
import Derived.SizedLaws
import Derived.Test.YtchkmmbedgolbaaWSized
namespace Go.Proofs.Ytchkmmbedgolbaa.fnGlyphSpots
open Go.ChangeShapes Go.WideShapes Go.ChangeAt Go.RowKit
open Go.ChangeMaps (open_string shut_string)
set_option linter.unusedVariables false
theorem okWide_array {P : Program} {w : World} {r : Reach} {base : Nat} {t : TypeId} {v : Value} {n : Nat} {e : TypeId} (ht : P.underlying t = some (.array n e)) (h : Value.okWide P w r base t v) : ∃ cs, v = .agg cs ∧ cs.size = P.cellsOf t := by
  simp only [Value.okWide, ht] at h
  obtain ⟨cs, h1, h2, _⟩ := h
  exact ⟨cs, h1, h2⟩
theorem own : ownKnob Try.prog.godebug = none := by kernel_rfl
theorem laidOut : laidOutB Try.prog = true := by kernel_rfl
def IsRow (k : IntKind) (w : World) (a : Option Addr) (len cap : Nat) (zs : List Int) : Prop :=
  (a = none ∧ len = 0 ∧ cap = 0 ∧ zs = []) ∨
  ∃ x, a = some x ∧ len ≤ cap ∧ cap ≤ maxLen ∧ zs.length = cap ∧ (∀ i, i < zs.length → w.cell? (x.add i) = some (.int k (zs.getD i 0))) ∧ ∀ n ∈ zs, (Lit.int k n).wf = true
theorem o51 : Go.Proofs.Ytchkmmbedgolbaa.Reads.Opens Try.prog 51 PFnGlyphSpots.k51 PFnGlyphSpots.good51 := Go.Proofs.Ytchkmmbedgolbaa.Reads.Opens.structB (P := Try.prog) (t := 51) (f := (fun x : PFnGlyphSpots.S51 => (x.f0, x.f1, x.f2))) (fun y => ⟨y.1, y.2.1, y.2.2⟩) (fun _ => rfl) Try.underlying51 (by kernel_rfl) (by kernel_rfl) (by kernel_rfl) (Go.Proofs.Ytchkmmbedgolbaa.Reads.OpensL.cons (Go.Proofs.Ytchkmmbedgolbaa.Reads.Opens.bool Try.underlying4 (by kernel_rfl)) (Go.Proofs.Ytchkmmbedgolbaa.Reads.OpensL.cons (Go.Proofs.Ytchkmmbedgolbaa.Reads.Opens.int Try.underlying3 (by kernel_rfl)) (Go.Proofs.Ytchkmmbedgolbaa.Reads.OpensL.one (Go.Proofs.Ytchkmmbedgolbaa.Reads.Opens.int Try.underlying3 (by kernel_rfl)))))
theorem o46 : Go.Proofs.Ytchkmmbedgolbaa.Reads.Opens Try.prog 46 PFnGlyphSpots.k46 PFnGlyphSpots.good46 := Go.Proofs.Ytchkmmbedgolbaa.Reads.Opens.array (P := Try.prog) (t := 46) (f := (fun x : PFnGlyphSpots.S46 => (x.f0, x.f1, x.f2, x.f3))) (fun y => ⟨y.1, y.2.1, y.2.2.1, y.2.2.2⟩) (fun _ => rfl) Try.underlying46 (by kernel_rfl) (Go.Proofs.Ytchkmmbedgolbaa.Reads.OpensL.cons (Go.Proofs.Ytchkmmbedgolbaa.Reads.Opens.int Try.underlying30 (by kernel_rfl)) (Go.Proofs.Ytchkmmbedgolbaa.Reads.OpensL.cons (Go.Proofs.Ytchkmmbedgolbaa.Reads.Opens.int Try.underlying30 (by kernel_rfl)) (Go.Proofs.Ytchkmmbedgolbaa.Reads.OpensL.cons (Go.Proofs.Ytchkmmbedgolbaa.Reads.Opens.int Try.underlying30 (by kernel_rfl)) (Go.Proofs.Ytchkmmbedgolbaa.Reads.OpensL.one (Go.Proofs.Ytchkmmbedgolbaa.Reads.Opens.int Try.underlying30 (by kernel_rfl))))))
set_option maxRecDepth 100000 in
theorem lifted (os : Os) (started : os.Started) (H : Type) (enc : TypeId × Value → H) :
    ReturnsInHanded {} Try.checked os 6 .any (Rows.fnGlyphSpotsSpec.pre6 enc Try.prog Try.f6 Rows.fnGlyphSpotsRow.domain false) (Rows.fnGlyphSpotsSpec.post enc Try.prog Try.f6 false true false false) := by
  refine returnsInHanded_of_change_sized (C := Try.checked) own started (by kernel_rfl) Try.func6
    (ChangeSpec.witness6 (enc := enc) (C := Try.checked) false ⟨#[], #[.slice none 0 0, .agg #[.int .i16 0, .int .i16 0, .int .i16 0, .int .i16 0], .slice none 0 0], []⟩ 8 (by kernel_rfl) (by kernel_rfl) (by kernel_rfl) (by kernel_rfl)) ?_
  intro W base args ds gs before hval0 hW hcnd hsz0 _
  have hsz : (DataW.weightsEach Try.prog (Try.f6.params.toList ++ Rows.fnGlyphSpotsSpec.plain.varTypes Try.prog) (ds ++ gs)).all (· ≤ reachBytes) = true := hsz0
  have hval : ∀ (j : Nat) t v, Try.f6.params[j]? = some t → args[j]? = some v → Value.okWide Try.prog W .any base t v := hval0
  have hW' := hW
  obtain ⟨p, q, hA0, hV, rfl, hfz, hnd⟩ := hW
  have hA : DataW.TrodAll enc Try.prog W 0 (fun _ => true) true Try.f6.params.toList args.toList ds p := hA0
  rw [Try.params6] at hA hval hsz
  obtain ⟨v0, vs0, d0, ds0, p0, q0, hargs, rfl, rfl, h0, r0⟩ := trodAll_cons hA
  obtain ⟨v1, vs1, d1, ds1, p1, q1, rfl, rfl, rfl, h1, r1⟩ := trodAll_cons r0
  obtain ⟨v2, vs2, d2, ds2, p2, q2, rfl, rfl, rfl, h2, r2⟩ := trodAll_cons r1
  obtain ⟨rfl, rfl, rfl⟩ := trodAll_nil r2
  obtain rfl : args = #[v0, v1, v2] := by cases args; simp_all
  obtain ⟨rfl, rfl⟩ := trodVars_none hV
  obtain ⟨a0, len0, cap0, rfl⟩ := okWide_slice Try.underlying45 (hval 0 45 v0 rfl rfl)
  have k0 := h0
  have lt0 : ∀ x ∈ p0, x.block < W.heap.size := by obtain ⟨m, hm⟩ := k0; exact DataW.trod_lt m _ _ _ hm
  obtain ⟨l0, hl0, hc0, hC0, hm0, hg0⟩ := Go.Proofs.Ytchkmmbedgolbaa.Reads.arg_slice Try.underlying45 (Go.Proofs.Ytchkmmbedgolbaa.Reads.Opens.slice Try.underlying52 (by kernel_rfl) o51) h0
  subst hl0
  obtain ⟨cs1, rfl, hcs1⟩ := okWide_array Try.underlying46 (hval 1 46 v1 rfl rfl)
  have k1 := h1
  have lt1 : ∀ x ∈ p1, x.block < W.heap.size := by obtain ⟨m, hm⟩ := k1; exact DataW.trod_lt m _ _ _ hm
  obtain ⟨y1, hK1, hg1⟩ := Go.Proofs.Ytchkmmbedgolbaa.Reads.arg_struct o46 h1
  obtain rfl : cs1 = #[.int .i16 y1.f0, .int .i16 y1.f1, .int .i16 y1.f2, .int .i16 y1.f3] := by
    have q := PFnGlyphSpots.k46_open hK1
    cases cs1
    exact congrArg Array.mk q
  obtain ⟨a2, len2, cap2, rfl⟩ := okWide_slice Try.underlying22 (hval 2 22 v2 rfl rfl)
  have k2 := h2
  have lt2 : ∀ x ∈ p2, x.block < W.heap.size := by obtain ⟨m, hm⟩ := k2; exact DataW.trod_lt m _ _ _ hm
  obtain ⟨z2, w2⟩ : ∃ zs, IsRow .u8 W a2 len2 cap2 zs := by
    obtain ⟨fuel, hf⟩ := h2
    rcases open_ints Try.underlying22 Try.underlying5 (by kernel_rfl) hf with ⟨hcs, _⟩ | ⟨x, l, c, zs, hcs, _, hl, hm, hz, _, hcell, hwz⟩
    · simp [Value.cells] at hcs
      obtain ⟨rfl, rfl, rfl⟩ := hcs
      exact ⟨[], .inl ⟨rfl, rfl, rfl, rfl⟩⟩
    · simp [Value.cells] at hcs
      obtain ⟨rfl, rfl, rfl⟩ := hcs
      exact ⟨zs, .inr ⟨_, rfl, hl, hm, by simpa using hz, hcell, hwz⟩⟩
  have y2 : len2 * 1 ≤ 140737488351232 := Go.Proofs.YtchkmmbedgolbaaW.PrintWords.sized_ints hsz (j := 2) (t := 22) rfl rfl Try.underlying22 Try.underlying5 (by kernel_rfl) (by kernel_rfl) h2
  clear hA0 hval0 hsz0 hsz
  refine (PFnGlyphSpots.laws_FnGlyphSpots.walk Pure.FnGlyphSpots a0 cap0 l0 y1.f0 y1.f1 y1.f2 y1.f3 a2 len2 cap2 z2 W hc0 hC0 hm0 hg0 hg1.1 hg1.2.1 hg1.2.2.1 hg1.2.2.2 w2 y2).mono fun e W' ⟨he, bel⟩ => ?_
  subst he
  exact ⟨_, rfl, _, _, _, [], _, [], hW', trodAll_mk1 (shut_bool Try.underlying4 _), (trodAll_cons_mk (Below.trod laidOut (by kernel_rfl) (of_decide_eq_true (by kernel_rfl)) k0 bel lt0) (trodAll_cons_mk (Below.trod laidOut (by kernel_rfl) (of_decide_eq_true (by kernel_rfl)) k1 bel lt1) (trodAll_cons_mk (Below.trod laidOut (by kernel_rfl) (of_decide_eq_true (by kernel_rfl)) k2 bel lt2) trodAll_mk0))), rfl, bel.frame _, fun h => by cases h⟩
theorem over : Rows.fnGlyphSpotsRow.holds Try.pinned (OpenSpec.ofChange Rows.fnGlyphSpotsSpec) :=
  OpenClaim.holds_of_wide 6 Try.f6 rfl rfl rfl rfl rfl rfl rfl ⟨rfl, rfl, rfl, rfl, rfl⟩ rfl rfl rfl rfl rfl (by kernel_rfl) Try.func6 (by kernel_rfl)
    (of_decide_eq_true (by kernel_rfl)) (by unfold Func.isWrapper; first | (rw [if_pos (by decide +kernel)]; kernel_rfl) | (rw [if_neg (by decide +kernel)]; exact ⟨rfl, rfl⟩))
    (fun os started H enc _ => lifted os started H enc)
theorem proved : Rows.FnGlyphSpotsSaid := over
#print axioms proved
end Go.Proofs.Ytchkmmbedgolbaa.fnGlyphSpots
namespace Go.Proofs.Ytchkmmbedgolbaa
/-- The row, under a short name, for the claim. -/
theorem fnGlyphSpots_holds : Rows.FnGlyphSpotsSaid := fnGlyphSpots.proved
end Go.Proofs.Ytchkmmbedgolbaa
