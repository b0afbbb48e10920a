/- For every input the law FnAskNone returns true, where the listed package variables hold what the program's text lays in them; the card ties these to the text. Conditions: the seat's repository is a pruned copy of the project. -/
-- Written by a program of this session (mkcard) for this claim; Lean checks it.
import Derived.Test.YtlclakahgmoafaaDoorRows
import Derived.Test.YtlclakahgmoafaaDoorPFnAskNonex5
import Derived.Test.YtlclakahgmoafaaDoorPureFnAskNone
import Derived.WalkKit
import Derived.ProofKit
import Derived.OpenShut
import Derived.ShutString
import Derived.ChangeOld
import Derived.Below
import Derived.SizedLaws
import Derived.LaidMore
import Derived.Stop.Joined
import Derived.WalkSmall
import Derived.ChangeVars
import Derived.OpenVars
import Derived.SevenTiedAt
import Derived.Lib.LaidTab
import Derived.Stop.LaidErr
import Derived.Test.YtlclakahgmoafaaDoorTie
import Derived.Test.YtlclakahgmoafaaDoorCards
namespace Go.Proofs.YtlclakahgmoafaaDoor.fnAskNone
open Go.ChangeShapes Go.WideShapes Go.ChangeAt Go.RowKit
open Go.ChangeMaps (open_string shut_string)
set_option linter.unusedVariables false
theorem own : ownKnob Tryd.prog.godebug = none := by kernel_rfl
abbrev theLaid : List (String × DataW Unit) := [("math/bits.deBruijn32tab", Rows.laid_math_bits_deBruijn32tab), ("math/bits.deBruijn64tab", Rows.laid_math_bits_deBruijn64tab), ("internal/strconv.uint64pow10", Rows.laid_internal_strconv_uint64pow10), ("strconv.ErrRange", Rows.laid_strconv_ErrRange), ("strconv.ErrSyntax", Rows.laid_strconv_ErrSyntax)]
theorem gPow : Tryd.prog.globalNamed "internal/strconv.uint64pow10" = some 0 := by kernel_rfl
theorem gPowT : (Tryd.prog.globals[0]?).map (·.type) = some 63 := by kernel_rfl
theorem cPow : Tryd.prog.cellsOf 63 = 20 := by kernel_rfl
theorem c48 : Tryd.prog.cellsOf 48 = 1 := by kernel_rfl
theorem gES : Tryd.prog.globalNamed "strconv.ErrSyntax" = some 3 := by kernel_rfl
theorem gEST : (Tryd.prog.globals[3]?).map (·.type) = some 38 := by kernel_rfl
theorem gER : Tryd.prog.globalNamed "strconv.ErrRange" = some 4 := by kernel_rfl
theorem gERT : (Tryd.prog.globals[4]?).map (·.type) = some 38 := by kernel_rfl
theorem c74 : Tryd.prog.cellsOf 74 = 1 := by kernel_rfl
theorem c9 : Tryd.prog.cellsOf 9 = 1 := by kernel_rfl
theorem star : "*" ++ "errors.errorString" = "*errors.errorString" := by decide
theorem row72 (u : TypeId) (h : Tryd.prog.typeName? 3 u = some "*errors.errorString") : u = 72 :=
  typeName_ptr_named (nm := "errors.errorString") (by rw [star]; kernel_rfl) (by kernel_rfl) (by decide) u (by rw [star]; exact h)
set_option maxRecDepth 100000 in
theorem pow_is : (Rows.laid_internal_strconv_uint64pow10 : DataW Unit) = Go.Lib.tabData .u64 Go.Lib.pow10Tab := by rfl
/-- The door's own heap meets the condition. -/
theorem door_met (os : Os) (args : Array Value) : laidMetH Tryd.prog theLaid ((World.doorLaid Tryd.prog 1000 os).forCall (fun _ _ => 0) ⟨#[], args, []⟩).memory :=
  laidMetH_of_parts3 (fuel := 8) (laidMet_of_run' 8 (by kernel_rfl) (by kernel_rfl)) (by kernel_rfl) (by kernel_rfl)
/-- What the condition gives the walk. -/
theorem of_laid {W : World} (h : laidMetH Tryd.prog theLaid W) : PFnAskNone.Tab W := by
  rw [MakeChecks.laidMetH_plain _ _ _ (by kernel_rfl)] at h
  have h2 := laidMet.tail (laidMet.tail h)
  have h3 := laidMet.tail h2
  have h4 := laidMet.tail h3
  refine ⟨?_, ?_, ?_⟩
  · rw [pow_is] at h2
    exact Go.Lib.tabIs_of_head gPow gPowT Tryd.underlying63 Tryd.underlying48 c48 cPow h2
  · obtain ⟨a, s, hv, -, -, -⟩ := laid_sentinel h4 gES gEST Tryd.underlying38 row72 Tryd.underlying72 Tryd.underlying74 rfl rfl Tryd.underlying9 c74 c9
    exact ⟨_, _, hv⟩
  · obtain ⟨a, s, hv, -, -, -⟩ := laid_sentinel h3 gER gERT Tryd.underlying38 row72 Tryd.underlying72 Tryd.underlying74 rfl rfl Tryd.underlying9 c74 c9
    exact ⟨_, _, hv⟩
set_option maxRecDepth 100000 in
theorem lifted (os : Os) (started : os.Started) (H : Type) (enc : TypeId × Value → H) :
    ReturnsInHanded {} Tryd.checked os 3 .any (fun w args => (Rows.fnAskNoneSpec.pre enc Tryd.prog Tryd.f3 [] false w args ∧ laidMetH Tryd.prog theLaid w) ∧ sizedMet enc Tryd.prog Tryd.f3 (OpenSpec.ofChange Rows.fnAskNoneSpec) false w args)
      (Rows.fnAskNoneSpec.post enc Tryd.prog Tryd.f3 false true false false) := by
  refine returnsInHanded_of_change_and (C := Tryd.checked) (X := fun w _ => laidMetH Tryd.prog theLaid w) (fun _ _ _ hh h => h.of_heap hh) own started (by kernel_rfl) Tryd.func3
    (ChangeSpec.witness_shaped (enc := enc) (C := Tryd.checked) (os := os) (X := fun w _ => laidMetH Tryd.prog theLaid w) false (World.doorLaid Tryd.prog 1000 os) #[.int .u32 0, .int .u8 0, .int .u16 0] 8 rfl (World.shaped_of_RefB (by kernel_rfl) (by kernel_rfl)) (by kernel_rfl) (by kernel_rfl) (by kernel_rfl) (door_met os _)) ?_
  intro W base args ds gs before hval0 hW _ hsz0 hL _
  have hval : ∀ (j : Nat) t v, Tryd.f3.params[j]? = some t → args[j]? = some v → Value.okWide Tryd.prog W .any base t v := hval0
  have hW' := hW
  obtain ⟨p, q, hA0, hV, rfl, hfz, hnd⟩ := hW
  have hA : DataW.TrodAll enc Tryd.prog W 0 (fun _ => true) true Tryd.f3.params.toList args.toList ds p := hA0
  rw [Tryd.params3] at hA hval
  obtain ⟨v0, vs0, d0, ds0, p0, q0, hargs, rfl, rfl, h0, r0⟩ := trodAll_cons hA
  obtain ⟨v1, vs1, d1, ds1, p1, q1, rfl, rfl, rfl, h1, r1⟩ := trodAll_cons r0
  obtain ⟨v2, vs2, d2, ds2, p2, q2, rfl, rfl, rfl, h2, r2⟩ := trodAll_cons r1
  obtain ⟨rfl, rfl, rfl⟩ := trodAll_nil r2
  obtain rfl : args = #[v0, v1, v2] := by cases args; simp_all
  obtain ⟨rfl, rfl⟩ := trodVars_none hV
  obtain ⟨a0, rfl, rfl, rfl, w0⟩ := open_int Tryd.underlying22 (hval 0 22 v0 rfl rfl) h0
  obtain ⟨a1, rfl, rfl, rfl, w1⟩ := open_int Tryd.underlying5 (hval 1 5 v1 rfl rfl) h1
  obtain ⟨a2, rfl, rfl, rfl, w2⟩ := open_int Tryd.underlying23 (hval 2 23 v2 rfl rfl) h2
  clear hA0 hval0 hsz0
  refine (PFnAskNone.laws_FnAskNone.walk Pure.FnAskNone a0 a1 a2 W w0 w1 w2 (of_laid hL)).mono fun e W' ⟨he, bel⟩ => ?_
  subst he
  exact ⟨_, rfl, _, _, _, [], _, [], hW', trodAll_mk1 (shut_bool Tryd.underlying4 _), (trodAll_cons_mk (shut_int Tryd.underlying22 w0) (trodAll_cons_mk (shut_int Tryd.underlying5 w1) (trodAll_cons_mk (shut_int Tryd.underlying23 w2) trodAll_mk0))), rfl, bel.frame _, fun h => by cases h⟩
theorem over : Rows.fnAskNoneRow.holds Tryd.pinned (OpenSpec.ofChange Rows.fnAskNoneSpec) :=
  OpenClaim.holds_of_wide 3 Tryd.f3 rfl rfl rfl rfl rfl rfl rfl ⟨rfl, rfl, rfl, rfl, rfl⟩ rfl rfl rfl rfl rfl (by kernel_rfl) Tryd.func3 (by kernel_rfl)
    (of_decide_eq_true (by kernel_rfl)) (by unfold Func.isWrapper; first | (rw [if_pos (by decide +kernel)]; kernel_rfl) | (rw [if_neg (by decide +kernel)]; exact ⟨rfl, rfl⟩))
    (fun os started H enc _ => lifted os started H enc)
theorem proved : Rows.FnAskNoneSaid := over
theorem card_proved : Rows.FnAskNoneCardSaid :=
  Claim7.holds_tied_plain_at .later [] [.data, .data, .data, .sentinel, .sentinel] true (true, "80e7438f2618b6ab3210cfe0a54c198cf5cfb11ef2d1728a29301793c4c200cc") true
    proved (fun _ h => by cases h) (by kernel_rfl) (fun _ h => by cases h) fnAskNone_row_tie rfl ⟨rfl, rfl⟩ (by kernel_rfl) rfl
    (fun f fn hf hfn => by
      obtain rfl : f = 3 := Option.some.inj ((show Tryd.prog.funcNamed "given.example/pub-swashbook/laws.FnAskNone" = some 3 by kernel_rfl).symm.trans hf) |>.symm
      obtain rfl : fn = Tryd.f3 := (Option.some.inj (Tryd.func3.symm.trans hfn)).symm
      exact ⟨by kernel_rfl, fun j t ht => by
        rw [Tryd.params3] at ht
        have hm : t ∈ [22, 5, 23] := by simpa using Array.mem_of_getElem? ht
        have hall : ([22, 5, 23].all fun u => !Tryd.prog.wantsStandIn u) = true := by kernel_rfl
        exact (show Tryd.prog.wantsStandIn t = false by simpa using List.all_eq_true.1 hall t hm)⟩)
    (by kernel_rfl)
#print axioms card_proved
end Go.Proofs.YtlclakahgmoafaaDoor.fnAskNone
namespace Go.Proofs.YtlclakahgmoafaaDoor
/-- The card, under a short name, for the claim. -/
theorem fnAskNone_holds : Rows.FnAskNoneCardSaid := fnAskNone.card_proved
end Go.Proofs.YtlclakahgmoafaaDoor
