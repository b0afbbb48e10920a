-- Written by a program of this session (xprint) out of the translation; Lean checks it.
import Derived.Test.YtkfphiccfnfkdaaDoorRows
import Derived.Test.YtkfphiccfnfkdaaDoorPFnLangNewx2
import Derived.Test.YtkfphiccfnfkdaaDoorPureFnLangNew
import Derived.WalkKit
import Derived.ProofKit
import Derived.OpenShut
import Derived.ShutString
import Derived.ChangeOld
import Derived.Below
import Derived.SizedLaws
import Derived.LaidMore
import Derived.Stop.Joined
import Derived.WalkSmall
import Derived.ChangeVars
import Derived.OpenVars
import Derived.SevenTiedAt
import Derived.Test.YtkfphiccfnfkdaaDoorTie
import Derived.Test.YtkfphiccfnfkdaaDoorCards
namespace Go.Proofs.YtkfphiccfnfkdaaDoor.fnLangNew
open Go.ChangeShapes Go.WideShapes Go.ChangeAt Go.RowKit
open Go.ChangeMaps (open_string shut_string)
set_option linter.unusedVariables false
theorem own : ownKnob Tryd.prog.godebug = none := by kernel_rfl
theorem laidOut : laidOutB Tryd.prog = true := by kernel_rfl
abbrev theLaid : List (String × DataW Unit) := [("given.example/pub-swashbook/pub/typesetting/language.canonMap", Rows.laid_given_example_pub_swashbook_pub_typesetting_language_canonMap)]
theorem gMap : Tryd.prog.globalNamed "given.example/pub-swashbook/pub/typesetting/language.canonMap" = some 0 := by kernel_rfl
theorem tMap : (Tryd.prog.globals[0]?).map (·.type) = some 27 := by kernel_rfl
theorem c5 : Tryd.prog.cellsOf 5 = 1 := by kernel_rfl
set_option maxRecDepth 100000 in
theorem laid_is : (Rows.laid_given_example_pub_swashbook_pub_typesetting_language_canonMap : DataW Unit) = .agg (PFnLangNew.canon.map fun n => .lit (.int .u8 n)) := by rfl

/-- The door's own heap meets the condition. -/
theorem door_met (os : Os) (args : Array Value) : laidMetH Tryd.prog theLaid ((World.doorLaid Tryd.prog 400 os).forCall (fun _ _ => 0) ⟨#[], args, []⟩).memory :=
  laidMetH_of_parts3 (fuel := 8) (laidMet_of_run' 8 (by kernel_rfl) (by kernel_rfl)) (by kernel_rfl) (by kernel_rfl)

/-- What the condition gives the walk: the table's cells. -/
theorem of_laid {W : World} (h : laidMetH Tryd.prog theLaid W) : PFnLangNew.Tab W := by
  rw [MakeChecks.laidMetH_plain _ _ _ (by kernel_rfl)] at h
  obtain ⟨ps, ⟨g0, t0, cs0, f0, p0, q0, hg0, ht0, hv0, hd0, _, _⟩, _, _⟩ := h
  obtain rfl := Option.some.inj (gMap.symm.trans hg0)
  obtain rfl := Option.some.inj (tMap.symm.trans ht0)
  obtain ⟨xs, m1, rfl, hx1, hlen, hn, hel⟩ := DataW.trod_array Tryd.underlying27 hd0
  simp only [Prod.mk.injEq] at hx1
  have hx2 : (PFnLangNew.canon.map fun n => (DataW.lit (.int .u8 n) : DataW Unit)) = xs.map (·.1) := by
    have := laid_is.symm.trans hx1.1
    exact DataW.agg.inj this
  intro i hi
  have hi' : i < xs.length := by omega
  have h1 := hel i hi
  rw [c5, Nat.mul_one, List.getElem?_eq_getElem hi'] at h1
  obtain ⟨n, e1, e2, _⟩ := DataW.trod_int Tryd.underlying5 h1
  have h2 : (xs.map (·.1))[i]? = some (DataW.lit (.int .u8 n)) := by
    rw [List.getElem?_map, List.getElem?_eq_getElem hi', e2]
    rfl
  rw [← hx2, List.getElem?_map] at h2
  obtain ⟨n', hn', e3⟩ := Option.map_eq_some_iff.1 h2
  have e4 : n' = n := by injection e3 with e3; injection e3
  subst e4
  have e5 : PFnLangNew.canon.getD i 0 = n' := by rw [List.getD_eq_getElem?_getD, hn']; rfl
  rw [e5]
  have hc := World.var?_cell hg0 hv0 i
  rw [hc]
  obtain ⟨l⟩ := cs0
  simp only at e1
  have e6 : l[i]? = some (.int .u8 n') := by
    have := congrArg (fun z : List Value => z[0]?) e1
    simpa [List.getElem?_take, List.getElem?_drop] using this
  simpa using e6

set_option maxRecDepth 100000 in
theorem lifted (os : Os) (started : os.Started) (H : Type) (enc : TypeId × Value → H) :
    ReturnsInHanded {} Tryd.checked os 3 .any (fun w args => (Rows.fnLangNewSpec.pre enc Tryd.prog Tryd.f3 [] false w args ∧ laidMetH Tryd.prog theLaid w) ∧ sizedMet enc Tryd.prog Tryd.f3 (OpenSpec.ofChange Rows.fnLangNewSpec) false w args)
      (Rows.fnLangNewSpec.post enc Tryd.prog Tryd.f3 false true false false) := by
  refine returnsInHanded_of_change_and (C := Tryd.checked) (X := fun w _ => laidMetH Tryd.prog theLaid w) (fun _ _ _ hh h => h.of_heap hh) own started (by kernel_rfl) Tryd.func3
    (ChangeSpec.witness_shaped (enc := enc) (C := Tryd.checked) (os := os) (X := fun w _ => laidMetH Tryd.prog theLaid w) false (World.doorLaid Tryd.prog 400 os) #[.string ByteArray.empty] 8 rfl (World.shaped_of_RefB (by kernel_rfl) (by kernel_rfl)) (by kernel_rfl) (by kernel_rfl) (by kernel_rfl) (door_met os _)) ?_
  intro W base args ds gs before hval0 hW _ hsz0 hL _
  have hsz : (DataW.weightsEach Tryd.prog (Tryd.f3.params.toList ++ Rows.fnLangNewSpec.plain.varTypes Tryd.prog) (ds ++ gs)).all (· ≤ reachBytes) = true := hsz0
  have hval : ∀ (j : Nat) t v, Tryd.f3.params[j]? = some t → args[j]? = some v → Value.okWide Tryd.prog W .any base t v := hval0
  have hW' := hW
  obtain ⟨p, q, hA0, hV0, rfl, hfz, hnd⟩ := hW
  have hA : DataW.TrodAll enc Tryd.prog W 0 (fun _ => true) true Tryd.f3.params.toList args.toList ds p := hA0
  have hV : DataW.TrodVars enc Tryd.prog W (fun _ => true) ["given.example/pub-swashbook/pub/typesetting/language.canonMap"] gs q := hV0
  rw [Tryd.params3] at hA hval hsz
  obtain ⟨v0, d0, rfl, rfl, h0⟩ := trodAll_one hA
  obtain ⟨g1, rfl⟩ : ∃ d, gs = [d] := by
    obtain ⟨_, _, _, _, d, _, e, _⟩ := trodVars_one hV
    exact ⟨d, e⟩
  obtain ⟨a0, rfl, rfl, rfl, y0⟩ := open_string Tryd.underlying9 (hval 0 9 v0 rfl rfl) h0
  have w0 : a0.size ≤ 140737488351232 := by
    have z := sized_string hsz (j := 0) (t := 9) rfl rfl
    rw [Array.length_toList] at z
    exact z
  clear hA0 hval0 hV0
  refine (PFnLangNew.laws_FnLangNew.walk Pure.FnLangNew a0 W w0 (of_laid hL)).mono fun e W' ⟨he, bel⟩ => ?_
  subst he
  exact ⟨_, rfl, _, _, _, [], _, _, hW', trodAll_mk1 (shut_bool Tryd.underlying4 _), trodAll_mk1 (shut_string Tryd.underlying9 y0), Below.trodVars laidOut bel (by kernel_rfl) hV, bel.frame _, fun h => by cases h⟩
theorem over : Rows.fnLangNewRow.holds Tryd.pinned (OpenSpec.ofChange Rows.fnLangNewSpec) :=
  OpenClaim.holds_of_wide 3 Tryd.f3 rfl rfl rfl rfl rfl rfl rfl ⟨rfl, rfl, rfl, rfl, rfl⟩ rfl rfl rfl rfl rfl (by kernel_rfl) Tryd.func3 (by kernel_rfl)
    (of_decide_eq_true (by kernel_rfl)) (by unfold Func.isWrapper; first | (rw [if_pos (by decide +kernel)]; kernel_rfl) | (rw [if_neg (by decide +kernel)]; exact ⟨rfl, rfl⟩))
    (fun os started H enc _ => lifted os started H enc)
theorem proved : Rows.FnLangNewSaid := over
theorem card_proved : Rows.FnLangNewCardSaid :=
  Claim7.holds_tied_plain_at .later [] [.data] true (true, "f1216b0d7ff14c9aae5b02cb19e54ab82b08e44f8c034f5e60c4c30f0ea23ca6") false
    proved (fun _ h => by cases h) (by kernel_rfl) (fun _ h => by cases h) fnLangNew_row_tie rfl ⟨rfl, rfl⟩ (by kernel_rfl) rfl
    (fun f fn hf hfn => by
      obtain rfl : f = 3 := Option.some.inj ((show Tryd.prog.funcNamed "given.example/pub-swashbook/laws.FnLangNew" = some 3 by kernel_rfl).symm.trans hf) |>.symm
      obtain rfl : fn = Tryd.f3 := (Option.some.inj (Tryd.func3.symm.trans hfn)).symm
      exact ⟨by kernel_rfl, fun j t ht => by
        rw [Tryd.params3] at ht
        have hm : t ∈ [9] := by simpa using Array.mem_of_getElem? ht
        have hall : ([9].all fun u => !Tryd.prog.wantsStandIn u) = true := by kernel_rfl
        exact (show Tryd.prog.wantsStandIn t = false by simpa using List.all_eq_true.1 hall t hm)⟩)
    (by kernel_rfl)
#print axioms card_proved
end Go.Proofs.YtkfphiccfnfkdaaDoor.fnLangNew
namespace Go.Proofs.YtkfphiccfnfkdaaDoor
/-- The card, under a short name, for the claim. -/
theorem fnLangNew_holds : Rows.FnLangNewCardSaid := fnLangNew.card_proved
end Go.Proofs.YtkfphiccfnfkdaaDoor
