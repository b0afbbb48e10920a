-- Written by a program of this session (xprint) out of the translation; Lean checks it.
import Derived.Test.YtlbmfnjhpojghaaPFnContoursx0
import Derived.Test.YtlbmfnjhpojghaaPFnContoursx3
import Derived.Test.YtlbmfnjhpojghaaPFnContoursx4
import Derived.Test.YtlbmfnjhpojghaaPFnContoursx8
import Derived.Test.YtlbmfnjhpojghaaPFnContoursx9
import Derived.Test.YtlbmfnjhpojghaaPFnContoursx10
namespace Go.Proofs.Ytlbmfnjhpojghaa.PFnContours
open Go.RowKit Go.Proofs.YtlbmfnjhpojghaaW.PrintWords Go.Proofs.YtlbmfnjhpojghaaW.PrintLast Go.Proofs.YtlbmfnjhpojghaaW.PrintMore
attribute [local go_sem] max2_int min2_int max_two min_two max_three min_three max_four min_four   -- for this text's walks alone
set_option linter.unusedVariables false
set_option linter.unusedSimpArgs false

attribute [local go_sem] f_add f_sub f_mul f_quo f_conv f_same f_int f_max f_store
/-! ### laws_FnContours: function 5 -/
mutual
def laws_FnContours.j0 : Nat → List (List (S65)) → List (List (S129)) → Bool → Option (Bool)
 | 0, _, _, _ => none
 | k + 1, x3, x4, x29 => if x29 = true then (some false) else (laws_FnContours.l0 k x4 x3 (x3.length : Int) 0)
def laws_FnContours.l0 : Nat → List (List (S129)) → List (List (S65)) → Int → Int → Option (Bool)
 | 0, _, _, _, _ => none
 | k + 1, x4, x30, x31, x32 => if x32 < x31 then (if 0 ≤ x32 then (if x32 < (x30.length : Int) then (if x32 < (x4.length : Int) then ((spec_ContourRef.f k (rd_L3 x30 x32)).bind fun t295 => ((spec_PiecesSame.f k (rd_L9 x4 x32) t295).bind fun t298 => (if t298 = true then (laws_FnContours.l0 k x4 x30 x31 (wrap64 (x32 + 1))) else (some false)))) else (none)) else (none)) else (none)) else ((impl_Contours.f k (([(([(⟨true, 0, 0⟩ : S65), (⟨true, 1, 0⟩ : S65)] : List (S65)))] : List (List (S65))))).bind fun t305 => ((spec_PiecesOf.f k t305).bind fun bt308 => (if (bt308.1.length : Int) = 1 then (if 0 < (bt308.1.length : Int) then (some (((rd_L9 bt308.1 0).length : Int) == 2)) else (none)) else (some false))))
end
def laws_FnContours.f (k : Nat) (l0 : List (List (S65))) : Option (Bool) := (laws_zzFits31.f k l0).bind fun t282 => (if t282 = true then ((laws_someSpots.f k l0).bind fun t283 => ((impl_Contours.f k t283).bind fun t286 => ((spec_PiecesOf.f k t286).bind fun bt289 => (if bt289.2 = true then (laws_FnContours.j0 k t283 bt289.1 ((bt289.1.length : Int) != (t283.length : Int))) else (laws_FnContours.j0 k t283 bt289.1 true))))) else (some true))
theorem laws_FnContours.mono_l : ∀ k, (∀ y0 y1 y2, LeO (laws_FnContours.j0 k y0 y1 y2) (laws_FnContours.j0 (k + 1) y0 y1 y2)) ∧ (∀ y0 y1 y2 y3, LeO (laws_FnContours.l0 k y0 y1 y2 y3) (laws_FnContours.l0 (k + 1) y0 y1 y2 y3))
 | 0 => ⟨fun _ _ _ r h => by simp [laws_FnContours.j0] at h, fun _ _ _ _ r h => by simp [laws_FnContours.l0] at h⟩
 | k + 1 => by
  obtain ⟨ih0, ih1⟩ := laws_FnContours.mono_l k
  refine ⟨?_, ?_⟩
  ·intro y0 y1 y2
   unfold laws_FnContours.j0
   repeat' first
   | (with_reducible exact ih0 _ _ _)
   | (with_reducible exact ih1 _ _ _ _)
   | (with_reducible exact impl_Contours.mono _ _)
   | (with_reducible exact laws_someSpots.mono _ _)
   | (with_reducible exact laws_zzFits31.mono _ _)
   | (with_reducible exact spec_ContourRef.mono _ _)
   | (with_reducible exact spec_PiecesOf.mono _ _)
   | (with_reducible exact spec_PiecesSame.mono _ _ _)
   | (with_reducible exact LeO.refl _)
   | (with_reducible exact LeO.none _)
   | (with_reducible refine LeO.ite ?_ ?_)
   | (with_reducible refine LeO.bind ?_ (fun _ => ?_))
   | exact ih0 _ _ _
   | exact ih1 _ _ _ _
   | exact impl_Contours.mono _ _
   | exact laws_someSpots.mono _ _
   | exact laws_zzFits31.mono _ _
   | exact spec_ContourRef.mono _ _
   | exact spec_PiecesOf.mono _ _
   | exact spec_PiecesSame.mono _ _ _
   | exact LeO.none _
   | refine LeO.ite ?_ ?_
   | refine LeO.bind ?_ (fun _ => ?_)
  ·intro y0 y1 y2 y3
   unfold laws_FnContours.l0
   repeat' first
   | (with_reducible exact ih0 _ _ _)
   | (with_reducible exact ih1 _ _ _ _)
   | (with_reducible exact impl_Contours.mono _ _)
   | (with_reducible exact laws_someSpots.mono _ _)
   | (with_reducible exact laws_zzFits31.mono _ _)
   | (with_reducible exact spec_ContourRef.mono _ _)
   | (with_reducible exact spec_PiecesOf.mono _ _)
   | (with_reducible exact spec_PiecesSame.mono _ _ _)
   | (with_reducible exact LeO.refl _)
   | (with_reducible exact LeO.none _)
   | (with_reducible refine LeO.ite ?_ ?_)
   | (with_reducible refine LeO.bind ?_ (fun _ => ?_))
   | exact ih0 _ _ _
   | exact ih1 _ _ _ _
   | exact impl_Contours.mono _ _
   | exact laws_someSpots.mono _ _
   | exact laws_zzFits31.mono _ _
   | exact spec_ContourRef.mono _ _
   | exact spec_PiecesOf.mono _ _
   | exact spec_PiecesSame.mono _ _ _
   | exact LeO.none _
   | refine LeO.ite ?_ ?_
   | refine LeO.bind ?_ (fun _ => ?_)
theorem laws_FnContours.mono : ∀ a0 k, LeO (laws_FnContours.f k a0) (laws_FnContours.f (k + 1) a0) := by
 intro a0 k
 obtain ⟨ih0, ih1⟩ := laws_FnContours.mono_l k
 unfold laws_FnContours.f
 repeat' first
   | (with_reducible exact ih0 _ _ _)
   | (with_reducible exact ih1 _ _ _ _)
   | (with_reducible exact impl_Contours.mono _ _)
   | (with_reducible exact laws_someSpots.mono _ _)
   | (with_reducible exact laws_zzFits31.mono _ _)
   | (with_reducible exact spec_ContourRef.mono _ _)
   | (with_reducible exact spec_PiecesOf.mono _ _)
   | (with_reducible exact spec_PiecesSame.mono _ _ _)
   | (with_reducible exact LeO.refl _)
   | (with_reducible exact LeO.none _)
   | (with_reducible refine LeO.ite ?_ ?_)
   | (with_reducible refine LeO.bind ?_ (fun _ => ?_))
   | exact ih0 _ _ _
   | exact ih1 _ _ _ _
   | exact impl_Contours.mono _ _
   | exact laws_someSpots.mono _ _
   | exact laws_zzFits31.mono _ _
   | exact spec_ContourRef.mono _ _
   | exact spec_PiecesOf.mono _ _
   | exact spec_PiecesSame.mono _ _ _
   | exact LeO.none _
   | refine LeO.ite ?_ ?_
   | refine LeO.bind ?_ (fun _ => ?_)
def laws_FnContours.T10 : Bool × List (List Nat × List Nat) := (true, [([], []), ([], []), ([0, 1], [0, 1]), ([2], [2]), ([], []), ([4], [4]), ([3, 5, 5], [3, 5]), ([6], [6])])
def laws_FnContours.B10 : List Nat := [0, 0, 3, 7, 0, 16, 63, 127]
theorem laws_FnContours.tab10 : rtab .any (opsOf Try.f5 10) = laws_FnContours.T10 := by kernel_rfl
theorem laws_FnContours.bits10 : waitsOk laws_FnContours.T10.2 laws_FnContours.B10 = true := by kernel_rfl
set_option maxHeartbeats 8000000 in
set_option maxRecDepth 100000 in
theorem laws_FnContours.calls (k : Nat) (A0 : Option Addr) (c0 : Nat) (l0 : List (List (S65))) (r : Bool) (w : World) (hr0 : Kd.C (Kd.slice 65 k65) w A0 l0.length l0) (hc0 : l0.length ≤ c0) (h : laws_FnContours.f k l0 = some r) :
  Calls Try.prog 5 #[.slice A0 l0.length c0] w fun e w' => e = .returned (.bool r) ∧ Below w.heap.size w w' := by
 have hu65 := Try.underlying65
 have HR0 := Aside0.mk hr0
 have HC0 := Aside0.mk hc0
 clear hr0 hc0
 have HB := Aside0.mk (Below.refl w.heap.size w)
 have H : ((laws_zzFits31.f k l0).bind fun t282 => (if t282 = true then ((laws_someSpots.f k l0).bind fun t283 => ((impl_Contours.f k t283).bind fun t286 => ((spec_PiecesOf.f k t286).bind fun bt289 => (if bt289.2 = true then (laws_FnContours.j0 k t283 bt289.1 ((bt289.1.length : Int) != (t283.length : Int))) else (laws_FnContours.j0 k t283 bt289.1 true))))) else (some true))) = some r := h
 clear h
 replace H := Option.bind_eq_some_iff.mp H
 obtain ⟨t282, A20, H⟩ := H
 replace H : (if t282 = true then ((laws_someSpots.f k l0).bind fun t283 => ((impl_Contours.f k t283).bind fun t286 => ((spec_PiecesOf.f k t286).bind fun bt289 => (if bt289.2 = true then (laws_FnContours.j0 k t283 bt289.1 ((bt289.1.length : Int) != (t283.length : Int))) else (laws_FnContours.j0 k t283 bt289.1 true))))) else (some true)) = some r := H
 have A2 := Aside0.mk A20
 clear A20
 by_cases c3 : t282 = true
 ·subst c3
  have H1 : ((laws_someSpots.f k l0).bind fun t283 => ((impl_Contours.f k t283).bind fun t286 => ((spec_PiecesOf.f k t286).bind fun bt289 => (if bt289.2 = true then (laws_FnContours.j0 k t283 bt289.1 ((bt289.1.length : Int) != (t283.length : Int))) else (laws_FnContours.j0 k t283 bt289.1 true))))) = some r := by rw [if_pos rfl] at H; exact H
  clear H
  have H := H1
  clear H1
  replace H := Option.bind_eq_some_iff.mp H
  obtain ⟨t283, A40, H⟩ := H
  replace H : ((impl_Contours.f k t283).bind fun t286 => ((spec_PiecesOf.f k t286).bind fun bt289 => (if bt289.2 = true then (laws_FnContours.j0 k t283 bt289.1 ((bt289.1.length : Int) != (t283.length : Int))) else (laws_FnContours.j0 k t283 bt289.1 true)))) = some r := H
  have A4 := Aside0.mk A40
  clear A40
  replace H := Option.bind_eq_some_iff.mp H
  obtain ⟨t286, A50, H⟩ := H
  replace H : ((spec_PiecesOf.f k t286).bind fun bt289 => (if bt289.2 = true then (laws_FnContours.j0 k t283 bt289.1 ((bt289.1.length : Int) != (t283.length : Int))) else (laws_FnContours.j0 k t283 bt289.1 true))) = some r := H
  have A5 := Aside0.mk A50
  clear A50
  replace H := Option.bind_eq_some_iff.mp H
  obtain ⟨⟨t289, t290⟩, A60, H⟩ := H
  replace H : (if t290 = true then (laws_FnContours.j0 k t283 t289 ((t289.length : Int) != (t283.length : Int))) else (laws_FnContours.j0 k t283 t289 true)) = some r := H
  have A6 := Aside0.mk A60
  clear A60
  have HC7 := Aside0.mk H
  clear H
  go_enter Try.func5, Try.ntmps5
  go_upto_region 5 with (first | ((with_reducible refine gate_callee (f := 15) rfl ?_); refine goesL_ (some 11) rfl rfl Try.func15 (by kernel_rfl) rfl #[.slice A0 l0.length c0] rfl (by (try simp only [List.map_toArray, List.map_cons, List.map_nil]); first | done | rfl | (simp only [List.length_drop, List.length_take]; rfl)) ?_; (with_reducible refine (laws_zzFits31.calls k _ _ l0 true _ ?side1 ?side2 A2.out).mono ?_); (case side1 => repeat (first | exact HR0.out | (with_reducible refine Kd.C_alloc ?_ _) | (with_reducible refine Kd.C_drewN ?_ _) | (with_reducible refine Kd.C_drew ?_))); (case side2 => exact HC0.out); rintro e w' ⟨rfl, ⟨nd, rfl⟩⟩; refine ⟨_, rfl, ?_⟩) | ((with_reducible refine gate_callee (f := 16) rfl ?_); refine goesL_ (some 14) rfl rfl Try.func16 (by kernel_rfl) rfl #[.slice A0 l0.length c0] rfl (by (try simp only [List.map_toArray, List.map_cons, List.map_nil]); first | done | rfl | (simp only [List.length_drop, List.length_take]; rfl)) ?_; (with_reducible refine (laws_someSpots.calls k _ _ l0 t283 _ ?side1 ?side2 A4.out).mono ?_); (case side1 => repeat (first | exact HR0.out | (with_reducible refine Kd.C_alloc ?_ _) | (with_reducible refine Kd.C_drewN ?_ _) | (with_reducible refine Kd.C_drew ?_))); (case side2 => exact HC0.out); rintro e w8 ⟨v284, rfl, ho0, hb⟩; refine ⟨_, rfl, ?_⟩; have n0_ := Aside0.mk (Kd.N_lower (Kd.N_mono (ok' := fun k_ => True) (Kd.S_N (Kd.S_bound ho0)) (fun k_ hk_ => trivial)) (below_size (by repeat (first | (with_reducible first | exact HB.out | apply below_alloc | apply pw_below_drewN | apply below_drew1) | exact HB.out)))); have n1_ := Aside0.mk (below_step (by repeat (first | (with_reducible first | exact HB.out | apply below_alloc | apply pw_below_drewN | apply below_drew1) | exact HB.out)) hb); clear HB; have HO285 := n0_; have HB := n1_; clear n0_ n1_; (try clear hb); (try clear hb2); (try clear hk); (try clear hi); (try clear ho0); obtain ⟨Ao9, co9, eo9⟩ := Kd.N_slice HO285.out; subst eo9) | ((with_reducible refine gate_callee (f := 18) rfl ?_); refine goesL_ (some 17) rfl rfl Try.func18 (by kernel_rfl) rfl #[.slice Ao9 t283.length co9] rfl (by (try simp only [List.map_toArray, List.map_cons, List.map_nil]); first | done | rfl | (simp only [List.length_drop, List.length_take]; rfl)) ?_; (with_reducible refine (impl_Contours.calls k _ _ t283 t286 _ ?side1 ?side2 A5.out).mono ?_); (case side1 => repeat (first | exact (Kd.N_reads' HO285.out).2.2 | (with_reducible refine Kd.C_alloc ?_ _) | (with_reducible refine Kd.C_drewN ?_ _) | (with_reducible refine Kd.C_drew ?_))); (case side2 => exact (Kd.N_reads' HO285.out).2.1); rintro e w10 ⟨v287, rfl, ho0, hb⟩; refine ⟨_, rfl, ?_⟩; have n0_ := Aside0.mk (Kd.N_elder' (by (with_reducible repeat (first | apply Kd.N_alloc | apply Kd.N_drewN | apply Kd.N_drew)); exact HO285.out) (Kd.R_base ho0) hb); have n1_ := Aside0.mk (Kd.R_lower ho0 (below_size (by repeat (first | (with_reducible first | exact HB.out | apply below_alloc | apply pw_below_drewN | apply below_drew1) | exact HB.out)))); have n2_ := Aside0.mk (below_step (by repeat (first | (with_reducible first | exact HB.out | apply below_alloc | apply pw_below_drewN | apply below_drew1) | exact HB.out)) hb); clear HO285; clear HB; have HO285 := n0_; have HO288 := n1_; have HB := n2_; clear n0_ n1_ n2_; (try clear hb); (try clear hb2); (try clear hk); (try clear hi); (try clear ho0); obtain ⟨Ao11, co11, eo11⟩ := Kd.R_slice HO288.out; subst eo11) | ((with_reducible refine gate_callee (f := 17) rfl ?_); refine goesL_ (some 18) rfl rfl Try.func17 (by kernel_rfl) rfl #[.slice Ao11 t286.length co11] rfl (by (try simp only [List.map_toArray, List.map_cons, List.map_nil]); first | done | rfl | (simp only [List.length_drop, List.length_take]; rfl)) ?_; (with_reducible refine (spec_PiecesOf.calls k _ _ t286 t289 t290 _ ?side1 ?side2 A6.out).mono ?_); (case side1 => repeat (first | exact (Kd.R_reads' HO288.out).2.2 | (with_reducible refine Kd.C_alloc ?_ _) | (with_reducible refine Kd.C_drewN ?_ _) | (with_reducible refine Kd.C_drew ?_))); (case side2 => exact (Kd.R_reads' HO288.out).2.1); rintro e w12 ⟨v291, rfl, ho0, hb⟩; refine ⟨_, rfl, ?_⟩; have n0_ := Aside0.mk (Kd.N_elder' (by (with_reducible repeat (first | apply Kd.N_alloc | apply Kd.N_drewN | apply Kd.N_drew)); exact HO285.out) (Kd.N_base (Kd.S_N ho0)) hb); have n1_ := Aside0.mk (Kd.R_below (by (with_reducible repeat (first | apply Kd.R_alloc | apply Kd.R_drewN | apply Kd.R_drew)); exact HO288.out) hb); have n2_ := Aside0.mk (Kd.N_lower (Kd.N_mono (ok' := fun k_ => some k_ ≠ (.slice Ao9 t283.length co9 : Value).ownBlock ∧ some k_ ≠ (.slice Ao11 t286.length co11 : Value).ownBlock) (Kd.S_N (Kd.S_bound ho0)) (fun k_ hk_ => ⟨(Kd.fresh' (Kd.N_lt (by (with_reducible repeat (first | apply Kd.N_alloc | apply Kd.N_drewN | apply Kd.N_drew)); exact HO285.out)) k_ hk_.2.1), (Kd.fresh' (Kd.R_lt (by (with_reducible repeat (first | apply Kd.R_alloc | apply Kd.R_drewN | apply Kd.R_drew)); exact HO288.out)) k_ hk_.2.1)⟩)) (below_size (by repeat (first | (with_reducible first | exact HB.out | apply below_alloc | apply pw_below_drewN | apply below_drew1) | exact HB.out)))); have n3_ := Aside0.mk (below_step (by repeat (first | (with_reducible first | exact HB.out | apply below_alloc | apply pw_below_drewN | apply below_drew1) | exact HB.out)) hb); clear HO285; clear HO288; clear HB; have HO285 := n0_; have HO288 := n1_; have HO292 := n2_; have HB := n3_; clear n0_ n1_ n2_ n3_; (try clear hb); (try clear hb2); (try clear hk); (try clear hi); (try clear ho0)))
  (try simp only [Act.put, L1_, L2_, L3_])
  go_cut [29] (fun v29 wc => ∃ (kq : Nat) (x29_6 : Bool), v29 = .bool x29_6 ∧ Aside0 (laws_FnContours.j0 kq t283 t289 x29_6 = some r) ∧ Aside0 (kq ≤ k) ∧ Aside0 (Kd.N (Kd.slice 65 k65) 60 wc w.heap.size (fun k_ => some k_ ≠ (v291 : Value).ownBlock) (.slice Ao9 t283.length co9) t283) ∧ Aside0 (Kd.N (Kd.slice 129 k129) 62 wc w.heap.size (fun k_ => some k_ ≠ ((.slice Ao9 t283.length co9) : Value).ownBlock) v291 t289) ∧ Aside0 (Below w.heap.size w wc))
  case first =>
   have H := HC7.out
   clear HC7
   by_cases c13 : t290 = true
   ·subst c13
    have H1 : (laws_FnContours.j0 k t283 t289 ((t289.length : Int) != (t283.length : Int))) = some r := by rw [if_pos rfl] at H; exact H
    clear H
    have H := H1
    clear H1
    have H' := Aside0.mk H
    clear H
    obtain ⟨Ao14, co14, eo14⟩ := Kd.N_slice HO292.out
    subst eo14
    go_wp2
    go_meet
    case rel => exact ⟨_, (((t289.length : Int) != (t283.length : Int))), (by first | rfl | (simp; done) | (simp [*]; done)), H', ⟨by first | omega | exact Nat.le_refl _⟩, ⟨by (with_reducible repeat (first | apply Kd.N_alloc | apply Kd.N_drewN | apply Kd.N_drew)); exact Kd.N_mono HO285.out (fun _ hk => hk.2)⟩, ⟨by (with_reducible repeat (first | apply Kd.N_alloc | apply Kd.N_drewN | apply Kd.N_drew)); exact Kd.N_mono HO292.out (fun _ hk => hk.1)⟩, ⟨by repeat (first | (with_reducible first | exact HB.out | apply below_alloc | apply pw_below_drewN | apply below_drew1) | exact HB.out)⟩⟩
   ·replace c13 := Bool.eq_false_iff.mpr c13
    subst c13
    have H1 : (laws_FnContours.j0 k t283 t289 true) = some r := by rw [if_neg (show ¬ (false = true) by decide)] at H; exact H
    clear H
    have H := H1
    clear H1
    have H' := Aside0.mk H
    clear H
    go_wp2
    go_meet
    case rel => exact ⟨_, (true), (by first | rfl | (simp; done) | (simp [*]; done)), H', ⟨by first | omega | exact Nat.le_refl _⟩, ⟨by (with_reducible repeat (first | apply Kd.N_alloc | apply Kd.N_drewN | apply Kd.N_drew)); exact Kd.N_mono HO285.out (fun _ hk => hk.2)⟩, ⟨by (with_reducible repeat (first | apply Kd.N_alloc | apply Kd.N_drewN | apply Kd.N_drew)); exact Kd.N_mono HO292.out (fun _ hk => hk.1)⟩, ⟨by repeat (first | (with_reducible first | exact HB.out | apply below_alloc | apply pw_below_drewN | apply below_drew1) | exact HB.out)⟩⟩
  case rest =>
   clear HC7
   (try clear c1); (try clear p2); (try clear c3); (try clear c5); (try clear c13)
   obtain ⟨kq, x29_6, rfl, HA, HJ6, HO_3, HO_4, HB⟩ := hcut
   cases kq with
   | zero => exact absurd HA.out (by simp [laws_FnContours.j0])
   | succ kj6 =>
    have H := HA.out
    clear HA
    simp only [laws_FnContours.j0] at H
    by_cases c15 : x29_6 = true
    ·subst c15
     have H1 : (some false) = some r := by rw [if_pos rfl] at H; exact H
     clear H
     have H := H1
     clear H1
     obtain rfl := Option.some.inj H
     go_wp2
     go_ret
     exact ⟨by first | rfl | (simp [errW_none, errW_some] <;> rfl) | (simp [*, errW_none, errW_some] <;> rfl), by repeat (first | (with_reducible first | exact HB.out | apply below_alloc | apply pw_below_drewN | apply below_drew1) | exact HB.out)⟩
    ·replace c15 := Bool.eq_false_iff.mpr c15
     subst c15
     have H1 : (laws_FnContours.l0 kj6 t289 t283 (t283.length : Int) 0) = some r := by rw [if_neg (show ¬ (false = true) by decide)] at H; exact H
     clear H
     have H := H1
     clear H1
     have H' := Aside0.mk H
     clear H
     go_wp2
     go_loopg [32] kj6 (fun kq v32 w' => ∃ (x32_2 : Int), v32 = .int .i64 x32_2 ∧ Aside0 (laws_FnContours.l0 kq t289 t283 (t283.length : Int) x32_2 = some r) ∧ Aside0 (kq ≤ kj6) ∧ Aside0 (Kd.N (Kd.slice 129 k129) 62 w' w.heap.size (fun k_ => some k_ ≠ ((.slice Ao9 t283.length co9) : Value).ownBlock) v291 t289) ∧ Aside0 (Kd.N (Kd.slice 65 k65) 60 w' w.heap.size (fun k_ => some k_ ≠ (v291 : Value).ownBlock) (.slice Ao9 t283.length co9) t283) ∧ Aside0 (Below w.heap.size w w'))
     case atStart => exact ⟨(0), (by first | rfl | (simp; done) | (simp [*]; done)), H', ⟨Nat.le_refl _⟩, ⟨by (with_reducible repeat (first | apply Kd.N_alloc | apply Kd.N_drewN | apply Kd.N_drew)); exact HO_4.out⟩, ⟨by (with_reducible repeat (first | apply Kd.N_alloc | apply Kd.N_drewN | apply Kd.N_drew)); exact HO_3.out⟩, ⟨by repeat (first | (with_reducible first | exact HB.out | apply below_alloc | apply pw_below_drewN | apply below_drew1) | exact HB.out)⟩⟩
     case round =>
      clear H'
      (try clear c1); (try clear p2); (try clear c3); (try clear c5); (try clear c13); (try clear c15); (try clear p2)
      obtain ⟨x32_2, rfl, HA, HK2, HO_4, HO_30, HB⟩ := hrel
      cases gk with
      | zero => exact absurd HA.out (by simp [laws_FnContours.l0])
      | succ k2 =>
       have H := HA.out
       clear HA
       simp only [laws_FnContours.l0] at H
       by_cases c16 : x32_2 < (t283.length : Int)
       ·rw [if_pos c16] at H
        have c16b0 : decide (x32_2 < (t283.length : Int)) = true := decide_eq_true c16
        clear c16
        by_cases c17 : 0 ≤ x32_2
        rotate_left
        ·rw [if_neg c17] at H
         exact absurd H (by simp)
        rw [if_pos c17] at H
        have c17b0 : decide (0 ≤ x32_2) = true := decide_eq_true c17
        clear c17
        by_cases c18 : x32_2 < (t283.length : Int)
        rotate_left
        ·rw [if_neg c18] at H
         exact absurd H (by simp)
        rw [if_pos c18] at H
        have c18b0 : decide (x32_2 < (t283.length : Int)) = true := decide_eq_true c18
        clear c18
        by_cases c19 : x32_2 < (t289.length : Int)
        rotate_left
        ·rw [if_neg c19] at H
         exact absurd H (by simp)
        rw [if_pos c19] at H
        have c19b0 : decide (x32_2 < (t289.length : Int)) = true := decide_eq_true c19
        clear c19
        replace H := Option.bind_eq_some_iff.mp H
        obtain ⟨t295, A200, H⟩ := H
        replace H : ((spec_PiecesSame.f k2 (rd_L9 t289 x32_2) t295).bind fun t298 => (if t298 = true then (laws_FnContours.l0 k2 t289 t283 (t283.length : Int) (wrap64 (x32_2 + 1))) else (some false))) = some r := H
        have A20 := Aside0.mk A200
        clear A200
        replace H := Option.bind_eq_some_iff.mp H
        obtain ⟨t298, A210, H⟩ := H
        replace H : (if t298 = true then (laws_FnContours.l0 k2 t289 t283 (t283.length : Int) (wrap64 (x32_2 + 1))) else (some false)) = some r := H
        have A21 := Aside0.mk A210
        clear A210
        by_cases c22 : t298 = true
        ·subst c22
         have H1 : (laws_FnContours.l0 k2 t289 t283 (t283.length : Int) (wrap64 (x32_2 + 1))) = some r := by rw [if_pos rfl] at H; exact H
         clear H
         have H := H1
         clear H1
         have H' := Aside0.mk H
         clear H
         have p293 : 0 ≤ (x32_2 : Int) := of_decide_eq_true (by first | (with_reducible assumption) | assumption)
         have q293 : x32_2 < (t283.length : Int) := of_decide_eq_true (by first | (with_reducible assumption) | assumption)
         obtain ⟨ad293, A293_0, c293_0, e293, hx293_0, hl293_0, hi293_0⟩ := at_L3 (Kd.N_reads' HO_30.out).2.2 x32_2 p293 q293
         cases e293
         obtain ⟨ce293, hce293, hMe293, hcc293⟩ := Kd.N_get HO_30.out [] x32_2 p293 (by first | exact q293 | exact of_decide_eq_true (by first | (with_reducible assumption) | assumption) | (have e_ := (Kd.N_reads' HO_30.out).1; omega))
         obtain ⟨ua293_0, uc293_0, rfl, ul293_0, ge293_0⟩ := Kd.FK_slice_open hMe293
         have hv293_0 := hcc293 0 _ rfl
         rw [Nat.add_zero, show ((Kd.slice 65 k65)).sz = 1 from rfl, Nat.mul_one] at hv293_0
         replace hv293_0 := Option.some.inj (hv293_0.symm.trans hx293_0)
         injection hv293_0 with hva_ hvn_ hvc_
         rw [hva_] at ge293_0
         rw [hvc_] at ul293_0
         have HL293_0 := Aside0.mk (show Kd.V k65 65 _ w.heap.size _ _ (rd_L3 t283 x32_2) from Kd.V_mk ul293_0 ge293_0)
         clear hva_ hvn_ hvc_ ge293_0 ul293_0
         clear hcc293 hce293
         have HR293_0 := Aside0.mk hi293_0
         have HC293_0 := Aside0.mk hl293_0
         clear hi293_0 hl293_0
         replace p293 := eq_true p293
         replace q293 := eq_true q293
         try go_wp2
         have n0_ := Aside0.mk (Kd.N_drew HO_4.out)
         have n1_ := Aside0.mk (Kd.N_drew HO_30.out)
         have n2_ := Aside0.mk (Kd.V_drew HL293_0.out)
         have n3_ := Aside0.mk (Kd.C_drew HR293_0.out)
         have n4_ := Aside0.mk (below_drew1 HB.out)
         clear HO_4
         clear HO_30
         clear HL293_0
         clear HR293_0
         clear HB
         have HO_4 := n0_
         have HO_30 := n1_
         have HL293_0 := n2_
         have HR293_0 := n3_
         have HB := n4_
         clear n0_ n1_ n2_ n3_ n4_
         obtain ⟨Ao24, co24, eo24⟩ := Kd.N_slice HO_4.out
         (first | subst eo24 | (injection eo24 with f1_ f2_ f3_; have f4_ := f1_.symm; have f5_ := f3_.symm; clear f1_ f2_ f3_; subst f4_; subst f5_))
         have p294 : 0 ≤ (x32_2 : Int) := of_decide_eq_true (by first | (with_reducible assumption) | assumption)
         have q294 : x32_2 < (t289.length : Int) := of_decide_eq_true (by first | (with_reducible assumption) | assumption)
         obtain ⟨ad294, A294_0, c294_0, e294, hx294_0, hl294_0, hi294_0⟩ := at_L9 (Kd.N_reads' HO_4.out).2.2 x32_2 p294 q294
         cases e294
         obtain ⟨ce294, hce294, hMe294, hcc294⟩ := Kd.N_get HO_4.out [] x32_2 p294 (by first | exact q294 | exact of_decide_eq_true (by first | (with_reducible assumption) | assumption) | (have e_ := (Kd.N_reads' HO_4.out).1; omega))
         obtain ⟨ua294_0, uc294_0, rfl, ul294_0, ge294_0⟩ := Kd.FK_slice_open hMe294
         have hv294_0 := hcc294 0 _ rfl
         rw [Nat.add_zero, show ((Kd.slice 129 k129)).sz = 1 from rfl, Nat.mul_one] at hv294_0
         replace hv294_0 := Option.some.inj (hv294_0.symm.trans hx294_0)
         injection hv294_0 with hva_ hvn_ hvc_
         rw [hva_] at ge294_0
         rw [hvc_] at ul294_0
         have HL294_0 := Aside0.mk (show Kd.V k129 129 _ w.heap.size _ _ (rd_L9 t289 x32_2) from Kd.V_mk ul294_0 ge294_0)
         clear hva_ hvn_ hvc_ ge294_0 ul294_0
         clear hcc294 hce294
         have HR294_0 := Aside0.mk hi294_0
         have HC294_0 := Aside0.mk hl294_0
         clear hi294_0 hl294_0
         replace p294 := eq_true p294
         replace q294 := eq_true q294
         refine start_ (n := 8) (S := fun w' => w'.cell? (ad294.add (x32_2).toNat) = some (.slice A294_0 (rd_L9 t289 x32_2).length c294_0)) (ds := []) #[false, false, false, false, false, false, false, false] (by kernel_rfl) rfl rfl (hx294_0) (fun hHeld => ?_); refine with_tabW laws_FnContours.tab10 laws_FnContours.bits10 (fun HT_ HW_ => ?_)
         generalize wr.drew = w23 at HO_4 HO_30 HL293_0 HR293_0 HB HL294_0 HR294_0 hx294_0 hHeld ⊢
         refine pure_ (i := 0) (N := some 37) (v := ?_) (a' := ?_) #[true, false, false, false, false, false, false, false] rfl rfl (any_of HT_.out (by kernel_rfl)) (fun _ _ _ h => h) (Or.inl ⟨by rfl, ?_⟩) ?_ ?_
         rotate_left
         ·intro w'
          go_simp
          with_reducible rfl
         rotate_left
         ·simp only [Act.put, L1_, L2_, L3_, i64_w, i32_w]
          rfl
         refine pure_ (i := 1) (N := some 38) (v := ?_) (a' := ?_) #[true, true, false, false, false, false, false, false] rfl rfl (any_of HT_.out (by kernel_rfl)) (fun _ _ _ h => h) (Or.inl ⟨by rfl, ?_⟩) ?_ ?_
         rotate_left
         ·intro w'
          go_simp
          with_reducible rfl
         rotate_left
         ·simp only [Act.put, L1_, L2_, L3_, i64_w, i32_w]
          rfl
         refine pure_ (i := 2) (N := some 39) (v := ?_) (a' := ?_) #[true, true, true, false, false, false, false, false] rfl rfl (any_of HT_.out (by kernel_rfl)) (fun _ _ _ h => h) (Or.inl ⟨by rfl, ?_⟩) ?_ ?_
         rotate_left
         ·intro w'
          go_simp
          with_reducible rfl
         rotate_left
         ·simp only [Act.put, L1_, L2_, L3_, i64_w, i32_w]
          rfl
         refine pure_ (i := 4) (N := some 41) (v := ?_) (a' := ?_) #[true, true, true, false, true, false, false, false] rfl rfl (any_of HT_.out (by kernel_rfl)) (fun _ _ _ h => h) (Or.inl ⟨by rfl, ?_⟩) ?_ ?_
         rotate_left
         ·intro w'
          go_simp
          with_reducible rfl
         rotate_left
         ·simp only [Act.put, L1_, L2_, L3_, i64_w, i32_w]
          rfl
         refine take_ (i := 3) (N := some 40) (v := ?_) (a' := ?_) #[true, true, true, true, true, false, false, false] rfl rfl (take_ofW HT_.out HW_.out (by kernel_rfl)) (fun _ _ _ h => h) (Or.inl ⟨by rfl, ?_⟩) hHeld ?_ ?_
         rotate_left
         ·intro w' s0
          go_simp
          with_reducible rfl
         rotate_left
         ·simp only [Act.put, L1_, L2_, L3_, i64_w, i32_w]
          rfl
         refine one_ (i := 5) (N := some 42) #[true, true, true, true, true, true, false, false] rfl rfl (one_of HT_.out (by kernel_rfl)) (by decide) (fun K hK => ?_)
         refine goes_ Try.func20 (by kernel_rfl) rfl #[.slice A293_0 (rd_L3 t283 x32_2).length c293_0] (by rfl) rfl rfl (by (try simp only [List.map_toArray, List.map_cons, List.map_nil]); first | done | rfl | (simp only [List.length_drop, List.length_take]; rfl)) ?_
         with_reducible refine (spec_ContourRef.calls k2 _ _ (rd_L3 t283 x32_2) t295 _ ?side1 ?side2 A20.out).mono ?_
         (case side1 => repeat (first | exact (by repeat (first | (with_reducible exact HR293_0.out) | (with_reducible refine Kd.C_alloc ?_ _) | (with_reducible refine Kd.C_drewN ?_ _) | (with_reducible refine Kd.C_drew ?_) | exact HR293_0.out)) | (with_reducible refine Kd.C_alloc ?_ _) | (with_reducible refine Kd.C_drewN ?_ _) | (with_reducible refine Kd.C_drew ?_)))
         (case side2 => exact HC293_0.out)
         rintro e w25 ⟨v296, rfl, ho0, hb⟩
         have HS0_ := (hb.cell (World.block_lt_of_cell? _ _ (hHeld))).trans (hHeld)
         refine ⟨_, rfl, ?_⟩
         have n0_ := Aside0.mk (Kd.N_elder' (by (with_reducible repeat (first | apply Kd.N_alloc | apply Kd.N_drewN | apply Kd.N_drew)); exact HO_4.out) (Kd.R_base ho0) hb)
         have n1_ := Aside0.mk (Kd.N_elder' (by (with_reducible repeat (first | apply Kd.N_alloc | apply Kd.N_drewN | apply Kd.N_drew)); exact HO_30.out) (Kd.R_base ho0) hb)
         have n2_ := Aside0.mk (Kd.V_elder' (by (with_reducible repeat (first | apply Kd.V_alloc | apply Kd.V_drewN | apply Kd.V_drew)); exact HL293_0.out) (Kd.R_base ho0) hb)
         have n3_ := Aside0.mk (Kd.V_elder' (by (with_reducible repeat (first | apply Kd.V_alloc | apply Kd.V_drewN | apply Kd.V_drew)); exact HL294_0.out) (Kd.R_base ho0) hb)
         have n4_ := Aside0.mk (Kd.R_lower ho0 (below_size (by repeat (first | (with_reducible first | exact HB.out | apply below_alloc | apply pw_below_drewN | apply below_drew1) | exact HB.out))))
         have n5_ := Aside0.mk (Kd.C_below (by repeat (first | (with_reducible exact HR293_0.out) | (with_reducible refine Kd.C_alloc ?_ _) | (with_reducible refine Kd.C_drewN ?_ _) | (with_reducible refine Kd.C_drew ?_) | exact HR293_0.out)) hb)
         have n6_ := Aside0.mk (Kd.C_below (by repeat (first | (with_reducible exact HR294_0.out) | (with_reducible refine Kd.C_alloc ?_ _) | (with_reducible refine Kd.C_drewN ?_ _) | (with_reducible refine Kd.C_drew ?_) | exact HR294_0.out)) hb)
         have n7_ := Aside0.mk (below_step (by repeat (first | (with_reducible first | exact HB.out | apply below_alloc | apply pw_below_drewN | apply below_drew1) | exact HB.out)) hb)
         clear HO_4
         clear HO_30
         clear HL293_0
         clear HL294_0
         clear HR293_0
         clear HR294_0
         clear HB
         have HO_4 := n0_
         have HO_30 := n1_
         have HL293_0 := n2_
         have HL294_0 := n3_
         have HO297 := n4_
         have HR293_0 := n5_
         have HR294_0 := n6_
         have HB := n7_
         clear n0_ n1_ n2_ n3_ n4_ n5_ n6_ n7_
         (try clear hb)
         (try clear hb2)
         (try clear hk)
         (try clear hi)
         (try clear ho0)
         obtain ⟨Ao26, co26, eo26⟩ := Kd.R_slice HO297.out
         (first | subst eo26 | (injection eo26 with f1_ f2_ f3_; have f4_ := f1_.symm; have f5_ := f3_.symm; clear f1_ f2_ f3_; subst f4_; subst f5_))
         refine hK.out _ _ (HS0_) (fun hHeld => ?_)
         clear hK K
         refine norm_ (a' := ?_) ?_ ?_
         rotate_left
         ·show Act.put _ (some 42) _ = _
          simp only [Act.put, L1_, L2_, L3_, i64_w, i32_w]
          rfl
         refine one_ (i := 6) (N := some 43) #[true, true, true, true, true, true, true, false] rfl rfl (one_of HT_.out (by kernel_rfl)) (by decide) (fun K hK => ?_)
         refine goes_ Try.func19 (by kernel_rfl) rfl #[.slice A294_0 (rd_L9 t289 x32_2).length c294_0, .slice Ao26 t295.length co26] (by rfl) rfl rfl (by (try simp only [List.map_toArray, List.map_cons, List.map_nil]); first | done | rfl | (simp only [List.length_drop, List.length_take]; rfl)) ?_
         with_reducible refine (spec_PiecesSame.calls k2 _ _ (rd_L9 t289 x32_2) _ _ t295 true _ ?side1 ?side2 ?side3 ?side4 A21.out).mono ?_
         (case side1 => repeat (first | exact (by repeat (first | (with_reducible exact HR294_0.out) | (with_reducible refine Kd.C_alloc ?_ _) | (with_reducible refine Kd.C_drewN ?_ _) | (with_reducible refine Kd.C_drew ?_) | exact HR294_0.out)) | (with_reducible refine Kd.C_alloc ?_ _) | (with_reducible refine Kd.C_drewN ?_ _) | (with_reducible refine Kd.C_drew ?_)))
         (case side2 => exact HC294_0.out)
         (case side3 => repeat (first | exact (Kd.R_reads' HO297.out).2.2 | (with_reducible refine Kd.C_alloc ?_ _) | (with_reducible refine Kd.C_drewN ?_ _) | (with_reducible refine Kd.C_drew ?_)))
         (case side4 => exact (Kd.R_reads' HO297.out).2.1)
         rintro e w27 ⟨rfl, hb⟩
         have HS0_ := (hb.cell (World.block_lt_of_cell? _ _ (hHeld))).trans (hHeld)
         refine ⟨_, rfl, ?_⟩
         have n0_ := Aside0.mk (Kd.N_below (by (with_reducible repeat (first | apply Kd.N_alloc | apply Kd.N_drewN | apply Kd.N_drew)); exact HO_4.out) hb)
         have n1_ := Aside0.mk (Kd.N_below (by (with_reducible repeat (first | apply Kd.N_alloc | apply Kd.N_drewN | apply Kd.N_drew)); exact HO_30.out) hb)
         have n2_ := Aside0.mk (Kd.V_below (by (with_reducible repeat (first | apply Kd.V_alloc | apply Kd.V_drewN | apply Kd.V_drew)); exact HL293_0.out) hb)
         have n3_ := Aside0.mk (Kd.V_below (by (with_reducible repeat (first | apply Kd.V_alloc | apply Kd.V_drewN | apply Kd.V_drew)); exact HL294_0.out) hb)
         have n4_ := Aside0.mk (Kd.R_below (by (with_reducible repeat (first | apply Kd.R_alloc | apply Kd.R_drewN | apply Kd.R_drew)); exact HO297.out) hb)
         have n5_ := Aside0.mk (Kd.C_below (by repeat (first | (with_reducible exact HR293_0.out) | (with_reducible refine Kd.C_alloc ?_ _) | (with_reducible refine Kd.C_drewN ?_ _) | (with_reducible refine Kd.C_drew ?_) | exact HR293_0.out)) hb)
         have n6_ := Aside0.mk (Kd.C_below (by repeat (first | (with_reducible exact HR294_0.out) | (with_reducible refine Kd.C_alloc ?_ _) | (with_reducible refine Kd.C_drewN ?_ _) | (with_reducible refine Kd.C_drew ?_) | exact HR294_0.out)) hb)
         have n7_ := Aside0.mk (below_step (by repeat (first | (with_reducible first | exact HB.out | apply below_alloc | apply pw_below_drewN | apply below_drew1) | exact HB.out)) hb)
         clear HO_4
         clear HO_30
         clear HL293_0
         clear HL294_0
         clear HO297
         clear HR293_0
         clear HR294_0
         clear HB
         have HO_4 := n0_
         have HO_30 := n1_
         have HL293_0 := n2_
         have HL294_0 := n3_
         have HO297 := n4_
         have HR293_0 := n5_
         have HR294_0 := n6_
         have HB := n7_
         clear n0_ n1_ n2_ n3_ n4_ n5_ n6_ n7_
         (try clear hb)
         (try clear hb2)
         (try clear hk)
         (try clear hi)
         refine hK.out _ _ (HS0_) (fun hHeld => ?_)
         clear hK K
         refine norm_ (a' := ?_) ?_ ?_
         rotate_left
         ·show Act.put _ (some 43) _ = _
          simp only [Act.put, L1_, L2_, L3_, i64_w, i32_w]
          rfl
         refine pure_ (i := 7) (N := some 44) (v := ?_) (a' := ?_) #[true, true, true, true, true, true, true, true] rfl rfl (any_of HT_.out (by kernel_rfl)) (fun _ _ _ h => h) (Or.inl ⟨by rfl, ?_⟩) ?_ ?_
         rotate_left
         ·intro w'
          go_simp
          with_reducible rfl
         rotate_left
         ·simp only [Act.put, L1_, L2_, L3_, i64_w, i32_w]
          rfl
         refine done_ (done_of HT_.out (by kernel_rfl)) ?_
         try go_wp2
         go_roundg k2
         case measure => have := HJ6.out; have := HK2.out; omega
         case rel => exact ⟨(wrap64 (x32_2 + 1)), (by first | rfl | (simp; done) | (simp [*]; done)), H', ⟨by have := HJ6.out; have := HK2.out; omega⟩, ⟨by (with_reducible repeat (first | apply Kd.N_alloc | apply Kd.N_drewN | apply Kd.N_drew)); exact Kd.N_mono HO_4.out (fun _ hk => hk.1)⟩, ⟨by (with_reducible repeat (first | apply Kd.N_alloc | apply Kd.N_drewN | apply Kd.N_drew)); exact Kd.N_mono HO_30.out (fun _ hk => hk.1)⟩, ⟨by repeat (first | (with_reducible first | exact HB.out | apply below_alloc | apply pw_below_drewN | apply below_drew1) | exact HB.out)⟩⟩
        ·replace c22 := Bool.eq_false_iff.mpr c22
         subst c22
         have H1 : (some false) = some r := by rw [if_neg (show ¬ (false = true) by decide)] at H; exact H
         clear H
         have H := H1
         clear H1
         obtain rfl := Option.some.inj H
         have p293 : 0 ≤ (x32_2 : Int) := of_decide_eq_true (by first | (with_reducible assumption) | assumption)
         have q293 : x32_2 < (t283.length : Int) := of_decide_eq_true (by first | (with_reducible assumption) | assumption)
         obtain ⟨ad293, A293_0, c293_0, e293, hx293_0, hl293_0, hi293_0⟩ := at_L3 (Kd.N_reads' HO_30.out).2.2 x32_2 p293 q293
         cases e293
         obtain ⟨ce293, hce293, hMe293, hcc293⟩ := Kd.N_get HO_30.out [] x32_2 p293 (by first | exact q293 | exact of_decide_eq_true (by first | (with_reducible assumption) | assumption) | (have e_ := (Kd.N_reads' HO_30.out).1; omega))
         obtain ⟨ua293_0, uc293_0, rfl, ul293_0, ge293_0⟩ := Kd.FK_slice_open hMe293
         have hv293_0 := hcc293 0 _ rfl
         rw [Nat.add_zero, show ((Kd.slice 65 k65)).sz = 1 from rfl, Nat.mul_one] at hv293_0
         replace hv293_0 := Option.some.inj (hv293_0.symm.trans hx293_0)
         injection hv293_0 with hva_ hvn_ hvc_
         rw [hva_] at ge293_0
         rw [hvc_] at ul293_0
         have HL293_0 := Aside0.mk (show Kd.V k65 65 _ w.heap.size _ _ (rd_L3 t283 x32_2) from Kd.V_mk ul293_0 ge293_0)
         clear hva_ hvn_ hvc_ ge293_0 ul293_0
         clear hcc293 hce293
         have HR293_0 := Aside0.mk hi293_0
         have HC293_0 := Aside0.mk hl293_0
         clear hi293_0 hl293_0
         replace p293 := eq_true p293
         replace q293 := eq_true q293
         try go_wp2
         have n0_ := Aside0.mk (Kd.N_drew HO_4.out)
         have n1_ := Aside0.mk (Kd.N_drew HO_30.out)
         have n2_ := Aside0.mk (Kd.V_drew HL293_0.out)
         have n3_ := Aside0.mk (Kd.C_drew HR293_0.out)
         have n4_ := Aside0.mk (below_drew1 HB.out)
         clear HO_4
         clear HO_30
         clear HL293_0
         clear HR293_0
         clear HB
         have HO_4 := n0_
         have HO_30 := n1_
         have HL293_0 := n2_
         have HR293_0 := n3_
         have HB := n4_
         clear n0_ n1_ n2_ n3_ n4_
         obtain ⟨Ao29, co29, eo29⟩ := Kd.N_slice HO_4.out
         (first | subst eo29 | (injection eo29 with f1_ f2_ f3_; have f4_ := f1_.symm; have f5_ := f3_.symm; clear f1_ f2_ f3_; subst f4_; subst f5_))
         have p294 : 0 ≤ (x32_2 : Int) := of_decide_eq_true (by first | (with_reducible assumption) | assumption)
         have q294 : x32_2 < (t289.length : Int) := of_decide_eq_true (by first | (with_reducible assumption) | assumption)
         obtain ⟨ad294, A294_0, c294_0, e294, hx294_0, hl294_0, hi294_0⟩ := at_L9 (Kd.N_reads' HO_4.out).2.2 x32_2 p294 q294
         cases e294
         obtain ⟨ce294, hce294, hMe294, hcc294⟩ := Kd.N_get HO_4.out [] x32_2 p294 (by first | exact q294 | exact of_decide_eq_true (by first | (with_reducible assumption) | assumption) | (have e_ := (Kd.N_reads' HO_4.out).1; omega))
         obtain ⟨ua294_0, uc294_0, rfl, ul294_0, ge294_0⟩ := Kd.FK_slice_open hMe294
         have hv294_0 := hcc294 0 _ rfl
         rw [Nat.add_zero, show ((Kd.slice 129 k129)).sz = 1 from rfl, Nat.mul_one] at hv294_0
         replace hv294_0 := Option.some.inj (hv294_0.symm.trans hx294_0)
         injection hv294_0 with hva_ hvn_ hvc_
         rw [hva_] at ge294_0
         rw [hvc_] at ul294_0
         have HL294_0 := Aside0.mk (show Kd.V k129 129 _ w.heap.size _ _ (rd_L9 t289 x32_2) from Kd.V_mk ul294_0 ge294_0)
         clear hva_ hvn_ hvc_ ge294_0 ul294_0
         clear hcc294 hce294
         have HR294_0 := Aside0.mk hi294_0
         have HC294_0 := Aside0.mk hl294_0
         clear hi294_0 hl294_0
         replace p294 := eq_true p294
         replace q294 := eq_true q294
         refine start_ (n := 8) (S := fun w' => w'.cell? (ad294.add (x32_2).toNat) = some (.slice A294_0 (rd_L9 t289 x32_2).length c294_0)) (ds := []) #[false, false, false, false, false, false, false, false] (by kernel_rfl) rfl rfl (hx294_0) (fun hHeld => ?_); refine with_tabW laws_FnContours.tab10 laws_FnContours.bits10 (fun HT_ HW_ => ?_)
         generalize wr.drew = w28 at HO_4 HO_30 HL293_0 HR293_0 HB HL294_0 HR294_0 hx294_0 hHeld ⊢
         refine pure_ (i := 0) (N := some 37) (v := ?_) (a' := ?_) #[true, false, false, false, false, false, false, false] rfl rfl (any_of HT_.out (by kernel_rfl)) (fun _ _ _ h => h) (Or.inl ⟨by rfl, ?_⟩) ?_ ?_
         rotate_left
         ·intro w'
          go_simp
          with_reducible rfl
         rotate_left
         ·simp only [Act.put, L1_, L2_, L3_, i64_w, i32_w]
          rfl
         refine pure_ (i := 1) (N := some 38) (v := ?_) (a' := ?_) #[true, true, false, false, false, false, false, false] rfl rfl (any_of HT_.out (by kernel_rfl)) (fun _ _ _ h => h) (Or.inl ⟨by rfl, ?_⟩) ?_ ?_
         rotate_left
         ·intro w'
          go_simp
          with_reducible rfl
         rotate_left
         ·simp only [Act.put, L1_, L2_, L3_, i64_w, i32_w]
          rfl
         refine pure_ (i := 2) (N := some 39) (v := ?_) (a' := ?_) #[true, true, true, false, false, false, false, false] rfl rfl (any_of HT_.out (by kernel_rfl)) (fun _ _ _ h => h) (Or.inl ⟨by rfl, ?_⟩) ?_ ?_
         rotate_left
         ·intro w'
          go_simp
          with_reducible rfl
         rotate_left
         ·simp only [Act.put, L1_, L2_, L3_, i64_w, i32_w]
          rfl
         refine pure_ (i := 4) (N := some 41) (v := ?_) (a' := ?_) #[true, true, true, false, true, false, false, false] rfl rfl (any_of HT_.out (by kernel_rfl)) (fun _ _ _ h => h) (Or.inl ⟨by rfl, ?_⟩) ?_ ?_
         rotate_left
         ·intro w'
          go_simp
          with_reducible rfl
         rotate_left
         ·simp only [Act.put, L1_, L2_, L3_, i64_w, i32_w]
          rfl
         refine take_ (i := 3) (N := some 40) (v := ?_) (a' := ?_) #[true, true, true, true, true, false, false, false] rfl rfl (take_ofW HT_.out HW_.out (by kernel_rfl)) (fun _ _ _ h => h) (Or.inl ⟨by rfl, ?_⟩) hHeld ?_ ?_
         rotate_left
         ·intro w' s0
          go_simp
          with_reducible rfl
         rotate_left
         ·simp only [Act.put, L1_, L2_, L3_, i64_w, i32_w]
          rfl
         refine one_ (i := 5) (N := some 42) #[true, true, true, true, true, true, false, false] rfl rfl (one_of HT_.out (by kernel_rfl)) (by decide) (fun K hK => ?_)
         refine goes_ Try.func20 (by kernel_rfl) rfl #[.slice A293_0 (rd_L3 t283 x32_2).length c293_0] (by rfl) rfl rfl (by (try simp only [List.map_toArray, List.map_cons, List.map_nil]); first | done | rfl | (simp only [List.length_drop, List.length_take]; rfl)) ?_
         with_reducible refine (spec_ContourRef.calls k2 _ _ (rd_L3 t283 x32_2) t295 _ ?side1 ?side2 A20.out).mono ?_
         (case side1 => repeat (first | exact (by repeat (first | (with_reducible exact HR293_0.out) | (with_reducible refine Kd.C_alloc ?_ _) | (with_reducible refine Kd.C_drewN ?_ _) | (with_reducible refine Kd.C_drew ?_) | exact HR293_0.out)) | (with_reducible refine Kd.C_alloc ?_ _) | (with_reducible refine Kd.C_drewN ?_ _) | (with_reducible refine Kd.C_drew ?_)))
         (case side2 => exact HC293_0.out)
         rintro e w30 ⟨v296, rfl, ho0, hb⟩
         have HS0_ := (hb.cell (World.block_lt_of_cell? _ _ (hHeld))).trans (hHeld)
         refine ⟨_, rfl, ?_⟩
         have n0_ := Aside0.mk (Kd.N_elder' (by (with_reducible repeat (first | apply Kd.N_alloc | apply Kd.N_drewN | apply Kd.N_drew)); exact HO_4.out) (Kd.R_base ho0) hb)
         have n1_ := Aside0.mk (Kd.N_elder' (by (with_reducible repeat (first | apply Kd.N_alloc | apply Kd.N_drewN | apply Kd.N_drew)); exact HO_30.out) (Kd.R_base ho0) hb)
         have n2_ := Aside0.mk (Kd.V_elder' (by (with_reducible repeat (first | apply Kd.V_alloc | apply Kd.V_drewN | apply Kd.V_drew)); exact HL293_0.out) (Kd.R_base ho0) hb)
         have n3_ := Aside0.mk (Kd.V_elder' (by (with_reducible repeat (first | apply Kd.V_alloc | apply Kd.V_drewN | apply Kd.V_drew)); exact HL294_0.out) (Kd.R_base ho0) hb)
         have n4_ := Aside0.mk (Kd.R_lower ho0 (below_size (by repeat (first | (with_reducible first | exact HB.out | apply below_alloc | apply pw_below_drewN | apply below_drew1) | exact HB.out))))
         have n5_ := Aside0.mk (Kd.C_below (by repeat (first | (with_reducible exact HR293_0.out) | (with_reducible refine Kd.C_alloc ?_ _) | (with_reducible refine Kd.C_drewN ?_ _) | (with_reducible refine Kd.C_drew ?_) | exact HR293_0.out)) hb)
         have n6_ := Aside0.mk (Kd.C_below (by repeat (first | (with_reducible exact HR294_0.out) | (with_reducible refine Kd.C_alloc ?_ _) | (with_reducible refine Kd.C_drewN ?_ _) | (with_reducible refine Kd.C_drew ?_) | exact HR294_0.out)) hb)
         have n7_ := Aside0.mk (below_step (by repeat (first | (with_reducible first | exact HB.out | apply below_alloc | apply pw_below_drewN | apply below_drew1) | exact HB.out)) hb)
         clear HO_4
         clear HO_30
         clear HL293_0
         clear HL294_0
         clear HR293_0
         clear HR294_0
         clear HB
         have HO_4 := n0_
         have HO_30 := n1_
         have HL293_0 := n2_
         have HL294_0 := n3_
         have HO297 := n4_
         have HR293_0 := n5_
         have HR294_0 := n6_
         have HB := n7_
         clear n0_ n1_ n2_ n3_ n4_ n5_ n6_ n7_
         (try clear hb)
         (try clear hb2)
         (try clear hk)
         (try clear hi)
         (try clear ho0)
         obtain ⟨Ao31, co31, eo31⟩ := Kd.R_slice HO297.out
         (first | subst eo31 | (injection eo31 with f1_ f2_ f3_; have f4_ := f1_.symm; have f5_ := f3_.symm; clear f1_ f2_ f3_; subst f4_; subst f5_))
         refine hK.out _ _ (HS0_) (fun hHeld => ?_)
         clear hK K
         refine norm_ (a' := ?_) ?_ ?_
         rotate_left
         ·show Act.put _ (some 42) _ = _
          simp only [Act.put, L1_, L2_, L3_, i64_w, i32_w]
          rfl
         refine one_ (i := 6) (N := some 43) #[true, true, true, true, true, true, true, false] rfl rfl (one_of HT_.out (by kernel_rfl)) (by decide) (fun K hK => ?_)
         refine goes_ Try.func19 (by kernel_rfl) rfl #[.slice A294_0 (rd_L9 t289 x32_2).length c294_0, .slice Ao31 t295.length co31] (by rfl) rfl rfl (by (try simp only [List.map_toArray, List.map_cons, List.map_nil]); first | done | rfl | (simp only [List.length_drop, List.length_take]; rfl)) ?_
         with_reducible refine (spec_PiecesSame.calls k2 _ _ (rd_L9 t289 x32_2) _ _ t295 false _ ?side1 ?side2 ?side3 ?side4 A21.out).mono ?_
         (case side1 => repeat (first | exact (by repeat (first | (with_reducible exact HR294_0.out) | (with_reducible refine Kd.C_alloc ?_ _) | (with_reducible refine Kd.C_drewN ?_ _) | (with_reducible refine Kd.C_drew ?_) | exact HR294_0.out)) | (with_reducible refine Kd.C_alloc ?_ _) | (with_reducible refine Kd.C_drewN ?_ _) | (with_reducible refine Kd.C_drew ?_)))
         (case side2 => exact HC294_0.out)
         (case side3 => repeat (first | exact (Kd.R_reads' HO297.out).2.2 | (with_reducible refine Kd.C_alloc ?_ _) | (with_reducible refine Kd.C_drewN ?_ _) | (with_reducible refine Kd.C_drew ?_)))
         (case side4 => exact (Kd.R_reads' HO297.out).2.1)
         rintro e w32 ⟨rfl, hb⟩
         have HS0_ := (hb.cell (World.block_lt_of_cell? _ _ (hHeld))).trans (hHeld)
         refine ⟨_, rfl, ?_⟩
         have n0_ := Aside0.mk (Kd.N_below (by (with_reducible repeat (first | apply Kd.N_alloc | apply Kd.N_drewN | apply Kd.N_drew)); exact HO_4.out) hb)
         have n1_ := Aside0.mk (Kd.N_below (by (with_reducible repeat (first | apply Kd.N_alloc | apply Kd.N_drewN | apply Kd.N_drew)); exact HO_30.out) hb)
         have n2_ := Aside0.mk (Kd.V_below (by (with_reducible repeat (first | apply Kd.V_alloc | apply Kd.V_drewN | apply Kd.V_drew)); exact HL293_0.out) hb)
         have n3_ := Aside0.mk (Kd.V_below (by (with_reducible repeat (first | apply Kd.V_alloc | apply Kd.V_drewN | apply Kd.V_drew)); exact HL294_0.out) hb)
         have n4_ := Aside0.mk (Kd.R_below (by (with_reducible repeat (first | apply Kd.R_alloc | apply Kd.R_drewN | apply Kd.R_drew)); exact HO297.out) hb)
         have n5_ := Aside0.mk (Kd.C_below (by repeat (first | (with_reducible exact HR293_0.out) | (with_reducible refine Kd.C_alloc ?_ _) | (with_reducible refine Kd.C_drewN ?_ _) | (with_reducible refine Kd.C_drew ?_) | exact HR293_0.out)) hb)
         have n6_ := Aside0.mk (Kd.C_below (by repeat (first | (with_reducible exact HR294_0.out) | (with_reducible refine Kd.C_alloc ?_ _) | (with_reducible refine Kd.C_drewN ?_ _) | (with_reducible refine Kd.C_drew ?_) | exact HR294_0.out)) hb)
         have n7_ := Aside0.mk (below_step (by repeat (first | (with_reducible first | exact HB.out | apply below_alloc | apply pw_below_drewN | apply below_drew1) | exact HB.out)) hb)
         clear HO_4
         clear HO_30
         clear HL293_0
         clear HL294_0
         clear HO297
         clear HR293_0
         clear HR294_0
         clear HB
         have HO_4 := n0_
         have HO_30 := n1_
         have HL293_0 := n2_
         have HL294_0 := n3_
         have HO297 := n4_
         have HR293_0 := n5_
         have HR294_0 := n6_
         have HB := n7_
         clear n0_ n1_ n2_ n3_ n4_ n5_ n6_ n7_
         (try clear hb)
         (try clear hb2)
         (try clear hk)
         (try clear hi)
         refine hK.out _ _ (HS0_) (fun hHeld => ?_)
         clear hK K
         refine norm_ (a' := ?_) ?_ ?_
         rotate_left
         ·show Act.put _ (some 43) _ = _
          simp only [Act.put, L1_, L2_, L3_, i64_w, i32_w]
          rfl
         refine pure_ (i := 7) (N := some 44) (v := ?_) (a' := ?_) #[true, true, true, true, true, true, true, true] rfl rfl (any_of HT_.out (by kernel_rfl)) (fun _ _ _ h => h) (Or.inl ⟨by rfl, ?_⟩) ?_ ?_
         rotate_left
         ·intro w'
          go_simp
          with_reducible rfl
         rotate_left
         ·simp only [Act.put, L1_, L2_, L3_, i64_w, i32_w]
          rfl
         refine done_ (done_of HT_.out (by kernel_rfl)) ?_
         try go_wp2
         go_ret
         exact ⟨by first | rfl | (simp [errW_none, errW_some] <;> rfl) | (simp [*, errW_none, errW_some] <;> rfl), by repeat (first | (with_reducible first | exact HB.out | apply below_alloc | apply pw_below_drewN | apply below_drew1) | exact HB.out)⟩
       ·rw [if_neg c16] at H
        have c16b0 : decide (x32_2 < (t283.length : Int)) = false := decide_eq_false c16
        clear c16
        obtain ⟨y299, hy299⟩ : ∃ y_ : List (S65), y_ = (([(⟨true, 0, 0⟩ : S65), (⟨true, 1, 0⟩ : S65)] : List (S65))) := ⟨_, rfl⟩
        replace H : ((impl_Contours.f k2 (([y299] : List (List (S65))))).bind fun t305 => ((spec_PiecesOf.f k2 t305).bind fun bt308 => (if (bt308.1.length : Int) = 1 then (if 0 < (bt308.1.length : Int) then (some (((rd_L9 bt308.1 0).length : Int) == 2)) else (none)) else (some false)))) = some r := by first | (rw [hy299]; with_reducible exact H) | (have H2_ := (Option.bind_some _ _).symm.trans H; rw [hy299]; with_reducible exact H2_) | (have H2_ := (Option.bind_some _ _).symm.trans H; with_reducible exact H2_) | with_reducible exact H | (rw [hy299]; exact H) | exact H
        have Ny299 := Aside0.mk hy299
        clear hy299
        obtain ⟨y302, hy302⟩ : ∃ y_ : List (List (S65)), y_ = (([y299] : List (List (S65)))) := ⟨_, rfl⟩
        replace H : ((impl_Contours.f k2 y302).bind fun t305 => ((spec_PiecesOf.f k2 t305).bind fun bt308 => (if (bt308.1.length : Int) = 1 then (if 0 < (bt308.1.length : Int) then (some (((rd_L9 bt308.1 0).length : Int) == 2)) else (none)) else (some false)))) = some r := by first | (rw [hy302]; with_reducible exact H) | (have H2_ := (Option.bind_some _ _).symm.trans H; rw [hy302]; with_reducible exact H2_) | (have H2_ := (Option.bind_some _ _).symm.trans H; with_reducible exact H2_) | with_reducible exact H | (rw [hy302]; exact H) | exact H
        have Ny302 := Aside0.mk hy302
        clear hy302
        replace H := Option.bind_eq_some_iff.mp H
        obtain ⟨t305, A330, H⟩ := H
        replace H : ((spec_PiecesOf.f k2 t305).bind fun bt308 => (if (bt308.1.length : Int) = 1 then (if 0 < (bt308.1.length : Int) then (some (((rd_L9 bt308.1 0).length : Int) == 2)) else (none)) else (some false))) = some r := H
        have A33 := Aside0.mk A330
        clear A330
        replace H := Option.bind_eq_some_iff.mp H
        obtain ⟨⟨t308, t309⟩, A340, H⟩ := H
        replace H : (if (t308.length : Int) = 1 then (if 0 < (t308.length : Int) then (some (((rd_L9 t308 0).length : Int) == 2)) else (none)) else (some false)) = some r := H
        have A34 := Aside0.mk A340
        clear A340
        by_cases c35 : (t308.length : Int) = 1
        ·rw [if_pos c35] at H
         have c35b0 : ((t308.length : Int) == 1) = true := beq_iff_eq.mpr c35
         have c35b1 : ((t308.length : Int) != 1) = false := bne_eq_false_iff_eq.mpr c35
         clear c35
         by_cases c36 : 0 < (t308.length : Int)
         rotate_left
         ·rw [if_neg c36] at H
          exact absurd H (by simp)
         rw [if_pos c36] at H
         have c36b0 : decide (0 < (t308.length : Int)) = true := decide_eq_true c36
         have c36b1 : decide (0 < t308.length) = true := decide_eq_true (by omega)
         clear c36
         obtain rfl := Option.some.inj H
         go_wp2_with (first | ((with_reducible refine gate_dst (N := 49) rfl ?_); (try (refine gate_guard (by rfl) ?_; dsimp only)); refine Kd.R_lit k65 _ 65 ?hg (N := 49) ?hd (xs := ([(⟨true, 0, 0⟩ : S65), (⟨true, 1, 0⟩ : S65)] : List (S65))) (inner := [.bool true, .int .i64 0, .int .i64 0, .bool true, .int .i64 1, .int .i64 0]) (ok := fun _ => True) (okp := fun _ => True) ?hr ?hp (fun _ hk => hk) trivial (Below.refl _ _) (Nat.le_refl _) (by simp) ?_; (case hd => rfl); (case hg => rfl); (case hr => first | (go_simp; done) | (go_simp; rfl)); (case hp => exact (Reps.c3 (show Kd.M k65 _ _ _ (⟨true, 0, 0⟩ : S65) [.bool true, .int .i64 0, .int .i64 0] from (k65_mkM _ _ _ (⟨true, 0, 0⟩ : S65) )) (Reps.c3 (show Kd.M k65 _ _ _ (⟨true, 1, 0⟩ : S65) [.bool true, .int .i64 1, .int .i64 0] from (k65_mkM _ _ _ (⟨true, 1, 0⟩ : S65) )) (Reps.none _ _)))); intro v300 w37 ho38 hb hg_ hnew_; clear hg_ hnew_; (first | rw [← Ny299.out] at ho38 | (simp only [Int.reduceToNat] at ho38; rw [← Ny299.out] at ho38)); have n0_ := Aside0.mk (Kd.N_elder' (by (with_reducible repeat (first | apply Kd.N_alloc | apply Kd.N_drewN | apply Kd.N_drew)); exact HO_4.out) (Kd.R_base ho38) hb); have n1_ := Aside0.mk (Kd.N_elder' (by (with_reducible repeat (first | apply Kd.N_alloc | apply Kd.N_drewN | apply Kd.N_drew)); exact HO_30.out) (Kd.R_base ho38) hb); have n2_ := Aside0.mk (Kd.R_lower ho38 (below_size (by repeat (first | (with_reducible first | exact HB.out | apply below_alloc | apply pw_below_drewN | apply below_drew1) | exact HB.out)))); have n3_ := Aside0.mk (below_step (by repeat (first | (with_reducible first | exact HB.out | apply below_alloc | apply pw_below_drewN | apply below_drew1) | exact HB.out)) hb); clear HO_4; clear HO_30; clear HB; have HO_4 := n0_; have HO_30 := n1_; have HO301 := n2_; have HB := n3_; clear n0_ n1_ n2_ n3_; clear hb ho38; obtain ⟨Ao39, co39, eo39⟩ := Kd.R_slice HO301.out; subst eo39) | ((with_reducible refine gate_dst (N := 50) rfl ?_); (try (refine gate_guard (by rfl) ?_; dsimp only)); refine Kd.N_lit (Kd.slice 65 k65) _ 60 ?hg (N' := 50) ?hd (xs := ([y299] : List (List (S65)))) (inner := [.slice Ao39 y299.length co39]) (ok := (fun k_ => some k_ ≠ (v291 : Value).ownBlock ∧ some k_ ≠ (.slice Ao9 t283.length co9 : Value).ownBlock)) (okp := (fun k_ => some k_ ≠ (v291 : Value).ownBlock ∧ some k_ ≠ (.slice Ao9 t283.length co9 : Value).ownBlock)) ?hr ?hp (fun _ hk => hk) ((show ∀ k_, w37.heap.size ≤ k_ → (fun k_ => some k_ ≠ (v291 : Value).ownBlock ∧ some k_ ≠ (.slice Ao9 t283.length co9 : Value).ownBlock) k_ from fun k_ hk => ⟨Kd.fresh' (Kd.N_lt (by (with_reducible repeat (first | apply Kd.N_alloc | apply Kd.N_drewN | apply Kd.N_drew)); exact HO_4.out)) k_ hk, Kd.fresh' (Kd.N_lt (by (with_reducible repeat (first | apply Kd.N_alloc | apply Kd.N_drewN | apply Kd.N_drew)); exact HO_30.out)) k_ hk⟩) _ (Nat.le_refl _)) (Below.refl _ _) (Nat.le_refl _) (by simp) ?_; (case hd => rfl); (case hg => rfl); (case hr => first | (go_simp; done) | (go_simp; rfl)); (case hp => exact (Reps.one (show Kd.FK (Kd.slice 65 k65) _ _ y299 [.slice Ao39 y299.length co39] from (Kd.FK_slice_mk (Kd.R_reads' (Kd.R_mono (ok' := (fun k_ => some k_ ≠ (v291 : Value).ownBlock ∧ some k_ ≠ (.slice Ao9 t283.length co9 : Value).ownBlock)) (Kd.R_apart' (Kd.R_apart' (HO301.out) (Kd.N_typed HO_4.out) (by decide)) (Kd.N_typed HO_30.out) (by decide)) (fun k_ hk => ⟨hk.1.2, hk.2⟩))).2.1 (Kd.R_F (Kd.R_mono (ok' := (fun k_ => some k_ ≠ (v291 : Value).ownBlock ∧ some k_ ≠ (.slice Ao9 t283.length co9 : Value).ownBlock)) (Kd.R_apart' (Kd.R_apart' (HO301.out) (Kd.N_typed HO_4.out) (by decide)) (Kd.N_typed HO_30.out) (by decide)) (fun k_ hk => ⟨hk.1.2, hk.2⟩))))) (Reps.none _ _))); intro v303 w40 ho41 hb hg_ hnew_; clear hg_ hnew_; (first | rw [← Ny302.out] at ho41 | (simp only [Int.reduceToNat] at ho41; rw [← Ny302.out] at ho41)); have n0_ := Aside0.mk (Kd.N_elder' (by (with_reducible repeat (first | apply Kd.N_alloc | apply Kd.N_drewN | apply Kd.N_drew)); exact HO_4.out) (Kd.N_base ho41) hb); have n1_ := Aside0.mk (Kd.N_elder' (by (with_reducible repeat (first | apply Kd.N_alloc | apply Kd.N_drewN | apply Kd.N_drew)); exact HO_30.out) (Kd.N_base ho41) hb); have n2_ := Aside0.mk (Kd.N_lower ho41 (below_size (by repeat (first | (with_reducible first | exact HB.out | apply below_alloc | apply pw_below_drewN | apply below_drew1) | exact HB.out)))); have n3_ := Aside0.mk (below_step (by repeat (first | (with_reducible first | exact HB.out | apply below_alloc | apply pw_below_drewN | apply below_drew1) | exact HB.out)) hb); clear HO_4; clear HO_30; clear HB; clear HO301; have HO_4 := n0_; have HO_30 := n1_; have HO304 := n2_; have HB := n3_; clear n0_ n1_ n2_ n3_; clear hb ho41; obtain ⟨Ao42, co42, eo42⟩ := Kd.N_slice HO304.out; subst eo42) | ((with_reducible refine gate_callee (f := 18) rfl ?_); refine goesL_ (some 51) rfl rfl Try.func18 (by kernel_rfl) rfl #[.slice Ao42 y302.length co42] rfl (by (try simp only [List.map_toArray, List.map_cons, List.map_nil]); first | done | rfl | (simp only [List.length_drop, List.length_take]; rfl)) ?_; (with_reducible refine (impl_Contours.calls k2 _ _ y302 t305 _ ?side1 ?side2 A33.out).mono ?_); (case side1 => repeat (first | exact (Kd.N_reads' HO304.out).2.2 | (with_reducible refine Kd.C_alloc ?_ _) | (with_reducible refine Kd.C_drewN ?_ _) | (with_reducible refine Kd.C_drew ?_))); (case side2 => exact (Kd.N_reads' HO304.out).2.1); rintro e w43 ⟨v306, rfl, ho0, hb⟩; refine ⟨_, rfl, ?_⟩; have n0_ := Aside0.mk (Kd.N_elder' (by (with_reducible repeat (first | apply Kd.N_alloc | apply Kd.N_drewN | apply Kd.N_drew)); exact HO_4.out) (Kd.R_base ho0) hb); have n1_ := Aside0.mk (Kd.N_elder' (by (with_reducible repeat (first | apply Kd.N_alloc | apply Kd.N_drewN | apply Kd.N_drew)); exact HO_30.out) (Kd.R_base ho0) hb); have n2_ := Aside0.mk (Kd.N_elder' (by (with_reducible repeat (first | apply Kd.N_alloc | apply Kd.N_drewN | apply Kd.N_drew)); exact HO304.out) (Kd.R_base ho0) hb); have n3_ := Aside0.mk (Kd.R_lower ho0 (below_size (by repeat (first | (with_reducible first | exact HB.out | apply below_alloc | apply pw_below_drewN | apply below_drew1) | exact HB.out)))); have n4_ := Aside0.mk (below_step (by repeat (first | (with_reducible first | exact HB.out | apply below_alloc | apply pw_below_drewN | apply below_drew1) | exact HB.out)) hb); clear HO_4; clear HO_30; clear HO304; clear HB; have HO_4 := n0_; have HO_30 := n1_; have HO304 := n2_; have HO307 := n3_; have HB := n4_; clear n0_ n1_ n2_ n3_ n4_; (try clear hb); (try clear hb2); (try clear hk); (try clear hi); (try clear ho0); obtain ⟨Ao44, co44, eo44⟩ := Kd.R_slice HO307.out; subst eo44) | ((with_reducible refine gate_callee (f := 17) rfl ?_); refine goesL_ (some 52) rfl rfl Try.func17 (by kernel_rfl) rfl #[.slice Ao44 t305.length co44] rfl (by (try simp only [List.map_toArray, List.map_cons, List.map_nil]); first | done | rfl | (simp only [List.length_drop, List.length_take]; rfl)) ?_; (with_reducible refine (spec_PiecesOf.calls k2 _ _ t305 t308 t309 _ ?side1 ?side2 A34.out).mono ?_); (case side1 => repeat (first | exact (Kd.R_reads' HO307.out).2.2 | (with_reducible refine Kd.C_alloc ?_ _) | (with_reducible refine Kd.C_drewN ?_ _) | (with_reducible refine Kd.C_drew ?_))); (case side2 => exact (Kd.R_reads' HO307.out).2.1); rintro e w45 ⟨v310, rfl, ho0, hb⟩; refine ⟨_, rfl, ?_⟩; have n0_ := Aside0.mk (Kd.N_elder' (by (with_reducible repeat (first | apply Kd.N_alloc | apply Kd.N_drewN | apply Kd.N_drew)); exact HO_4.out) (Kd.N_base (Kd.S_N ho0)) hb); have n1_ := Aside0.mk (Kd.N_elder' (by (with_reducible repeat (first | apply Kd.N_alloc | apply Kd.N_drewN | apply Kd.N_drew)); exact HO_30.out) (Kd.N_base (Kd.S_N ho0)) hb); have n2_ := Aside0.mk (Kd.N_elder' (by (with_reducible repeat (first | apply Kd.N_alloc | apply Kd.N_drewN | apply Kd.N_drew)); exact HO304.out) (Kd.N_base (Kd.S_N ho0)) hb); have n3_ := Aside0.mk (Kd.R_below (by (with_reducible repeat (first | apply Kd.R_alloc | apply Kd.R_drewN | apply Kd.R_drew)); exact HO307.out) hb); have n4_ := Aside0.mk (Kd.N_lower (Kd.N_mono (ok' := fun k_ => some k_ ≠ (v291 : Value).ownBlock ∧ some k_ ≠ (.slice Ao9 t283.length co9 : Value).ownBlock ∧ some k_ ≠ (.slice Ao42 y302.length co42 : Value).ownBlock ∧ some k_ ≠ (.slice Ao44 t305.length co44 : Value).ownBlock) (Kd.S_N (Kd.S_bound ho0)) (fun k_ hk_ => ⟨(Kd.fresh' (Kd.N_lt (by (with_reducible repeat (first | apply Kd.N_alloc | apply Kd.N_drewN | apply Kd.N_drew)); exact HO_4.out)) k_ hk_.2.1), (Kd.fresh' (Kd.N_lt (by (with_reducible repeat (first | apply Kd.N_alloc | apply Kd.N_drewN | apply Kd.N_drew)); exact HO_30.out)) k_ hk_.2.1), (Kd.fresh' (Kd.N_lt (by (with_reducible repeat (first | apply Kd.N_alloc | apply Kd.N_drewN | apply Kd.N_drew)); exact HO304.out)) k_ hk_.2.1), (Kd.fresh' (Kd.R_lt (by (with_reducible repeat (first | apply Kd.R_alloc | apply Kd.R_drewN | apply Kd.R_drew)); exact HO307.out)) k_ hk_.2.1)⟩)) (below_size (by repeat (first | (with_reducible first | exact HB.out | apply below_alloc | apply pw_below_drewN | apply below_drew1) | exact HB.out)))); have n5_ := Aside0.mk (below_step (by repeat (first | (with_reducible first | exact HB.out | apply below_alloc | apply pw_below_drewN | apply below_drew1) | exact HB.out)) hb); clear HO_4; clear HO_30; clear HO304; clear HO307; clear HB; have HO_4 := n0_; have HO_30 := n1_; have HO304 := n2_; have HO307 := n3_; have HO311 := n4_; have HB := n5_; clear n0_ n1_ n2_ n3_ n4_ n5_; (try clear hb); (try clear hb2); (try clear hk); (try clear hi); (try clear ho0); obtain ⟨Ao46, co46, eo46⟩ := Kd.N_slice HO311.out; subst eo46; have p312 : 0 ≤ (0 : Int) := (by omega); have q312 : 0 < (t308.length : Int) := of_decide_eq_true (by first | (with_reducible assumption) | assumption); obtain ⟨ad312, A312_0, c312_0, e312, hx312_0, hl312_0, hi312_0⟩ := at_L9 (Kd.N_reads' HO311.out).2.2 0 p312 q312; cases e312; obtain ⟨ce312, hce312, hMe312, hcc312⟩ := Kd.N_get HO311.out [] 0 p312 (by first | exact q312 | exact of_decide_eq_true (by first | (with_reducible assumption) | assumption) | (have e_ := (Kd.N_reads' HO311.out).1; omega)); obtain ⟨ua312_0, uc312_0, rfl, ul312_0, ge312_0⟩ := Kd.FK_slice_open hMe312; have hv312_0 := hcc312 0 _ rfl; rw [Nat.add_zero, show ((Kd.slice 129 k129)).sz = 1 from rfl, Nat.mul_one] at hv312_0; replace hv312_0 := Option.some.inj (hv312_0.symm.trans hx312_0); injection hv312_0 with hva_ hvn_ hvc_; rw [hva_] at ge312_0; rw [hvc_] at ul312_0; have HL312_0 := Aside0.mk (show Kd.V k129 129 _ w.heap.size _ _ (rd_L9 t308 0) from Kd.V_mk ul312_0 ge312_0); clear hva_ hvn_ hvc_ ge312_0 ul312_0; clear hcc312 hce312; have qi312 : (0 < t308.length) = True := eq_true (by omega); (try rw [show ((0 : Int)).toNat = 0 from rfl] at hx312_0); (try rw [Addr.add_zero'] at hx312_0); have HR312_0 := Aside0.mk hi312_0; have HC312_0 := Aside0.mk hl312_0; clear hi312_0 hl312_0; replace p312 := eq_true p312; replace q312 := eq_true q312))
         go_ret
         exact ⟨by first | rfl | (simp [errW_none, errW_some] <;> rfl) | (simp [*, errW_none, errW_some] <;> rfl), by repeat (first | (with_reducible first | exact HB.out | apply below_alloc | apply pw_below_drewN | apply below_drew1) | exact HB.out)⟩
        ·rw [if_neg c35] at H
         have c35b0 : ((t308.length : Int) == 1) = false := beq_eq_false_iff_ne.mpr c35
         have c35b1 : ((t308.length : Int) != 1) = true := bne_iff_ne.mpr c35
         obtain rfl := Option.some.inj H
         go_wp2_with (first | ((with_reducible refine gate_dst (N := 49) rfl ?_); (try (refine gate_guard (by rfl) ?_; dsimp only)); refine Kd.R_lit k65 _ 65 ?hg (N := 49) ?hd (xs := ([(⟨true, 0, 0⟩ : S65), (⟨true, 1, 0⟩ : S65)] : List (S65))) (inner := [.bool true, .int .i64 0, .int .i64 0, .bool true, .int .i64 1, .int .i64 0]) (ok := fun _ => True) (okp := fun _ => True) ?hr ?hp (fun _ hk => hk) trivial (Below.refl _ _) (Nat.le_refl _) (by simp) ?_; (case hd => rfl); (case hg => rfl); (case hr => first | (go_simp; done) | (go_simp; rfl)); (case hp => exact (Reps.c3 (show Kd.M k65 _ _ _ (⟨true, 0, 0⟩ : S65) [.bool true, .int .i64 0, .int .i64 0] from (k65_mkM _ _ _ (⟨true, 0, 0⟩ : S65) )) (Reps.c3 (show Kd.M k65 _ _ _ (⟨true, 1, 0⟩ : S65) [.bool true, .int .i64 1, .int .i64 0] from (k65_mkM _ _ _ (⟨true, 1, 0⟩ : S65) )) (Reps.none _ _)))); intro v300 w47 ho48 hb hg_ hnew_; clear hg_ hnew_; (first | rw [← Ny299.out] at ho48 | (simp only [Int.reduceToNat] at ho48; rw [← Ny299.out] at ho48)); have n0_ := Aside0.mk (Kd.N_elder' (by (with_reducible repeat (first | apply Kd.N_alloc | apply Kd.N_drewN | apply Kd.N_drew)); exact HO_4.out) (Kd.R_base ho48) hb); have n1_ := Aside0.mk (Kd.N_elder' (by (with_reducible repeat (first | apply Kd.N_alloc | apply Kd.N_drewN | apply Kd.N_drew)); exact HO_30.out) (Kd.R_base ho48) hb); have n2_ := Aside0.mk (Kd.R_lower ho48 (below_size (by repeat (first | (with_reducible first | exact HB.out | apply below_alloc | apply pw_below_drewN | apply below_drew1) | exact HB.out)))); have n3_ := Aside0.mk (below_step (by repeat (first | (with_reducible first | exact HB.out | apply below_alloc | apply pw_below_drewN | apply below_drew1) | exact HB.out)) hb); clear HO_4; clear HO_30; clear HB; have HO_4 := n0_; have HO_30 := n1_; have HO301 := n2_; have HB := n3_; clear n0_ n1_ n2_ n3_; clear hb ho48; obtain ⟨Ao49, co49, eo49⟩ := Kd.R_slice HO301.out; subst eo49) | ((with_reducible refine gate_dst (N := 50) rfl ?_); (try (refine gate_guard (by rfl) ?_; dsimp only)); refine Kd.N_lit (Kd.slice 65 k65) _ 60 ?hg (N' := 50) ?hd (xs := ([y299] : List (List (S65)))) (inner := [.slice Ao49 y299.length co49]) (ok := (fun k_ => some k_ ≠ (v291 : Value).ownBlock ∧ some k_ ≠ (.slice Ao9 t283.length co9 : Value).ownBlock)) (okp := (fun k_ => some k_ ≠ (v291 : Value).ownBlock ∧ some k_ ≠ (.slice Ao9 t283.length co9 : Value).ownBlock)) ?hr ?hp (fun _ hk => hk) ((show ∀ k_, w47.heap.size ≤ k_ → (fun k_ => some k_ ≠ (v291 : Value).ownBlock ∧ some k_ ≠ (.slice Ao9 t283.length co9 : Value).ownBlock) k_ from fun k_ hk => ⟨Kd.fresh' (Kd.N_lt (by (with_reducible repeat (first | apply Kd.N_alloc | apply Kd.N_drewN | apply Kd.N_drew)); exact HO_4.out)) k_ hk, Kd.fresh' (Kd.N_lt (by (with_reducible repeat (first | apply Kd.N_alloc | apply Kd.N_drewN | apply Kd.N_drew)); exact HO_30.out)) k_ hk⟩) _ (Nat.le_refl _)) (Below.refl _ _) (Nat.le_refl _) (by simp) ?_; (case hd => rfl); (case hg => rfl); (case hr => first | (go_simp; done) | (go_simp; rfl)); (case hp => exact (Reps.one (show Kd.FK (Kd.slice 65 k65) _ _ y299 [.slice Ao49 y299.length co49] from (Kd.FK_slice_mk (Kd.R_reads' (Kd.R_mono (ok' := (fun k_ => some k_ ≠ (v291 : Value).ownBlock ∧ some k_ ≠ (.slice Ao9 t283.length co9 : Value).ownBlock)) (Kd.R_apart' (Kd.R_apart' (HO301.out) (Kd.N_typed HO_4.out) (by decide)) (Kd.N_typed HO_30.out) (by decide)) (fun k_ hk => ⟨hk.1.2, hk.2⟩))).2.1 (Kd.R_F (Kd.R_mono (ok' := (fun k_ => some k_ ≠ (v291 : Value).ownBlock ∧ some k_ ≠ (.slice Ao9 t283.length co9 : Value).ownBlock)) (Kd.R_apart' (Kd.R_apart' (HO301.out) (Kd.N_typed HO_4.out) (by decide)) (Kd.N_typed HO_30.out) (by decide)) (fun k_ hk => ⟨hk.1.2, hk.2⟩))))) (Reps.none _ _))); intro v303 w50 ho51 hb hg_ hnew_; clear hg_ hnew_; (first | rw [← Ny302.out] at ho51 | (simp only [Int.reduceToNat] at ho51; rw [← Ny302.out] at ho51)); have n0_ := Aside0.mk (Kd.N_elder' (by (with_reducible repeat (first | apply Kd.N_alloc | apply Kd.N_drewN | apply Kd.N_drew)); exact HO_4.out) (Kd.N_base ho51) hb); have n1_ := Aside0.mk (Kd.N_elder' (by (with_reducible repeat (first | apply Kd.N_alloc | apply Kd.N_drewN | apply Kd.N_drew)); exact HO_30.out) (Kd.N_base ho51) hb); have n2_ := Aside0.mk (Kd.N_lower ho51 (below_size (by repeat (first | (with_reducible first | exact HB.out | apply below_alloc | apply pw_below_drewN | apply below_drew1) | exact HB.out)))); have n3_ := Aside0.mk (below_step (by repeat (first | (with_reducible first | exact HB.out | apply below_alloc | apply pw_below_drewN | apply below_drew1) | exact HB.out)) hb); clear HO_4; clear HO_30; clear HB; clear HO301; have HO_4 := n0_; have HO_30 := n1_; have HO304 := n2_; have HB := n3_; clear n0_ n1_ n2_ n3_; clear hb ho51; obtain ⟨Ao52, co52, eo52⟩ := Kd.N_slice HO304.out; subst eo52) | ((with_reducible refine gate_callee (f := 18) rfl ?_); refine goesL_ (some 51) rfl rfl Try.func18 (by kernel_rfl) rfl #[.slice Ao52 y302.length co52] rfl (by (try simp only [List.map_toArray, List.map_cons, List.map_nil]); first | done | rfl | (simp only [List.length_drop, List.length_take]; rfl)) ?_; (with_reducible refine (impl_Contours.calls k2 _ _ y302 t305 _ ?side1 ?side2 A33.out).mono ?_); (case side1 => repeat (first | exact (Kd.N_reads' HO304.out).2.2 | (with_reducible refine Kd.C_alloc ?_ _) | (with_reducible refine Kd.C_drewN ?_ _) | (with_reducible refine Kd.C_drew ?_))); (case side2 => exact (Kd.N_reads' HO304.out).2.1); rintro e w53 ⟨v306, rfl, ho0, hb⟩; refine ⟨_, rfl, ?_⟩; have n0_ := Aside0.mk (Kd.N_elder' (by (with_reducible repeat (first | apply Kd.N_alloc | apply Kd.N_drewN | apply Kd.N_drew)); exact HO_4.out) (Kd.R_base ho0) hb); have n1_ := Aside0.mk (Kd.N_elder' (by (with_reducible repeat (first | apply Kd.N_alloc | apply Kd.N_drewN | apply Kd.N_drew)); exact HO_30.out) (Kd.R_base ho0) hb); have n2_ := Aside0.mk (Kd.N_elder' (by (with_reducible repeat (first | apply Kd.N_alloc | apply Kd.N_drewN | apply Kd.N_drew)); exact HO304.out) (Kd.R_base ho0) hb); have n3_ := Aside0.mk (Kd.R_lower ho0 (below_size (by repeat (first | (with_reducible first | exact HB.out | apply below_alloc | apply pw_below_drewN | apply below_drew1) | exact HB.out)))); have n4_ := Aside0.mk (below_step (by repeat (first | (with_reducible first | exact HB.out | apply below_alloc | apply pw_below_drewN | apply below_drew1) | exact HB.out)) hb); clear HO_4; clear HO_30; clear HO304; clear HB; have HO_4 := n0_; have HO_30 := n1_; have HO304 := n2_; have HO307 := n3_; have HB := n4_; clear n0_ n1_ n2_ n3_ n4_; (try clear hb); (try clear hb2); (try clear hk); (try clear hi); (try clear ho0); obtain ⟨Ao54, co54, eo54⟩ := Kd.R_slice HO307.out; subst eo54) | ((with_reducible refine gate_callee (f := 17) rfl ?_); refine goesL_ (some 52) rfl rfl Try.func17 (by kernel_rfl) rfl #[.slice Ao54 t305.length co54] rfl (by (try simp only [List.map_toArray, List.map_cons, List.map_nil]); first | done | rfl | (simp only [List.length_drop, List.length_take]; rfl)) ?_; (with_reducible refine (spec_PiecesOf.calls k2 _ _ t305 t308 t309 _ ?side1 ?side2 A34.out).mono ?_); (case side1 => repeat (first | exact (Kd.R_reads' HO307.out).2.2 | (with_reducible refine Kd.C_alloc ?_ _) | (with_reducible refine Kd.C_drewN ?_ _) | (with_reducible refine Kd.C_drew ?_))); (case side2 => exact (Kd.R_reads' HO307.out).2.1); rintro e w55 ⟨v310, rfl, ho0, hb⟩; refine ⟨_, rfl, ?_⟩; have n0_ := Aside0.mk (Kd.N_elder' (by (with_reducible repeat (first | apply Kd.N_alloc | apply Kd.N_drewN | apply Kd.N_drew)); exact HO_4.out) (Kd.N_base (Kd.S_N ho0)) hb); have n1_ := Aside0.mk (Kd.N_elder' (by (with_reducible repeat (first | apply Kd.N_alloc | apply Kd.N_drewN | apply Kd.N_drew)); exact HO_30.out) (Kd.N_base (Kd.S_N ho0)) hb); have n2_ := Aside0.mk (Kd.N_elder' (by (with_reducible repeat (first | apply Kd.N_alloc | apply Kd.N_drewN | apply Kd.N_drew)); exact HO304.out) (Kd.N_base (Kd.S_N ho0)) hb); have n3_ := Aside0.mk (Kd.R_below (by (with_reducible repeat (first | apply Kd.R_alloc | apply Kd.R_drewN | apply Kd.R_drew)); exact HO307.out) hb); have n4_ := Aside0.mk (Kd.N_lower (Kd.N_mono (ok' := fun k_ => some k_ ≠ (v291 : Value).ownBlock ∧ some k_ ≠ (.slice Ao9 t283.length co9 : Value).ownBlock ∧ some k_ ≠ (.slice Ao52 y302.length co52 : Value).ownBlock ∧ some k_ ≠ (.slice Ao54 t305.length co54 : Value).ownBlock) (Kd.S_N (Kd.S_bound ho0)) (fun k_ hk_ => ⟨(Kd.fresh' (Kd.N_lt (by (with_reducible repeat (first | apply Kd.N_alloc | apply Kd.N_drewN | apply Kd.N_drew)); exact HO_4.out)) k_ hk_.2.1), (Kd.fresh' (Kd.N_lt (by (with_reducible repeat (first | apply Kd.N_alloc | apply Kd.N_drewN | apply Kd.N_drew)); exact HO_30.out)) k_ hk_.2.1), (Kd.fresh' (Kd.N_lt (by (with_reducible repeat (first | apply Kd.N_alloc | apply Kd.N_drewN | apply Kd.N_drew)); exact HO304.out)) k_ hk_.2.1), (Kd.fresh' (Kd.R_lt (by (with_reducible repeat (first | apply Kd.R_alloc | apply Kd.R_drewN | apply Kd.R_drew)); exact HO307.out)) k_ hk_.2.1)⟩)) (below_size (by repeat (first | (with_reducible first | exact HB.out | apply below_alloc | apply pw_below_drewN | apply below_drew1) | exact HB.out)))); have n5_ := Aside0.mk (below_step (by repeat (first | (with_reducible first | exact HB.out | apply below_alloc | apply pw_below_drewN | apply below_drew1) | exact HB.out)) hb); clear HO_4; clear HO_30; clear HO304; clear HO307; clear HB; have HO_4 := n0_; have HO_30 := n1_; have HO304 := n2_; have HO307 := n3_; have HO311 := n4_; have HB := n5_; clear n0_ n1_ n2_ n3_ n4_ n5_; (try clear hb); (try clear hb2); (try clear hk); (try clear hi); (try clear ho0); obtain ⟨Ao56, co56, eo56⟩ := Kd.N_slice HO311.out; subst eo56))
         go_ret
         exact ⟨by first | rfl | (simp [errW_none, errW_some] <;> rfl) | (simp [*, errW_none, errW_some] <;> rfl), by repeat (first | (with_reducible first | exact HB.out | apply below_alloc | apply pw_below_drewN | apply below_drew1) | exact HB.out)⟩
 ·replace c3 := Bool.eq_false_iff.mpr c3
  subst c3
  have H1 : (some true) = some r := by rw [if_neg (show ¬ (false = true) by decide)] at H; exact H
  clear H
  have H := H1
  clear H1
  obtain rfl := Option.some.inj H
  go_enter Try.func5, Try.ntmps5
  go_wp2_with (first | ((with_reducible refine gate_callee (f := 15) rfl ?_); refine goesL_ (some 11) rfl rfl Try.func15 (by kernel_rfl) rfl #[.slice A0 l0.length c0] rfl (by (try simp only [List.map_toArray, List.map_cons, List.map_nil]); first | done | rfl | (simp only [List.length_drop, List.length_take]; rfl)) ?_; (with_reducible refine (laws_zzFits31.calls k _ _ l0 false _ ?side1 ?side2 A2.out).mono ?_); (case side1 => repeat (first | exact HR0.out | (with_reducible refine Kd.C_alloc ?_ _) | (with_reducible refine Kd.C_drewN ?_ _) | (with_reducible refine Kd.C_drew ?_))); (case side2 => exact HC0.out); rintro e w' ⟨rfl, ⟨nd, rfl⟩⟩; refine ⟨_, rfl, ?_⟩))
  go_ret
  exact ⟨by first | rfl | (simp [errW_none, errW_some] <;> rfl) | (simp [*, errW_none, errW_some] <;> rfl), by repeat (first | (with_reducible first | exact HB.out | apply below_alloc | apply pw_below_drewN | apply below_drew1) | exact HB.out)⟩

/-- THE ONE PURE STATEMENT of laws_FnContours: yours. -/
def good65 (x : S65) : Prop := True ∧ (Lit.int .i64 x.f1).wf = true ∧ (Lit.int .i64 x.f2).wf = true
def laws_FnContours.Pure : Prop := ∀ (l0 : List (List (S65))), l0.length ≤ maxLen → (∀ y ∈ l0, (y.length ≤ maxLen ∧ ∀ y_ ∈ y, good65 y_)) → ∃ k, laws_FnContours.f k l0 = some true
theorem laws_FnContours.walk (P : laws_FnContours.Pure) (a0 : Option Addr) (cap0 : Nat) (l0 : List (List (S65))) (w : World) (hc0 : l0.length ≤ cap0) (hC0 : Kd.C (Kd.slice 65 k65) w a0 l0.length l0) (hm0 : l0.length ≤ maxLen) (hg0 : ∀ y ∈ l0, (y.length ≤ maxLen ∧ ∀ y_ ∈ y, good65 y_)) :
  Calls Try.prog 5 #[.slice a0 l0.length cap0] w fun e w' => e = .returned (.bool true) ∧ Below w.heap.size w w' := by
 obtain ⟨k, h⟩ := P l0 hm0 hg0
 refine (laws_FnContours.calls k _ _ l0 true w hC0 hc0 h).mono ?_
 rintro e w' ⟨rfl, hd⟩
 exact ⟨rfl, hd⟩

end Go.Proofs.Ytlbmfnjhpojghaa.PFnContours
