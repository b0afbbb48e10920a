-- Written by a program of this session (xprint) out of the translation; Lean checks it.
import Derived.Laws.CopyRow
import Derived.Deep.RegionLaw
import Derived.RegionTactic
import Derived.Test.YtlclakahgmoafaaDoorPFnAskNonex0
import Derived.Test.YtlclakahgmoafaaDoorPFnAskNonex1
namespace Go.Proofs.YtlclakahgmoafaaDoor.PFnAskNone
open Go.RowKit Go.Proofs.YtlclakahgmoafaaDoorW.PrintWords Go.Proofs.YtlclakahgmoafaaDoorW.PrintLast Go.Proofs.YtlclakahgmoafaaDoorW.PrintMore
attribute [local go_sem] max2_int min2_int max_two min_two max_three min_three max_four min_four   -- for this text's walks alone
set_option linter.unusedVariables false
set_option linter.unusedSimpArgs false

/-! ### harfbuzz_parser_parseTag: function 18 -/
mutual
def harfbuzz_parser_parseTag.j0 : Nat → Int → Bool → List Int → Int → Option (Int × Option Int × Int)
  | 0, _, _, _, _ => none
  | k + 1, x4, x45, x1000, x1001 => if x45 = true then (if 0 ≤ x1001 then (if x1001 < (x1000.length : Int) then (harfbuzz_parser_parseTag.j1 k (rd x1000 x1001) x1000 (wrap64 (x1001 + 1))) else (none)) else (none)) else (harfbuzz_parser_parseTag.j1 k x4 x1000 x1001)
def harfbuzz_parser_parseTag.j1 : Nat → Int → List Int → Int → Option (Int × Option Int × Int)
  | 0, _, _, _ => none
  | k + 1, x4, x1000, x1001 => harfbuzz_parser_parseTag.l0 k x4 x1001 x1000 x1001
def harfbuzz_parser_parseTag.j3 : Nat → Int → Int → List Int → Int → Option (Int × Option Int × Int)
  | 0, _, _, _, _ => none
  | k + 1, x4, x5, x1000, x1001 => if x1001 = x5 then (harfbuzz_parser_parseTag.j4 k x4 x5 true x1000 x1001) else (harfbuzz_parser_parseTag.j4 k x4 x5 (decide (x1001 > (wrap64 (x5 + 4)))) x1000 x1001)
def harfbuzz_parser_parseTag.j4 : Nat → Int → Int → Bool → List Int → Int → Option (Int × Option Int × Int)
  | 0, _, _, _, _, _ => none
  | k + 1, x4, x5, x151, x1000, x1001 => if x151 = true then ((errors_New.f (⟨#[105, 110, 118, 97, 108, 105, 100, 32, 116, 97, 103, 32, 108, 101, 110, 103, 116, 104]⟩ : ByteArray)).bind fun t121 => (some (0, t121, x1001))) else (if x4 = 0 then (if 0 ≤ x5 then (if x5 ≤ x1001 then (if x1001 ≤ (x1000.length : Int) then (if x1001 = x5 + 4 then ((opentype_MustNewTag.f (strOfNums ((x1000.take (x1001 : Int).toNat).drop (x5 : Int).toNat))).bind fun t123 => (some (t123, none, x1001))) else (none)) else (none)) else (none)) else (none)) else (none))
def harfbuzz_parser_parseTag.l0 : Nat → Int → Int → List Int → Int → Option (Int × Option Int × Int)
  | 0, _, _, _, _ => none
  | k + 1, x4, x5, x1000, x1001 => if x1001 < (x1000.length : Int) then (if 0 ≤ x1001 then (if (rd x1000 x1001) = 32 then (harfbuzz_parser_parseTag.j3 k x4 x5 x1000 x1001) else (if (rd x1000 x1001) = 61 then (harfbuzz_parser_parseTag.j3 k x4 x5 x1000 x1001) else (if (rd x1000 x1001) = 91 then (harfbuzz_parser_parseTag.j3 k x4 x5 x1000 x1001) else (if (rd x1000 x1001) = x4 then (harfbuzz_parser_parseTag.j3 k x4 x5 x1000 x1001) else (harfbuzz_parser_parseTag.l0 k x4 x5 x1000 (wrap64 (x1001 + 1))))))) else (none)) else (harfbuzz_parser_parseTag.j3 k x4 x5 x1000 x1001)
end
def harfbuzz_parser_parseTag.f (k : Nat) (s0_0 : List Int) (s0_1 : Int) : Option (Int × Option Int × Int) := (harfbuzz_parser_skipSpaces.f k s0_0 s0_1).bind fun t113 => (if t113 < (s0_0.length : Int) then (if 0 ≤ t113 then (if (rd s0_0 t113) = 39 then (harfbuzz_parser_parseTag.j0 k 0 true s0_0 t113) else (harfbuzz_parser_parseTag.j0 k 0 ((rd s0_0 t113) == 34) s0_0 t113)) else (none)) else (harfbuzz_parser_parseTag.j0 k 0 false s0_0 t113))
theorem harfbuzz_parser_parseTag.mono_l : ∀ k, (∀ y0 y1 y2 y3, LeO (harfbuzz_parser_parseTag.j0 k y0 y1 y2 y3) (harfbuzz_parser_parseTag.j0 (k + 1) y0 y1 y2 y3)) ∧ (∀ y0 y1 y2, LeO (harfbuzz_parser_parseTag.j1 k y0 y1 y2) (harfbuzz_parser_parseTag.j1 (k + 1) y0 y1 y2)) ∧ (∀ y0 y1 y2 y3, LeO (harfbuzz_parser_parseTag.j3 k y0 y1 y2 y3) (harfbuzz_parser_parseTag.j3 (k + 1) y0 y1 y2 y3)) ∧ (∀ y0 y1 y2 y3 y4, LeO (harfbuzz_parser_parseTag.j4 k y0 y1 y2 y3 y4) (harfbuzz_parser_parseTag.j4 (k + 1) y0 y1 y2 y3 y4)) ∧ (∀ y0 y1 y2 y3, LeO (harfbuzz_parser_parseTag.l0 k y0 y1 y2 y3) (harfbuzz_parser_parseTag.l0 (k + 1) y0 y1 y2 y3))
  | 0 => ⟨fun _ _ _ _ r h => by simp [harfbuzz_parser_parseTag.j0] at h, fun _ _ _ r h => by simp [harfbuzz_parser_parseTag.j1] at h, fun _ _ _ _ r h => by simp [harfbuzz_parser_parseTag.j3] at h, fun _ _ _ _ _ r h => by simp [harfbuzz_parser_parseTag.j4] at h, fun _ _ _ _ r h => by simp [harfbuzz_parser_parseTag.l0] at h⟩
  | k + 1 => by
    obtain ⟨ih0, ih1, ih2, ih3, ih4⟩ := harfbuzz_parser_parseTag.mono_l k
    refine ⟨?_, ?_, ?_, ?_, ?_⟩
    · intro y0 y1 y2 y3
      unfold harfbuzz_parser_parseTag.j0
      repeat' first
      | (with_reducible exact ih0 _ _ _ _)
      | (with_reducible exact ih1 _ _ _)
      | (with_reducible exact ih2 _ _ _ _)
      | (with_reducible exact ih3 _ _ _ _ _)
      | (with_reducible exact ih4 _ _ _ _)
      | (with_reducible exact harfbuzz_parser_skipSpaces.mono _ _ _)
      | (with_reducible exact LeO.refl _)
      | (with_reducible exact LeO.none _)
      | (with_reducible refine LeO.ite ?_ ?_)
      | (with_reducible refine LeO.bind ?_ (fun _ => ?_))
      | exact ih0 _ _ _ _
      | exact ih1 _ _ _
      | exact ih2 _ _ _ _
      | exact ih3 _ _ _ _ _
      | exact ih4 _ _ _ _
      | exact harfbuzz_parser_skipSpaces.mono _ _ _
      | exact LeO.none _
      | refine LeO.ite ?_ ?_
      | refine LeO.bind ?_ (fun _ => ?_)
    · intro y0 y1 y2
      unfold harfbuzz_parser_parseTag.j1
      repeat' first
      | (with_reducible exact ih0 _ _ _ _)
      | (with_reducible exact ih1 _ _ _)
      | (with_reducible exact ih2 _ _ _ _)
      | (with_reducible exact ih3 _ _ _ _ _)
      | (with_reducible exact ih4 _ _ _ _)
      | (with_reducible exact harfbuzz_parser_skipSpaces.mono _ _ _)
      | (with_reducible exact LeO.refl _)
      | (with_reducible exact LeO.none _)
      | (with_reducible refine LeO.ite ?_ ?_)
      | (with_reducible refine LeO.bind ?_ (fun _ => ?_))
      | exact ih0 _ _ _ _
      | exact ih1 _ _ _
      | exact ih2 _ _ _ _
      | exact ih3 _ _ _ _ _
      | exact ih4 _ _ _ _
      | exact harfbuzz_parser_skipSpaces.mono _ _ _
      | exact LeO.none _
      | refine LeO.ite ?_ ?_
      | refine LeO.bind ?_ (fun _ => ?_)
    · intro y0 y1 y2 y3
      unfold harfbuzz_parser_parseTag.j3
      repeat' first
      | (with_reducible exact ih0 _ _ _ _)
      | (with_reducible exact ih1 _ _ _)
      | (with_reducible exact ih2 _ _ _ _)
      | (with_reducible exact ih3 _ _ _ _ _)
      | (with_reducible exact ih4 _ _ _ _)
      | (with_reducible exact harfbuzz_parser_skipSpaces.mono _ _ _)
      | (with_reducible exact LeO.refl _)
      | (with_reducible exact LeO.none _)
      | (with_reducible refine LeO.ite ?_ ?_)
      | (with_reducible refine LeO.bind ?_ (fun _ => ?_))
      | exact ih0 _ _ _ _
      | exact ih1 _ _ _
      | exact ih2 _ _ _ _
      | exact ih3 _ _ _ _ _
      | exact ih4 _ _ _ _
      | exact harfbuzz_parser_skipSpaces.mono _ _ _
      | exact LeO.none _
      | refine LeO.ite ?_ ?_
      | refine LeO.bind ?_ (fun _ => ?_)
    · intro y0 y1 y2 y3 y4
      unfold harfbuzz_parser_parseTag.j4
      repeat' first
      | (with_reducible exact ih0 _ _ _ _)
      | (with_reducible exact ih1 _ _ _)
      | (with_reducible exact ih2 _ _ _ _)
      | (with_reducible exact ih3 _ _ _ _ _)
      | (with_reducible exact ih4 _ _ _ _)
      | (with_reducible exact harfbuzz_parser_skipSpaces.mono _ _ _)
      | (with_reducible exact LeO.refl _)
      | (with_reducible exact LeO.none _)
      | (with_reducible refine LeO.ite ?_ ?_)
      | (with_reducible refine LeO.bind ?_ (fun _ => ?_))
      | exact ih0 _ _ _ _
      | exact ih1 _ _ _
      | exact ih2 _ _ _ _
      | exact ih3 _ _ _ _ _
      | exact ih4 _ _ _ _
      | exact harfbuzz_parser_skipSpaces.mono _ _ _
      | exact LeO.none _
      | refine LeO.ite ?_ ?_
      | refine LeO.bind ?_ (fun _ => ?_)
    · intro y0 y1 y2 y3
      unfold harfbuzz_parser_parseTag.l0
      repeat' first
      | (with_reducible exact ih0 _ _ _ _)
      | (with_reducible exact ih1 _ _ _)
      | (with_reducible exact ih2 _ _ _ _)
      | (with_reducible exact ih3 _ _ _ _ _)
      | (with_reducible exact ih4 _ _ _ _)
      | (with_reducible exact harfbuzz_parser_skipSpaces.mono _ _ _)
      | (with_reducible exact LeO.refl _)
      | (with_reducible exact LeO.none _)
      | (with_reducible refine LeO.ite ?_ ?_)
      | (with_reducible refine LeO.bind ?_ (fun _ => ?_))
      | exact ih0 _ _ _ _
      | exact ih1 _ _ _
      | exact ih2 _ _ _ _
      | exact ih3 _ _ _ _ _
      | exact ih4 _ _ _ _
      | exact harfbuzz_parser_skipSpaces.mono _ _ _
      | exact LeO.none _
      | refine LeO.ite ?_ ?_
      | refine LeO.bind ?_ (fun _ => ?_)
theorem harfbuzz_parser_parseTag.mono : ∀ a0 a1 k, LeO (harfbuzz_parser_parseTag.f k a0 a1) (harfbuzz_parser_parseTag.f (k + 1) a0 a1) := by
  intro a0 a1 k
  obtain ⟨ih0, ih1, ih2, ih3, ih4⟩ := harfbuzz_parser_parseTag.mono_l k
  unfold harfbuzz_parser_parseTag.f
  repeat' first
      | (with_reducible exact ih0 _ _ _ _)
      | (with_reducible exact ih1 _ _ _)
      | (with_reducible exact ih2 _ _ _ _)
      | (with_reducible exact ih3 _ _ _ _ _)
      | (with_reducible exact ih4 _ _ _ _)
      | (with_reducible exact harfbuzz_parser_skipSpaces.mono _ _ _)
      | (with_reducible exact LeO.refl _)
      | (with_reducible exact LeO.none _)
      | (with_reducible refine LeO.ite ?_ ?_)
      | (with_reducible refine LeO.bind ?_ (fun _ => ?_))
      | exact ih0 _ _ _ _
      | exact ih1 _ _ _
      | exact ih2 _ _ _ _
      | exact ih3 _ _ _ _ _
      | exact ih4 _ _ _ _
      | exact harfbuzz_parser_skipSpaces.mono _ _ _
      | exact LeO.none _
      | refine LeO.ite ?_ ?_
      | refine LeO.bind ?_ (fun _ => ?_)
theorem step_copy_eq {P : Program} {ops : Array Oper} {o : Oper} {a : Act} {w : World} {K : Act → World → Prop} {Q : Exit → Act → World → Prop} {E : Prop} (hgd : o.guard = none) (d s : Operand) (dT sT : TypeId)
    (ho : o.op = .call { callee := .builtin .copy, args := #[d, s], argTypes := #[dT, sT] }) {v u v' : Value} {w' : World} (hd : a.eval d = v) (hs : a.eval s = u)
    (hr : (Builtin.copy_ #[dT, sT] o.type #[v, u]).run P w = .ok v' w') (h : ∀ w2, Aside0 (w2 = w') → K (a.put o.dst v') w2) :
    if Region.wanted o (yielded ops a.tmps) = true then Oper.wp P o a w K Q else E := by
  have hw : Region.wanted o (yielded ops a.tmps) = true := by simp [Region.wanted, hgd]
  rw [if_pos hw]
  unfold Oper.wp execOp
  simp only [ho, resolve, invoke, builtin, Sem.run_bind, Sem.run_pure, Result.andThen_ok, List.map_toArray, List.map_cons, List.map_nil, hd, hs, hr]
  exact h _ ⟨rfl⟩
theorem setRow_ne {w : World} {g i : Nat} {X : Array Value} (h : i ≠ g) : (w.setRow g X).heap[i]? = w.heap[i]? := by
  unfold World.setRow
  simp [Array.getElem?_modify, Ne.symm h]
theorem tag_C {wV : World} {gb : Nat} {d0 d1 d2 d3 : Int} (hgV : wV.heap[gb]? = some (.cells #[.int .u8 d0, .int .u8 d1, .int .u8 d2, .int .u8 d3] 69 (0, 0))) : Kd.C (Kd.int .u8) wV (some ⟨gb, 0, none⟩) 4 [d0, d1, d2, d3] := by
  refine ⟨rfl, by decide, fun _ => ⟨⟨gb, 0, none⟩, rfl, fun j p hp => ⟨[.int .u8 p], rfl, rfl, fun i u hu => ?_⟩⟩⟩
  cases i with
  | succ i => simp at hu
  | zero =>
    simp at hu
    subst hu
    have e1 : j * (Kd.int .u8).sz + 0 = j := Nat.mul_one j
    refine (congrArg (fun z => wV.cell? ((⟨gb, 0, none⟩ : Addr).add z)) e1).trans ?_
    rcases j with _ | _ | _ | _ | j
    · simp at hp; subst hp; exact (blk_cell hgV 0).trans rfl
    · simp at hp; subst hp; exact (blk_cell hgV 1).trans rfl
    · simp at hp; subst hp; exact (blk_cell hgV 2).trans rfl
    · simp at hp; subst hp; exact (blk_cell hgV 3).trans rfl
    · simp at hp
theorem tag_I {w0 W W1 : World} {g gb : Nat} {f0 : List Int} {f1 : Int} (h : IsS44 w0 W g f0 f1) (hn : ∀ i, i ≠ gb → W1.heap[i]? = W.heap[i]?) (hg : g ≠ gb) : IsS44 w0 W1 g f0 f1 := by
  obtain ⟨A0, c0, qb, qg, qr⟩ := h
  exact ⟨A0, c0, (hn g hg).trans qb, qg, qr⟩

set_option maxHeartbeats 60000000 in
set_option maxRecDepth 100000 in
theorem harfbuzz_parser_parseTag.calls (k : Nat) (g : Nat) (s0_0 : List Int) (s0_1 : Int) (r1 : Int) (r2 : Option Int) (r3 : Int) (w0 w : World) (hI : IsS44 w0 w g s0_0 s0_1) (hB : Below w0.heap.size w0 w) (h : harfbuzz_parser_parseTag.f k s0_0 s0_1 = some (r1, r2, r3)) :
    Calls Tryd.prog 18 #[.pointer (some ⟨g, 0, none⟩)] w fun e w' => ∃ e1_ : Value, e = .returned (.tuple #[.int .u32 r1, e1_]) ∧ EV e1_ r2 ∧ IsS44 w0 w' g s0_0 r3 ∧ Below w0.heap.size w0 w' ∧ KeepBut w w' g none := by
  have hu69 := Tryd.underlying69
  have HI0 := Aside0.mk hI
  have HK := Aside0.mk (KeepBut.refl w g none)
  have HL := Aside0.mk hB.size
  clear hI
  have HW0 := Aside0.mk hB.size
  have HB := Aside0.mk hB
  clear hB
  have H : ((harfbuzz_parser_skipSpaces.f k s0_0 s0_1).bind fun t113 => (if t113 < (s0_0.length : Int) then (if 0 ≤ t113 then (if (rd s0_0 t113) = 39 then (harfbuzz_parser_parseTag.j0 k 0 true s0_0 t113) else (harfbuzz_parser_parseTag.j0 k 0 ((rd s0_0 t113) == 34) s0_0 t113)) else (none)) else (harfbuzz_parser_parseTag.j0 k 0 false s0_0 t113))) = some (r1, r2, r3) := h
  clear h
  replace H := Option.bind_eq_some_iff.mp H
  obtain ⟨t113, A20, H⟩ := H
  replace H : (if t113 < (s0_0.length : Int) then (if 0 ≤ t113 then (if (rd s0_0 t113) = 39 then (harfbuzz_parser_parseTag.j0 k 0 true s0_0 t113) else (harfbuzz_parser_parseTag.j0 k 0 ((rd s0_0 t113) == 34) s0_0 t113)) else (none)) else (harfbuzz_parser_parseTag.j0 k 0 false s0_0 t113)) = some (r1, r2, r3) := H
  have A2 := Aside0.mk A20
  clear A20
  have HC3 := Aside0.mk H
  clear H
  go_enter Tryd.func18, Tryd.ntmps18
  go_upto_region 3 with (first | (go_at_call 21; (with_reducible refine (harfbuzz_parser_skipSpaces.calls k g s0_0 s0_1 t113 w0 _ ?side1 ?side2 A2.out).mono ?_); (case side1 => repeat (first | (with_reducible first | exact HI0.out | apply IsS44.alloc | apply IsS44.drewN | apply IsS44.drew | apply IsS44.set_1) | exact HI0.out)); (case side2 => repeat (first | (with_reducible first | exact HB.out | apply below_alloc | apply pw_below_drewN | apply below_drew1 | refine below_set ?_ (IsS44.ge HI0.out)) | exact HB.out)); rintro e w4 ⟨rfl, hi, hb, hk⟩; have n0_ := Aside0.mk (KeepBut.trans (by repeat (first | (with_reducible first | exact HK.out | apply KeepBut.set_ | apply keep_drewN | apply keep_drew | apply keep_alloc) | exact HK.out)) hk (.inl rfl)); have n1_ := Aside0.mk (hb); have n2_ := Aside0.mk (hi); clear HK; clear HB; clear HI0; have HK := n0_; have HB := n1_; have HI0 := n2_; clear n0_ n1_ n2_; (try clear hb); (try clear hb2); (try clear hk); (try clear hi)))
  repeat (go_quiet (first | (go_at_call 21; (with_reducible refine (harfbuzz_parser_skipSpaces.calls k g s0_0 s0_1 t113 w0 _ ?side1 ?side2 A2.out).mono ?_); (case side1 => repeat (first | (with_reducible first | exact HI0.out | apply IsS44.alloc | apply IsS44.drewN | apply IsS44.drew | apply IsS44.set_1) | exact HI0.out)); (case side2 => repeat (first | (with_reducible first | exact HB.out | apply below_alloc | apply pw_below_drewN | apply below_drew1 | refine below_set ?_ (IsS44.ge HI0.out)) | exact HB.out)); rintro e w4 ⟨rfl, hi, hb, hk⟩; have n0_ := Aside0.mk (KeepBut.trans (by repeat (first | (with_reducible first | exact HK.out | apply KeepBut.set_ | apply keep_drewN | apply keep_drew | apply keep_alloc) | exact HK.out)) hk (.inl rfl)); have n1_ := Aside0.mk (hb); have n2_ := Aside0.mk (hi); clear HK; clear HB; clear HI0; have HK := n0_; have HB := n1_; have HI0 := n2_; clear n0_ n1_ n2_; (try clear hb); (try clear hb2); (try clear hk); (try clear hi))); go_upto_region 3 with (first | (go_at_call 21; (with_reducible refine (harfbuzz_parser_skipSpaces.calls k g s0_0 s0_1 t113 w0 _ ?side1 ?side2 A2.out).mono ?_); (case side1 => repeat (first | (with_reducible first | exact HI0.out | apply IsS44.alloc | apply IsS44.drewN | apply IsS44.drew | apply IsS44.set_1) | exact HI0.out)); (case side2 => repeat (first | (with_reducible first | exact HB.out | apply below_alloc | apply pw_below_drewN | apply below_drew1 | refine below_set ?_ (IsS44.ge HI0.out)) | exact HB.out)); rintro e w4 ⟨rfl, hi, hb, hk⟩; have n0_ := Aside0.mk (KeepBut.trans (by repeat (first | (with_reducible first | exact HK.out | apply KeepBut.set_ | apply keep_drewN | apply keep_drew | apply keep_alloc) | exact HK.out)) hk (.inl rfl)); have n1_ := Aside0.mk (hb); have n2_ := Aside0.mk (hi); clear HK; clear HB; clear HI0; have HK := n0_; have HB := n1_; have HI0 := n2_; clear n0_ n1_ n2_; (try clear hb); (try clear hb2); (try clear hk); (try clear hi))))
  (try simp only [Act.put, List.setIfInBounds_toArray, List.set_cons_zero, List.set_cons_succ])
  go_cut [45] (fun v45 wc => ∃ (kq : Nat) (x45_2 : Bool), v45 = .bool x45_2 ∧ Aside0 (harfbuzz_parser_parseTag.j0 kq 0 x45_2 s0_0 t113 = some (r1, r2, r3)) ∧ Aside0 (kq ≤ k) ∧ Aside0 (IsS44 w0 wc g s0_0 t113) ∧ Aside0 (KeepBut w wc g none) ∧ Aside0 (Below w0.heap.size w0 wc))
  case first =>
    have H := HC3.out
    clear HC3
    by_cases c5 : t113 < (s0_0.length : Int)
    · rw [if_pos c5] at H
      have c5b0 : decide (t113 < (s0_0.length : Int)) = true := decide_eq_true c5
      clear c5
      (first | rw [c5b0] | (simp only [i64_w, i32_w]; rw [c5b0]) | skip)
      by_cases c6 : 0 ≤ t113
      · rw [if_pos c6] at H
        have c6b0 : decide (0 ≤ t113) = true := decide_eq_true c6
        clear c6
        by_cases c7 : (rd s0_0 t113) = 39
        · as_aux_lemma =>
            rw [if_pos c7] at H
            have c7b0 : ((rd s0_0 t113) == 39) = true := beq_iff_eq.mpr c7
            have c7b1 : ((rd s0_0 t113) != 39) = false := bne_eq_false_iff_eq.mpr c7
            clear c7
            have H' := Aside0.mk H
            clear H
            obtain ⟨ASz8_0, cSz8_0, HGz8, hgz8, HSz8_0⟩ := HI0.out
            have hcz8_0 := cellS44_0 HGz8
            have hcz8_1 := cellS44_1 HGz8
            have hfz8_1 := blk_frozen HGz8 1
            clear HGz8 hgz8
            have HCz8_0 := Aside0.mk HSz8_0.2
            replace HSz8_0 := HSz8_0.1
            have p114 : 0 ≤ (t113 : Int) := of_decide_eq_true (by first | (with_reducible assumption) | assumption)
            have q114 : t113 < (s0_0.length : Int) := of_decide_eq_true (by first | (with_reducible assumption) | assumption)
            obtain ⟨ad114, e114, hx114_0⟩ := Kd.at_int HSz8_0 t113 p114 q114
            cases e114
            replace hx114_0 := pw_cell_below HB.out hx114_0
            replace p114 := eq_true p114
            replace q114 := eq_true q114
            go_wp2
            repeat (go_quiet (fail); try go_wp2)
            go_meet
            case rel => exact ⟨_, (true), (by first | rfl | (simp; done) | (simp [*]; done)), H', ⟨by first | omega | exact Nat.le_refl _⟩, ⟨by repeat (first | (with_reducible first | exact HI0.out | apply IsS44.alloc | apply IsS44.drewN | apply IsS44.drew | apply IsS44.set_1) | exact HI0.out)⟩, ⟨by repeat (first | (with_reducible first | exact HK.out | apply KeepBut.set_ | apply keep_drewN | apply keep_drew | apply keep_alloc) | exact HK.out)⟩, ⟨by repeat (first | (with_reducible first | exact HB.out | apply below_alloc | apply pw_below_drewN | apply below_drew1 | refine below_set ?_ (IsS44.ge HI0.out)) | exact HB.out)⟩⟩
        · as_aux_lemma =>
            rw [if_neg c7] at H
            have c7b0 : ((rd s0_0 t113) == 39) = false := beq_eq_false_iff_ne.mpr c7
            have c7b1 : ((rd s0_0 t113) != 39) = true := bne_iff_ne.mpr c7
            have H' := Aside0.mk H
            clear H
            obtain ⟨ASz9_0, cSz9_0, HGz9, hgz9, HSz9_0⟩ := HI0.out
            have hcz9_0 := cellS44_0 HGz9
            have hcz9_1 := cellS44_1 HGz9
            have hfz9_1 := blk_frozen HGz9 1
            clear HGz9 hgz9
            have HCz9_0 := Aside0.mk HSz9_0.2
            replace HSz9_0 := HSz9_0.1
            have p114 : 0 ≤ (t113 : Int) := of_decide_eq_true (by first | (with_reducible assumption) | assumption)
            have q114 : t113 < (s0_0.length : Int) := of_decide_eq_true (by first | (with_reducible assumption) | assumption)
            obtain ⟨ad114, e114, hx114_0⟩ := Kd.at_int HSz9_0 t113 p114 q114
            cases e114
            replace hx114_0 := pw_cell_below HB.out hx114_0
            replace p114 := eq_true p114
            replace q114 := eq_true q114
            have p115 : 0 ≤ (t113 : Int) := of_decide_eq_true (by first | (with_reducible assumption) | assumption)
            have q115 : t113 < (s0_0.length : Int) := of_decide_eq_true (by first | (with_reducible assumption) | assumption)
            obtain ⟨ad115, e115, hx115_0⟩ := Kd.at_int HSz9_0 t113 p115 q115
            obtain rfl : ad114 = ad115 := (by injection e115)
            replace hx115_0 := pw_cell_below HB.out hx115_0
            replace p115 := eq_true p115
            replace q115 := eq_true q115
            go_wp2
            repeat (go_quiet (fail); try go_wp2)
            go_meet
            case rel => exact ⟨_, (((rd s0_0 t113) == 34)), (by first | rfl | (simp; done) | (simp [*]; done)), H', ⟨by first | omega | exact Nat.le_refl _⟩, ⟨by repeat (first | (with_reducible first | exact HI0.out | apply IsS44.alloc | apply IsS44.drewN | apply IsS44.drew | apply IsS44.set_1) | exact HI0.out)⟩, ⟨by repeat (first | (with_reducible first | exact HK.out | apply KeepBut.set_ | apply keep_drewN | apply keep_drew | apply keep_alloc) | exact HK.out)⟩, ⟨by repeat (first | (with_reducible first | exact HB.out | apply below_alloc | apply pw_below_drewN | apply below_drew1 | refine below_set ?_ (IsS44.ge HI0.out)) | exact HB.out)⟩⟩
      · rw [if_neg c6] at H
        exact absurd H (by simp)
    · as_aux_lemma =>
        rw [if_neg c5] at H
        have c5b0 : decide (t113 < (s0_0.length : Int)) = false := decide_eq_false c5
        clear c5
        (first | rw [c5b0] | (simp only [i64_w, i32_w]; rw [c5b0]) | skip)
        have H' := Aside0.mk H
        clear H
        obtain ⟨ASz10_0, cSz10_0, HGz10, hgz10, HSz10_0⟩ := HI0.out
        have hcz10_0 := cellS44_0 HGz10
        have hcz10_1 := cellS44_1 HGz10
        have hfz10_1 := blk_frozen HGz10 1
        clear HGz10 hgz10
        have HCz10_0 := Aside0.mk HSz10_0.2
        replace HSz10_0 := HSz10_0.1
        go_wp2
        repeat (go_quiet (fail); try go_wp2)
        go_meet
        case rel => exact ⟨_, (false), (by first | rfl | (simp; done) | (simp [*]; done)), H', ⟨by first | omega | exact Nat.le_refl _⟩, ⟨by repeat (first | (with_reducible first | exact HI0.out | apply IsS44.alloc | apply IsS44.drewN | apply IsS44.drew | apply IsS44.set_1) | exact HI0.out)⟩, ⟨by repeat (first | (with_reducible first | exact HK.out | apply KeepBut.set_ | apply keep_drewN | apply keep_drew | apply keep_alloc) | exact HK.out)⟩, ⟨by repeat (first | (with_reducible first | exact HB.out | apply below_alloc | apply pw_below_drewN | apply below_drew1 | refine below_set ?_ (IsS44.ge HI0.out)) | exact HB.out)⟩⟩
  case rest =>
    clear HC3
    try clear c1
    try clear p1
    try clear q1
    try clear hx1
    try clear p2
    try clear c5
    try clear c5b0
    try clear c6
    try clear c6b0
    try clear c7
    try clear c7b0
    try clear c7b1
    try clear hcz10_0
    try clear hcz10_1
    try clear hcz8_0
    try clear hcz8_1
    try clear hcz9_0
    try clear hcz9_1
    try clear hfz10_1
    try clear hfz8_1
    try clear hfz9_1
    try clear hx114_0
    try clear hx115_0
    try clear p114
    try clear p115
    try clear q114
    try clear q115
    obtain ⟨kq, x45_2, rfl, HA, HJ2, HI0, HK, HB⟩ := hcut
    cases kq with
    | zero => exact absurd HA.out (by simp [harfbuzz_parser_parseTag.j0])
    | succ kj2 =>
      have H := HA.out
      clear HA
      simp only [harfbuzz_parser_parseTag.j0] at H
      have HC11 := Aside0.mk H
      clear H
      go_upto_if 45 with (fail)
      repeat (go_quiet (fail); go_upto_if 45 with (fail))
      go_cut [4] (fun v4 wc => ∃ (kq : Nat) (x4_10 : Int) (x1001_10 : Int), v4 = .int .u8 x4_10 ∧ Aside0 (harfbuzz_parser_parseTag.j1 kq x4_10 s0_0 x1001_10 = some (r1, r2, r3)) ∧ Aside0 (kq ≤ kj2) ∧ Aside0 (IsS44 w0 wc g s0_0 x1001_10) ∧ Aside0 (KeepBut w wc g none) ∧ Aside0 (Below w0.heap.size w0 wc))
      case first =>
        have H := HC11.out
        clear HC11
        by_cases c12 : x45_2 = true
        · subst c12
          have H1 : (if 0 ≤ t113 then (if t113 < (s0_0.length : Int) then (harfbuzz_parser_parseTag.j1 kj2 (rd s0_0 t113) s0_0 (wrap64 (t113 + 1))) else (none)) else (none)) = some (r1, r2, r3) := by rw [if_pos rfl] at H; exact H
          clear H
          have H := H1
          clear H1
          by_cases c13 : 0 ≤ t113
          · rw [if_pos c13] at H
            have c13b0 : decide (0 ≤ t113) = true := decide_eq_true c13
            clear c13
            (first | rw [c13b0] | (simp only [i64_w, i32_w]; rw [c13b0]) | skip)
            by_cases c14 : t113 < (s0_0.length : Int)
            · as_aux_lemma =>
                rw [if_pos c14] at H
                have c14b0 : decide (t113 < (s0_0.length : Int)) = true := decide_eq_true c14
                clear c14
                have H' := Aside0.mk H
                clear H
                obtain ⟨ASz15_0, cSz15_0, HGz15, hgz15, HSz15_0⟩ := HI0.out
                have hcz15_0 := cellS44_0 HGz15
                have hcz15_1 := cellS44_1 HGz15
                have hfz15_1 := blk_frozen HGz15 1
                clear HGz15 hgz15
                have HCz15_0 := Aside0.mk HSz15_0.2
                replace HSz15_0 := HSz15_0.1
                have p116 : 0 ≤ (t113 : Int) := of_decide_eq_true (by first | (with_reducible assumption) | assumption)
                have q116 : t113 < (s0_0.length : Int) := of_decide_eq_true (by first | (with_reducible assumption) | assumption)
                obtain ⟨ad116, e116, hx116_0⟩ := Kd.at_int HSz15_0 t113 p116 q116
                cases e116
                replace hx116_0 := pw_cell_below HB.out hx116_0
                replace p116 := eq_true p116
                replace q116 := eq_true q116
                go_wp2
                repeat (go_quiet (fail); try go_wp2)
                go_meet
                case rel => exact ⟨_, (rd s0_0 t113), (wrap64 (t113 + 1)), (by first | rfl | (simp; done) | (simp [*]; done)), H', ⟨by have := HJ2.out; first | omega | exact Nat.le_refl _⟩, ⟨by repeat (first | (with_reducible first | exact HI0.out | apply IsS44.alloc | apply IsS44.drewN | apply IsS44.drew | apply IsS44.set_1) | exact HI0.out)⟩, ⟨by repeat (first | (with_reducible first | exact HK.out | apply KeepBut.set_ | apply keep_drewN | apply keep_drew | apply keep_alloc) | exact HK.out)⟩, ⟨by repeat (first | (with_reducible first | exact HB.out | apply below_alloc | apply pw_below_drewN | apply below_drew1 | refine below_set ?_ (IsS44.ge HI0.out)) | exact HB.out)⟩⟩
            · rw [if_neg c14] at H
              exact absurd H (by simp)
          · rw [if_neg c13] at H
            exact absurd H (by simp)
        · as_aux_lemma =>
            replace c12 := Bool.eq_false_iff.mpr c12
            subst c12
            have H1 : (harfbuzz_parser_parseTag.j1 kj2 0 s0_0 t113) = some (r1, r2, r3) := by rw [if_neg (show ¬ (false = true) by decide)] at H; exact H
            clear H
            have H := H1
            clear H1
            have H' := Aside0.mk H
            clear H
            go_wp2
            repeat (go_quiet (fail); try go_wp2)
            go_meet
            case rel => exact ⟨_, (0), (t113), (by first | rfl | (simp; done) | (simp [*]; done)), H', ⟨by have := HJ2.out; first | omega | exact Nat.le_refl _⟩, ⟨by repeat (first | (with_reducible first | exact HI0.out | apply IsS44.alloc | apply IsS44.drewN | apply IsS44.drew | apply IsS44.set_1) | exact HI0.out)⟩, ⟨by repeat (first | (with_reducible first | exact HK.out | apply KeepBut.set_ | apply keep_drewN | apply keep_drew | apply keep_alloc) | exact HK.out)⟩, ⟨by repeat (first | (with_reducible first | exact HB.out | apply below_alloc | apply pw_below_drewN | apply below_drew1 | refine below_set ?_ (IsS44.ge HI0.out)) | exact HB.out)⟩⟩
      case rest =>
        clear HC11
        try clear c1
        try clear p1
        try clear q1
        try clear hx1
        try clear p2
        try clear c5
        try clear c5b0
        try clear c6
        try clear c6b0
        try clear p6
        try clear c7
        try clear c7b0
        try clear c7b1
        try clear p11
        try clear q11
        try clear hx11
        try clear c12
        try clear c13
        try clear c13b0
        try clear c14
        try clear c14b0
        try clear hcz10_0
        try clear hcz10_1
        try clear hcz15_0
        try clear hcz15_1
        try clear hcz8_0
        try clear hcz8_1
        try clear hcz9_0
        try clear hcz9_1
        try clear hfz10_1
        try clear hfz15_1
        try clear hfz8_1
        try clear hfz9_1
        try clear hx114_0
        try clear hx115_0
        try clear hx116_0
        try clear p1
        try clear p114
        try clear p115
        try clear p116
        try clear p2
        try clear q1
        try clear q114
        try clear q115
        try clear q116
        obtain ⟨kq, x4_10, x1001_10, rfl, HA, HJ10, HI0, HK, HB⟩ := hcut
        cases kq with
        | zero => exact absurd HA.out (by simp [harfbuzz_parser_parseTag.j1])
        | succ kj10 =>
          have H := HA.out
          clear HA
          simp only [harfbuzz_parser_parseTag.j1] at H
          have HC16 := Aside0.mk H
          clear H
          obtain ⟨ASz17_0, cSz17_0, HGz17, hgz17, HSz17_0⟩ := HI0.out
          have hcz17_0 := cellS44_0 HGz17
          have hcz17_1 := cellS44_1 HGz17
          have hfz17_1 := blk_frozen HGz17 1
          clear HGz17 hgz17
          have HCz17_0 := Aside0.mk HSz17_0.2
          replace HSz17_0 := HSz17_0.1
          go_upto_block 0 with (fail)
          repeat (go_quiet (fail); go_upto_block 0 with (fail))
          go_cut [] (fun wc => ∃ (kq : Nat) (x1001_15 : Int), Aside0 (harfbuzz_parser_parseTag.j3 kq x4_10 x1001_10 s0_0 x1001_15 = some (r1, r2, r3)) ∧ Aside0 (kq ≤ kj10) ∧ Aside0 (IsS44 w0 wc g s0_0 x1001_15) ∧ Aside0 (KeepBut w wc g none) ∧ Aside0 (Below w0.heap.size w0 wc))
          case first =>
            have H := HC16.out
            clear HC16
            have H' := Aside0.mk H
            clear H
            go_wp2
            repeat (go_quiet (fail); try go_wp2)
            go_loopg [] kj10 (fun kq w' => ∃ (x1001_3 : Int), Aside0 (harfbuzz_parser_parseTag.l0 kq x4_10 x1001_10 s0_0 x1001_3 = some (r1, r2, r3)) ∧ Aside0 (kq ≤ kj10) ∧ Aside0 (IsS44 w0 w' g s0_0 x1001_3) ∧ Aside0 (KeepBut w w' g none) ∧ Aside0 (Below w0.heap.size w0 w'))
            case atStart => exact ⟨(x1001_10), H', ⟨Nat.le_refl _⟩, ⟨by repeat (first | (with_reducible first | exact HI0.out | apply IsS44.alloc | apply IsS44.drewN | apply IsS44.drew | apply IsS44.set_1) | exact HI0.out)⟩, ⟨by repeat (first | (with_reducible first | exact HK.out | apply KeepBut.set_ | apply keep_drewN | apply keep_drew | apply keep_alloc) | exact HK.out)⟩, ⟨by repeat (first | (with_reducible first | exact HB.out | apply below_alloc | apply pw_below_drewN | apply below_drew1 | refine below_set ?_ (IsS44.ge HI0.out)) | exact HB.out)⟩⟩
            case round =>
              clear H'
              try clear c1
              try clear p1
              try clear q1
              try clear hx1
              try clear p2
              try clear c5
              try clear c5b0
              try clear c6
              try clear c6b0
              try clear p6
              try clear c7
              try clear c7b0
              try clear c7b1
              try clear p11
              try clear q11
              try clear hx11
              try clear c12
              try clear c13
              try clear c13b0
              try clear c14
              try clear c14b0
              try clear hcz10_0
              try clear hcz10_1
              try clear hcz15_0
              try clear hcz15_1
              try clear hcz17_0
              try clear hcz17_1
              try clear hcz8_0
              try clear hcz8_1
              try clear hcz9_0
              try clear hcz9_1
              try clear hfz10_1
              try clear hfz15_1
              try clear hfz17_1
              try clear hfz8_1
              try clear hfz9_1
              try clear hx114_0
              try clear hx115_0
              try clear hx116_0
              try clear p1
              try clear p11
              try clear p114
              try clear p115
              try clear p116
              try clear p2
              try clear p6
              try clear q1
              try clear q11
              try clear q114
              try clear q115
              try clear q116
              obtain ⟨x1001_3, HA, HK3, HI0, HK, HB⟩ := hrel
              cases gk with
              | zero => exact absurd HA.out (by simp [harfbuzz_parser_parseTag.l0])
              | succ k3 =>
                have H := HA.out
                clear HA
                simp only [harfbuzz_parser_parseTag.l0] at H
                by_cases c18 : x1001_3 < (s0_0.length : Int)
                · rw [if_pos c18] at H
                  have c18b0 : decide (x1001_3 < (s0_0.length : Int)) = true := decide_eq_true c18
                  clear c18
                  (first | rw [c18b0] | (simp only [i64_w, i32_w]; rw [c18b0]) | skip)
                  by_cases c19 : 0 ≤ x1001_3
                  · rw [if_pos c19] at H
                    have c19b0 : decide (0 ≤ x1001_3) = true := decide_eq_true c19
                    clear c19
                    by_cases c20 : (rd s0_0 x1001_3) = 32
                    · as_aux_lemma =>
                        rw [if_pos c20] at H
                        have c20b0 : ((rd s0_0 x1001_3) == 32) = true := beq_iff_eq.mpr c20
                        have c20b1 : ((rd s0_0 x1001_3) != 32) = false := bne_eq_false_iff_eq.mpr c20
                        clear c20
                        have H' := Aside0.mk H
                        clear H
                        obtain ⟨ASz21_0, cSz21_0, HGz21, hgz21, HSz21_0⟩ := HI0.out
                        have hcz21_0 := cellS44_0 HGz21
                        have hcz21_1 := cellS44_1 HGz21
                        have hfz21_1 := blk_frozen HGz21 1
                        clear HGz21 hgz21
                        have HCz21_0 := Aside0.mk HSz21_0.2
                        replace HSz21_0 := HSz21_0.1
                        have p117 : 0 ≤ (x1001_3 : Int) := of_decide_eq_true (by first | (with_reducible assumption) | assumption)
                        have q117 : x1001_3 < (s0_0.length : Int) := of_decide_eq_true (by first | (with_reducible assumption) | assumption)
                        obtain ⟨ad117, e117, hx117_0⟩ := Kd.at_int HSz21_0 x1001_3 p117 q117
                        cases e117
                        replace hx117_0 := pw_cell_below HB.out hx117_0
                        replace p117 := eq_true p117
                        replace q117 := eq_true q117
                        go_wp2
                        repeat (go_quiet (fail); try go_wp2)
                        go_meet
                        case rel => exact ⟨_, (x1001_3), H', ⟨by have := HJ2.out; have := HJ10.out; have := HK3.out; first | omega | exact Nat.le_refl _⟩, ⟨by repeat (first | (with_reducible first | exact HI0.out | apply IsS44.alloc | apply IsS44.drewN | apply IsS44.drew | apply IsS44.set_1) | exact HI0.out)⟩, ⟨by repeat (first | (with_reducible first | exact HK.out | apply KeepBut.set_ | apply keep_drewN | apply keep_drew | apply keep_alloc) | exact HK.out)⟩, ⟨by repeat (first | (with_reducible first | exact HB.out | apply below_alloc | apply pw_below_drewN | apply below_drew1 | refine below_set ?_ (IsS44.ge HI0.out)) | exact HB.out)⟩⟩
                    · rw [if_neg c20] at H
                      have c20b0 : ((rd s0_0 x1001_3) == 32) = false := beq_eq_false_iff_ne.mpr c20
                      have c20b1 : ((rd s0_0 x1001_3) != 32) = true := bne_iff_ne.mpr c20
                      by_cases c22 : (rd s0_0 x1001_3) = 61
                      · as_aux_lemma =>
                          rw [if_pos c22] at H
                          have c22b0 : ((rd s0_0 x1001_3) == 61) = true := beq_iff_eq.mpr c22
                          have c22b1 : ((rd s0_0 x1001_3) != 61) = false := bne_eq_false_iff_eq.mpr c22
                          clear c22
                          have H' := Aside0.mk H
                          clear H
                          obtain ⟨ASz23_0, cSz23_0, HGz23, hgz23, HSz23_0⟩ := HI0.out
                          have hcz23_0 := cellS44_0 HGz23
                          have hcz23_1 := cellS44_1 HGz23
                          have hfz23_1 := blk_frozen HGz23 1
                          clear HGz23 hgz23
                          have HCz23_0 := Aside0.mk HSz23_0.2
                          replace HSz23_0 := HSz23_0.1
                          have p117 : 0 ≤ (x1001_3 : Int) := of_decide_eq_true (by first | (with_reducible assumption) | assumption)
                          have q117 : x1001_3 < (s0_0.length : Int) := of_decide_eq_true (by first | (with_reducible assumption) | assumption)
                          obtain ⟨ad117, e117, hx117_0⟩ := Kd.at_int HSz23_0 x1001_3 p117 q117
                          cases e117
                          replace hx117_0 := pw_cell_below HB.out hx117_0
                          replace p117 := eq_true p117
                          replace q117 := eq_true q117
                          have p118 : 0 ≤ (x1001_3 : Int) := of_decide_eq_true (by first | (with_reducible assumption) | assumption)
                          have q118 : x1001_3 < (s0_0.length : Int) := of_decide_eq_true (by first | (with_reducible assumption) | assumption)
                          obtain ⟨ad118, e118, hx118_0⟩ := Kd.at_int HSz23_0 x1001_3 p118 q118
                          obtain rfl : ad117 = ad118 := (by injection e118)
                          replace hx118_0 := pw_cell_below HB.out hx118_0
                          replace p118 := eq_true p118
                          replace q118 := eq_true q118
                          go_wp2
                          repeat (go_quiet (fail); try go_wp2)
                          go_meet
                          case rel => exact ⟨_, (x1001_3), H', ⟨by have := HJ2.out; have := HJ10.out; have := HK3.out; first | omega | exact Nat.le_refl _⟩, ⟨by repeat (first | (with_reducible first | exact HI0.out | apply IsS44.alloc | apply IsS44.drewN | apply IsS44.drew | apply IsS44.set_1) | exact HI0.out)⟩, ⟨by repeat (first | (with_reducible first | exact HK.out | apply KeepBut.set_ | apply keep_drewN | apply keep_drew | apply keep_alloc) | exact HK.out)⟩, ⟨by repeat (first | (with_reducible first | exact HB.out | apply below_alloc | apply pw_below_drewN | apply below_drew1 | refine below_set ?_ (IsS44.ge HI0.out)) | exact HB.out)⟩⟩
                      · rw [if_neg c22] at H
                        have c22b0 : ((rd s0_0 x1001_3) == 61) = false := beq_eq_false_iff_ne.mpr c22
                        have c22b1 : ((rd s0_0 x1001_3) != 61) = true := bne_iff_ne.mpr c22
                        by_cases c24 : (rd s0_0 x1001_3) = 91
                        · as_aux_lemma =>
                            rw [if_pos c24] at H
                            have c24b0 : ((rd s0_0 x1001_3) == 91) = true := beq_iff_eq.mpr c24
                            have c24b1 : ((rd s0_0 x1001_3) != 91) = false := bne_eq_false_iff_eq.mpr c24
                            clear c24
                            have H' := Aside0.mk H
                            clear H
                            obtain ⟨ASz25_0, cSz25_0, HGz25, hgz25, HSz25_0⟩ := HI0.out
                            have hcz25_0 := cellS44_0 HGz25
                            have hcz25_1 := cellS44_1 HGz25
                            have hfz25_1 := blk_frozen HGz25 1
                            clear HGz25 hgz25
                            have HCz25_0 := Aside0.mk HSz25_0.2
                            replace HSz25_0 := HSz25_0.1
                            have p117 : 0 ≤ (x1001_3 : Int) := of_decide_eq_true (by first | (with_reducible assumption) | assumption)
                            have q117 : x1001_3 < (s0_0.length : Int) := of_decide_eq_true (by first | (with_reducible assumption) | assumption)
                            obtain ⟨ad117, e117, hx117_0⟩ := Kd.at_int HSz25_0 x1001_3 p117 q117
                            cases e117
                            replace hx117_0 := pw_cell_below HB.out hx117_0
                            replace p117 := eq_true p117
                            replace q117 := eq_true q117
                            have p118 : 0 ≤ (x1001_3 : Int) := of_decide_eq_true (by first | (with_reducible assumption) | assumption)
                            have q118 : x1001_3 < (s0_0.length : Int) := of_decide_eq_true (by first | (with_reducible assumption) | assumption)
                            obtain ⟨ad118, e118, hx118_0⟩ := Kd.at_int HSz25_0 x1001_3 p118 q118
                            obtain rfl : ad117 = ad118 := (by injection e118)
                            replace hx118_0 := pw_cell_below HB.out hx118_0
                            replace p118 := eq_true p118
                            replace q118 := eq_true q118
                            have p119 : 0 ≤ (x1001_3 : Int) := of_decide_eq_true (by first | (with_reducible assumption) | assumption)
                            have q119 : x1001_3 < (s0_0.length : Int) := of_decide_eq_true (by first | (with_reducible assumption) | assumption)
                            obtain ⟨ad119, e119, hx119_0⟩ := Kd.at_int HSz25_0 x1001_3 p119 q119
                            obtain rfl : ad117 = ad119 := (by injection e119)
                            replace hx119_0 := pw_cell_below HB.out hx119_0
                            replace p119 := eq_true p119
                            replace q119 := eq_true q119
                            go_wp2
                            repeat (go_quiet (fail); try go_wp2)
                            go_meet
                            case rel => exact ⟨_, (x1001_3), H', ⟨by have := HJ2.out; have := HJ10.out; have := HK3.out; first | omega | exact Nat.le_refl _⟩, ⟨by repeat (first | (with_reducible first | exact HI0.out | apply IsS44.alloc | apply IsS44.drewN | apply IsS44.drew | apply IsS44.set_1) | exact HI0.out)⟩, ⟨by repeat (first | (with_reducible first | exact HK.out | apply KeepBut.set_ | apply keep_drewN | apply keep_drew | apply keep_alloc) | exact HK.out)⟩, ⟨by repeat (first | (with_reducible first | exact HB.out | apply below_alloc | apply pw_below_drewN | apply below_drew1 | refine below_set ?_ (IsS44.ge HI0.out)) | exact HB.out)⟩⟩
                        · rw [if_neg c24] at H
                          have c24b0 : ((rd s0_0 x1001_3) == 91) = false := beq_eq_false_iff_ne.mpr c24
                          have c24b1 : ((rd s0_0 x1001_3) != 91) = true := bne_iff_ne.mpr c24
                          by_cases c26 : (rd s0_0 x1001_3) = x4_10
                          · as_aux_lemma =>
                              rw [if_pos c26] at H
                              have c26b0 : ((rd s0_0 x1001_3) == x4_10) = true := beq_iff_eq.mpr c26
                              have c26b1 : ((rd s0_0 x1001_3) != x4_10) = false := bne_eq_false_iff_eq.mpr c26
                              clear c26
                              have H' := Aside0.mk H
                              clear H
                              obtain ⟨ASz27_0, cSz27_0, HGz27, hgz27, HSz27_0⟩ := HI0.out
                              have hcz27_0 := cellS44_0 HGz27
                              have hcz27_1 := cellS44_1 HGz27
                              have hfz27_1 := blk_frozen HGz27 1
                              clear HGz27 hgz27
                              have HCz27_0 := Aside0.mk HSz27_0.2
                              replace HSz27_0 := HSz27_0.1
                              have p117 : 0 ≤ (x1001_3 : Int) := of_decide_eq_true (by first | (with_reducible assumption) | assumption)
                              have q117 : x1001_3 < (s0_0.length : Int) := of_decide_eq_true (by first | (with_reducible assumption) | assumption)
                              obtain ⟨ad117, e117, hx117_0⟩ := Kd.at_int HSz27_0 x1001_3 p117 q117
                              cases e117
                              replace hx117_0 := pw_cell_below HB.out hx117_0
                              replace p117 := eq_true p117
                              replace q117 := eq_true q117
                              have p118 : 0 ≤ (x1001_3 : Int) := of_decide_eq_true (by first | (with_reducible assumption) | assumption)
                              have q118 : x1001_3 < (s0_0.length : Int) := of_decide_eq_true (by first | (with_reducible assumption) | assumption)
                              obtain ⟨ad118, e118, hx118_0⟩ := Kd.at_int HSz27_0 x1001_3 p118 q118
                              obtain rfl : ad117 = ad118 := (by injection e118)
                              replace hx118_0 := pw_cell_below HB.out hx118_0
                              replace p118 := eq_true p118
                              replace q118 := eq_true q118
                              have p119 : 0 ≤ (x1001_3 : Int) := of_decide_eq_true (by first | (with_reducible assumption) | assumption)
                              have q119 : x1001_3 < (s0_0.length : Int) := of_decide_eq_true (by first | (with_reducible assumption) | assumption)
                              obtain ⟨ad119, e119, hx119_0⟩ := Kd.at_int HSz27_0 x1001_3 p119 q119
                              obtain rfl : ad117 = ad119 := (by injection e119)
                              replace hx119_0 := pw_cell_below HB.out hx119_0
                              replace p119 := eq_true p119
                              replace q119 := eq_true q119
                              have p120 : 0 ≤ (x1001_3 : Int) := of_decide_eq_true (by first | (with_reducible assumption) | assumption)
                              have q120 : x1001_3 < (s0_0.length : Int) := of_decide_eq_true (by first | (with_reducible assumption) | assumption)
                              obtain ⟨ad120, e120, hx120_0⟩ := Kd.at_int HSz27_0 x1001_3 p120 q120
                              obtain rfl : ad117 = ad120 := (by injection e120)
                              replace hx120_0 := pw_cell_below HB.out hx120_0
                              replace p120 := eq_true p120
                              replace q120 := eq_true q120
                              go_wp2
                              repeat (go_quiet (fail); try go_wp2)
                              go_meet
                              case rel => exact ⟨_, (x1001_3), H', ⟨by have := HJ2.out; have := HJ10.out; have := HK3.out; first | omega | exact Nat.le_refl _⟩, ⟨by repeat (first | (with_reducible first | exact HI0.out | apply IsS44.alloc | apply IsS44.drewN | apply IsS44.drew | apply IsS44.set_1) | exact HI0.out)⟩, ⟨by repeat (first | (with_reducible first | exact HK.out | apply KeepBut.set_ | apply keep_drewN | apply keep_drew | apply keep_alloc) | exact HK.out)⟩, ⟨by repeat (first | (with_reducible first | exact HB.out | apply below_alloc | apply pw_below_drewN | apply below_drew1 | refine below_set ?_ (IsS44.ge HI0.out)) | exact HB.out)⟩⟩
                          · as_aux_lemma =>
                              rw [if_neg c26] at H
                              have c26b0 : ((rd s0_0 x1001_3) == x4_10) = false := beq_eq_false_iff_ne.mpr c26
                              have c26b1 : ((rd s0_0 x1001_3) != x4_10) = true := bne_iff_ne.mpr c26
                              have H' := Aside0.mk H
                              clear H
                              obtain ⟨ASz28_0, cSz28_0, HGz28, hgz28, HSz28_0⟩ := HI0.out
                              have hcz28_0 := cellS44_0 HGz28
                              have hcz28_1 := cellS44_1 HGz28
                              have hfz28_1 := blk_frozen HGz28 1
                              clear HGz28 hgz28
                              have HCz28_0 := Aside0.mk HSz28_0.2
                              replace HSz28_0 := HSz28_0.1
                              have p117 : 0 ≤ (x1001_3 : Int) := of_decide_eq_true (by first | (with_reducible assumption) | assumption)
                              have q117 : x1001_3 < (s0_0.length : Int) := of_decide_eq_true (by first | (with_reducible assumption) | assumption)
                              obtain ⟨ad117, e117, hx117_0⟩ := Kd.at_int HSz28_0 x1001_3 p117 q117
                              cases e117
                              replace hx117_0 := pw_cell_below HB.out hx117_0
                              replace p117 := eq_true p117
                              replace q117 := eq_true q117
                              have p118 : 0 ≤ (x1001_3 : Int) := of_decide_eq_true (by first | (with_reducible assumption) | assumption)
                              have q118 : x1001_3 < (s0_0.length : Int) := of_decide_eq_true (by first | (with_reducible assumption) | assumption)
                              obtain ⟨ad118, e118, hx118_0⟩ := Kd.at_int HSz28_0 x1001_3 p118 q118
                              obtain rfl : ad117 = ad118 := (by injection e118)
                              replace hx118_0 := pw_cell_below HB.out hx118_0
                              replace p118 := eq_true p118
                              replace q118 := eq_true q118
                              have p119 : 0 ≤ (x1001_3 : Int) := of_decide_eq_true (by first | (with_reducible assumption) | assumption)
                              have q119 : x1001_3 < (s0_0.length : Int) := of_decide_eq_true (by first | (with_reducible assumption) | assumption)
                              obtain ⟨ad119, e119, hx119_0⟩ := Kd.at_int HSz28_0 x1001_3 p119 q119
                              obtain rfl : ad117 = ad119 := (by injection e119)
                              replace hx119_0 := pw_cell_below HB.out hx119_0
                              replace p119 := eq_true p119
                              replace q119 := eq_true q119
                              have p120 : 0 ≤ (x1001_3 : Int) := of_decide_eq_true (by first | (with_reducible assumption) | assumption)
                              have q120 : x1001_3 < (s0_0.length : Int) := of_decide_eq_true (by first | (with_reducible assumption) | assumption)
                              obtain ⟨ad120, e120, hx120_0⟩ := Kd.at_int HSz28_0 x1001_3 p120 q120
                              obtain rfl : ad117 = ad120 := (by injection e120)
                              replace hx120_0 := pw_cell_below HB.out hx120_0
                              replace p120 := eq_true p120
                              replace q120 := eq_true q120
                              go_wp2
                              repeat (go_quiet (fail); try go_wp2)
                              go_roundg k3
                              case measure => have := HJ2.out; have := HJ10.out; have := HK3.out; omega
                              case rel => exact ⟨(wrap64 (x1001_3 + 1)), H', ⟨by have := HJ2.out; have := HJ10.out; have := HK3.out; omega⟩, ⟨by repeat (first | (with_reducible first | exact HI0.out | apply IsS44.alloc | apply IsS44.drewN | apply IsS44.drew | apply IsS44.set_1) | exact HI0.out)⟩, ⟨by repeat (first | (with_reducible first | exact HK.out | apply KeepBut.set_ | apply keep_drewN | apply keep_drew | apply keep_alloc) | exact HK.out)⟩, ⟨by repeat (first | (with_reducible first | exact HB.out | apply below_alloc | apply pw_below_drewN | apply below_drew1 | refine below_set ?_ (IsS44.ge HI0.out)) | exact HB.out)⟩⟩
                  · rw [if_neg c19] at H
                    exact absurd H (by simp)
                · as_aux_lemma =>
                    rw [if_neg c18] at H
                    have c18b0 : decide (x1001_3 < (s0_0.length : Int)) = false := decide_eq_false c18
                    clear c18
                    (first | rw [c18b0] | (simp only [i64_w, i32_w]; rw [c18b0]) | skip)
                    have H' := Aside0.mk H
                    clear H
                    obtain ⟨ASz29_0, cSz29_0, HGz29, hgz29, HSz29_0⟩ := HI0.out
                    have hcz29_0 := cellS44_0 HGz29
                    have hcz29_1 := cellS44_1 HGz29
                    have hfz29_1 := blk_frozen HGz29 1
                    clear HGz29 hgz29
                    have HCz29_0 := Aside0.mk HSz29_0.2
                    replace HSz29_0 := HSz29_0.1
                    go_wp2
                    repeat (go_quiet (fail); try go_wp2)
                    go_meet
                    case rel => exact ⟨_, (x1001_3), H', ⟨by have := HJ2.out; have := HJ10.out; have := HK3.out; first | omega | exact Nat.le_refl _⟩, ⟨by repeat (first | (with_reducible first | exact HI0.out | apply IsS44.alloc | apply IsS44.drewN | apply IsS44.drew | apply IsS44.set_1) | exact HI0.out)⟩, ⟨by repeat (first | (with_reducible first | exact HK.out | apply KeepBut.set_ | apply keep_drewN | apply keep_drew | apply keep_alloc) | exact HK.out)⟩, ⟨by repeat (first | (with_reducible first | exact HB.out | apply below_alloc | apply pw_below_drewN | apply below_drew1 | refine below_set ?_ (IsS44.ge HI0.out)) | exact HB.out)⟩⟩
          case rest =>
            clear HC16
            try clear c1
            try clear p1
            try clear q1
            try clear hx1
            try clear c2
            try clear p2
            try clear c5
            try clear c5b0
            try clear c6
            try clear c6b0
            try clear p6
            try clear c7
            try clear c7b0
            try clear c7b1
            try clear p11
            try clear q11
            try clear hx11
            try clear c12
            try clear p12
            try clear q12
            try clear hx12
            try clear c13
            try clear c13b0
            try clear c14
            try clear c14b0
            try clear c18
            try clear c18b0
            try clear c19
            try clear c19b0
            try clear c20
            try clear c20b0
            try clear c20b1
            try clear c22
            try clear c22b0
            try clear c22b1
            try clear c24
            try clear c24b0
            try clear c24b1
            try clear c26
            try clear c26b0
            try clear c26b1
            try clear hcz10_0
            try clear hcz10_1
            try clear hcz15_0
            try clear hcz15_1
            try clear hcz17_0
            try clear hcz17_1
            try clear hcz21_0
            try clear hcz21_1
            try clear hcz23_0
            try clear hcz23_1
            try clear hcz25_0
            try clear hcz25_1
            try clear hcz27_0
            try clear hcz27_1
            try clear hcz28_0
            try clear hcz28_1
            try clear hcz29_0
            try clear hcz29_1
            try clear hcz8_0
            try clear hcz8_1
            try clear hcz9_0
            try clear hcz9_1
            try clear hfz10_1
            try clear hfz15_1
            try clear hfz17_1
            try clear hfz21_1
            try clear hfz23_1
            try clear hfz25_1
            try clear hfz27_1
            try clear hfz28_1
            try clear hfz29_1
            try clear hfz8_1
            try clear hfz9_1
            try clear hx114_0
            try clear hx115_0
            try clear hx116_0
            try clear hx117_0
            try clear hx118_0
            try clear hx119_0
            try clear hx120_0
            try clear p1
            try clear p11
            try clear p114
            try clear p115
            try clear p116
            try clear p117
            try clear p118
            try clear p119
            try clear p120
            try clear p2
            try clear p6
            try clear q1
            try clear q11
            try clear q114
            try clear q115
            try clear q116
            try clear q117
            try clear q118
            try clear q119
            try clear q120
            obtain ⟨kq, x1001_15, HA, HJ15, HI0, HK, HB⟩ := hcut
            cases kq with
            | zero => exact absurd HA.out (by simp [harfbuzz_parser_parseTag.j3])
            | succ kj15 =>
              have H := HA.out
              clear HA
              simp only [harfbuzz_parser_parseTag.j3] at H
              have HC30 := Aside0.mk H
              clear H
              go_upto_region 9 with (fail)
              repeat (go_quiet (fail); go_upto_region 9 with (fail))
              go_cut [151] (fun v151 wc => ∃ (kq : Nat) (x151_29 : Bool), v151 = .bool x151_29 ∧ Aside0 (harfbuzz_parser_parseTag.j4 kq x4_10 x1001_10 x151_29 s0_0 x1001_15 = some (r1, r2, r3)) ∧ Aside0 (kq ≤ kj15) ∧ Aside0 (IsS44 w0 wc g s0_0 x1001_15) ∧ Aside0 (KeepBut w wc g none) ∧ Aside0 (Below w0.heap.size w0 wc))
              case first =>
                have H := HC30.out
                clear HC30
                by_cases c31 : x1001_15 = x1001_10
                · as_aux_lemma =>
                    rw [if_pos c31] at H
                    have c31b0 : (x1001_15 == x1001_10) = true := beq_iff_eq.mpr c31
                    have c31b1 : (x1001_15 != x1001_10) = false := bne_eq_false_iff_eq.mpr c31
                    clear c31
                    (first | rw [c31b0] | (simp only [i64_w, i32_w]; rw [c31b0]) | skip)
                    have H' := Aside0.mk H
                    clear H
                    obtain ⟨ASz32_0, cSz32_0, HGz32, hgz32, HSz32_0⟩ := HI0.out
                    have hcz32_0 := cellS44_0 HGz32
                    have hcz32_1 := cellS44_1 HGz32
                    have hfz32_1 := blk_frozen HGz32 1
                    clear HGz32 hgz32
                    have HCz32_0 := Aside0.mk HSz32_0.2
                    replace HSz32_0 := HSz32_0.1
                    go_wp2
                    repeat (go_quiet (fail); try go_wp2)
                    go_meet
                    case rel => exact ⟨_, (true), (by first | rfl | (simp; done) | (simp [*]; done)), H', ⟨by have := HJ2.out; have := HJ10.out; have := HJ15.out; first | omega | exact Nat.le_refl _⟩, ⟨by repeat (first | (with_reducible first | exact HI0.out | apply IsS44.alloc | apply IsS44.drewN | apply IsS44.drew | apply IsS44.set_1) | exact HI0.out)⟩, ⟨by repeat (first | (with_reducible first | exact HK.out | apply KeepBut.set_ | apply keep_drewN | apply keep_drew | apply keep_alloc) | exact HK.out)⟩, ⟨by repeat (first | (with_reducible first | exact HB.out | apply below_alloc | apply pw_below_drewN | apply below_drew1 | refine below_set ?_ (IsS44.ge HI0.out)) | exact HB.out)⟩⟩
                · as_aux_lemma =>
                    rw [if_neg c31] at H
                    have c31b0 : (x1001_15 == x1001_10) = false := beq_eq_false_iff_ne.mpr c31
                    have c31b1 : (x1001_15 != x1001_10) = true := bne_iff_ne.mpr c31
                    (first | rw [c31b0] | (simp only [i64_w, i32_w]; rw [c31b0]) | skip)
                    have H' := Aside0.mk H
                    clear H
                    obtain ⟨ASz33_0, cSz33_0, HGz33, hgz33, HSz33_0⟩ := HI0.out
                    have hcz33_0 := cellS44_0 HGz33
                    have hcz33_1 := cellS44_1 HGz33
                    have hfz33_1 := blk_frozen HGz33 1
                    clear HGz33 hgz33
                    have HCz33_0 := Aside0.mk HSz33_0.2
                    replace HSz33_0 := HSz33_0.1
                    go_wp2
                    repeat (go_quiet (fail); try go_wp2)
                    go_meet
                    case rel => exact ⟨_, (decide (x1001_15 > (wrap64 (x1001_10 + 4)))), (by first | rfl | (simp; done) | (simp [*]; done)), H', ⟨by have := HJ2.out; have := HJ10.out; have := HJ15.out; first | omega | exact Nat.le_refl _⟩, ⟨by repeat (first | (with_reducible first | exact HI0.out | apply IsS44.alloc | apply IsS44.drewN | apply IsS44.drew | apply IsS44.set_1) | exact HI0.out)⟩, ⟨by repeat (first | (with_reducible first | exact HK.out | apply KeepBut.set_ | apply keep_drewN | apply keep_drew | apply keep_alloc) | exact HK.out)⟩, ⟨by repeat (first | (with_reducible first | exact HB.out | apply below_alloc | apply pw_below_drewN | apply below_drew1 | refine below_set ?_ (IsS44.ge HI0.out)) | exact HB.out)⟩⟩
              case rest =>
                clear HC30
                try clear c1
                try clear p1
                try clear q1
                try clear hx1
                try clear c2
                try clear p2
                try clear c3
                try clear c5
                try clear c5b0
                try clear c6
                try clear c6b0
                try clear p6
                try clear c7
                try clear c7b0
                try clear c7b1
                try clear p11
                try clear q11
                try clear hx11
                try clear c12
                try clear p12
                try clear q12
                try clear hx12
                try clear c13
                try clear c13b0
                try clear c14
                try clear c14b0
                try clear c18
                try clear c18b0
                try clear c19
                try clear c19b0
                try clear c20
                try clear c20b0
                try clear c20b1
                try clear c22
                try clear c22b0
                try clear c22b1
                try clear c24
                try clear c24b0
                try clear c24b1
                try clear c26
                try clear c26b0
                try clear c26b1
                try clear c31
                try clear c31b0
                try clear c31b1
                try clear hcz10_0
                try clear hcz10_1
                try clear hcz15_0
                try clear hcz15_1
                try clear hcz17_0
                try clear hcz17_1
                try clear hcz21_0
                try clear hcz21_1
                try clear hcz23_0
                try clear hcz23_1
                try clear hcz25_0
                try clear hcz25_1
                try clear hcz27_0
                try clear hcz27_1
                try clear hcz28_0
                try clear hcz28_1
                try clear hcz29_0
                try clear hcz29_1
                try clear hcz32_0
                try clear hcz32_1
                try clear hcz33_0
                try clear hcz33_1
                try clear hcz8_0
                try clear hcz8_1
                try clear hcz9_0
                try clear hcz9_1
                try clear hfz10_1
                try clear hfz15_1
                try clear hfz17_1
                try clear hfz21_1
                try clear hfz23_1
                try clear hfz25_1
                try clear hfz27_1
                try clear hfz28_1
                try clear hfz29_1
                try clear hfz32_1
                try clear hfz33_1
                try clear hfz8_1
                try clear hfz9_1
                try clear hx114_0
                try clear hx115_0
                try clear hx116_0
                try clear hx117_0
                try clear hx118_0
                try clear hx119_0
                try clear hx120_0
                try clear p1
                try clear p11
                try clear p114
                try clear p115
                try clear p116
                try clear p117
                try clear p118
                try clear p119
                try clear p12
                try clear p120
                try clear p2
                try clear p6
                try clear q1
                try clear q11
                try clear q114
                try clear q115
                try clear q116
                try clear q117
                try clear q118
                try clear q119
                try clear q12
                try clear q120
                obtain ⟨kq, x151_29, rfl, HA, HJ29, HI0, HK, HB⟩ := hcut
                cases kq with
                | zero => exact absurd HA.out (by simp [harfbuzz_parser_parseTag.j4])
                | succ kj29 =>
                  have H := HA.out
                  clear HA
                  simp only [harfbuzz_parser_parseTag.j4] at H
                  by_cases c34 : x151_29 = true
                  · as_aux_lemma =>
                      subst c34
                      have H1 : ((errors_New.f (⟨#[105, 110, 118, 97, 108, 105, 100, 32, 116, 97, 103, 32, 108, 101, 110, 103, 116, 104]⟩ : ByteArray)).bind fun t121 => (some (0, t121, x1001_15))) = some (r1, r2, r3) := by rw [if_pos rfl] at H; exact H
                      clear H
                      have H := H1
                      clear H1
                      replace H := Option.bind_eq_some_iff.mp H
                      obtain ⟨t121, A350, H⟩ := H
                      replace H : (some (0, t121, x1001_15)) = some (r1, r2, r3) := H
                      have A35 := Aside0.mk A350
                      clear A350
                      simp only [Option.some.injEq, Prod.mk.injEq] at H
                      obtain ⟨rfl, rfl, rfl⟩ := H
                      go_wp2_with (first | (go_at_call 28; (with_reducible refine (errors_New.calls (⟨#[105, 110, 118, 97, 108, 105, 100, 32, 116, 97, 103, 32, 108, 101, 110, 103, 116, 104]⟩ : ByteArray) t121 _ A35.out).mono ?_); rintro e w38 ⟨ev36, rfl, he37, hb⟩; have n0_ := Aside0.mk (IsS44.below (by repeat (first | (with_reducible first | exact HI0.out | apply IsS44.alloc | apply IsS44.drewN | apply IsS44.drew | apply IsS44.set_1) | exact HI0.out)) hb); have n1_ := Aside0.mk (KeepBut.trans (by repeat (first | (with_reducible first | exact HK.out | apply KeepBut.set_ | apply keep_drewN | apply keep_drew | apply keep_alloc) | exact HK.out)) (KeepBut.of_below hb g none) (.inl rfl)); have n2_ := Aside0.mk (below_step (by repeat (first | (with_reducible first | exact HB.out | apply below_alloc | apply pw_below_drewN | apply below_drew1 | refine below_set ?_ (IsS44.ge HI0.out)) | exact HB.out)) hb); clear HI0; clear HK; clear HB; have HI0 := n0_; have HK := n1_; have HB := n2_; clear n0_ n1_ n2_; (try clear hb); (try clear hb2); (try clear hk); (try clear hi); (first | (obtain rfl := EV_none he37) | (obtain ⟨te_, pe_, rfl⟩ := EV_some he37) | skip)))
                      repeat (go_quiet (first | (go_at_call 28; (with_reducible refine (errors_New.calls (⟨#[105, 110, 118, 97, 108, 105, 100, 32, 116, 97, 103, 32, 108, 101, 110, 103, 116, 104]⟩ : ByteArray) t121 _ A35.out).mono ?_); rintro e w38 ⟨ev36, rfl, he37, hb⟩; have n0_ := Aside0.mk (IsS44.below (by repeat (first | (with_reducible first | exact HI0.out | apply IsS44.alloc | apply IsS44.drewN | apply IsS44.drew | apply IsS44.set_1) | exact HI0.out)) hb); have n1_ := Aside0.mk (KeepBut.trans (by repeat (first | (with_reducible first | exact HK.out | apply KeepBut.set_ | apply keep_drewN | apply keep_drew | apply keep_alloc) | exact HK.out)) (KeepBut.of_below hb g none) (.inl rfl)); have n2_ := Aside0.mk (below_step (by repeat (first | (with_reducible first | exact HB.out | apply below_alloc | apply pw_below_drewN | apply below_drew1 | refine below_set ?_ (IsS44.ge HI0.out)) | exact HB.out)) hb); clear HI0; clear HK; clear HB; have HI0 := n0_; have HK := n1_; have HB := n2_; clear n0_ n1_ n2_; (try clear hb); (try clear hb2); (try clear hk); (try clear hi); (first | (obtain rfl := EV_none he37) | (obtain ⟨te_, pe_, rfl⟩ := EV_some he37) | skip))); try go_wp2_with (first | (go_at_call 28; (with_reducible refine (errors_New.calls (⟨#[105, 110, 118, 97, 108, 105, 100, 32, 116, 97, 103, 32, 108, 101, 110, 103, 116, 104]⟩ : ByteArray) t121 _ A35.out).mono ?_); rintro e w38 ⟨ev36, rfl, he37, hb⟩; have n0_ := Aside0.mk (IsS44.below (by repeat (first | (with_reducible first | exact HI0.out | apply IsS44.alloc | apply IsS44.drewN | apply IsS44.drew | apply IsS44.set_1) | exact HI0.out)) hb); have n1_ := Aside0.mk (KeepBut.trans (by repeat (first | (with_reducible first | exact HK.out | apply KeepBut.set_ | apply keep_drewN | apply keep_drew | apply keep_alloc) | exact HK.out)) (KeepBut.of_below hb g none) (.inl rfl)); have n2_ := Aside0.mk (below_step (by repeat (first | (with_reducible first | exact HB.out | apply below_alloc | apply pw_below_drewN | apply below_drew1 | refine below_set ?_ (IsS44.ge HI0.out)) | exact HB.out)) hb); clear HI0; clear HK; clear HB; have HI0 := n0_; have HK := n1_; have HB := n2_; clear n0_ n1_ n2_; (try clear hb); (try clear hb2); (try clear hk); (try clear hi); (first | (obtain rfl := EV_none he37) | (obtain ⟨te_, pe_, rfl⟩ := EV_some he37) | skip))))
                      go_ret2
                      exact ⟨_, by first | rfl | (simp [errW_none, errW_some] <;> rfl) | (simp [*, errW_none, errW_some] <;> rfl), (by first | assumption | exact rfl | exact ⟨_, _, rfl⟩), by repeat (first | (with_reducible first | exact HI0.out | apply IsS44.alloc | apply IsS44.drewN | apply IsS44.drew | apply IsS44.set_1) | exact HI0.out), by repeat (first | (with_reducible first | exact HB.out | apply below_alloc | apply pw_below_drewN | apply below_drew1 | refine below_set ?_ (IsS44.ge HI0.out)) | exact HB.out), by repeat (first | (with_reducible first | exact HK.out | apply KeepBut.set_ | apply keep_drewN | apply keep_drew | apply keep_alloc) | exact HK.out)⟩
                  · replace c34 := Bool.eq_false_iff.mpr c34
                    subst c34
                    have H1 : (if x4_10 = 0 then (if 0 ≤ x1001_10 then (if x1001_10 ≤ x1001_15 then (if x1001_15 ≤ (s0_0.length : Int) then (if x1001_15 = x1001_10 + 4 then ((opentype_MustNewTag.f (strOfNums ((s0_0.take (x1001_15 : Int).toNat).drop (x1001_10 : Int).toNat))).bind fun t123 => (some (t123, none, x1001_15))) else (none)) else (none)) else (none)) else (none)) else (none)) = some (r1, r2, r3) := by rw [if_neg (show ¬ (false = true) by decide)] at H; exact H
                    clear H
                    have H := H1
                    clear H1
                    by_cases c39 : x4_10 = 0
                    · rw [if_pos c39] at H
                      have c39b0 := eq_true c39
                      have c39b1 : decide (x4_10 = 0) = true := decide_eq_true c39
                      clear c39
                      by_cases c40 : 0 ≤ x1001_10
                      · rw [if_pos c40] at H
                        have c40b0 := eq_true c40
                        have c40b1 : decide (0 ≤ x1001_10) = true := decide_eq_true c40
                        clear c40
                        by_cases c41 : x1001_10 ≤ x1001_15
                        · rw [if_pos c41] at H
                          have c41b0 := eq_true c41
                          have c41b1 : decide (x1001_10 ≤ x1001_15) = true := decide_eq_true c41
                          clear c41
                          by_cases c42 : x1001_15 ≤ (s0_0.length : Int)
                          · rw [if_pos c42] at H
                            have c42b0 := eq_true c42
                            have c42b1 : decide (x1001_15 ≤ (s0_0.length : Int)) = true := decide_eq_true c42
                            clear c42
                            by_cases c43 : x1001_15 = x1001_10 + 4
                            · rw [if_pos c43] at H
                              have c43b0 := eq_true c43
                              have c43b1 : decide (x1001_15 = x1001_10 + 4) = true := decide_eq_true c43
                              replace H := Option.bind_eq_some_iff.mp H
                              obtain ⟨t123, A440, H⟩ := H
                              replace H : (some (t123, none, x1001_15)) = some (r1, r2, r3) := H
                              have A44 := Aside0.mk A440
                              clear A440
                              simp only [Option.some.injEq, Prod.mk.injEq] at H
                              obtain ⟨rfl, rfl, rfl⟩ := H
                              go_wp2_with (first | ((with_reducible refine gate_dst (N := 6) rfl ?_); refine box_event ?hg (N := 6) ?hd (cs := #[.int .u8 0, .int .u8 0, .int .u8 0, .int .u8 0]) (t := 69) ?hr ?_; (case hd => rfl); (case hg => rfl); (case hr => first | (go_simp; done) | (go_simp; rfl)); intro gb122 hg w45 hbox hb; have n0_ := Aside0.mk (IsS44.below (by repeat (first | (with_reducible first | exact HI0.out | apply IsS44.alloc | apply IsS44.drewN | apply IsS44.drew | apply IsS44.set_1) | exact HI0.out)) hb); have n1_ := Aside0.mk (KeepBut.trans (by repeat (first | (with_reducible first | exact HK.out | apply KeepBut.set_ | apply keep_drewN | apply keep_drew | apply keep_alloc) | exact HK.out)) (KeepBut.of_below hb g none) (.inl rfl)); have n2_ := Aside0.mk (below_step (by repeat (first | (with_reducible first | exact HB.out | apply below_alloc | apply pw_below_drewN | apply below_drew1 | refine below_set ?_ (IsS44.ge HI0.out)) | exact HB.out)) hb); have n3_ := Aside0.mk (hbox); have n4_ := Aside0.mk ((by rw [hg]; exact (keep_size (w := w) (g := g) (row := none) (by repeat (first | (with_reducible first | exact HK.out | apply KeepBut.set_ | apply keep_drewN | apply keep_drew | apply keep_alloc) | exact HK.out))) : w.heap.size ≤ gb122)); have n5_ := Aside0.mk ((Nat.le_trans HW0.out (by rw [hg]; exact (keep_size (w := w) (g := g) (row := none) (by repeat (first | (with_reducible first | exact HK.out | apply KeepBut.set_ | apply keep_drewN | apply keep_drew | apply keep_alloc) | exact HK.out))) : w.heap.size ≤ gb122) : w0.heap.size ≤ gb122)); have n6_ := Aside0.mk ((by rw [hg]; exact Nat.ne_of_lt (IsS44.lt (show IsS44 w0 _ g s0_0 x1001_15 from by repeat (first | (with_reducible first | exact HI0.out | apply IsS44.alloc | apply IsS44.drewN | apply IsS44.drew | apply IsS44.set_1) | exact HI0.out))) : g ≠ gb122)); have n7_ := Aside0.mk ((by rw [hg]; exact Nat.ne_of_gt (IsS44.lt (show IsS44 w0 _ g s0_0 x1001_15 from by repeat (first | (with_reducible first | exact HI0.out | apply IsS44.alloc | apply IsS44.drewN | apply IsS44.drew | apply IsS44.set_1) | exact HI0.out))) : gb122 ≠ g)); clear HI0; clear HK; clear HB; have HI0 := n0_; have HK := n1_; have HB := n2_; have BK122 := n3_; have GW122 := n4_; have GE122 := n5_; have NB0_122 := n6_; have NB122_0 := n7_; clear n0_ n1_ n2_ n3_ n4_ n5_ n6_ n7_; clear hb hbox hg; have hnb46 := NB122_0.out; have hnc46 := NB0_122.out; have hcz47_0 : w45.cell? ⟨gb122, 0, none⟩ = some (.int .u8 0) := (blk_cell BK122.out 0).trans rfl; have hcz47_1 : w45.cell? ⟨gb122, 1, none⟩ = some (.int .u8 0) := (blk_cell BK122.out 1).trans rfl; have hcz47_2 : w45.cell? ⟨gb122, 2, none⟩ = some (.int .u8 0) := (blk_cell BK122.out 2).trans rfl; have hcz47_3 : w45.cell? ⟨gb122, 3, none⟩ = some (.int .u8 0) := (blk_cell BK122.out 3).trans rfl; have hfz47_0 := blk_frozen BK122.out 0; have hfz47_1 := blk_frozen BK122.out 1; have hfz47_2 := blk_frozen BK122.out 2; have hfz47_3 := blk_frozen BK122.out 3) | (go_at_call 29; (with_reducible refine (opentype_MustNewTag.calls (strOfNums ((s0_0.take (x1001_15 : Int).toNat).drop (x1001_10 : Int).toNat)) t123 _ A44.out).mono ?_); rintro e w' ⟨rfl, ⟨nd, rfl⟩⟩; (try first | exact ⟨rfl, _, World.drewN_drewN _ _ _⟩ | exact ⟨rfl, _, Eq.trans (World.drewN_drewN _ _ _) (congrArg (World.drewN _) (Nat.add_assoc _ _ _))⟩)))
                              obtain ⟨wT, hwT⟩ : ∃ x, x = (((w45.setCell ⟨gb122, 0, none⟩ (Value.int IntKind.u8 32)).setCell ⟨gb122, 1, none⟩ (Value.int IntKind.u8 32)).setCell ⟨gb122, 2, none⟩ (Value.int IntKind.u8 32)).setCell ⟨gb122, 3, none⟩ (Value.int IntKind.u8 32) := ⟨_, rfl⟩
                              have hIT : IsS44 w0 wT g s0_0 x1001_15 := by rw [hwT]; exact (((HI0.out.far NB0_122.out _).far NB0_122.out _).far NB0_122.out _).far NB0_122.out _
                              have hBT : Below w0.heap.size w0 wT := by rw [hwT]; exact below_set (below_set (below_set (below_set HB.out GE122.out) GE122.out) GE122.out) GE122.out
                              have hKT : KeepBut w wT g none := by rw [hwT]; exact keep_far (keep_far (keep_far (keep_far HK.out GW122.out _) GW122.out _) GW122.out _) GW122.out _
                              have hgT : wT.heap[gb122]? = some (.cells #[.int .u8 32, .int .u8 32, .int .u8 32, .int .u8 32] 69 (0, 0)) := by
                                rw [hwT]
                                have q0 := blk_set BK122.out 0 (.int .u8 32)
                                have q1 := blk_set q0 1 (.int .u8 32)
                                have q2 := blk_set q1 2 (.int .u8 32)
                                have q3 := blk_set q2 3 (.int .u8 32)
                                simpa using q3
                              have hx4 : x4_10 = 0 := of_decide_eq_true c39b1
                              subst hx4
                              rw [← hwT]
                              clear c39b0 c39b1 hcz47_0 hcz47_1 hcz47_2 hcz47_3 hfz47_0 hfz47_1 hfz47_2 hfz47_3 HI0 HK HB BK122 hwT
                              have hIT2 := Aside0.mk hIT
                              obtain ⟨ASz6_0, cSz6_0, HGz6, hgz6, HSz6_0⟩ := hIT
                              have hcz6_0 := cellS44_0 HGz6
                              have hcz6_1 := cellS44_1 HGz6
                              have hC6 := HSz6_0.2
                              replace HSz6_0 := HSz6_0.1
                              have P1o : 0 ≤ x1001_10 := of_decide_eq_true c40b1
                              have P2o : x1001_10 ≤ x1001_15 := of_decide_eq_true c41b1
                              have P3o : x1001_15 ≤ (s0_0.length : Int) := of_decide_eq_true c42b1
                              obtain ⟨i018, hi018, _, hsz18, _⟩ := info_parts info5
                              obtain ⟨A18, hcut18, hA18, hC18⟩ := print_mid_of (P := Tryd.prog) (Value.int .u8) 0 33 5 .i64 .i64 Tryd.underlying33 hi018 hsz18 ASz6_0 cSz6_0 s0_0 x1001_10 x1001_15 P1o P2o P3o hC6
                              have HR140 := Kd.C_below (Kd.C_of_reads (h1 := fun _ => rfl) (hA18 _ (Kd.reads_of_C HSz6_0))) hBT
                              obtain ⟨D, hD⟩ : ∃ D, D = (s0_0.take x1001_15.toNat).drop x1001_10.toNat := ⟨_, rfl⟩
                              rw [← hD] at hcut18 HR140 A44
                              have hl18 : D.length = 4 := by rw [hD, List.length_drop, List.length_take]; omega
                              rw [hl18] at hcut18 HR140
                              clear hD
                              obtain ⟨d0, d1, d2, d3, rfl⟩ : ∃ d0 d1 d2 d3, D = [d0, d1, d2, d3] := by
                                match D, hl18 with
                                | [a, b, c, d], _ => exact ⟨a, b, c, d, rfl⟩
                              obtain ⟨ad, hAd, hcells⟩ := HR140.2.2 (by omega)
                              subst hAd
                              have hcl : ∀ j v, ([d0, d1, d2, d3].map (Value.int .u8))[j]? = some v → wT.cell? (ad.add j) = some v := by
                                intro j v hj
                                rw [List.getElem?_map] at hj
                                obtain ⟨p, hp, rfl⟩ := Option.map_eq_some_iff.1 hj
                                obtain ⟨c, hlen, hK, hcc⟩ := hcells j p hp
                                have e : c = [.int .u8 p] := hK
                                subst e
                                have q := hcc 0 _ rfl
                                have e1 : j * (Kd.int .u8).sz + 0 = j := Nat.mul_one j
                                exact (congrArg (fun z => wT.cell? (ad.add z)) e1).symm.trans q
                              have hcopy : ∀ m : Nat, (Builtin.copy_ #[33, 33] 3 #[.slice (some ⟨gb122, 0, none⟩) 4 4, .slice (some ad) 4 (cSz6_0 - x1001_10.toNat)]).run Tryd.prog (wT.drewN m) = .ok (goInt 4) ((wT.drewN m).setRow gb122 #[.int .u8 d0, .int .u8 d1, .int .u8 d2, .int .u8 d3]) := by
                                intro m
                                have q := run_copy_row (P := Tryd.prog) (wT.drewN m) 33 33 3 5 gb122 0 4 4 ad 4 (cSz6_0 - x1001_10.toNat) _ 69 ([d0, d1, d2, d3].map (Value.int .u8)) Tryd.underlying33 (by rw [hi018]; simp [hsz18]) hgT (by simp) (fun j v hj => hcl j v hj) (by simp) (by intro v hv; obtain ⟨p, _, rfl⟩ := List.mem_map.1 hv; rfl)
                                simpa using q
                              clear hcl hcells hA18 hC18 hi018 hsz18 hl18 P1o P2o P3o HR140
                              clear c43 c43b0 c43b1
                              go_wp2
                              go_region_law (refine step_copy_eq rfl (.tmp 154) (.tmp 164) 33 33 rfl (by rfl) (by rfl) (hcopy _) ?_; intro wV hwV)
                              all_goals have hgV : wV.heap[gb122]? = some (.cells #[.int .u8 d0, .int .u8 d1, .int .u8 d2, .int .u8 d3] 69 (0, 0)) := by rw [hwV.out]; exact setRow_heap _ gb122 _ _ 69 (0, 0) hgT
                              all_goals have hneV : ∀ i, i ≠ gb122 → wV.heap[i]? = wT.heap[i]? := fun i h => by rw [hwV.out]; exact setRow_ne h
                              all_goals have hszV : wV.heap.size = wT.heap.size := by rw [hwV.out]; unfold World.setRow; simp
                              all_goals have hoV : wV.os = wT.os ∧ wV.tape = wT.tape ∧ wV.output = wT.output := by rw [hwV.out]; exact ⟨rfl, rfl, rfl⟩
                              all_goals clear hwV hcopy hcut18 hcz6_0 hcz6_1
                              all_goals have hIV : Aside0 (IsS44 w0 wV g s0_0 x1001_15) := ⟨tag_I hIT2.out hneV hnc46⟩
                              all_goals have hBV : Aside0 (Below w0.heap.size w0 wV) := ⟨⟨hoV.1.trans hBT.os, hoV.2.1.trans hBT.tape, hoV.2.2.trans hBT.output, by rw [hszV]; exact hBT.size, fun i hi => (hneV i (by have := GE122.out; omega)).trans (hBT.block i hi)⟩⟩
                              all_goals have hKV : Aside0 (KeepBut w wV g none) := ⟨⟨by rw [hszV]; exact hKT.1, fun i hi h1 h2 => (hneV i (by have := GW122.out; omega)).trans (hKT.2 i hi h1 h2)⟩⟩
                              all_goals have hCV := tag_C hgV
                              all_goals have hcvV := Kd.C_string (P := Tryd.prog) (A := some ⟨gb122, 0, none⟩) (c := 4) Tryd.underlying33 Tryd.underlying5 Tryd.underlying9 hCV
                              all_goals clear hgV hneV hszV hoV hCV hgT hIT2 hBT hKT
                              all_goals go_wp2_with (first | (go_at_call 29; (with_reducible refine (opentype_MustNewTag.calls _ t123 _ A44.out).mono ?_); rintro e w' ⟨rfl, ⟨nd, rfl⟩⟩))
                              all_goals go_ret2
                              all_goals exact ⟨_, rfl, rfl, IsS44.drewN hIV.out _, pw_below_drewN hBV.out _, keep_drewN hKV.out _⟩
                            · rw [if_neg c43] at H
                              exact absurd H (by simp)
                          · rw [if_neg c42] at H
                            exact absurd H (by simp)
                        · rw [if_neg c41] at H
                          exact absurd H (by simp)
                      · rw [if_neg c40] at H
                        exact absurd H (by simp)
                    · rw [if_neg c39] at H
                      exact absurd H (by simp)

end Go.Proofs.YtlclakahgmoafaaDoor.PFnAskNone
