-- Written by a program of this session (xprint) out of the translation; Lean checks it.
import Derived.Test.YtchkmmbedgolbaaPFnTuplesOfx0
import Derived.Test.YtchkmmbedgolbaaPFnTuplesOfx2
namespace Go.Proofs.Ytchkmmbedgolbaa.PFnTuplesOf
open Go.RowKit Go.Proofs.YtchkmmbedgolbaaW.PrintWords Go.Proofs.YtchkmmbedgolbaaW.PrintLast Go.Proofs.YtchkmmbedgolbaaW.PrintMore
attribute [local go_sem] max2_int min2_int max_two min_two max_three min_three max_four min_four   -- for this text's walks alone
set_option linter.unusedVariables false
set_option linter.unusedSimpArgs false
theorem cz7x3 {w : World} {g : Nat} {t : TypeId} {v0 v1 v2 v3 v4 v5 v6 : Value} (h : w.heap[g]? = some (.cells #[v0, v1, v2, v3, v4, v5, v6] t (0, 0))) : w.cell? ⟨g, 0, none⟩ = some v0 ∧ w.cell? ⟨g, 1, none⟩ = some v1 ∧ w.cell? ⟨g, 2, none⟩ = some v2 ∧ w.cell? ⟨g, 3, none⟩ = some v3 ∧ w.cell? ⟨g, 4, none⟩ = some v4 ∧ w.cell? ⟨g, 5, none⟩ = some v5 ∧ w.cell? ⟨g, 6, none⟩ = some v6 := ⟨(blk_cell h 0).trans rfl, (blk_cell h 1).trans rfl, (blk_cell h 2).trans rfl, (blk_cell h 3).trans rfl, (blk_cell h 4).trans rfl, (blk_cell h 5).trans rfl, (blk_cell h 6).trans rfl⟩
theorem fz7x3 {w : World} {g : Nat} {t : TypeId} {cs : Array Value} (h : w.heap[g]? = some (.cells cs t (0, 0))) : w.frozen? ⟨g, 0, none⟩ = false ∧ w.frozen? ⟨g, 1, none⟩ = false ∧ w.frozen? ⟨g, 2, none⟩ = false ∧ w.frozen? ⟨g, 3, none⟩ = false ∧ w.frozen? ⟨g, 4, none⟩ = false ∧ w.frozen? ⟨g, 5, none⟩ = false ∧ w.frozen? ⟨g, 6, none⟩ = false := ⟨blk_frozen h 0, blk_frozen h 1, blk_frozen h 2, blk_frozen h 3, blk_frozen h 4, blk_frozen h 5, blk_frozen h 6⟩
theorem z3_0 {p : Prop} (h : p := by repeat (first | (with_reducible first | exact HB.out | apply below_alloc | apply pw_below_drewN | apply below_drew1 | refine below_set ?_ (IsS126.ge HI0.out) | refine below_set ?_ GE120.out) | exact HB.out)) : p := h

def tMD.f (k : Nat) (l0_0 : List Int) (a0_1 : Bool) (l0_2 : List Int) (l0_3 : List Int) (l0_4 : List Int) (l0_5 : List Int) (l0_6 : List Int) (a1 : Int) (a2 : Int) : Option (Bool) := (tMd.f k l0_0 a0_1 l0_2 l0_3 l0_4 l0_5 l0_6 a1 a2).bind fun t121 => (some t121)
theorem tMD.mono : ∀ a0 a1 a2 a3 a4 a5 a6 a7 a8 k, LeO (tMD.f k a0 a1 a2 a3 a4 a5 a6 a7 a8) (tMD.f (k + 1) a0 a1 a2 a3 a4 a5 a6 a7 a8) := by
 intro a0 a1 a2 a3 a4 a5 a6 a7 a8 k
 unfold tMD.f
 repeat' first
   | (with_reducible exact tMd.mono _ _ _ _ _ _ _ _ _ _)
   | (with_reducible exact LeO.refl _)
   | (with_reducible exact LeO.none _)
   | (with_reducible refine LeO.ite ?_ ?_)
   | (with_reducible refine LeO.bind ?_ (fun _ => ?_))
set_option maxHeartbeats 8000000 in
set_option maxRecDepth 100000 in
theorem tMD.calls (k : Nat) (A0_0 : Option Addr) (c0_0 : Nat) (l0_0 : List Int) (a0_1 : Bool) (A0_2 : Option Addr) (c0_2 : Nat) (l0_2 : List Int) (A0_3 : Option Addr) (c0_3 : Nat) (l0_3 : List Int) (A0_4 : Option Addr) (c0_4 : Nat) (l0_4 : List Int) (A0_5 : Option Addr) (c0_5 : Nat) (l0_5 : List Int) (A0_6 : Option Addr) (c0_6 : Nat) (l0_6 : List Int) (a1 : Int) (a2 : Int) (r : Bool) (w : World) (hr0_0 : Kd.C (Kd.int .i64) w A0_0 l0_0.length l0_0) (hc0_0 : l0_0.length ≤ c0_0) (hr0_2 : Kd.C (Kd.int .i64) w A0_2 l0_2.length l0_2) (hc0_2 : l0_2.length ≤ c0_2) (hr0_3 : Kd.C (Kd.int .i64) w A0_3 l0_3.length l0_3) (hc0_3 : l0_3.length ≤ c0_3) (hr0_4 : Kd.C (Kd.int .i64) w A0_4 l0_4.length l0_4) (hc0_4 : l0_4.length ≤ c0_4) (hr0_5 : Kd.C (Kd.int .i64) w A0_5 l0_5.length l0_5) (hc0_5 : l0_5.length ≤ c0_5) (hr0_6 : Kd.C (Kd.int .i64) w A0_6 l0_6.length l0_6) (hc0_6 : l0_6.length ≤ c0_6) (h : tMD.f k l0_0 a0_1 l0_2 l0_3 l0_4 l0_5 l0_6 a1 a2 = some r) :
  Calls Try.prog 25 #[.agg #[.slice A0_0 l0_0.length c0_0, .bool a0_1, .slice A0_2 l0_2.length c0_2, .slice A0_3 l0_3.length c0_3, .slice A0_4 l0_4.length c0_4, .slice A0_5 l0_5.length c0_5, .slice A0_6 l0_6.length c0_6], .int .i64 a1, .int .i64 a2] w fun e w' => e = .returned (.bool r) ∧ Below w.heap.size w w' := by
 have hu62 := Try.underlying62
 have HR0_0 := Aside0.mk hr0_0
 have HC0_0 := Aside0.mk hc0_0
 clear hr0_0 hc0_0
 have HR0_2 := Aside0.mk hr0_2
 have HC0_2 := Aside0.mk hc0_2
 clear hr0_2 hc0_2
 have HR0_3 := Aside0.mk hr0_3
 have HC0_3 := Aside0.mk hc0_3
 clear hr0_3 hc0_3
 have HR0_4 := Aside0.mk hr0_4
 have HC0_4 := Aside0.mk hc0_4
 clear hr0_4 hc0_4
 have HR0_5 := Aside0.mk hr0_5
 have HC0_5 := Aside0.mk hc0_5
 clear hr0_5 hc0_5
 have HR0_6 := Aside0.mk hr0_6
 have HC0_6 := Aside0.mk hc0_6
 clear hr0_6 hc0_6
 have HB := Aside0.mk (Below.refl w.heap.size w)
 have H : ((tMd.f k l0_0 a0_1 l0_2 l0_3 l0_4 l0_5 l0_6 a1 a2).bind fun t121 => (some t121)) = some r := h
 clear h
 replace H := Option.bind_eq_some_iff.mp H
 obtain ⟨t121, A40, H⟩ := H
 replace H : (some t121) = some r := H
 have A4 := Aside0.mk A40
 clear A40
 obtain rfl := Option.some.inj H
 go_enter Try.func25, Try.ntmps25
 go_wp2_with (first | ((with_reducible refine gate_dst (N := 3) rfl ?_); refine box_event ?hg (N := 3) ?hd (cs := #[.slice A0_0 l0_0.length c0_0, .bool a0_1, .slice A0_2 l0_2.length c0_2, .slice A0_3 l0_3.length c0_3, .slice A0_4 l0_4.length c0_4, .slice A0_5 l0_5.length c0_5, .slice A0_6 l0_6.length c0_6]) (t := 62) ?hr ?_; (case hd => rfl); (case hg => rfl); (case hr => first | (go_simp; done) | (go_simp; rfl)); intro gb120 hg w5 hbox hb; have n0_ := Aside0.mk (below_step z3_0 hb); have n1_ := Aside0.mk (hbox); have n2_ := Aside0.mk ((by rw [hg]; exact (below_size z3_0) : w.heap.size ≤ gb120)); have n3_ := Aside0.mk ((by rw [hg]; exact (below_size z3_0) : w.heap.size ≤ gb120)); clear HB; have HB := n0_; have BK120 := n1_; have GW120 := n2_; have GE120 := n3_; clear n0_ n1_ n2_ n3_; clear hb hbox hg; obtain ⟨hcz6_0, hcz6_1, hcz6_2, hcz6_3, hcz6_4, hcz6_5, hcz6_6⟩ := cz7x3 BK120.out; obtain ⟨hfz6_0, hfz6_1, hfz6_2, hfz6_3, hfz6_4, hfz6_5, hfz6_6⟩ := fz7x3 BK120.out) | ((with_reducible refine gate_callee (f := 44) rfl ?_); refine goesL_ (some 10) rfl rfl Try.func44 (by kernel_rfl) rfl #[.agg #[.slice A0_0 l0_0.length c0_0, .bool a0_1, .slice A0_2 l0_2.length c0_2, .slice A0_3 l0_3.length c0_3, .slice A0_4 l0_4.length c0_4, .slice A0_5 l0_5.length c0_5, .slice A0_6 l0_6.length c0_6], .int .i64 a1, .int .i64 a2] rfl (by (try simp only [List.map_toArray, List.map_cons, List.map_nil]); first | done | rfl | (simp only [List.length_drop, List.length_take]; rfl)) ?_; (with_reducible refine (tMd.calls k _ _ l0_0 a0_1 _ _ l0_2 _ _ l0_3 _ _ l0_4 _ _ l0_5 _ _ l0_6 a1 a2 t121 _ ?side1 ?side2 ?side3 ?side4 ?side5 ?side6 ?side7 ?side8 ?side9 ?side10 ?side11 ?side12 A4.out).mono ?_); (case side1 => repeat (first | exact (Kd.C_below HR0_0.out HB.out) | (with_reducible refine Kd.C_alloc ?_ _) | (with_reducible refine Kd.C_drewN ?_ _) | (with_reducible refine Kd.C_drew ?_))); (case side2 => exact HC0_0.out); (case side3 => repeat (first | exact (Kd.C_below HR0_2.out HB.out) | (with_reducible refine Kd.C_alloc ?_ _) | (with_reducible refine Kd.C_drewN ?_ _) | (with_reducible refine Kd.C_drew ?_))); (case side4 => exact HC0_2.out); (case side5 => repeat (first | exact (Kd.C_below HR0_3.out HB.out) | (with_reducible refine Kd.C_alloc ?_ _) | (with_reducible refine Kd.C_drewN ?_ _) | (with_reducible refine Kd.C_drew ?_))); (case side6 => exact HC0_3.out); (case side7 => repeat (first | exact (Kd.C_below HR0_4.out HB.out) | (with_reducible refine Kd.C_alloc ?_ _) | (with_reducible refine Kd.C_drewN ?_ _) | (with_reducible refine Kd.C_drew ?_))); (case side8 => exact HC0_4.out); (case side9 => repeat (first | exact (Kd.C_below HR0_5.out HB.out) | (with_reducible refine Kd.C_alloc ?_ _) | (with_reducible refine Kd.C_drewN ?_ _) | (with_reducible refine Kd.C_drew ?_))); (case side10 => exact HC0_5.out); (case side11 => repeat (first | exact (Kd.C_below HR0_6.out HB.out) | (with_reducible refine Kd.C_alloc ?_ _) | (with_reducible refine Kd.C_drewN ?_ _) | (with_reducible refine Kd.C_drew ?_))); (case side12 => exact HC0_6.out); rintro e w7 ⟨rfl, hb⟩; refine ⟨_, rfl, ?_⟩; have n0_ := Aside0.mk (blk_below (g := gb120) (o := .cells #[.slice A0_0 l0_0.length c0_0, .bool a0_1, .slice A0_2 l0_2.length c0_2, .slice A0_3 l0_3.length c0_3, .slice A0_4 l0_4.length c0_4, .slice A0_5 l0_5.length c0_5, .slice A0_6 l0_6.length c0_6] 62 (0, 0)) (by (with_reducible repeat (first | apply b1_ | apply b2_ | apply b3_)); exact BK120.out) hb); have n1_ := Aside0.mk (below_step z3_0 hb); clear BK120; clear HB; have BK120 := n0_; have HB := n1_; clear n0_ n1_ hb; skip))
 go_ret
 exact ⟨by first | rfl | (simp [errW_none, errW_some] <;> rfl) | (simp [*, errW_none, errW_some] <;> rfl), by repeat (first | (with_reducible first | exact HB.out | apply below_alloc | apply pw_below_drewN | apply below_drew1 | refine below_set ?_ (IsS126.ge HI0.out) | refine below_set ?_ GE120.out) | exact HB.out)⟩

def tSh.l0 : Nat → List Int → List Int → Int → Int → Option (List Int)
 | 0, _, _, _, _ => none
 | k + 1, x0, x7, x8, x9 => if x9 < x8 then (if 0 ≤ x9 then (if x9 < (x7.length : Int) then ((some (([((rd x7 x9) / 256) % 256, (rd x7 x9) % 256] : List Int) : List Int)).bind fun y123 => (if x0.length + y123.length < 140737488355328 then (tSh.l0 k (x0 ++ y123) x7 x8 (wrap64 (x9 + 1))) else (none))) else (none)) else (none)) else (some x0)
def tSh.f (k : Nat) (l0 : List Int) (l1 : List Int) : Option (List Int) := tSh.l0 k l0 l1 (l1.length : Int) 0
theorem tSh.mono_l : ∀ k, (∀ y0 y1 y2 y3, LeO (tSh.l0 k y0 y1 y2 y3) (tSh.l0 (k + 1) y0 y1 y2 y3))
 | 0 => fun _ _ _ _ r h => by simp [tSh.l0] at h
 | k + 1 => by
  have ih0 := tSh.mono_l k
  ·intro y0 y1 y2 y3
   unfold tSh.l0
   repeat' first
   | (with_reducible exact ih0 _ _ _ _)
   | (with_reducible exact LeO.refl _)
   | (with_reducible exact LeO.none _)
   | (with_reducible refine LeO.ite ?_ ?_)
   | (with_reducible refine LeO.bind ?_ (fun _ => ?_))
theorem tSh.mono : ∀ a0 a1 k, LeO (tSh.f k a0 a1) (tSh.f (k + 1) a0 a1) := by
 intro a0 a1 k
 have ih0 := tSh.mono_l k
 unfold tSh.f
 repeat' first
   | (with_reducible exact ih0 _ _ _ _)
   | (with_reducible exact LeO.refl _)
   | (with_reducible exact LeO.none _)
   | (with_reducible refine LeO.ite ?_ ?_)
   | (with_reducible refine LeO.bind ?_ (fun _ => ?_))
theorem set_back {w : World} {g : Nat} {t : TypeId} {v : Value} {cs : List Value} (h : w.heap[g]? = some (.cells ⟨v :: cs⟩ t (0, 0))) (u : Value) : (w.setCell ⟨g, 0, none⟩ u).setCell ⟨g, 0, none⟩ v = w := by
 have hx : ((w.setCell ⟨g, 0, none⟩ u).setCell ⟨g, 0, none⟩ v).heap = w.heap := by
  refine Array.ext_getElem? (fun i => ?_)
  by_cases e : i = g
  · subst e
    rw [h]
    exact blk_put (blk_put h 0 u rfl) 0 v rfl
  · exact (Below.heap_setCell _ ⟨g, 0, none⟩ v i e).trans (Below.heap_setCell _ ⟨g, 0, none⟩ u i e)
 calc _ = { w with heap := ((w.setCell ⟨g, 0, none⟩ u).setCell ⟨g, 0, none⟩ v).heap } := rfl
  _ = w := by rw [hx]
theorem below_set0 {w W : World} {g j : Nat} {v : Value} (h : Below w.heap.size w W) (hg : w.heap.size ≤ g) : Below w.heap.size w (W.setCell ⟨g, j, none⟩ v) := below_set h hg
theorem kept_back {w W : World} {P : Nat → Prop} {g : Nat} {t : TypeId} {u v : Value} {cs : List Value} (h : Kept w W (fun k_ => P k_ ∨ k_ = g)) (hW : W.heap[g]? = some (.cells ⟨v :: cs⟩ t (0, 0))) (hw : w.heap[g]? = some (.cells ⟨u :: cs⟩ t (0, 0))) : Kept w (W.setCell ⟨g, 0, none⟩ u) P := by
 refine ⟨by simpa [World.setCell] using h.1, fun i hi hn => ?_⟩
 by_cases e : i = g
 · subst e
   rw [hw]
   exact blk_put hW 0 u rfl
 · exact (Below.heap_setCell W ⟨g, 0, none⟩ u i e).trans (h.2 i hi (fun h_ => h_.elim hn e))
set_option maxHeartbeats 8000000 in
set_option maxRecDepth 100000 in
theorem tSh.calls (k : Nat) (g : Nat) (P0_ : Nat → Prop) (u9000_ : Value) (l0 : List Int) (A1 : Option Addr) (c1 : Nat) (l1 : List Int) (r : List Int) (w0 w : World) (hB : Below w0.heap.size w0 w) (ho0 : Kd.R (Kd.int .u8) 5 w w0.heap.size P0_ u9000_ l0) (hr1 : ∀ W_, Kept w W_ (fun k_ => P0_ k_ ∨ k_ = g) → Kd.C (Kd.int .i64) W_ A1 l1.length l1) (hc1 : l1.length ≤ c1) (hg : w.heap[g]? = some (.cells #[u9000_, .slice none 0 0] 130 (0, 0))) (hgw : w0.heap.size ≤ g) (hgP : ¬ P0_ g) (h : tSh.f k l0 l1 = some r) :
  Calls Try.prog 40 #[.pointer (some ⟨g, 0, none⟩), .slice A1 l1.length c1] w fun e w' => ∃ (v0_ : Value) (w1 : World), e = .returned (.pointer (some ⟨g, 0, none⟩)) ∧ w' = w1.setCell ⟨g, 0, none⟩ v0_ ∧ w1.heap[g]? = some (.cells #[u9000_, .slice none 0 0] 130 (0, 0)) ∧ Kd.R (Kd.int .u8) 5 w1 w0.heap.size (fun k_ => (P0_ k_ ∨ w.heap.size ≤ k_)) v0_ r ∧ Below w0.heap.size w0 w1 ∧ Kept w w1 (fun k_ => P0_ k_) := by
 have HO0 := Aside0.mk (show Kd.R (Kd.int .u8) 5 w w0.heap.size (fun k_ => (P0_ k_ ∨ w.heap.size ≤ k_)) u9000_ l0 from Kd.R_mono ho0 (fun k_ hk => (.inl hk)))
 have HR1 := Aside0.mk hr1
 have HC1 := Aside0.mk hc1
 clear hr1 hc1
 have hu130 := Try.underlying130
 have HK := Aside0.mk (Kept.refl w (fun k_ => P0_ k_ ∨ k_ = g))
 have HW0 := Aside0.mk hB.size
 have HB := Aside0.mk hB
 clear hB
 have HG := Aside0.mk hg
 have HGW := Aside0.mk hgw
 have HGP := Aside0.mk hgP
 have HL := Aside0.mk (blk_lt hg)
 clear hg hgw hgP
 have HO0P := Aside0.mk ho0
 clear ho0
 have H : (tSh.l0 k l0 l1 (l1.length : Int) 0) = some r := h
 clear h
 have H' := Aside0.mk H
 clear H
 go_enter Try.func40, Try.ntmps40
 go_wp2
 go_loopg [9] k (fun kq v9 w' => ∃ (x0_1 : List Int) (x9_1 : Int) (v0 : Value), v9 = .int .i64 x9_1 ∧ Aside0 (tSh.l0 kq x0_1 l1 (l1.length : Int) x9_1 = some r) ∧ Aside0 (kq ≤ k) ∧ Aside0 (w'.heap[g]? = some (.cells #[v0, .slice none 0 0] 130 (0, 0))) ∧ Aside0 (Kd.R (Kd.int .u8) 5 w' w0.heap.size (fun k_ => (P0_ k_ ∨ w.heap.size ≤ k_)) v0 x0_1) ∧ Aside0 (Kept w w' (fun k_ => P0_ k_ ∨ k_ = g)) ∧ Aside0 (Below w0.heap.size w0 w'))
 case atStart => exact ⟨(l0), (0), u9000_, rfl, H', ⟨Nat.le_refl _⟩, HG, HO0, HK, HB⟩
 case round =>
  clear H'
  obtain ⟨x0_1, x9_1, v0, rfl, HA, HK1, HT, HO_0, HK, HB⟩ := hrel
  cases gk with
  | zero => exact absurd HA.out (by simp [tSh.l0])
  | succ k1 =>
   have H := HA.out
   clear HA
   simp only [tSh.l0] at H
   by_cases c3 : x9_1 < (l1.length : Int)
   ·rw [if_pos c3] at H
    have c3b0 : decide (x9_1 < (l1.length : Int)) = true := decide_eq_true c3
    clear c3
    by_cases c4 : 0 ≤ x9_1
    rotate_left
    ·rw [if_neg c4] at H
     exact absurd H (by simp)
    rw [if_pos c4] at H
    have c4b0 : decide (0 ≤ x9_1) = true := decide_eq_true c4
    clear c4
    by_cases c5 : x9_1 < (l1.length : Int)
    rotate_left
    ·rw [if_neg c5] at H
     exact absurd H (by simp)
    rw [if_pos c5] at H
    have c5b0 : decide (x9_1 < (l1.length : Int)) = true := decide_eq_true c5
    clear c5
    obtain ⟨y213, hy213⟩ : ∃ y_ : List Int, y_ = (([((rd l1 x9_1) / 256) % 256, (rd l1 x9_1) % 256] : List Int)) := ⟨_, rfl⟩
    replace H : (if x0_1.length + y213.length < 140737488355328 then (tSh.l0 k1 (x0_1 ++ y213) l1 (l1.length : Int) (wrap64 (x9_1 + 1))) else (none)) = some r := by first | (rw [hy213]; with_reducible exact H) | (have H2_ := (Option.bind_some _ _).symm.trans H; rw [hy213]; with_reducible exact H2_) | (have H2_ := (Option.bind_some _ _).symm.trans H; with_reducible exact H2_) | with_reducible exact H | (rw [hy213]; exact H) | exact H
    have Ny213 := Aside0.mk hy213
    clear hy213
    by_cases c6 : x0_1.length + y213.length < 140737488355328
    rotate_left
    ·rw [if_neg c6] at H
     exact absurd H (by simp)
    rw [if_pos c6] at H
    have LMc6 := Aside0.mk c6
    clear c6
    obtain ⟨y216, hy216⟩ : ∃ y_ : List Int, y_ = (x0_1 ++ y213) := ⟨_, rfl⟩
    replace H : (tSh.l0 k1 y216 l1 (l1.length : Int) (wrap64 (x9_1 + 1))) = some r := by rw [hy216]; exact H
    have Ny216 := Aside0.mk hy216
    clear hy216
    have H' := Aside0.mk H
    clear H
    have p212 : 0 ≤ (x9_1 : Int) := of_decide_eq_true (by assumption)
    have q212 : x9_1 < (l1.length : Int) := of_decide_eq_true (by assumption)
    obtain ⟨ad212, e212, hx212_0⟩ := Kd.at_int (HR1.out _ HK.out) x9_1 p212 q212
    cases e212
    replace p212 := eq_true p212
    replace q212 := eq_true q212
    have hcz_0 : wr.cell? ⟨g, 0, none⟩ = some v0 := (blk_cell HT.out 0).trans rfl
    go_wp2_with (first | ((with_reducible refine gate_dst (N := 23) rfl ?_); refine Kd.R_lit (Kd.int .u8) _ 5 ?hg (N := 23) ?hd (xs := ([((rd l1 x9_1) / 256) % 256, (rd l1 x9_1) % 256] : List Int)) (inner := [.int .u8 (((rd l1 x9_1) / 256) % 256), .int .u8 ((rd l1 x9_1) % 256)]) (ok := fun _ => True) (okp := fun _ => True) ?hr ?hp (fun _ hk => hk) trivial (Below.refl _ _) (Nat.le_refl _) (by simp) ?_; (case hd => rfl); (case hg => rfl); (case hr => first | (go_simp; done) | (go_simp; rfl)); (case hp => exact (Reps.one (show Kd.M (Kd.int .u8) _ _ _ (((rd l1 x9_1) / 256) % 256) [.int .u8 (((rd l1 x9_1) / 256) % 256)] from rfl) (Reps.one (show Kd.M (Kd.int .u8) _ _ _ ((rd l1 x9_1) % 256) [.int .u8 ((rd l1 x9_1) % 256)] from rfl) (Reps.none _ _)))); intro v214 w7 ho8 hb hg_ hnew_; clear hg_ hnew_; (first | rw [← Ny213.out] at ho8 | (simp only [Int.reduceToNat] at ho8; rw [← Ny213.out] at ho8)); have n0_ := Aside0.mk (Kd.R_elder' HO_0.out (Kd.R_base ho8) hb); have n1_ := Aside0.mk (Kd.R_lower (Kd.R_new' (Kd.R_newM (M := fun k_ => (P0_ k_ ∨ w.heap.size ≤ k_)) ho8 HK.out.1 (fun k_ h_ => .inr h_)) (Kd.R_lt HO_0.out)) (below_size HB.out)); have n2_ := Aside0.mk (Kept.below HK.out hb); have n3_ := Aside0.mk (below_step HB.out hb); have n4_ := Aside0.mk (blk_below HT.out hb); clear HO_0 HK HB HT hcz_0; have HO_0 := n0_; have HO215 := n1_; have HK := n2_; have HB := n3_; have HT := n4_; clear n0_ n1_ n2_ n3_ n4_; clear hb ho8; obtain ⟨Ao10, co10, eo10⟩ := Kd.R_slice HO215.out; subst eo10) | ((with_reducible refine gate_builtin (b := .append) (xs := #[.tmp 17, .tmp 23]) rfl ?_); at_builtin; refine Kd.R_append_rows (Kd.int .u8) (w0 := w0) w0.heap.size rfl (.tmp 17) (.tmp 23) 22 5 (.int .u8 0) 1 rfl Try.underlying22 info5 rfl (by decide) (by omega) v0 x0_1 y213 _ _ _ (fun k_ => (P0_ k_ ∨ w.heap.size ≤ k_) ∧ some k_ ≠ (.slice Ao10 y213.length co10 : Value).ownBlock) (fun _ => False) rfl rfl ?aO ?aR (fun _ _ h => h) (fun _ h => h.elim) ?aF ?aB ?aS ?aL ?_; (case aR => exact (Kd.R_reads' HO215.out).2.2); (case aB => exact HB.out); (case aF => exact (fun k_ hk => ⟨(.inr (Nat.le_trans HK.out.1 hk)), Kd.fresh' (Kd.R_lt HO215.out) k_ hk⟩)); (case aO => exact HO_0.out); (case aS => exact (below_size HB.out)); (case aL => have := LMc6.out; omega); intro v217 w9 ho hb hg hat; rw [← Ny216.out] at ho; have n1_ := Aside0.mk (hb); have n2_ := Aside0.mk (Kept.of_grown (S := (fun k_ => P0_ k_ ∨ k_ = g)) hg HK.out (fun k_ e_ => ((HO_0.out.1 k_ e_).1).elim (fun h_ => .inl (.inl h_)) .inr)); have n3_ := Aside0.mk (Kd.R_mono ho (fun _ hk => hk.1)); have n4_ := Aside0.mk (blk_grown HT.out hg (Kd.R_ne HO_0.out HT.out (by decide))); clear HO215 HB HK HO_0 HT; have HB := n1_; have HK := n2_; have HO218 := n3_; have HT := n4_; clear n1_ n2_ n3_ n4_; clear ho hb hg hat; have hcz_0 : w9.cell? ⟨g, 0, none⟩ = some v0 := (blk_cell HT.out 0).trans rfl; have hfz_0 := blk_frozen HT.out 0; obtain ⟨Ao11, co11, eo11⟩ := Kd.R_slice HO218.out; subst eo11))
    go_roundg k1
    case measure => have := HK1.out; omega
    case rel => exact ⟨(y216), (wrap64 (x9_1 + 1)), _, (by first | rfl | (simp; done) | (simp [*]; done)), H', ⟨by have := HK1.out; omega⟩, ⟨blk_put HT.out 0 _ rfl⟩, ⟨Kd.R_mono (Kd.R_far (p := ⟨g, 0, none⟩) (Kd.R_types HO218.out HT.out (by decide)) (fun _ hk => hk.2) _) (fun _ hk => hk.1)⟩, ⟨Kept.setCell HK.out (.inl (.inr rfl)) _⟩, ⟨below_set0 HB.out HGW.out⟩⟩
   ·rw [if_neg c3] at H
    have c3b0 : decide (x9_1 < (l1.length : Int)) = false := decide_eq_false c3
    clear c3
    obtain rfl := Option.some.inj H
    go_wp2
    go_ret
    refine ⟨rfl, v0, wr.setCell ⟨g, 0, none⟩ u9000_, (set_back HT.out u9000_).symm, blk_put HT.out 0 _ rfl, Kd.R_far (p := ⟨g, 0, none⟩) HO_0.out ?_ _, below_set0 HB.out HGW.out, ?_⟩
    ·rintro k_ (hk | hk)
     ·rintro rfl
      exact HGP.out hk
     ·have := HL.out
      show k_ ≠ g
      omega
    ·exact kept_back HK.out HT.out HG.out

/-- A state of type 126 at block g of W; what its slices lead to came in by w0. -/
def IsS126 (w0 W : World) (g : Nat) (f0 : List Int) (f1 : Int) (f2 : Bool) : Prop := ∃ A0 c0, W.heap[g]? = some (.cells #[.slice A0 f0.length c0, .int .i64 f1, .bool f2] 126 (0, 0)) ∧ w0.heap.size ≤ g ∧ (Kd.C (Kd.int .u8) w0 A0 f0.length f0 ∧ f0.length ≤ c0)
theorem IsS126.grown {w0 W : World} {g : Nat} {f0 : List Int} {f1 : Int} {f2 : Bool} {W1 : World} {row : Option Nat} (h : IsS126 w0 W g f0 f1 f2) (hw : W.grownBy W1 row) (hne : some g ≠ row) : IsS126 w0 W1 g f0 f1 f2 := by
 obtain ⟨A0, c0, hb, hg, hr0⟩ := h
 exact ⟨A0, c0, blk_grown hb hw hne, hg, hr0⟩
theorem IsS126.own_neN {w0 W : World} {g : Nat} {f0 : List Int} {f1 : Int} {f2 : Bool} {α : Type} {d : Kd α} {e : Nat} {base : Nat} {ok : Nat → Prop} {v : Value} {xs : List α} (h : IsS126 w0 W g f0 f1 f2) (ho : Kd.N d e W base ok v xs) (ht : e ≠ 126) : some g ≠ v.ownBlock := by
 obtain ⟨A0, c0, hb, hg, hr0⟩ := h
 exact Kd.N_ne ho hb ht
theorem IsS126.fresh {w0 W : World} {g : Nat} {f0 : List Int} {f1 : Int} {f2 : Bool} (h : IsS126 w0 W g f0 f1 f2) : ∀ k, W.heap.size ≤ k → k ≠ g := by
 obtain ⟨A0, c0, hb, hg, hr0⟩ := h
 exact Kd.freshB hb
theorem IsS126.kept {w0 W : World} {g : Nat} {f0 : List Int} {f1 : Int} {f2 : Bool} {W1 : World} {S : Nat → Prop} (h : IsS126 w0 W g f0 f1 f2) (hk : Kept W W1 S) (hne : ¬ S g) : IsS126 w0 W1 g f0 f1 f2 := by
 obtain ⟨A0, c0, hb, hg, hr0⟩ := h
 exact ⟨A0, c0, blk_kept hb hk hne, hg, hr0⟩
theorem IsS126.below {w0 W : World} {g : Nat} {f0 : List Int} {f1 : Int} {f2 : Bool} {W1 : World} (h : IsS126 w0 W g f0 f1 f2) (hw : Below W.heap.size W W1) : IsS126 w0 W1 g f0 f1 f2 := h.grown (grown_of_below hw none) (by simp)
theorem IsS126.alloc {w0 W : World} {g : Nat} {f0 : List Int} {f1 : Int} {f2 : Bool} (h : IsS126 w0 W g f0 f1 f2) (o : Obj) : IsS126 w0 (W.alloc o) g f0 f1 f2 := h.below (below_alloc (Below.refl _ _) o)
theorem IsS126.drewN {w0 W : World} {g : Nat} {f0 : List Int} {f1 : Int} {f2 : Bool} (h : IsS126 w0 W g f0 f1 f2) (m : Nat) : IsS126 w0 (W.drewN m) g f0 f1 f2 := h
theorem IsS126.drew {w0 W : World} {g : Nat} {f0 : List Int} {f1 : Int} {f2 : Bool} (h : IsS126 w0 W g f0 f1 f2) : IsS126 w0 W.drew g f0 f1 f2 := h
theorem IsS126.at_ {w0 W : World} {g : Nat} {f0 : List Int} {f1 : Int} {f2 : Bool} {w' : World} {m : Nat} (hq : W.drewN m = w') (h : IsS126 w0 W g f0 f1 f2) : IsS126 w0 w' g f0 f1 f2 := by subst hq; exact IsS126.drewN h m
theorem IsS126.apart {w0 W : World} {g : Nat} {f0 : List Int} {f1 : Int} {f2 : Bool} {α : Type} {d : Kd α} {e : Nat} {base : Nat} {ok : Nat → Prop} {v : Value} {xs : List α} (h : IsS126 w0 W g f0 f1 f2) (ho : d.R e W base ok v xs) (ht : ∀ q, q ∈ e :: d.E → q ≠ 126) : d.R e W base (fun k => ok k ∧ k ≠ g) v xs := by
 obtain ⟨A0, c0, hb, hg, hr0⟩ := h
 exact Kd.R_types ho hb ht
theorem IsS126.own_ne {w0 W : World} {g : Nat} {f0 : List Int} {f1 : Int} {f2 : Bool} {α : Type} {d : Kd α} {e : Nat} {base : Nat} {ok : Nat → Prop} {v : Value} {xs : List α} (h : IsS126 w0 W g f0 f1 f2) (ho : d.R e W base ok v xs) (ht : e ≠ 126) : some g ≠ v.ownBlock := by
 obtain ⟨A0, c0, hb, hg, hr0⟩ := h
 exact Kd.R_ne ho hb ht
theorem IsS126.apartQ {w0 W : World} {g : Nat} {f0 : List Int} {f1 : Int} {f2 : Bool} {α : Type} {d : Kd α} {e : Nat} {base : Nat} {ok : Nat → Prop} {v : Value} {xs : List α} (h : IsS126 w0 W g f0 f1 f2) (ho : d.Q e W base ok v xs) (ht : ∀ q, q ∈ e :: d.E → q ≠ 126) : d.Q e W base (fun k => ok k ∧ k ≠ g) v xs := by
 obtain ⟨A0, c0, hb, hg, hr0⟩ := h
 exact Kd.Q_types ho hb ht
theorem IsS126.own_neQ {w0 W : World} {g : Nat} {f0 : List Int} {f1 : Int} {f2 : Bool} {α : Type} {d : Kd α} {e : Nat} {base : Nat} {ok : Nat → Prop} {v : Value} {xs : List α} (h : IsS126 w0 W g f0 f1 f2) (ho : d.Q e W base ok v xs) (ht : e ≠ 126) : some g ≠ v.ownBlock := by
 obtain ⟨A0, c0, hb, hg, hr0⟩ := h
 exact Kd.Q_ne ho hb ht
theorem IsS126.apartS {w0 W : World} {g : Nat} {f0 : List Int} {f1 : Int} {f2 : Bool} {α : Type} {d : Kd α} {e : Nat} {base : Nat} {ok : Nat → Prop} {v : Value} {xs : List α} (h : IsS126 w0 W g f0 f1 f2) (ho : d.S e W base ok v xs) (ht : ∀ q, q ∈ e :: d.E → q ≠ 126) : d.S e W base (fun k => ok k ∧ k ≠ g) v xs := by
 obtain ⟨A0, c0, hb, hg, hr0⟩ := h
 exact Kd.S_types ho hb ht
theorem IsS126.own_neS {w0 W : World} {g : Nat} {f0 : List Int} {f1 : Int} {f2 : Bool} {α : Type} {d : Kd α} {e : Nat} {base : Nat} {ok : Nat → Prop} {v : Value} {xs : List α} (h : IsS126 w0 W g f0 f1 f2) (ho : d.S e W base ok v xs) (ht : e ≠ 126) : some g ≠ v.ownBlock := by
 obtain ⟨A0, c0, hb, hg, hr0⟩ := h
 exact Kd.S_ne ho hb ht
theorem IsS126.lt {w0 W : World} {g : Nat} {f0 : List Int} {f1 : Int} {f2 : Bool} (h : IsS126 w0 W g f0 f1 f2) : g < W.heap.size := by
 obtain ⟨A0, c0, hb, hg, hr0⟩ := h
 exact blk_lt hb
theorem IsS126.ge {w0 W : World} {g : Nat} {f0 : List Int} {f1 : Int} {f2 : Bool} (h : IsS126 w0 W g f0 f1 f2) : w0.heap.size ≤ g := by
 obtain ⟨A0, c0, hb, hg, hr0⟩ := h
 exact hg
theorem IsS126.ne_blk {w0 W : World} {g : Nat} {f0 : List Int} {f1 : Int} {f2 : Bool} {a : Nat} {cs : Array Value} {t : TypeId} {fr : Nat × Nat} (h : IsS126 w0 W g f0 f1 f2) (hb2 : W.heap[a]? = some (.cells cs t fr)) (ht : t ≠ 126) : g ≠ a := by
 obtain ⟨A0, c0, hb, hg, hr0⟩ := h
 rintro rfl
 rw [hb] at hb2
 injection hb2 with hb2
 injection hb2 with _ ht2
 exact ht ht2.symm
theorem IsS126.far {w0 W : World} {g : Nat} {f0 : List Int} {f1 : Int} {f2 : Bool} {p : Addr} (h : IsS126 w0 W g f0 f1 f2) (hne : g ≠ p.block) (u : Value) : IsS126 w0 (W.setCell p u) g f0 f1 f2 := by
 obtain ⟨A0, c0, hb, hg, hr0⟩ := h
 exact ⟨A0, c0, blk_far hb hne u, hg, hr0⟩
theorem IsS126.ofS {w0 W : World} {g : Nat} {f0 : List Int} {f1 : Int} {f2 : Bool} {A0 : Option Addr} {c0 : Nat} (h : W.heap[g]? = some (.cells #[.slice A0 f0.length c0, .int .i64 f1, .bool f2] 126 (0, 0))) (hg : w0.heap.size ≤ g) (hr0 : Kd.C (Kd.int .u8) w0 A0 f0.length f0 ∧ f0.length ≤ c0) : IsS126 w0 W g f0 f1 f2 := ⟨A0, c0, h, hg, hr0⟩
theorem cellS126_0 {W : World} {g : Nat} {A0 : Option Addr} {c0 : Nat} {f0 : List Int} {f1 : Int} {f2 : Bool} (h : W.heap[g]? = some (.cells #[.slice A0 f0.length c0, .int .i64 f1, .bool f2] 126 (0, 0))) : W.cell? ⟨g, 0, none⟩ = some (.slice A0 f0.length c0) := (blk_cell h 0).trans rfl
theorem cellS126_1 {W : World} {g : Nat} {A0 : Option Addr} {c0 : Nat} {f0 : List Int} {f1 : Int} {f2 : Bool} (h : W.heap[g]? = some (.cells #[.slice A0 f0.length c0, .int .i64 f1, .bool f2] 126 (0, 0))) : W.cell? ⟨g, 1, none⟩ = some (.int .i64 f1) := (blk_cell h 1).trans rfl
theorem IsS126.set_1 {w0 W : World} {g : Nat} {f0 : List Int} {f1 : Int} {f2 : Bool} (h : IsS126 w0 W g f0 f1 f2) (x : Int) : IsS126 w0 (W.setCell ⟨g, 1, none⟩ (.int .i64 x)) g f0 x f2 := by
 obtain ⟨A0, c0, hb, hg, hr0⟩ := h
 exact ⟨A0, c0, by simpa using blk_set hb 1 (.int .i64 x), hg, hr0⟩
theorem cellS126_2 {W : World} {g : Nat} {A0 : Option Addr} {c0 : Nat} {f0 : List Int} {f1 : Int} {f2 : Bool} (h : W.heap[g]? = some (.cells #[.slice A0 f0.length c0, .int .i64 f1, .bool f2] 126 (0, 0))) : W.cell? ⟨g, 2, none⟩ = some (.bool f2) := (blk_cell h 2).trans rfl
theorem IsS126.set_2 {w0 W : World} {g : Nat} {f0 : List Int} {f1 : Int} {f2 : Bool} (h : IsS126 w0 W g f0 f1 f2) (x : Bool) : IsS126 w0 (W.setCell ⟨g, 2, none⟩ (.bool x)) g f0 f1 x := by
 obtain ⟨A0, c0, hb, hg, hr0⟩ := h
 exact ⟨A0, c0, by simpa using blk_set hb 2 (.bool x), hg, hr0⟩
theorem IsS126.new (w0 W : World) (A0 : Option Addr) (c0 : Nat) (f0 : List Int) (f1 : Int) (f2 : Bool) (hB : Below w0.heap.size w0 W) (hr0 : (Kd.C (Kd.int .u8) w0 A0 f0.length f0 ∧ f0.length ≤ c0)) : IsS126 w0 (W.alloc (.cells #[.slice A0 f0.length c0, .int .i64 f1, .bool f2] 126)) W.heap.size f0 f1 f2 := ⟨A0, c0, by simpa using heap_alloc_new W _, hB.size, hr0⟩

def wWy.f (s0_0 : List Int) (s0_1 : Int) (s0_2 : Bool) (a1 : Int) : Option (Int × Int × Bool) := if (s0_0.length : Int) = 0 then (some (0, s0_1, s0_2)) else (if 0 ≤ (Int.tmod s0_1 (s0_0.length : Int)) then (if (Int.tmod s0_1 (s0_0.length : Int)) < (s0_0.length : Int) then (if a1 = 0 then (none) else (some (Int.tmod (wrap64 ((wrap64 (rd s0_0 (Int.tmod s0_1 (s0_0.length : Int)))) + (wrap64 (Int.tdiv s0_1 (s0_0.length : Int))))) a1, wrap64 (s0_1 + 1), s0_2))) else (none)) else (none))
set_option maxHeartbeats 8000000 in
set_option maxRecDepth 100000 in
theorem wWy.calls (g : Nat) (s0_0 : List Int) (s0_1 : Int) (s0_2 : Bool) (a1 : Int) (r1 : Int) (r2 : Int) (r3 : Bool) (w0 w : World) (hI : IsS126 w0 w g s0_0 s0_1 s0_2) (hB : Below w0.heap.size w0 w) (h : wWy.f s0_0 s0_1 s0_2 a1 = some (r1, r2, r3)) :
  Calls Try.prog 41 #[.pointer (some ⟨g, 0, none⟩), .int .i64 a1] w fun e w' => e = .returned (.int .i64 r1) ∧ IsS126 w0 w' g s0_0 r2 r3 ∧ Below w0.heap.size w0 w' ∧ KeepBut w w' g none := by
 have HI0 := Aside0.mk hI
 have HK := Aside0.mk (KeepBut.refl w g none)
 have HL := Aside0.mk hB.size
 clear hI
 have HW0 := Aside0.mk hB.size
 have HB := Aside0.mk hB
 clear hB
 have H : (if (s0_0.length : Int) = 0 then (some (0, s0_1, s0_2)) else (if 0 ≤ (Int.tmod s0_1 (s0_0.length : Int)) then (if (Int.tmod s0_1 (s0_0.length : Int)) < (s0_0.length : Int) then (if a1 = 0 then (none) else (some (Int.tmod (wrap64 ((wrap64 (rd s0_0 (Int.tmod s0_1 (s0_0.length : Int)))) + (wrap64 (Int.tdiv s0_1 (s0_0.length : Int))))) a1, wrap64 (s0_1 + 1), s0_2))) else (none)) else (none))) = some (r1, r2, r3) := h
 clear h
 by_cases c3 : (s0_0.length : Int) = 0
 ·rw [if_pos c3] at H
  have c3b0 : ((s0_0.length : Int) == 0) = true := beq_iff_eq.mpr c3
  have c3b1 : ((s0_0.length : Int) != 0) = false := bne_eq_false_iff_eq.mpr c3
  clear c3
  simp only [Option.some.injEq, Prod.mk.injEq] at H
  obtain ⟨rfl, rfl, rfl⟩ := H
  obtain ⟨ASz4_0, cSz4_0, HGz4, hgz4, HSz4_0⟩ := HI0.out
  have hcz4_0 := cellS126_0 HGz4
  have hcz4_1 := cellS126_1 HGz4
  have hcz4_2 := cellS126_2 HGz4
  have hfz4_1 := blk_frozen HGz4 1
  have hfz4_2 := blk_frozen HGz4 2
  clear HGz4 hgz4
  have HCz4_0 := Aside0.mk HSz4_0.2
  replace HSz4_0 := HSz4_0.1
  go_enter Try.func41, Try.ntmps41
  go_wp2
  repeat (go_quiet (fail); try go_wp2)
  go_ret
  exact ⟨by first | rfl | (simp [errW_none, errW_some] <;> rfl) | (simp [*, errW_none, errW_some] <;> rfl), by repeat (first | (with_reducible first | exact HI0.out | apply IsS126.alloc | apply IsS126.drewN | apply IsS126.drew | apply IsS126.set_1 | apply IsS126.set_2) | exact HI0.out), by repeat (first | (with_reducible first | exact HB.out | apply below_alloc | apply pw_below_drewN | apply below_drew1 | refine below_set ?_ (IsS126.ge HI0.out) | refine below_set ?_ GE120.out) | exact HB.out), by repeat (first | (with_reducible first | exact HK.out | apply KeepBut.set_ | apply keep_drewN | apply keep_drew | apply keep_alloc) | exact HK.out)⟩
 ·rw [if_neg c3] at H
  have c3b0 : ((s0_0.length : Int) == 0) = false := beq_eq_false_iff_ne.mpr c3
  have c3b1 : ((s0_0.length : Int) != 0) = true := bne_iff_ne.mpr c3
  have c3b2 : ¬ (s0_0 = []) := fun h_ => c3 (by rw [h_]; rfl)
  obtain ⟨ji5, hji5⟩ : ∃ j_ : Int, (Int.tmod s0_1 (s0_0.length : Int)) = j_ := ⟨_, rfl⟩
  replace H : (if 0 ≤ (ji5) then (if (ji5) < (s0_0.length : Int) then (if a1 = 0 then (none) else (some (Int.tmod (wrap64 ((wrap64 (rd s0_0 (ji5))) + (wrap64 (Int.tdiv s0_1 (s0_0.length : Int))))) a1, wrap64 (s0_1 + 1), s0_2))) else (none)) else (none)) = some (r1, r2, r3) := by first | (rw [hji5] at H; exact H) | (simp only [hji5] at H ⊢; exact H)
  by_cases c6 : 0 ≤ (ji5)
  rotate_left
  ·rw [if_neg c6] at H
   exact absurd H (by simp)
  rw [if_pos c6] at H
  have c6b0 : decide (0 ≤ (ji5)) = true := decide_eq_true c6
  clear c6
  by_cases c7 : (ji5) < (s0_0.length : Int)
  rotate_left
  ·rw [if_neg c7] at H
   exact absurd H (by simp)
  rw [if_pos c7] at H
  have c7b0 : decide ((ji5) < (s0_0.length : Int)) = true := decide_eq_true c7
  clear c7
  by_cases c8 : a1 = 0
  ·rw [if_pos c8] at H
   exact absurd H (by simp)
  ·rw [if_neg c8] at H
   have c8b0 : (a1 == 0) = false := beq_eq_false_iff_ne.mpr c8
   have c8b1 : (a1 != 0) = true := bne_iff_ne.mpr c8
   simp only [Option.some.injEq, Prod.mk.injEq] at H
   obtain ⟨rfl, rfl, rfl⟩ := H
   obtain ⟨ASz9_0, cSz9_0, HGz9, hgz9, HSz9_0⟩ := HI0.out
   have hcz9_0 := cellS126_0 HGz9
   have hcz9_1 := cellS126_1 HGz9
   have hcz9_2 := cellS126_2 HGz9
   have hfz9_1 := blk_frozen HGz9 1
   have hfz9_2 := blk_frozen HGz9 2
   clear HGz9 hgz9
   have HCz9_0 := Aside0.mk HSz9_0.2
   replace HSz9_0 := HSz9_0.1
   have p129 : 0 ≤ ((ji5) : Int) := of_decide_eq_true (by first | (with_reducible assumption) | assumption)
   have q129 : (ji5) < (s0_0.length : Int) := of_decide_eq_true (by first | (with_reducible assumption) | assumption)
   obtain ⟨ad129, e129, hx129_0⟩ := Kd.at_int HSz9_0 (ji5) p129 q129
   cases e129
   replace hx129_0 := pw_cell_below HB.out hx129_0
   replace p129 := eq_true p129
   replace q129 := eq_true q129
   go_enter Try.func41, Try.ntmps41
   go_wp2
   repeat (go_quiet (fail); try go_wp2)
   go_ret
   exact ⟨by first | rfl | (simp [errW_none, errW_some] <;> rfl) | (simp only [← hji5]; first | rfl | (simp [errW_none, errW_some] <;> rfl)) | (simp [*, errW_none, errW_some] <;> rfl), by repeat (first | (with_reducible first | exact HI0.out | apply IsS126.alloc | apply IsS126.drewN | apply IsS126.drew | apply IsS126.set_1 | apply IsS126.set_2) | exact HI0.out), by repeat (first | (with_reducible first | exact HB.out | apply below_alloc | apply pw_below_drewN | apply below_drew1 | refine below_set ?_ (IsS126.ge HI0.out) | refine below_set ?_ GE120.out) | exact HB.out), by repeat (first | (with_reducible first | exact HK.out | apply KeepBut.set_ | apply keep_drewN | apply keep_drew | apply keep_alloc) | exact HK.out)⟩

end Go.Proofs.Ytchkmmbedgolbaa.PFnTuplesOf

