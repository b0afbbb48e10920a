-- Written by a program of this session (xprint) out of the translation; Lean checks it.
import Derived.Test.YtchkmmbedgolbaaPFnGlyphSpotsx0
namespace Go.Proofs.Ytchkmmbedgolbaa.PFnGlyphSpots
open Go.RowKit Go.Proofs.YtchkmmbedgolbaaW.PrintWords Go.Proofs.YtchkmmbedgolbaaW.PrintLast Go.Proofs.YtchkmmbedgolbaaW.PrintMore
attribute [local go_sem] max2_int min2_int max_two min_two max_three min_three max_four min_four   -- for this text's walks alone
set_option linter.unusedVariables false
set_option linter.unusedSimpArgs false

/-! ### spec_table_short: function 40 -/
def spec_table_short.l0 : Nat → List Int → List Int → Int → Int → Option (List Int)
 | 0, _, _, _, _ => none
 | k + 1, x0, x7, x8, x9 => if x9 < x8 then (if 0 ≤ x9 then (if x9 < (x7.length : Int) then ((some (([((rd x7 x9) / 256) % 256, (rd x7 x9) % 256] : List Int) : List Int)).bind fun y192 => (if x0.length + y192.length < 140737488355328 then (spec_table_short.l0 k (x0 ++ y192) x7 x8 (wrap64 (x9 + 1))) else (none))) else (none)) else (none)) else (some x0)
def spec_table_short.f (k : Nat) (l0 : List Int) (l1 : List Int) : Option (List Int) := spec_table_short.l0 k l0 l1 (l1.length : Int) 0
theorem spec_table_short.mono_l : ∀ k, (∀ y0 y1 y2 y3, LeO (spec_table_short.l0 k y0 y1 y2 y3) (spec_table_short.l0 (k + 1) y0 y1 y2 y3))
 | 0 => fun _ _ _ _ r h => by simp [spec_table_short.l0] at h
 | k + 1 => by
  have ih0 := spec_table_short.mono_l k
  ·intro y0 y1 y2 y3
   unfold spec_table_short.l0
   repeat' first
   | (with_reducible exact ih0 _ _ _ _)
   | (with_reducible exact LeO.refl _)
   | (with_reducible exact LeO.none _)
   | (with_reducible refine LeO.ite ?_ ?_)
   | (with_reducible refine LeO.bind ?_ (fun _ => ?_))
   | exact ih0 _ _ _ _
   | exact LeO.none _
   | refine LeO.ite ?_ ?_
   | refine LeO.bind ?_ (fun _ => ?_)
theorem spec_table_short.mono : ∀ a0 a1 k, LeO (spec_table_short.f k a0 a1) (spec_table_short.f (k + 1) a0 a1) := by
 intro a0 a1 k
 have ih0 := spec_table_short.mono_l k
 unfold spec_table_short.f
 repeat' first
   | (with_reducible exact ih0 _ _ _ _)
   | (with_reducible exact LeO.refl _)
   | (with_reducible exact LeO.none _)
   | (with_reducible refine LeO.ite ?_ ?_)
   | (with_reducible refine LeO.bind ?_ (fun _ => ?_))
   | exact ih0 _ _ _ _
   | exact LeO.none _
   | refine LeO.ite ?_ ?_
   | refine LeO.bind ?_ (fun _ => ?_)
theorem set_back {w : World} {g : Nat} {t : TypeId} {v : Value} {cs : List Value} (h : w.heap[g]? = some (.cells ⟨v :: cs⟩ t (0, 0))) (u : Value) : (w.setCell ⟨g, 0, none⟩ u).setCell ⟨g, 0, none⟩ v = w := by
 have hx : ((w.setCell ⟨g, 0, none⟩ u).setCell ⟨g, 0, none⟩ v).heap = w.heap := by
  refine Array.ext_getElem? (fun i => ?_)
  by_cases e : i = g
  · subst e
    rw [h]
    exact blk_put (blk_put h 0 u rfl) 0 v rfl
  · exact (Below.heap_setCell _ ⟨g, 0, none⟩ v i e).trans (Below.heap_setCell _ ⟨g, 0, none⟩ u i e)
 calc _ = { w with heap := ((w.setCell ⟨g, 0, none⟩ u).setCell ⟨g, 0, none⟩ v).heap } := rfl
  _ = w := by rw [hx]
theorem below_set0 {w W : World} {g j : Nat} {v : Value} (h : Below w.heap.size w W) (hg : w.heap.size ≤ g) : Below w.heap.size w (W.setCell ⟨g, j, none⟩ v) := below_set h hg
theorem kept_back {w W : World} {P : Nat → Prop} {g : Nat} {t : TypeId} {u v : Value} {cs : List Value} (h : Kept w W (fun k_ => P k_ ∨ k_ = g)) (hW : W.heap[g]? = some (.cells ⟨v :: cs⟩ t (0, 0))) (hw : w.heap[g]? = some (.cells ⟨u :: cs⟩ t (0, 0))) : Kept w (W.setCell ⟨g, 0, none⟩ u) P := by
 refine ⟨by simpa [World.setCell] using h.1, fun i hi hn => ?_⟩
 by_cases e : i = g
 · subst e
   rw [hw]
   exact blk_put hW 0 u rfl
 · exact (Below.heap_setCell W ⟨g, 0, none⟩ u i e).trans (h.2 i hi (fun h_ => h_.elim hn e))
set_option maxHeartbeats 8000000 in
set_option maxRecDepth 100000 in
theorem spec_table_short.calls (k : Nat) (g : Nat) (P0_ : Nat → Prop) (u9000_ : Value) (l0 : List Int) (A1 : Option Addr) (c1 : Nat) (l1 : List Int) (r : List Int) (w0 w : World) (hB : Below w0.heap.size w0 w) (ho0 : Kd.R (Kd.int .u8) 5 w w0.heap.size P0_ u9000_ l0) (hr1 : ∀ W_, Kept w W_ (fun k_ => P0_ k_ ∨ k_ = g) → Kd.C (Kd.int .i64) W_ A1 l1.length l1) (hc1 : l1.length ≤ c1) (hg : w.heap[g]? = some (.cells #[u9000_, .slice none 0 0] 130 (0, 0))) (hgw : w0.heap.size ≤ g) (hgP : ¬ P0_ g) (h : spec_table_short.f k l0 l1 = some r) :
  Calls Try.prog 40 #[.pointer (some ⟨g, 0, none⟩), .slice A1 l1.length c1] w fun e w' => ∃ (v0_ : Value) (w1 : World), e = .returned (.pointer (some ⟨g, 0, none⟩)) ∧ w' = w1.setCell ⟨g, 0, none⟩ v0_ ∧ w1.heap[g]? = some (.cells #[u9000_, .slice none 0 0] 130 (0, 0)) ∧ Kd.R (Kd.int .u8) 5 w1 w0.heap.size (fun k_ => (P0_ k_ ∨ w.heap.size ≤ k_)) v0_ r ∧ Below w0.heap.size w0 w1 ∧ Kept w w1 (fun k_ => P0_ k_) := by
 have HO0 := Aside0.mk (show Kd.R (Kd.int .u8) 5 w w0.heap.size (fun k_ => (P0_ k_ ∨ w.heap.size ≤ k_)) u9000_ l0 from Kd.R_mono ho0 (fun k_ hk => (.inl hk)))
 have HR1 := Aside0.mk hr1
 have HC1 := Aside0.mk hc1
 clear hr1 hc1
 have hu130 := Try.underlying130
 have HK := Aside0.mk (Kept.refl w (fun k_ => P0_ k_ ∨ k_ = g))
 have HW0 := Aside0.mk hB.size
 have HB := Aside0.mk hB
 clear hB
 have HG := Aside0.mk hg
 have HGW := Aside0.mk hgw
 have HGP := Aside0.mk hgP
 have HL := Aside0.mk (blk_lt hg)
 clear hg hgw hgP
 have HO0P := Aside0.mk ho0
 clear ho0
 have H : (spec_table_short.l0 k l0 l1 (l1.length : Int) 0) = some r := h
 clear h
 have H' := Aside0.mk H
 clear H
 go_enter Try.func40, Try.ntmps40
 go_wp2
 go_loopg [9] k (fun kq v9 w' => ∃ (x0_1 : List Int) (x9_1 : Int) (v0 : Value), v9 = .int .i64 x9_1 ∧ Aside0 (spec_table_short.l0 kq x0_1 l1 (l1.length : Int) x9_1 = some r) ∧ Aside0 (kq ≤ k) ∧ Aside0 (w'.heap[g]? = some (.cells #[v0, .slice none 0 0] 130 (0, 0))) ∧ Aside0 (Kd.R (Kd.int .u8) 5 w' w0.heap.size (fun k_ => (P0_ k_ ∨ w.heap.size ≤ k_)) v0 x0_1) ∧ Aside0 (Kept w w' (fun k_ => P0_ k_ ∨ k_ = g)) ∧ Aside0 (Below w0.heap.size w0 w'))
 case atStart => exact ⟨(l0), (0), u9000_, rfl, H', ⟨Nat.le_refl _⟩, HG, HO0, HK, HB⟩
 case round =>
  clear H'
  obtain ⟨x0_1, x9_1, v0, rfl, HA, HK1, HT, HO_0, HK, HB⟩ := hrel
  cases gk with
  | zero => exact absurd HA.out (by simp [spec_table_short.l0])
  | succ k1 =>
   have H := HA.out
   clear HA
   simp only [spec_table_short.l0] at H
   by_cases c3 : x9_1 < (l1.length : Int)
   ·rw [if_pos c3] at H
    have c3b0 : decide (x9_1 < (l1.length : Int)) = true := decide_eq_true c3
    clear c3
    by_cases c4 : 0 ≤ x9_1
    ·rw [if_pos c4] at H
     have c4b0 : decide (0 ≤ x9_1) = true := decide_eq_true c4
     clear c4
     by_cases c5 : x9_1 < (l1.length : Int)
     ·rw [if_pos c5] at H
      have c5b0 : decide (x9_1 < (l1.length : Int)) = true := decide_eq_true c5
      clear c5
      obtain ⟨y213, hy213⟩ : ∃ y_ : List Int, y_ = (([((rd l1 x9_1) / 256) % 256, (rd l1 x9_1) % 256] : List Int)) := ⟨_, rfl⟩
      replace H : (if x0_1.length + y213.length < 140737488355328 then (spec_table_short.l0 k1 (x0_1 ++ y213) l1 (l1.length : Int) (wrap64 (x9_1 + 1))) else (none)) = some r := by first | (rw [hy213]; with_reducible exact H) | (have H2_ := (Option.bind_some _ _).symm.trans H; rw [hy213]; with_reducible exact H2_) | (have H2_ := (Option.bind_some _ _).symm.trans H; with_reducible exact H2_) | with_reducible exact H | (rw [hy213]; exact H) | exact H
      have Ny213 := Aside0.mk hy213
      clear hy213
      by_cases c6 : x0_1.length + y213.length < 140737488355328
      ·rw [if_pos c6] at H
       have LMc6 := Aside0.mk c6
       clear c6
       obtain ⟨y216, hy216⟩ : ∃ y_ : List Int, y_ = (x0_1 ++ y213) := ⟨_, rfl⟩
       replace H : (spec_table_short.l0 k1 y216 l1 (l1.length : Int) (wrap64 (x9_1 + 1))) = some r := by rw [hy216]; exact H
       have Ny216 := Aside0.mk hy216
       clear hy216
       have H' := Aside0.mk H
       clear H
       have p212 : 0 ≤ (x9_1 : Int) := of_decide_eq_true (by assumption)
       have q212 : x9_1 < (l1.length : Int) := of_decide_eq_true (by assumption)
       obtain ⟨ad212, e212, hx212_0⟩ := Kd.at_int (HR1.out _ HK.out) x9_1 p212 q212
       cases e212
       replace p212 := eq_true p212
       replace q212 := eq_true q212
       have hcz_0 : wr.cell? ⟨g, 0, none⟩ = some v0 := (blk_cell HT.out 0).trans rfl
       go_wp2_with (first | ((with_reducible refine gate_dst (N := 23) rfl ?_); refine Kd.R_lit (Kd.int .u8) _ 5 ?hg (N := 23) ?hd (xs := ([((rd l1 x9_1) / 256) % 256, (rd l1 x9_1) % 256] : List Int)) (inner := [.int .u8 (((rd l1 x9_1) / 256) % 256), .int .u8 ((rd l1 x9_1) % 256)]) (ok := fun _ => True) (okp := fun _ => True) ?hr ?hp (fun _ hk => hk) trivial (Below.refl _ _) (Nat.le_refl _) (by simp) ?_; (case hd => rfl); (case hg => rfl); (case hr => first | (go_simp; done) | (go_simp; rfl)); (case hp => exact (Reps.one (show Kd.M (Kd.int .u8) _ _ _ (((rd l1 x9_1) / 256) % 256) [.int .u8 (((rd l1 x9_1) / 256) % 256)] from rfl) (Reps.one (show Kd.M (Kd.int .u8) _ _ _ ((rd l1 x9_1) % 256) [.int .u8 ((rd l1 x9_1) % 256)] from rfl) (Reps.none _ _)))); intro v214 w7 ho8 hb hg_ hnew_; clear hg_ hnew_; (first | rw [← Ny213.out] at ho8 | (simp only [Int.reduceToNat] at ho8; rw [← Ny213.out] at ho8)); have n0_ := Aside0.mk (Kd.R_elder' HO_0.out (Kd.R_base ho8) hb); have n1_ := Aside0.mk (Kd.R_lower (Kd.R_new' (Kd.R_newM (M := fun k_ => (P0_ k_ ∨ w.heap.size ≤ k_)) ho8 HK.out.1 (fun k_ h_ => .inr h_)) (Kd.R_lt HO_0.out)) (below_size HB.out)); have n2_ := Aside0.mk (Kept.below HK.out hb); have n3_ := Aside0.mk (below_step HB.out hb); have n4_ := Aside0.mk (blk_below HT.out hb); clear HO_0 HK HB HT hcz_0; have HO_0 := n0_; have HO215 := n1_; have HK := n2_; have HB := n3_; have HT := n4_; clear n0_ n1_ n2_ n3_ n4_; clear hb ho8; obtain ⟨Ao10, co10, eo10⟩ := Kd.R_slice HO215.out; subst eo10) | ((with_reducible refine gate_builtin (b := .append) (xs := #[.tmp 17, .tmp 23]) rfl ?_); at_builtin; refine Kd.R_append_rows (Kd.int .u8) (w0 := w0) w0.heap.size rfl (.tmp 17) (.tmp 23) 22 5 (.int .u8 0) 1 rfl Try.underlying22 info5 rfl (by decide) (by omega) v0 x0_1 y213 _ _ _ (fun k_ => (P0_ k_ ∨ w.heap.size ≤ k_) ∧ some k_ ≠ (.slice Ao10 y213.length co10 : Value).ownBlock) (fun _ => False) rfl rfl ?aO ?aR (fun _ _ h => h) (fun _ h => h.elim) ?aF ?aB ?aS ?aL ?_; (case aR => exact (Kd.R_reads' HO215.out).2.2); (case aB => exact HB.out); (case aF => exact (fun k_ hk => ⟨(.inr (Nat.le_trans HK.out.1 hk)), Kd.fresh' (Kd.R_lt HO215.out) k_ hk⟩)); (case aO => exact HO_0.out); (case aS => exact (below_size HB.out)); (case aL => have := LMc6.out; omega); intro v217 w9 ho hb hg hat; rw [← Ny216.out] at ho; have n1_ := Aside0.mk (hb); have n2_ := Aside0.mk (Kept.of_grown (S := (fun k_ => P0_ k_ ∨ k_ = g)) hg HK.out (fun k_ e_ => ((HO_0.out.1 k_ e_).1).elim (fun h_ => .inl (.inl h_)) .inr)); have n3_ := Aside0.mk (Kd.R_mono ho (fun _ hk => hk.1)); have n4_ := Aside0.mk (blk_grown HT.out hg (Kd.R_ne HO_0.out HT.out (by decide))); clear HO215 HB HK HO_0 HT; have HB := n1_; have HK := n2_; have HO218 := n3_; have HT := n4_; clear n1_ n2_ n3_ n4_; clear ho hb hg hat; have hcz_0 : w9.cell? ⟨g, 0, none⟩ = some v0 := (blk_cell HT.out 0).trans rfl; have hfz_0 := blk_frozen HT.out 0; obtain ⟨Ao11, co11, eo11⟩ := Kd.R_slice HO218.out; subst eo11))
       go_roundg k1
       case measure => have := HK1.out; omega
       case rel => exact ⟨(y216), (wrap64 (x9_1 + 1)), _, (by first | rfl | (simp; done) | (simp [*]; done)), H', ⟨by have := HK1.out; omega⟩, ⟨blk_put HT.out 0 _ rfl⟩, ⟨Kd.R_mono (Kd.R_far (p := ⟨g, 0, none⟩) (Kd.R_types HO218.out HT.out (by decide)) (fun _ hk => hk.2) _) (fun _ hk => hk.1)⟩, ⟨Kept.setCell HK.out (.inl (.inr rfl)) _⟩, ⟨below_set0 HB.out HGW.out⟩⟩
      ·rw [if_neg c6] at H
       exact absurd H (by simp)
     ·rw [if_neg c5] at H
      exact absurd H (by simp)
    ·rw [if_neg c4] at H
     exact absurd H (by simp)
   ·rw [if_neg c3] at H
    have c3b0 : decide (x9_1 < (l1.length : Int)) = false := decide_eq_false c3
    clear c3
    obtain rfl := Option.some.inj H
    go_wp2
    go_ret
    refine ⟨rfl, v0, wr.setCell ⟨g, 0, none⟩ u9000_, (set_back HT.out u9000_).symm, blk_put HT.out 0 _ rfl, Kd.R_far (p := ⟨g, 0, none⟩) HO_0.out ?_ _, below_set0 HB.out HGW.out, ?_⟩
    ·rintro k_ (hk | hk)
     ·rintro rfl
      exact HGP.out hk
     ·have := HL.out
      show k_ ≠ g
      omega
    ·exact kept_back HK.out HT.out HG.out

/-- A state of type 126 at block g of W; what its slices lead to came in by w0. -/
def IsS126 (w0 W : World) (g : Nat) (f0 : List Int) (f1 : Int) (f2 : Bool) : Prop := ∃ A0 c0, W.heap[g]? = some (.cells #[.slice A0 f0.length c0, .int .i64 f1, .bool f2] 126 (0, 0)) ∧ w0.heap.size ≤ g ∧ (Kd.C (Kd.int .u8) w0 A0 f0.length f0 ∧ f0.length ≤ c0)
theorem IsS126.grown {w0 W : World} {g : Nat} {f0 : List Int} {f1 : Int} {f2 : Bool} {W1 : World} {row : Option Nat} (h : IsS126 w0 W g f0 f1 f2) (hw : W.grownBy W1 row) (hne : some g ≠ row) : IsS126 w0 W1 g f0 f1 f2 := by
 obtain ⟨A0, c0, hb, hg, hr0⟩ := h
 exact ⟨A0, c0, blk_grown hb hw hne, hg, hr0⟩
theorem IsS126.own_neN {w0 W : World} {g : Nat} {f0 : List Int} {f1 : Int} {f2 : Bool} {α : Type} {d : Kd α} {e : Nat} {base : Nat} {ok : Nat → Prop} {v : Value} {xs : List α} (h : IsS126 w0 W g f0 f1 f2) (ho : Kd.N d e W base ok v xs) (ht : e ≠ 126) : some g ≠ v.ownBlock := by
 obtain ⟨A0, c0, hb, hg, hr0⟩ := h
 exact Kd.N_ne ho hb ht
theorem IsS126.fresh {w0 W : World} {g : Nat} {f0 : List Int} {f1 : Int} {f2 : Bool} (h : IsS126 w0 W g f0 f1 f2) : ∀ k, W.heap.size ≤ k → k ≠ g := by
 obtain ⟨A0, c0, hb, hg, hr0⟩ := h
 exact Kd.freshB hb
theorem IsS126.kept {w0 W : World} {g : Nat} {f0 : List Int} {f1 : Int} {f2 : Bool} {W1 : World} {S : Nat → Prop} (h : IsS126 w0 W g f0 f1 f2) (hk : Kept W W1 S) (hne : ¬ S g) : IsS126 w0 W1 g f0 f1 f2 := by
 obtain ⟨A0, c0, hb, hg, hr0⟩ := h
 exact ⟨A0, c0, blk_kept hb hk hne, hg, hr0⟩
theorem IsS126.below {w0 W : World} {g : Nat} {f0 : List Int} {f1 : Int} {f2 : Bool} {W1 : World} (h : IsS126 w0 W g f0 f1 f2) (hw : Below W.heap.size W W1) : IsS126 w0 W1 g f0 f1 f2 := h.grown (grown_of_below hw none) (by simp)
theorem IsS126.alloc {w0 W : World} {g : Nat} {f0 : List Int} {f1 : Int} {f2 : Bool} (h : IsS126 w0 W g f0 f1 f2) (o : Obj) : IsS126 w0 (W.alloc o) g f0 f1 f2 := h.below (below_alloc (Below.refl _ _) o)
theorem IsS126.drewN {w0 W : World} {g : Nat} {f0 : List Int} {f1 : Int} {f2 : Bool} (h : IsS126 w0 W g f0 f1 f2) (m : Nat) : IsS126 w0 (W.drewN m) g f0 f1 f2 := h
theorem IsS126.drew {w0 W : World} {g : Nat} {f0 : List Int} {f1 : Int} {f2 : Bool} (h : IsS126 w0 W g f0 f1 f2) : IsS126 w0 W.drew g f0 f1 f2 := h
theorem IsS126.at_ {w0 W : World} {g : Nat} {f0 : List Int} {f1 : Int} {f2 : Bool} {w' : World} {m : Nat} (hq : W.drewN m = w') (h : IsS126 w0 W g f0 f1 f2) : IsS126 w0 w' g f0 f1 f2 := by subst hq; exact IsS126.drewN h m
theorem IsS126.apart {w0 W : World} {g : Nat} {f0 : List Int} {f1 : Int} {f2 : Bool} {α : Type} {d : Kd α} {e : Nat} {base : Nat} {ok : Nat → Prop} {v : Value} {xs : List α} (h : IsS126 w0 W g f0 f1 f2) (ho : d.R e W base ok v xs) (ht : ∀ q, q ∈ e :: d.E → q ≠ 126) : d.R e W base (fun k => ok k ∧ k ≠ g) v xs := by
 obtain ⟨A0, c0, hb, hg, hr0⟩ := h
 exact Kd.R_types ho hb ht
theorem IsS126.own_ne {w0 W : World} {g : Nat} {f0 : List Int} {f1 : Int} {f2 : Bool} {α : Type} {d : Kd α} {e : Nat} {base : Nat} {ok : Nat → Prop} {v : Value} {xs : List α} (h : IsS126 w0 W g f0 f1 f2) (ho : d.R e W base ok v xs) (ht : e ≠ 126) : some g ≠ v.ownBlock := by
 obtain ⟨A0, c0, hb, hg, hr0⟩ := h
 exact Kd.R_ne ho hb ht
theorem IsS126.apartQ {w0 W : World} {g : Nat} {f0 : List Int} {f1 : Int} {f2 : Bool} {α : Type} {d : Kd α} {e : Nat} {base : Nat} {ok : Nat → Prop} {v : Value} {xs : List α} (h : IsS126 w0 W g f0 f1 f2) (ho : d.Q e W base ok v xs) (ht : ∀ q, q ∈ e :: d.E → q ≠ 126) : d.Q e W base (fun k => ok k ∧ k ≠ g) v xs := by
 obtain ⟨A0, c0, hb, hg, hr0⟩ := h
 exact Kd.Q_types ho hb ht
theorem IsS126.own_neQ {w0 W : World} {g : Nat} {f0 : List Int} {f1 : Int} {f2 : Bool} {α : Type} {d : Kd α} {e : Nat} {base : Nat} {ok : Nat → Prop} {v : Value} {xs : List α} (h : IsS126 w0 W g f0 f1 f2) (ho : d.Q e W base ok v xs) (ht : e ≠ 126) : some g ≠ v.ownBlock := by
 obtain ⟨A0, c0, hb, hg, hr0⟩ := h
 exact Kd.Q_ne ho hb ht
theorem IsS126.apartS {w0 W : World} {g : Nat} {f0 : List Int} {f1 : Int} {f2 : Bool} {α : Type} {d : Kd α} {e : Nat} {base : Nat} {ok : Nat → Prop} {v : Value} {xs : List α} (h : IsS126 w0 W g f0 f1 f2) (ho : d.S e W base ok v xs) (ht : ∀ q, q ∈ e :: d.E → q ≠ 126) : d.S e W base (fun k => ok k ∧ k ≠ g) v xs := by
 obtain ⟨A0, c0, hb, hg, hr0⟩ := h
 exact Kd.S_types ho hb ht
theorem IsS126.own_neS {w0 W : World} {g : Nat} {f0 : List Int} {f1 : Int} {f2 : Bool} {α : Type} {d : Kd α} {e : Nat} {base : Nat} {ok : Nat → Prop} {v : Value} {xs : List α} (h : IsS126 w0 W g f0 f1 f2) (ho : d.S e W base ok v xs) (ht : e ≠ 126) : some g ≠ v.ownBlock := by
 obtain ⟨A0, c0, hb, hg, hr0⟩ := h
 exact Kd.S_ne ho hb ht
theorem IsS126.lt {w0 W : World} {g : Nat} {f0 : List Int} {f1 : Int} {f2 : Bool} (h : IsS126 w0 W g f0 f1 f2) : g < W.heap.size := by
 obtain ⟨A0, c0, hb, hg, hr0⟩ := h
 exact blk_lt hb
theorem IsS126.ge {w0 W : World} {g : Nat} {f0 : List Int} {f1 : Int} {f2 : Bool} (h : IsS126 w0 W g f0 f1 f2) : w0.heap.size ≤ g := by
 obtain ⟨A0, c0, hb, hg, hr0⟩ := h
 exact hg
theorem IsS126.ne_blk {w0 W : World} {g : Nat} {f0 : List Int} {f1 : Int} {f2 : Bool} {a : Nat} {cs : Array Value} {t : TypeId} {fr : Nat × Nat} (h : IsS126 w0 W g f0 f1 f2) (hb2 : W.heap[a]? = some (.cells cs t fr)) (ht : t ≠ 126) : g ≠ a := by
 obtain ⟨A0, c0, hb, hg, hr0⟩ := h
 rintro rfl
 rw [hb] at hb2
 injection hb2 with hb2
 injection hb2 with _ ht2
 exact ht ht2.symm
theorem IsS126.far {w0 W : World} {g : Nat} {f0 : List Int} {f1 : Int} {f2 : Bool} {p : Addr} (h : IsS126 w0 W g f0 f1 f2) (hne : g ≠ p.block) (u : Value) : IsS126 w0 (W.setCell p u) g f0 f1 f2 := by
 obtain ⟨A0, c0, hb, hg, hr0⟩ := h
 exact ⟨A0, c0, blk_far hb hne u, hg, hr0⟩
theorem IsS126.ofS {w0 W : World} {g : Nat} {f0 : List Int} {f1 : Int} {f2 : Bool} {A0 : Option Addr} {c0 : Nat} (h : W.heap[g]? = some (.cells #[.slice A0 f0.length c0, .int .i64 f1, .bool f2] 126 (0, 0))) (hg : w0.heap.size ≤ g) (hr0 : Kd.C (Kd.int .u8) w0 A0 f0.length f0 ∧ f0.length ≤ c0) : IsS126 w0 W g f0 f1 f2 := ⟨A0, c0, h, hg, hr0⟩
theorem cellS126_0 {W : World} {g : Nat} {A0 : Option Addr} {c0 : Nat} {f0 : List Int} {f1 : Int} {f2 : Bool} (h : W.heap[g]? = some (.cells #[.slice A0 f0.length c0, .int .i64 f1, .bool f2] 126 (0, 0))) : W.cell? ⟨g, 0, none⟩ = some (.slice A0 f0.length c0) := (blk_cell h 0).trans rfl
theorem cellS126_1 {W : World} {g : Nat} {A0 : Option Addr} {c0 : Nat} {f0 : List Int} {f1 : Int} {f2 : Bool} (h : W.heap[g]? = some (.cells #[.slice A0 f0.length c0, .int .i64 f1, .bool f2] 126 (0, 0))) : W.cell? ⟨g, 1, none⟩ = some (.int .i64 f1) := (blk_cell h 1).trans rfl
theorem IsS126.set_1 {w0 W : World} {g : Nat} {f0 : List Int} {f1 : Int} {f2 : Bool} (h : IsS126 w0 W g f0 f1 f2) (x : Int) : IsS126 w0 (W.setCell ⟨g, 1, none⟩ (.int .i64 x)) g f0 x f2 := by
 obtain ⟨A0, c0, hb, hg, hr0⟩ := h
 exact ⟨A0, c0, by simpa using blk_set hb 1 (.int .i64 x), hg, hr0⟩
theorem cellS126_2 {W : World} {g : Nat} {A0 : Option Addr} {c0 : Nat} {f0 : List Int} {f1 : Int} {f2 : Bool} (h : W.heap[g]? = some (.cells #[.slice A0 f0.length c0, .int .i64 f1, .bool f2] 126 (0, 0))) : W.cell? ⟨g, 2, none⟩ = some (.bool f2) := (blk_cell h 2).trans rfl
theorem IsS126.set_2 {w0 W : World} {g : Nat} {f0 : List Int} {f1 : Int} {f2 : Bool} (h : IsS126 w0 W g f0 f1 f2) (x : Bool) : IsS126 w0 (W.setCell ⟨g, 2, none⟩ (.bool x)) g f0 f1 x := by
 obtain ⟨A0, c0, hb, hg, hr0⟩ := h
 exact ⟨A0, c0, by simpa using blk_set hb 2 (.bool x), hg, hr0⟩
theorem IsS126.new (w0 W : World) (A0 : Option Addr) (c0 : Nat) (f0 : List Int) (f1 : Int) (f2 : Bool) (hB : Below w0.heap.size w0 W) (hr0 : (Kd.C (Kd.int .u8) w0 A0 f0.length f0 ∧ f0.length ≤ c0)) : IsS126 w0 (W.alloc (.cells #[.slice A0 f0.length c0, .int .i64 f1, .bool f2] 126)) W.heap.size f0 f1 f2 := ⟨A0, c0, by simpa using heap_alloc_new W _, hB.size, hr0⟩

/-! ### spec_writer_way: function 41 -/
def spec_writer_way.f (s0_0 : List Int) (s0_1 : Int) (s0_2 : Bool) (a1 : Int) : Option (Int × Int × Bool) := if (s0_0.length : Int) = 0 then (some (0, s0_1, s0_2)) else (if 0 ≤ (Int.tmod s0_1 (s0_0.length : Int)) then (if (Int.tmod s0_1 (s0_0.length : Int)) < (s0_0.length : Int) then (if a1 = 0 then (none) else (some (Int.tmod (wrap64 ((wrap64 (rd s0_0 (Int.tmod s0_1 (s0_0.length : Int)))) + (wrap64 (Int.tdiv s0_1 (s0_0.length : Int))))) a1, wrap64 (s0_1 + 1), s0_2))) else (none)) else (none))
set_option maxHeartbeats 8000000 in
set_option maxRecDepth 100000 in
theorem spec_writer_way.calls (g : Nat) (s0_0 : List Int) (s0_1 : Int) (s0_2 : Bool) (a1 : Int) (r1 : Int) (r2 : Int) (r3 : Bool) (w0 w : World) (hI : IsS126 w0 w g s0_0 s0_1 s0_2) (hB : Below w0.heap.size w0 w) (h : spec_writer_way.f s0_0 s0_1 s0_2 a1 = some (r1, r2, r3)) :
  Calls Try.prog 41 #[.pointer (some ⟨g, 0, none⟩), .int .i64 a1] w fun e w' => e = .returned (.int .i64 r1) ∧ IsS126 w0 w' g s0_0 r2 r3 ∧ Below w0.heap.size w0 w' ∧ KeepBut w w' g none := by
 have HI0 := Aside0.mk hI
 have HK := Aside0.mk (KeepBut.refl w g none)
 have HL := Aside0.mk hB.size
 clear hI
 have HW0 := Aside0.mk hB.size
 have HB := Aside0.mk hB
 clear hB
 have H : (if (s0_0.length : Int) = 0 then (some (0, s0_1, s0_2)) else (if 0 ≤ (Int.tmod s0_1 (s0_0.length : Int)) then (if (Int.tmod s0_1 (s0_0.length : Int)) < (s0_0.length : Int) then (if a1 = 0 then (none) else (some (Int.tmod (wrap64 ((wrap64 (rd s0_0 (Int.tmod s0_1 (s0_0.length : Int)))) + (wrap64 (Int.tdiv s0_1 (s0_0.length : Int))))) a1, wrap64 (s0_1 + 1), s0_2))) else (none)) else (none))) = some (r1, r2, r3) := h
 clear h
 by_cases c3 : (s0_0.length : Int) = 0
 ·rw [if_pos c3] at H
  have c3b0 : ((s0_0.length : Int) == 0) = true := beq_iff_eq.mpr c3
  have c3b1 : ((s0_0.length : Int) != 0) = false := bne_eq_false_iff_eq.mpr c3
  clear c3
  simp only [Option.some.injEq, Prod.mk.injEq] at H
  obtain ⟨rfl, rfl, rfl⟩ := H
  obtain ⟨ASz4_0, cSz4_0, HGz4, hgz4, HSz4_0⟩ := HI0.out
  have hcz4_0 := cellS126_0 HGz4
  have hcz4_1 := cellS126_1 HGz4
  have hcz4_2 := cellS126_2 HGz4
  have hfz4_1 := blk_frozen HGz4 1
  have hfz4_2 := blk_frozen HGz4 2
  clear HGz4 hgz4
  have HCz4_0 := Aside0.mk HSz4_0.2
  replace HSz4_0 := HSz4_0.1
  go_enter Try.func41, Try.ntmps41
  go_wp2
  repeat (go_quiet (fail); try go_wp2)
  go_ret
  exact ⟨by first | rfl | (simp [errW_none, errW_some] <;> rfl) | (simp [*, errW_none, errW_some] <;> rfl), by repeat (first | (with_reducible first | exact HI0.out | apply IsS126.alloc | apply IsS126.drewN | apply IsS126.drew | apply IsS126.set_1 | apply IsS126.set_2) | exact HI0.out), by repeat (first | (with_reducible first | exact HB.out | apply below_alloc | apply pw_below_drewN | apply below_drew1 | refine below_set ?_ (IsS126.ge HI0.out)) | exact HB.out), by repeat (first | (with_reducible first | exact HK.out | apply KeepBut.set_ | apply keep_drewN | apply keep_drew | apply keep_alloc) | exact HK.out)⟩
 ·rw [if_neg c3] at H
  have c3b0 : ((s0_0.length : Int) == 0) = false := beq_eq_false_iff_ne.mpr c3
  have c3b1 : ((s0_0.length : Int) != 0) = true := bne_iff_ne.mpr c3
  have c3b2 : ¬ (s0_0 = []) := fun h_ => c3 (by rw [h_]; rfl)
  obtain ⟨ji5, hji5⟩ : ∃ j_ : Int, (Int.tmod s0_1 (s0_0.length : Int)) = j_ := ⟨_, rfl⟩
  replace H : (if 0 ≤ (ji5) then (if (ji5) < (s0_0.length : Int) then (if a1 = 0 then (none) else (some (Int.tmod (wrap64 ((wrap64 (rd s0_0 (ji5))) + (wrap64 (Int.tdiv s0_1 (s0_0.length : Int))))) a1, wrap64 (s0_1 + 1), s0_2))) else (none)) else (none)) = some (r1, r2, r3) := by first | (rw [hji5] at H; exact H) | (simp only [hji5] at H ⊢; exact H)
  by_cases c6 : 0 ≤ (ji5)
  ·rw [if_pos c6] at H
   have c6b0 : decide (0 ≤ (ji5)) = true := decide_eq_true c6
   clear c6
   by_cases c7 : (ji5) < (s0_0.length : Int)
   ·rw [if_pos c7] at H
    have c7b0 : decide ((ji5) < (s0_0.length : Int)) = true := decide_eq_true c7
    clear c7
    by_cases c8 : a1 = 0
    ·rw [if_pos c8] at H
     exact absurd H (by simp)
    ·rw [if_neg c8] at H
     have c8b0 : (a1 == 0) = false := beq_eq_false_iff_ne.mpr c8
     have c8b1 : (a1 != 0) = true := bne_iff_ne.mpr c8
     simp only [Option.some.injEq, Prod.mk.injEq] at H
     obtain ⟨rfl, rfl, rfl⟩ := H
     obtain ⟨ASz9_0, cSz9_0, HGz9, hgz9, HSz9_0⟩ := HI0.out
     have hcz9_0 := cellS126_0 HGz9
     have hcz9_1 := cellS126_1 HGz9
     have hcz9_2 := cellS126_2 HGz9
     have hfz9_1 := blk_frozen HGz9 1
     have hfz9_2 := blk_frozen HGz9 2
     clear HGz9 hgz9
     have HCz9_0 := Aside0.mk HSz9_0.2
     replace HSz9_0 := HSz9_0.1
     have p198 : 0 ≤ ((ji5) : Int) := of_decide_eq_true (by first | (with_reducible assumption) | assumption)
     have q198 : (ji5) < (s0_0.length : Int) := of_decide_eq_true (by first | (with_reducible assumption) | assumption)
     obtain ⟨ad198, e198, hx198_0⟩ := Kd.at_int HSz9_0 (ji5) p198 q198
     cases e198
     replace hx198_0 := pw_cell_below HB.out hx198_0
     replace p198 := eq_true p198
     replace q198 := eq_true q198
     go_enter Try.func41, Try.ntmps41
     go_wp2
     repeat (go_quiet (fail); try go_wp2)
     go_ret
     exact ⟨by first | rfl | (simp [errW_none, errW_some] <;> rfl) | (simp only [← hji5]; first | rfl | (simp [errW_none, errW_some] <;> rfl)) | (simp [*, errW_none, errW_some] <;> rfl), by repeat (first | (with_reducible first | exact HI0.out | apply IsS126.alloc | apply IsS126.drewN | apply IsS126.drew | apply IsS126.set_1 | apply IsS126.set_2) | exact HI0.out), by repeat (first | (with_reducible first | exact HB.out | apply below_alloc | apply pw_below_drewN | apply below_drew1 | refine below_set ?_ (IsS126.ge HI0.out)) | exact HB.out), by repeat (first | (with_reducible first | exact HK.out | apply KeepBut.set_ | apply keep_drewN | apply keep_drew | apply keep_alloc) | exact HK.out)⟩
   ·rw [if_neg c7] at H
    exact absurd H (by simp)
  ·rw [if_neg c6] at H
   exact absurd H (by simp)

/-! ### spec_writer_step: function 42 -/
mutual
def spec_writer_step.j0 : Nat → List Int → Int → Int → Int → Bool → List Int → Int → Bool → Option (List Int × Int × Int × Bool)
 | 0, _, _, _, _, _, _, _, _ => none
 | k + 1, x1, x2, x3, x4, x12, x1000, x1001, x1002 => if x12 = true then (some (x1, x4, x1001, x1002)) else (if x2 ≥ (-255) then (if x2 ≤ 255 then ((spec_writer_way.f x1000 x1001 x1002 4).bind fun bt202 => (spec_writer_step.j1 k x1 x2 x3 x4 (decide (bt202.1 > 0)) x1000 bt202.2.1 bt202.2.2)) else (spec_writer_step.j1 k x1 x2 x3 x4 false x1000 x1001 x1002)) else (spec_writer_step.j1 k x1 x2 x3 x4 false x1000 x1001 x1002))
def spec_writer_step.j1 : Nat → List Int → Int → Int → Int → Bool → List Int → Int → Bool → Option (List Int × Int × Int × Bool)
 | 0, _, _, _, _, _, _, _, _ => none
 | k + 1, x1, x2, x3, x4, x22, x1000, x1001, x1002 => if x22 = true then (if x2 < 0 then (if x1.length < 140737488355328 then (some ((x1 ++ [(wrap64 (-x2)) % 256]), x3, x1001, x1002)) else (none)) else (if x1.length < 140737488355328 then (some ((x1 ++ [(x2) % 256]), Go.bits .or .u8 x3 x4, x1001, x1002)) else (none))) else ((some (([(x2 / 256) % 256, (x2) % 256] : List Int) : List Int)).bind fun y211 => (if x1.length + y211.length < 140737488355328 then (some ((x1 ++ y211), 0, x1001, x1002)) else (none)))
end
def spec_writer_step.f (k : Nat) (s0_0 : List Int) (s0_1 : Int) (s0_2 : Bool) (l1 : List Int) (a2 : Int) (a3 : Int) (a4 : Int) : Option (List Int × Int × Int × Bool) := if a2 = 0 then ((spec_writer_way.f s0_0 s0_1 s0_2 4).bind fun bt199 => (spec_writer_step.j0 k l1 a2 a3 a4 (decide (bt199.1 > 0)) s0_0 bt199.2.1 bt199.2.2)) else (spec_writer_step.j0 k l1 a2 a3 a4 false s0_0 s0_1 s0_2)
theorem spec_writer_step.mono_l : ∀ k, (∀ y0 y1 y2 y3 y4 y5 y6 y7, LeO (spec_writer_step.j0 k y0 y1 y2 y3 y4 y5 y6 y7) (spec_writer_step.j0 (k + 1) y0 y1 y2 y3 y4 y5 y6 y7)) ∧ (∀ y0 y1 y2 y3 y4 y5 y6 y7, LeO (spec_writer_step.j1 k y0 y1 y2 y3 y4 y5 y6 y7) (spec_writer_step.j1 (k + 1) y0 y1 y2 y3 y4 y5 y6 y7))
 | 0 => ⟨fun _ _ _ _ _ _ _ _ r h => by simp [spec_writer_step.j0] at h, fun _ _ _ _ _ _ _ _ r h => by simp [spec_writer_step.j1] at h⟩
 | k + 1 => by
  obtain ⟨ih0, ih1⟩ := spec_writer_step.mono_l k
  refine ⟨?_, ?_⟩
  ·intro y0 y1 y2 y3 y4 y5 y6 y7
   unfold spec_writer_step.j0
   repeat' first
   | (with_reducible exact ih0 _ _ _ _ _ _ _ _)
   | (with_reducible exact ih1 _ _ _ _ _ _ _ _)
   | (with_reducible exact LeO.refl _)
   | (with_reducible exact LeO.none _)
   | (with_reducible refine LeO.ite ?_ ?_)
   | (with_reducible refine LeO.bind ?_ (fun _ => ?_))
   | exact ih0 _ _ _ _ _ _ _ _
   | exact ih1 _ _ _ _ _ _ _ _
   | exact LeO.none _
   | refine LeO.ite ?_ ?_
   | refine LeO.bind ?_ (fun _ => ?_)
  ·intro y0 y1 y2 y3 y4 y5 y6 y7
   unfold spec_writer_step.j1
   repeat' first
   | (with_reducible exact ih0 _ _ _ _ _ _ _ _)
   | (with_reducible exact ih1 _ _ _ _ _ _ _ _)
   | (with_reducible exact LeO.refl _)
   | (with_reducible exact LeO.none _)
   | (with_reducible refine LeO.ite ?_ ?_)
   | (with_reducible refine LeO.bind ?_ (fun _ => ?_))
   | exact ih0 _ _ _ _ _ _ _ _
   | exact ih1 _ _ _ _ _ _ _ _
   | exact LeO.none _
   | refine LeO.ite ?_ ?_
   | refine LeO.bind ?_ (fun _ => ?_)
theorem spec_writer_step.mono : ∀ a0 a1 a2 a3 a4 a5 a6 k, LeO (spec_writer_step.f k a0 a1 a2 a3 a4 a5 a6) (spec_writer_step.f (k + 1) a0 a1 a2 a3 a4 a5 a6) := by
 intro a0 a1 a2 a3 a4 a5 a6 k
 obtain ⟨ih0, ih1⟩ := spec_writer_step.mono_l k
 unfold spec_writer_step.f
 repeat' first
   | (with_reducible exact ih0 _ _ _ _ _ _ _ _)
   | (with_reducible exact ih1 _ _ _ _ _ _ _ _)
   | (with_reducible exact LeO.refl _)
   | (with_reducible exact LeO.none _)
   | (with_reducible refine LeO.ite ?_ ?_)
   | (with_reducible refine LeO.bind ?_ (fun _ => ?_))
   | exact ih0 _ _ _ _ _ _ _ _
   | exact ih1 _ _ _ _ _ _ _ _
   | exact LeO.none _
   | refine LeO.ite ?_ ?_
   | refine LeO.bind ?_ (fun _ => ?_)
set_option maxHeartbeats 8000000 in
set_option maxRecDepth 100000 in
theorem spec_writer_step.calls (k : Nat) (g : Nat) (s0_0 : List Int) (s0_1 : Int) (s0_2 : Bool) (P1_ : Nat → Prop) (u9000_ : Value) (l1 : List Int) (a2 : Int) (a3 : Int) (a4 : Int) (r1 : List Int) (r2 : Int) (r3 : Int) (r4 : Bool) (w0 w : World) (hI : IsS126 w0 w g s0_0 s0_1 s0_2) (hB : Below w0.heap.size w0 w) (ho1 : Kd.R (Kd.int .u8) 5 w w0.heap.size P1_ u9000_ l1) (h : spec_writer_step.f k s0_0 s0_1 s0_2 l1 a2 a3 a4 = some (r1, r2, r3, r4)) :
  Calls Try.prog 42 #[.pointer (some ⟨g, 0, none⟩), u9000_, .int .i64 a2, .int .u8 a3, .int .u8 a4] w fun e w' => ∃ v0_ : Value, e = .returned (.tuple #[v0_, .int .u8 r2]) ∧ Kd.R (Kd.int .u8) 5 w' w0.heap.size (fun k_ => (P1_ k_ ∨ w.heap.size ≤ k_)) v0_ r1 ∧ IsS126 w0 w' g s0_0 r3 r4 ∧ Below w0.heap.size w0 w' ∧ Kept w w' (fun k_ => (P1_ k_) ∨ k_ = g) := by
 have HO1 := Aside0.mk (show Kd.R (Kd.int .u8) 5 w w0.heap.size (fun k_ => (P1_ k_ ∨ w.heap.size ≤ k_)) u9000_ l1 from Kd.R_mono ho1 (fun k_ hk => (.inl hk)))
 have HI0 := Aside0.mk hI
 have HL := Aside0.mk hB.size
 clear hI
 have HK := Aside0.mk (Kept.refl w (fun k_ => (P1_ k_) ∨ k_ = g))
 have HW0 := Aside0.mk hB.size
 have HB := Aside0.mk hB
 clear hB
 have H : (if a2 = 0 then ((spec_writer_way.f s0_0 s0_1 s0_2 4).bind fun bt199 => (spec_writer_step.j0 k l1 a2 a3 a4 (decide (bt199.1 > 0)) s0_0 bt199.2.1 bt199.2.2)) else (spec_writer_step.j0 k l1 a2 a3 a4 false s0_0 s0_1 s0_2)) = some (r1, r2, r3, r4) := h
 clear h
 have HC6 := Aside0.mk H
 clear H
 go_enter Try.func42, Try.ntmps42
 go_upto_region 1 with (fail)
 go_cut [12] (fun v12 wc => ∃ (kq : Nat) (x12_5 : Bool) (x1001_5 : Int) (x1002_5 : Bool), v12 = .bool x12_5 ∧ Aside0 (spec_writer_step.j0 kq l1 a2 a3 a4 x12_5 s0_0 x1001_5 x1002_5 = some (r1, r2, r3, r4)) ∧ Aside0 (kq ≤ k) ∧ Aside0 (Kd.R (Kd.int .u8) 5 wc w0.heap.size (fun k_ => (P1_ k_ ∨ w.heap.size ≤ k_)) u9000_ l1) ∧ Aside0 (IsS126 w0 wc g s0_0 x1001_5 x1002_5) ∧ Aside0 (Kept w wc (fun k_ => (P1_ k_) ∨ k_ = g)) ∧ Aside0 (Below w0.heap.size w0 wc))
 case first =>
  have H := HC6.out
  clear HC6
  by_cases c7 : a2 = 0
  ·rw [if_pos c7] at H
   have c7b0 : (a2 == 0) = true := beq_iff_eq.mpr c7
   have c7b1 : (a2 != 0) = false := bne_eq_false_iff_eq.mpr c7
   clear c7
   (first | rw [c7b0] | (simp only [i64_w, i32_w]; rw [c7b0]) | skip)
   replace H := Option.bind_eq_some_iff.mp H
   obtain ⟨⟨t199, t200, t201⟩, A80, H⟩ := H
   replace H : (spec_writer_step.j0 k l1 a2 a3 a4 (decide (t199 > 0)) s0_0 t200 t201) = some (r1, r2, r3, r4) := H
   have A8 := Aside0.mk A80
   clear A80
   have H' := Aside0.mk H
   clear H
   go_wp2_with (first | (go_at_call 41; (with_reducible refine (spec_writer_way.calls g s0_0 s0_1 s0_2 4 t199 t200 t201 w0 _ ?side1 ?side2 A8.out).mono ?_); (case side1 => repeat (first | (with_reducible first | exact HI0.out | apply IsS126.alloc | apply IsS126.drewN | apply IsS126.drew | apply IsS126.set_1 | apply IsS126.set_2) | exact HI0.out)); (case side2 => repeat (first | (with_reducible first | exact HB.out | apply below_alloc | apply pw_below_drewN | apply below_drew1 | refine below_set ?_ (IsS126.ge HI0.out)) | exact HB.out)); rintro e w9 ⟨rfl, hi, hb, hk⟩; have n0_ := Aside0.mk (Kd.R_mono (Kd.R_keep (IsS126.apart (show IsS126 w0 _ g s0_0 s0_1 s0_2 from by repeat (first | (with_reducible first | exact HI0.out | apply IsS126.alloc | apply IsS126.drewN | apply IsS126.drew | apply IsS126.set_1 | apply IsS126.set_2) | exact HI0.out)) (by (with_reducible repeat (first | apply Kd.R_alloc | apply Kd.R_drewN | apply Kd.R_drew)); exact HO1.out) (by decide)) hk (fun _ h => h.2)) (fun _ h => h.1)); have n1_ := Aside0.mk (Kept.of_keep (S := (fun k_ => (P1_ k_) ∨ k_ = g)) (by repeat (first | (with_reducible first | exact HK.out | apply Kept.alloc | apply Kept.drewN | apply Kept.drew | refine Kept.setCell ?_ (.inl (.inr rfl)) _) | exact HK.out)) hk (.inl (.inr rfl))); have n2_ := Aside0.mk (hb); have n3_ := Aside0.mk (hi); clear HO1; clear HK; clear HB; clear HI0; have HO1 := n0_; have HK := n1_; have HB := n2_; have HI0 := n3_; clear n0_ n1_ n2_ n3_; (try clear hb); (try clear hb2); (try clear hk); (try clear hi)))
   go_meet
   case rel => exact ⟨_, (decide (t199 > 0)), (t200), (t201), (by first | rfl | (simp; done) | (simp [*]; done)), H', ⟨by first | omega | exact Nat.le_refl _⟩, ⟨by (with_reducible repeat (first | apply Kd.R_alloc | apply Kd.R_drewN | apply Kd.R_drew)); exact HO1.out⟩, ⟨by repeat (first | (with_reducible first | exact HI0.out | apply IsS126.alloc | apply IsS126.drewN | apply IsS126.drew | apply IsS126.set_1 | apply IsS126.set_2) | exact HI0.out)⟩, ⟨by repeat (first | (with_reducible first | exact HK.out | apply Kept.alloc | apply Kept.drewN | apply Kept.drew | refine Kept.setCell ?_ (.inl (.inr rfl)) _) | exact HK.out)⟩, ⟨by repeat (first | (with_reducible first | exact HB.out | apply below_alloc | apply pw_below_drewN | apply below_drew1 | refine below_set ?_ (IsS126.ge HI0.out)) | exact HB.out)⟩⟩
  ·rw [if_neg c7] at H
   have c7b0 : (a2 == 0) = false := beq_eq_false_iff_ne.mpr c7
   have c7b1 : (a2 != 0) = true := bne_iff_ne.mpr c7
   (first | rw [c7b0] | (simp only [i64_w, i32_w]; rw [c7b0]) | skip)
   have H' := Aside0.mk H
   clear H
   go_wp2
   go_meet
   case rel => exact ⟨_, (false), (s0_1), (s0_2), (by first | rfl | (simp; done) | (simp [*]; done)), H', ⟨by first | omega | exact Nat.le_refl _⟩, ⟨by (with_reducible repeat (first | apply Kd.R_alloc | apply Kd.R_drewN | apply Kd.R_drew)); exact HO1.out⟩, ⟨by repeat (first | (with_reducible first | exact HI0.out | apply IsS126.alloc | apply IsS126.drewN | apply IsS126.drew | apply IsS126.set_1 | apply IsS126.set_2) | exact HI0.out)⟩, ⟨by repeat (first | (with_reducible first | exact HK.out | apply Kept.alloc | apply Kept.drewN | apply Kept.drew | refine Kept.setCell ?_ (.inl (.inr rfl)) _) | exact HK.out)⟩, ⟨by repeat (first | (with_reducible first | exact HB.out | apply below_alloc | apply pw_below_drewN | apply below_drew1 | refine below_set ?_ (IsS126.ge HI0.out)) | exact HB.out)⟩⟩
 case rest =>
  clear HC6
  try clear p2
  try clear c4
  try clear c7
  try clear c7b0
  try clear c7b1
  obtain ⟨kq, x12_5, x1001_5, x1002_5, rfl, HA, HJ5, HO_1, HI0, HK, HB⟩ := hcut
  cases kq with
  | zero => exact absurd HA.out (by simp [spec_writer_step.j0])
  | succ kj5 =>
   have H := HA.out
   clear HA
   simp only [spec_writer_step.j0] at H
   by_cases c10 : x12_5 = true
   ·subst c10
    have H1 : (some (l1, a4, x1001_5, x1002_5)) = some (r1, r2, r3, r4) := by rw [if_pos rfl] at H; exact H
    clear H
    have H := H1
    clear H1
    simp only [Option.some.injEq, Prod.mk.injEq] at H
    obtain ⟨rfl, rfl, rfl, rfl⟩ := H
    go_wp2
    go_ret2
    exact ⟨_, by first | rfl | (simp [errW_none, errW_some] <;> rfl) | (simp [*, errW_none, errW_some] <;> rfl), by (with_reducible repeat (first | apply Kd.R_alloc | apply Kd.R_drewN | apply Kd.R_drew)); exact HO_1.out, by repeat (first | (with_reducible first | exact HI0.out | apply IsS126.alloc | apply IsS126.drewN | apply IsS126.drew | apply IsS126.set_1 | apply IsS126.set_2) | exact HI0.out), by repeat (first | (with_reducible first | exact HB.out | apply below_alloc | apply pw_below_drewN | apply below_drew1 | refine below_set ?_ (IsS126.ge HI0.out)) | exact HB.out), by repeat (first | (with_reducible first | exact HK.out | apply Kept.alloc | apply Kept.drewN | apply Kept.drew | refine Kept.setCell ?_ (.inl (.inr rfl)) _) | exact HK.out)⟩
   ·replace c10 := Bool.eq_false_iff.mpr c10
    subst c10
    have H1 : (if a2 ≥ (-255) then (if a2 ≤ 255 then ((spec_writer_way.f s0_0 x1001_5 x1002_5 4).bind fun bt202 => (spec_writer_step.j1 kj5 l1 a2 a3 a4 (decide (bt202.1 > 0)) s0_0 bt202.2.1 bt202.2.2)) else (spec_writer_step.j1 kj5 l1 a2 a3 a4 false s0_0 x1001_5 x1002_5)) else (spec_writer_step.j1 kj5 l1 a2 a3 a4 false s0_0 x1001_5 x1002_5)) = some (r1, r2, r3, r4) := by rw [if_neg (show ¬ (false = true) by decide)] at H; exact H
    clear H
    have H := H1
    clear H1
    have HC11 := Aside0.mk H
    clear H
    go_upto_region 3 with (fail)
    go_cut [22] (fun v22 wc => ∃ (kq : Nat) (x22_10 : Bool) (x1001_10 : Int) (x1002_10 : Bool), v22 = .bool x22_10 ∧ Aside0 (spec_writer_step.j1 kq l1 a2 a3 a4 x22_10 s0_0 x1001_10 x1002_10 = some (r1, r2, r3, r4)) ∧ Aside0 (kq ≤ kj5) ∧ Aside0 (Kd.R (Kd.int .u8) 5 wc w0.heap.size (fun k_ => (P1_ k_ ∨ w.heap.size ≤ k_)) u9000_ l1) ∧ Aside0 (IsS126 w0 wc g s0_0 x1001_10 x1002_10) ∧ Aside0 (Kept w wc (fun k_ => (P1_ k_) ∨ k_ = g)) ∧ Aside0 (Below w0.heap.size w0 wc))
    case first =>
     have H := HC11.out
     clear HC11
     by_cases c12 : a2 ≥ (-255)
     ·rw [if_pos c12] at H
      have c12b0 : decide ((-255) ≤ a2) = true := decide_eq_true c12
      clear c12
      (first | rw [c12b0] | (simp only [i64_w, i32_w]; rw [c12b0]) | skip)
      by_cases c13 : a2 ≤ 255
      ·rw [if_pos c13] at H
       have c13b0 : decide (a2 ≤ 255) = true := decide_eq_true c13
       clear c13
       replace H := Option.bind_eq_some_iff.mp H
       obtain ⟨⟨t202, t203, t204⟩, A140, H⟩ := H
       replace H : (spec_writer_step.j1 kj5 l1 a2 a3 a4 (decide (t202 > 0)) s0_0 t203 t204) = some (r1, r2, r3, r4) := H
       have A14 := Aside0.mk A140
       clear A140
       have H' := Aside0.mk H
       clear H
       go_wp2_with (first | (go_at_call 41; (with_reducible refine (spec_writer_way.calls g s0_0 x1001_5 x1002_5 4 t202 t203 t204 w0 _ ?side1 ?side2 A14.out).mono ?_); (case side1 => repeat (first | (with_reducible first | exact HI0.out | apply IsS126.alloc | apply IsS126.drewN | apply IsS126.drew | apply IsS126.set_1 | apply IsS126.set_2) | exact HI0.out)); (case side2 => repeat (first | (with_reducible first | exact HB.out | apply below_alloc | apply pw_below_drewN | apply below_drew1 | refine below_set ?_ (IsS126.ge HI0.out)) | exact HB.out)); rintro e w15 ⟨rfl, hi, hb, hk⟩; have n0_ := Aside0.mk (Kd.R_mono (Kd.R_keep (IsS126.apart (show IsS126 w0 _ g s0_0 x1001_5 x1002_5 from by repeat (first | (with_reducible first | exact HI0.out | apply IsS126.alloc | apply IsS126.drewN | apply IsS126.drew | apply IsS126.set_1 | apply IsS126.set_2) | exact HI0.out)) (by (with_reducible repeat (first | apply Kd.R_alloc | apply Kd.R_drewN | apply Kd.R_drew)); exact HO_1.out) (by decide)) hk (fun _ h => h.2)) (fun _ h => h.1)); have n1_ := Aside0.mk (Kept.of_keep (S := (fun k_ => (P1_ k_) ∨ k_ = g)) (by repeat (first | (with_reducible first | exact HK.out | apply Kept.alloc | apply Kept.drewN | apply Kept.drew | refine Kept.setCell ?_ (.inl (.inr rfl)) _) | exact HK.out)) hk (.inl (.inr rfl))); have n2_ := Aside0.mk (hb); have n3_ := Aside0.mk (hi); clear HO_1; clear HK; clear HB; clear HI0; have HO_1 := n0_; have HK := n1_; have HB := n2_; have HI0 := n3_; clear n0_ n1_ n2_ n3_; (try clear hb); (try clear hb2); (try clear hk); (try clear hi)))
       go_meet
       case rel => exact ⟨_, (decide (t202 > 0)), (t203), (t204), (by first | rfl | (simp; done) | (simp [*]; done)), H', ⟨by have := HJ5.out; first | omega | exact Nat.le_refl _⟩, ⟨by (with_reducible repeat (first | apply Kd.R_alloc | apply Kd.R_drewN | apply Kd.R_drew)); exact HO_1.out⟩, ⟨by repeat (first | (with_reducible first | exact HI0.out | apply IsS126.alloc | apply IsS126.drewN | apply IsS126.drew | apply IsS126.set_1 | apply IsS126.set_2) | exact HI0.out)⟩, ⟨by repeat (first | (with_reducible first | exact HK.out | apply Kept.alloc | apply Kept.drewN | apply Kept.drew | refine Kept.setCell ?_ (.inl (.inr rfl)) _) | exact HK.out)⟩, ⟨by repeat (first | (with_reducible first | exact HB.out | apply below_alloc | apply pw_below_drewN | apply below_drew1 | refine below_set ?_ (IsS126.ge HI0.out)) | exact HB.out)⟩⟩
      ·rw [if_neg c13] at H
       have c13b0 : decide (a2 ≤ 255) = false := decide_eq_false c13
       clear c13
       have H' := Aside0.mk H
       clear H
       go_wp2
       go_meet
       case rel => exact ⟨_, (false), (x1001_5), (x1002_5), (by first | rfl | (simp; done) | (simp [*]; done)), H', ⟨by have := HJ5.out; first | omega | exact Nat.le_refl _⟩, ⟨by (with_reducible repeat (first | apply Kd.R_alloc | apply Kd.R_drewN | apply Kd.R_drew)); exact HO_1.out⟩, ⟨by repeat (first | (with_reducible first | exact HI0.out | apply IsS126.alloc | apply IsS126.drewN | apply IsS126.drew | apply IsS126.set_1 | apply IsS126.set_2) | exact HI0.out)⟩, ⟨by repeat (first | (with_reducible first | exact HK.out | apply Kept.alloc | apply Kept.drewN | apply Kept.drew | refine Kept.setCell ?_ (.inl (.inr rfl)) _) | exact HK.out)⟩, ⟨by repeat (first | (with_reducible first | exact HB.out | apply below_alloc | apply pw_below_drewN | apply below_drew1 | refine below_set ?_ (IsS126.ge HI0.out)) | exact HB.out)⟩⟩
     ·rw [if_neg c12] at H
      have c12b0 : decide ((-255) ≤ a2) = false := decide_eq_false c12
      clear c12
      (first | rw [c12b0] | (simp only [i64_w, i32_w]; rw [c12b0]) | skip)
      have H' := Aside0.mk H
      clear H
      go_wp2
      go_meet
      case rel => exact ⟨_, (false), (x1001_5), (x1002_5), (by first | rfl | (simp; done) | (simp [*]; done)), H', ⟨by have := HJ5.out; first | omega | exact Nat.le_refl _⟩, ⟨by (with_reducible repeat (first | apply Kd.R_alloc | apply Kd.R_drewN | apply Kd.R_drew)); exact HO_1.out⟩, ⟨by repeat (first | (with_reducible first | exact HI0.out | apply IsS126.alloc | apply IsS126.drewN | apply IsS126.drew | apply IsS126.set_1 | apply IsS126.set_2) | exact HI0.out)⟩, ⟨by repeat (first | (with_reducible first | exact HK.out | apply Kept.alloc | apply Kept.drewN | apply Kept.drew | refine Kept.setCell ?_ (.inl (.inr rfl)) _) | exact HK.out)⟩, ⟨by repeat (first | (with_reducible first | exact HB.out | apply below_alloc | apply pw_below_drewN | apply below_drew1 | refine below_set ?_ (IsS126.ge HI0.out)) | exact HB.out)⟩⟩
    case rest =>
     clear HC11
     try clear c1
     try clear p2
     try clear c4
     try clear c7
     try clear c7b0
     try clear c7b1
     try clear c10
     try clear c12
     try clear c12b0
     try clear c13
     try clear c13b0
     try clear p2
     obtain ⟨kq, x22_10, x1001_10, x1002_10, rfl, HA, HJ10, HO_1, HI0, HK, HB⟩ := hcut
     cases kq with
     | zero => exact absurd HA.out (by simp [spec_writer_step.j1])
     | succ kj10 =>
      have H := HA.out
      clear HA
      simp only [spec_writer_step.j1] at H
      by_cases c16 : x22_10 = true
      ·subst c16
       have H1 : (if a2 < 0 then (if l1.length < 140737488355328 then (some ((l1 ++ [(wrap64 (-a2)) % 256]), a3, x1001_10, x1002_10)) else (none)) else (if l1.length < 140737488355328 then (some ((l1 ++ [(a2) % 256]), Go.bits .or .u8 a3 a4, x1001_10, x1002_10)) else (none))) = some (r1, r2, r3, r4) := by rw [if_pos rfl] at H; exact H
       clear H
       have H := H1
       clear H1
       by_cases c17 : a2 < 0
       ·rw [if_pos c17] at H
        have c17b0 : decide (a2 < 0) = true := decide_eq_true c17
        clear c17
        by_cases c18 : l1.length < 140737488355328
        ·rw [if_pos c18] at H
         have LMc18 := Aside0.mk c18
         clear c18
         obtain ⟨y205, hy205⟩ : ∃ y_ : List Int, y_ = (l1 ++ [(wrap64 (-a2)) % 256]) := ⟨_, rfl⟩
         replace H : (some (y205, a3, x1001_10, x1002_10)) = some (r1, r2, r3, r4) := by first | (rw [hy205]; with_reducible exact H) | (have H2_ := (Option.bind_some _ _).symm.trans H; rw [hy205]; with_reducible exact H2_) | (have H2_ := (Option.bind_some _ _).symm.trans H; with_reducible exact H2_) | with_reducible exact H | (rw [hy205]; exact H) | exact H
         have Ny205 := Aside0.mk hy205
         clear hy205
         simp only [Option.some.injEq, Prod.mk.injEq] at H
         obtain ⟨rfl, rfl, rfl, rfl⟩ := H
         go_wp2_with (first | ((with_reducible refine gate_builtin (b := .append) (xs := #[.tmp 36, .tmp 40]) rfl ?_); at_builtin; refine Kd.R_append (Kd.int .u8) (w0 := w0) w0.heap.size rfl (.tmp 36) (.tmp 40) 22 5 (.int .u8 0) 1 rfl Try.underlying22 info5 rfl (by decide) (by omega) u9000_ l1 ((wrap64 (-a2)) % 256) [.int .u8 ((wrap64 (-a2)) % 256)] (fun k_ => (P1_ k_ ∨ w.heap.size ≤ k_)) (fun _ => False) rfl rfl ?aP (fun _ hk => hk.elim) ?aF ?aO ?aB ?aS ?aL ?_; (case aP => exact rfl); (case aB => exact (by repeat (first | (with_reducible first | exact HB.out | apply below_alloc | apply pw_below_drewN | apply below_drew1 | refine below_set ?_ (IsS126.ge HI0.out)) | exact HB.out))); (case aF => exact (fun k_ hk => (.inr (Nat.le_trans (by first | exact HK.out.1 | exact (show Kept w _ (fun k_ => (P1_ k_) ∨ k_ = g) from by repeat (first | (with_reducible first | exact HK.out | apply Kept.alloc | apply Kept.drewN | apply Kept.drew | refine Kept.setCell ?_ (.inl (.inr rfl)) _) | exact HK.out)).1) hk)))); (case aO => exact (by (with_reducible repeat (first | apply Kd.R_alloc | apply Kd.R_drewN | apply Kd.R_drew)); exact HO_1.out)); (case aS => exact (below_size (by repeat (first | (with_reducible first | exact HB.out | apply below_alloc | apply pw_below_drewN | apply below_drew1 | refine below_set ?_ (IsS126.ge HI0.out)) | exact HB.out)))); (case aL => have := LMc18.out; omega); intro v206 w19 ho hb hg hat; rw [← Ny205.out] at ho; have n0_ := Aside0.mk (IsS126.grown (by repeat (first | (with_reducible first | exact HI0.out | apply IsS126.alloc | apply IsS126.drewN | apply IsS126.drew | apply IsS126.set_1 | apply IsS126.set_2) | exact HI0.out)) hg (IsS126.own_ne HI0.out HO_1.out (by decide))); have n1_ := Aside0.mk (hb); have n2_ := Aside0.mk (Kept.of_grown (S := (fun k_ => (P1_ k_) ∨ k_ = g)) hg (by repeat (first | (with_reducible first | exact HK.out | apply Kept.alloc | apply Kept.drewN | apply Kept.drew | refine Kept.setCell ?_ (.inl (.inr rfl)) _) | exact HK.out)) (fun k_ e_ => Or.imp_left Or.inl ((HO_1.out.1 k_ e_)))); have n3_ := Aside0.mk (ho); clear HI0; clear HB; clear HK; clear HO_1; have HI0 := n0_; have HB := n1_; have HK := n2_; have HO207 := n3_; clear n0_ n1_ n2_ n3_; clear ho hb hg hat))
         go_ret2
         exact ⟨_, by first | rfl | (simp [errW_none, errW_some] <;> rfl) | (simp [*, errW_none, errW_some] <;> rfl), by (with_reducible repeat (first | apply Kd.R_alloc | apply Kd.R_drewN | apply Kd.R_drew)); exact HO207.out, by repeat (first | (with_reducible first | exact HI0.out | apply IsS126.alloc | apply IsS126.drewN | apply IsS126.drew | apply IsS126.set_1 | apply IsS126.set_2) | exact HI0.out), by repeat (first | (with_reducible first | exact HB.out | apply below_alloc | apply pw_below_drewN | apply below_drew1 | refine below_set ?_ (IsS126.ge HI0.out)) | exact HB.out), by repeat (first | (with_reducible first | exact HK.out | apply Kept.alloc | apply Kept.drewN | apply Kept.drew | refine Kept.setCell ?_ (.inl (.inr rfl)) _) | exact HK.out)⟩
        ·rw [if_neg c18] at H
         exact absurd H (by simp)
       ·rw [if_neg c17] at H
        have c17b0 : decide (a2 < 0) = false := decide_eq_false c17
        clear c17
        by_cases c20 : l1.length < 140737488355328
        ·rw [if_pos c20] at H
         have LMc20 := Aside0.mk c20
         clear c20
         obtain ⟨y208, hy208⟩ : ∃ y_ : List Int, y_ = (l1 ++ [(a2) % 256]) := ⟨_, rfl⟩
         replace H : (some (y208, Go.bits .or .u8 a3 a4, x1001_10, x1002_10)) = some (r1, r2, r3, r4) := by first | (rw [hy208]; with_reducible exact H) | (have H2_ := (Option.bind_some _ _).symm.trans H; rw [hy208]; with_reducible exact H2_) | (have H2_ := (Option.bind_some _ _).symm.trans H; with_reducible exact H2_) | with_reducible exact H | (rw [hy208]; exact H) | exact H
         have Ny208 := Aside0.mk hy208
         clear hy208
         simp only [Option.some.injEq, Prod.mk.injEq] at H
         obtain ⟨rfl, rfl, rfl, rfl⟩ := H
         go_wp2_with (first | ((with_reducible refine gate_builtin (b := .append) (xs := #[.tmp 43, .tmp 46]) rfl ?_); at_builtin; refine Kd.R_append (Kd.int .u8) (w0 := w0) w0.heap.size rfl (.tmp 43) (.tmp 46) 22 5 (.int .u8 0) 1 rfl Try.underlying22 info5 rfl (by decide) (by omega) u9000_ l1 ((a2) % 256) [.int .u8 ((a2) % 256)] (fun k_ => (P1_ k_ ∨ w.heap.size ≤ k_)) (fun _ => False) rfl rfl ?aP (fun _ hk => hk.elim) ?aF ?aO ?aB ?aS ?aL ?_; (case aP => exact rfl); (case aB => exact (by repeat (first | (with_reducible first | exact HB.out | apply below_alloc | apply pw_below_drewN | apply below_drew1 | refine below_set ?_ (IsS126.ge HI0.out)) | exact HB.out))); (case aF => exact (fun k_ hk => (.inr (Nat.le_trans (by first | exact HK.out.1 | exact (show Kept w _ (fun k_ => (P1_ k_) ∨ k_ = g) from by repeat (first | (with_reducible first | exact HK.out | apply Kept.alloc | apply Kept.drewN | apply Kept.drew | refine Kept.setCell ?_ (.inl (.inr rfl)) _) | exact HK.out)).1) hk)))); (case aO => exact (by (with_reducible repeat (first | apply Kd.R_alloc | apply Kd.R_drewN | apply Kd.R_drew)); exact HO_1.out)); (case aS => exact (below_size (by repeat (first | (with_reducible first | exact HB.out | apply below_alloc | apply pw_below_drewN | apply below_drew1 | refine below_set ?_ (IsS126.ge HI0.out)) | exact HB.out)))); (case aL => have := LMc20.out; omega); intro v209 w21 ho hb hg hat; rw [← Ny208.out] at ho; have n0_ := Aside0.mk (IsS126.grown (by repeat (first | (with_reducible first | exact HI0.out | apply IsS126.alloc | apply IsS126.drewN | apply IsS126.drew | apply IsS126.set_1 | apply IsS126.set_2) | exact HI0.out)) hg (IsS126.own_ne HI0.out HO_1.out (by decide))); have n1_ := Aside0.mk (hb); have n2_ := Aside0.mk (Kept.of_grown (S := (fun k_ => (P1_ k_) ∨ k_ = g)) hg (by repeat (first | (with_reducible first | exact HK.out | apply Kept.alloc | apply Kept.drewN | apply Kept.drew | refine Kept.setCell ?_ (.inl (.inr rfl)) _) | exact HK.out)) (fun k_ e_ => Or.imp_left Or.inl ((HO_1.out.1 k_ e_)))); have n3_ := Aside0.mk (ho); clear HI0; clear HB; clear HK; clear HO_1; have HI0 := n0_; have HB := n1_; have HK := n2_; have HO210 := n3_; clear n0_ n1_ n2_ n3_; clear ho hb hg hat))
         go_ret2
         exact ⟨_, by first | rfl | (simp [errW_none, errW_some] <;> rfl) | (simp [*, errW_none, errW_some] <;> rfl), by (with_reducible repeat (first | apply Kd.R_alloc | apply Kd.R_drewN | apply Kd.R_drew)); exact HO210.out, by repeat (first | (with_reducible first | exact HI0.out | apply IsS126.alloc | apply IsS126.drewN | apply IsS126.drew | apply IsS126.set_1 | apply IsS126.set_2) | exact HI0.out), by repeat (first | (with_reducible first | exact HB.out | apply below_alloc | apply pw_below_drewN | apply below_drew1 | refine below_set ?_ (IsS126.ge HI0.out)) | exact HB.out), by repeat (first | (with_reducible first | exact HK.out | apply Kept.alloc | apply Kept.drewN | apply Kept.drew | refine Kept.setCell ?_ (.inl (.inr rfl)) _) | exact HK.out)⟩
        ·rw [if_neg c20] at H
         exact absurd H (by simp)
      ·replace c16 := Bool.eq_false_iff.mpr c16
       subst c16
       have H1 : ((some (([(a2 / 256) % 256, (a2) % 256] : List Int) : List Int)).bind fun y211 => (if l1.length + y211.length < 140737488355328 then (some ((l1 ++ y211), 0, x1001_10, x1002_10)) else (none))) = some (r1, r2, r3, r4) := by rw [if_neg (show ¬ (false = true) by decide)] at H; exact H
       clear H
       have H := H1
       clear H1
       obtain ⟨y211, hy211⟩ : ∃ y_ : List Int, y_ = (([(a2 / 256) % 256, (a2) % 256] : List Int)) := ⟨_, rfl⟩
       replace H : (if l1.length + y211.length < 140737488355328 then (some ((l1 ++ y211), 0, x1001_10, x1002_10)) else (none)) = some (r1, r2, r3, r4) := by first | (rw [hy211]; with_reducible exact H) | (have H2_ := (Option.bind_some _ _).symm.trans H; rw [hy211]; with_reducible exact H2_) | (have H2_ := (Option.bind_some _ _).symm.trans H; with_reducible exact H2_) | with_reducible exact H | (rw [hy211]; exact H) | exact H
       have Ny211 := Aside0.mk hy211
       clear hy211
       by_cases c22 : l1.length + y211.length < 140737488355328
       ·rw [if_pos c22] at H
        have LMc22 := Aside0.mk c22
        clear c22
        obtain ⟨y214, hy214⟩ : ∃ y_ : List Int, y_ = (l1 ++ y211) := ⟨_, rfl⟩
        replace H : (some (y214, 0, x1001_10, x1002_10)) = some (r1, r2, r3, r4) := by first | (rw [hy214]; with_reducible exact H) | (have H2_ := (Option.bind_some _ _).symm.trans H; rw [hy214]; with_reducible exact H2_) | (have H2_ := (Option.bind_some _ _).symm.trans H; with_reducible exact H2_) | with_reducible exact H | (rw [hy214]; exact H) | exact H
        have Ny214 := Aside0.mk hy214
        clear hy214
        simp only [Option.some.injEq, Prod.mk.injEq] at H
        obtain ⟨rfl, rfl, rfl, rfl⟩ := H
        go_wp2_with (first | ((with_reducible refine gate_dst (N := 57) rfl ?_); refine Kd.R_lit (Kd.int .u8) _ 5 ?hg (N := 57) ?hd (xs := ([(a2 / 256) % 256, (a2) % 256] : List Int)) (inner := [.int .u8 ((a2 / 256) % 256), .int .u8 ((a2) % 256)]) (ok := fun _ => True) (okp := fun _ => True) ?hr ?hp (fun _ hk => hk) trivial (Below.refl _ _) (Nat.le_refl _) (by simp) ?_; (case hd => rfl); (case hg => rfl); (case hr => first | (go_simp; done) | (go_simp; rfl)); (case hp => exact (Reps.one (show Kd.M (Kd.int .u8) _ _ _ ((a2 / 256) % 256) [.int .u8 ((a2 / 256) % 256)] from rfl) (Reps.one (show Kd.M (Kd.int .u8) _ _ _ ((a2) % 256) [.int .u8 ((a2) % 256)] from rfl) (Reps.none _ _)))); intro v212 w23 ho24 hb hg_ hnew_; clear hg_ hnew_; (first | rw [← Ny211.out] at ho24 | (simp only [Int.reduceToNat] at ho24; rw [← Ny211.out] at ho24)); have n0_ := Aside0.mk (Kd.R_elder' (by (with_reducible repeat (first | apply Kd.R_alloc | apply Kd.R_drewN | apply Kd.R_drew)); exact HO_1.out) (Kd.R_base ho24) hb); have n1_ := Aside0.mk (Kd.R_lower (Kd.R_new' (Kd.R_newM (M := fun k_ => (P1_ k_ ∨ w.heap.size ≤ k_)) ho24 (by first | exact HK.out.1 | exact (show Kept w _ (fun k_ => (P1_ k_) ∨ k_ = g) from by repeat (first | (with_reducible first | exact HK.out | apply Kept.alloc | apply Kept.drewN | apply Kept.drew | refine Kept.setCell ?_ (.inl (.inr rfl)) _) | exact HK.out)).1) (fun k_ h_ => .inr h_)) (Kd.R_lt (by (with_reducible repeat (first | apply Kd.R_alloc | apply Kd.R_drewN | apply Kd.R_drew)); exact HO_1.out))) (below_size (by repeat (first | (with_reducible first | exact HB.out | apply below_alloc | apply pw_below_drewN | apply below_drew1 | refine below_set ?_ (IsS126.ge HI0.out)) | exact HB.out)))); have n2_ := Aside0.mk (IsS126.below (by repeat (first | (with_reducible first | exact HI0.out | apply IsS126.alloc | apply IsS126.drewN | apply IsS126.drew | apply IsS126.set_1 | apply IsS126.set_2) | exact HI0.out)) hb); have n3_ := Aside0.mk (Kept.below (S := (fun k_ => (P1_ k_) ∨ k_ = g)) (by repeat (first | (with_reducible first | exact HK.out | apply Kept.alloc | apply Kept.drewN | apply Kept.drew | refine Kept.setCell ?_ (.inl (.inr rfl)) _) | exact HK.out)) hb); have n4_ := Aside0.mk (below_step (by repeat (first | (with_reducible first | exact HB.out | apply below_alloc | apply pw_below_drewN | apply below_drew1 | refine below_set ?_ (IsS126.ge HI0.out)) | exact HB.out)) hb); clear HO_1; clear HI0; clear HK; clear HB; have HO_1 := n0_; have HO213 := n1_; have HI0 := n2_; have HK := n3_; have HB := n4_; clear n0_ n1_ n2_ n3_ n4_; clear hb ho24; obtain ⟨Ao26, co26, eo26⟩ := Kd.R_slice HO213.out; subst eo26) | ((with_reducible refine gate_builtin (b := .append) (xs := #[.tmp 51, .tmp 57]) rfl ?_); at_builtin; refine Kd.R_append_rows (Kd.int .u8) (w0 := w0) w0.heap.size rfl (.tmp 51) (.tmp 57) 22 5 (.int .u8 0) 1 rfl Try.underlying22 info5 rfl (by decide) (by omega) u9000_ l1 y211 _ _ _ (fun k_ => (P1_ k_ ∨ w.heap.size ≤ k_) ∧ some k_ ≠ (.slice Ao26 y211.length co26 : Value).ownBlock) (fun _ => False) rfl rfl ?aO ?aR (fun _ _ h => h) (fun _ h => h.elim) ?aF ?aB ?aS ?aL ?_; (case aR => repeat (first | exact (Kd.R_reads' HO213.out).2.2 | (with_reducible refine Kd.C_alloc ?_ _) | (with_reducible refine Kd.C_drewN ?_ _) | (with_reducible refine Kd.C_drew ?_))); (case aB => exact (by repeat (first | (with_reducible first | exact HB.out | apply below_alloc | apply pw_below_drewN | apply below_drew1 | refine below_set ?_ (IsS126.ge HI0.out)) | exact HB.out))); (case aF => exact (fun k_ hk => ⟨(.inr (Nat.le_trans (by first | exact HK.out.1 | exact (show Kept w _ (fun k_ => (P1_ k_) ∨ k_ = g) from by repeat (first | (with_reducible first | exact HK.out | apply Kept.alloc | apply Kept.drewN | apply Kept.drew | refine Kept.setCell ?_ (.inl (.inr rfl)) _) | exact HK.out)).1) hk)), Kd.fresh' (Kd.R_lt (by (with_reducible repeat (first | apply Kd.R_alloc | apply Kd.R_drewN | apply Kd.R_drew)); exact HO213.out)) k_ hk⟩)); (case aO => exact (by (with_reducible repeat (first | apply Kd.R_alloc | apply Kd.R_drewN | apply Kd.R_drew)); exact HO_1.out)); (case aS => exact (below_size (by repeat (first | (with_reducible first | exact HB.out | apply below_alloc | apply pw_below_drewN | apply below_drew1 | refine below_set ?_ (IsS126.ge HI0.out)) | exact HB.out)))); (case aL => have := LMc22.out; omega); intro v215 w25 ho hb hg hat; rw [← Ny214.out] at ho; have n0_ := Aside0.mk (IsS126.grown (by repeat (first | (with_reducible first | exact HI0.out | apply IsS126.alloc | apply IsS126.drewN | apply IsS126.drew | apply IsS126.set_1 | apply IsS126.set_2) | exact HI0.out)) hg (IsS126.own_ne HI0.out HO_1.out (by decide))); have n1_ := Aside0.mk (Kd.R_after (ok := (fun k_ => (P1_ k_ ∨ w.heap.size ≤ k_))) (by (with_reducible repeat (first | apply Kd.R_alloc | apply Kd.R_drewN | apply Kd.R_drew)); exact Kd.R_mono HO213.out (fun _ hk => ⟨hk.1.1, hk.2⟩)) hg hat); have n2_ := Aside0.mk (hb); have n3_ := Aside0.mk (Kept.of_grown (S := (fun k_ => (P1_ k_) ∨ k_ = g)) hg (by repeat (first | (with_reducible first | exact HK.out | apply Kept.alloc | apply Kept.drewN | apply Kept.drew | refine Kept.setCell ?_ (.inl (.inr rfl)) _) | exact HK.out)) (fun k_ e_ => Or.imp_left Or.inl ((HO_1.out.1 k_ e_).1))); have n4_ := Aside0.mk (ho); clear HI0; clear HO213; clear HB; clear HK; clear HO_1; have HI0 := n0_; have HO213 := n1_; have HB := n2_; have HK := n3_; have HO216 := n4_; clear n0_ n1_ n2_ n3_ n4_; clear ho hb hg hat))
        go_ret2
        exact ⟨_, by first | rfl | (simp [errW_none, errW_some] <;> rfl) | (simp [*, errW_none, errW_some] <;> rfl), by (with_reducible repeat (first | apply Kd.R_alloc | apply Kd.R_drewN | apply Kd.R_drew)); exact Kd.R_mono HO216.out (fun _ hk => hk.1), by repeat (first | (with_reducible first | exact HI0.out | apply IsS126.alloc | apply IsS126.drewN | apply IsS126.drew | apply IsS126.set_1 | apply IsS126.set_2) | exact HI0.out), by repeat (first | (with_reducible first | exact HB.out | apply below_alloc | apply pw_below_drewN | apply below_drew1 | refine below_set ?_ (IsS126.ge HI0.out)) | exact HB.out), by repeat (first | (with_reducible first | exact HK.out | apply Kept.alloc | apply Kept.drewN | apply Kept.drew | refine Kept.setCell ?_ (.inl (.inr rfl)) _) | exact HK.out)⟩
       ·rw [if_neg c22] at H
        exact absurd H (by simp)

/-! ### spec_SpotBytes: function 20 -/
mutual
def spec_SpotBytes.l0 : Nat → List (List (S51)) → Int → List (List (S51)) → Int → Int → List Int → Int → Bool → List Int → Unit → Option (List Int)
 | 0, _, _, _, _, _, _, _, _, _, _ => none
 | k + 1, x0, x9, x38, x39, x40, x219000, x219001, x219002, x220000, x220001 => if x40 < x39 then (if 0 ≤ x40 then (if x40 < (x38.length : Int) then ((spec_table_short.f k x220000 (([wrap64 ((wrap64 (x9 + ((rd_L3 x38 x40).length : Int))) - 1)] : List Int))).bind fun t236 => (spec_SpotBytes.l0 k x0 (wrap64 (x9 + ((rd_L3 x38 x40).length : Int))) x38 x39 (wrap64 (x40 + 1)) x219000 x219001 x219002 t236 x220001)) else (none)) else (none)) else ((spec_writer_way.f x219000 x219001 x219002 3).bind fun bt239 => ((spec_table_short.f k x220000 (([bt239.1] : List Int))).bind fun t245 => (if 0 ≤ bt239.1 then (if t245.length + (bt239.1 : Int).toNat < 140737488355328 then (spec_SpotBytes.l1 k ([] : List Int) ([] : List Int) ([] : List Int) 0 0 x0 (x0.length : Int) 0 x219000 bt239.2.1 bt239.2.2 (t245 ++ List.replicate (bt239.1 : Int).toNat 0) x220001) else (none)) else (none))))
def spec_SpotBytes.l1 : Nat → List Int → List Int → List Int → Int → Int → List (List (S51)) → Int → Int → List Int → Int → Bool → List Int → Unit → Option (List Int)
 | 0, _, _, _, _, _, _, _, _, _, _, _, _, _ => none
 | k + 1, x13, x14, x15, x16, x17, x69, x70, x71, x219000, x219001, x219002, x220000, x220001 => if x71 < x70 then (if 0 ≤ x71 then (if x71 < (x69.length : Int) then (spec_SpotBytes.l2 k x13 x14 x15 x16 x17 x69 x70 x71 (rd_L3 x69 x71) ((rd_L3 x69 x71).length : Int) 0 x219000 x219001 x219002 x220000 x220001) else (none)) else (none)) else (spec_SpotBytes.l3 k x13 x14 x15 0 x219000 x219001 x219002 x220000 x220001)
def spec_SpotBytes.l2 : Nat → List Int → List Int → List Int → Int → Int → List (List (S51)) → Int → Int → List (S51) → Int → Int → List Int → Int → Bool → List Int → Unit → Option (List Int)
 | 0, _, _, _, _, _, _, _, _, _, _, _, _, _, _, _, _ => none
 | k + 1, x13, x14, x15, x16, x17, x69, x70, x71, x75, x76, x77, x219000, x219001, x219002, x220000, x220001 => if x77 < x76 then (if 0 ≤ x77 then (if x77 < (x75.length : Int) then (if (rd_T51 x75 x77).f0 = true then (spec_SpotBytes.j3 k x13 x14 x15 x16 x17 1 x69 x70 x71 x75 x76 x77 x219000 x219001 x219002 x220000 x220001 ((rd_T51 x75 x77).f0) ((rd_T51 x75 x77).f1) ((rd_T51 x75 x77).f2)) else (spec_SpotBytes.j3 k x13 x14 x15 x16 x17 0 x69 x70 x71 x75 x76 x77 x219000 x219001 x219002 x220000 x220001 ((rd_T51 x75 x77).f0) ((rd_T51 x75 x77).f1) ((rd_T51 x75 x77).f2))) else (none)) else (none)) else (spec_SpotBytes.l1 k x13 x14 x15 x16 x17 x69 x70 (wrap64 (x71 + 1)) x219000 x219001 x219002 x220000 x220001)
def spec_SpotBytes.j3 : Nat → List Int → List Int → List Int → Int → Int → Int → List (List (S51)) → Int → Int → List (S51) → Int → Int → List Int → Int → Bool → List Int → Unit → Bool → Int → Int → Option (List Int)
 | 0, _, _, _, _, _, _, _, _, _, _, _, _, _, _, _, _, _, _, _, _ => none
 | k + 1, x13, x14, x15, x16, x17, x22, x69, x70, x71, x75, x76, x77, x219000, x219001, x219002, x220000, x220001, x254000, x254001, x254002 => (spec_writer_step.f k x219000 x219001 x219002 x14 (wrap64 (x254001 - x16)) 2 16).bind fun bt254 => ((spec_writer_step.f k x219000 bt254.2.2.1 bt254.2.2.2 x15 (wrap64 (x254002 - x17)) 4 32).bind fun bt260 => (if x13.length < 140737488355328 then (spec_SpotBytes.l2 k (x13 ++ [Go.bits .or .u8 (Go.bits .or .u8 x22 bt254.2.1) bt260.2.1]) bt254.1 bt260.1 x254001 x254002 x69 x70 x71 x75 x76 (wrap64 (x77 + 1)) x219000 bt260.2.2.1 bt260.2.2.2 x220000 x220001) else (none)))
def spec_SpotBytes.l3 : Nat → List Int → List Int → List Int → Int → List Int → Int → Bool → List Int → Unit → Option (List Int)
 | 0, _, _, _, _, _, _, _, _, _ => none
 | k + 1, x13, x14, x15, x25, x219000, x219001, x219002, x220000, x220001 => if x25 < (x13.length : Int) then (spec_SpotBytes.l4 k x13 x14 x15 x25 (wrap64 (x25 + 1)) x219000 x219001 x219002 x220000 x220001) else (if x220000.length + x14.length < 140737488355328 then ((some (x220000 ++ x14 : List Int)).bind fun y269 => (if y269.length + x15.length < 140737488355328 then (some (y269 ++ x15)) else (none))) else (none))
def spec_SpotBytes.l4 : Nat → List Int → List Int → List Int → Int → Int → List Int → Int → Bool → List Int → Unit → Option (List Int)
 | 0, _, _, _, _, _, _, _, _, _, _ => none
 | k + 1, x13, x14, x15, x25, x26, x219000, x219001, x219002, x220000, x220001 => if x26 < (x13.length : Int) then (if 0 ≤ x26 then (if 0 ≤ x25 then (if x25 < (x13.length : Int) then (if (rd x13 x26) = (rd x13 x25) then (spec_SpotBytes.j6 k x13 x14 x15 x25 x26 (decide ((wrap64 (x26 - x25)) < 200)) x219000 x219001 x219002 x220000 x220001) else (spec_SpotBytes.j6 k x13 x14 x15 x25 x26 false x219000 x219001 x219002 x220000 x220001)) else (none)) else (none)) else (none)) else (spec_SpotBytes.j6 k x13 x14 x15 x25 x26 false x219000 x219001 x219002 x220000 x220001)
def spec_SpotBytes.j6 : Nat → List Int → List Int → List Int → Int → Int → Bool → List Int → Int → Bool → List Int → Unit → Option (List Int)
 | 0, _, _, _, _, _, _, _, _, _, _, _ => none
 | k + 1, x13, x14, x15, x25, x26, x143, x219000, x219001, x219002, x220000, x220001 => if x143 = true then (spec_SpotBytes.l4 k x13 x14 x15 x25 (wrap64 (x26 + 1)) x219000 x219001 x219002 x220000 x220001) else (if (wrap64 (x26 - x25)) > 1 then ((spec_writer_way.f x219000 x219001 x219002 3).bind fun bt277 => (spec_SpotBytes.j7 k x13 x14 x15 x25 x26 (decide (bt277.1 > 0)) x219000 bt277.2.1 bt277.2.2 x220000 x220001)) else (spec_SpotBytes.j7 k x13 x14 x15 x25 x26 false x219000 x219001 x219002 x220000 x220001))
def spec_SpotBytes.j7 : Nat → List Int → List Int → List Int → Int → Int → Bool → List Int → Int → Bool → List Int → Unit → Option (List Int)
 | 0, _, _, _, _, _, _, _, _, _, _, _ => none
 | k + 1, x13, x14, x15, x25, x26, x154, x219000, x219001, x219002, x220000, x220001 => if x154 = true then (if 0 ≤ x25 then (if x25 < (x13.length : Int) then ((some (([Go.bits .or .u8 (rd x13 x25) 8, (wrap64 ((wrap64 (x26 - x25)) - 1)) % 256] : List Int) : List Int)).bind fun y281 => (if x220000.length + y281.length < 140737488355328 then (spec_SpotBytes.l3 k x13 x14 x15 x26 x219000 x219001 x219002 (x220000 ++ y281) x220001) else (none))) else (none)) else (none)) else (if 0 ≤ x25 then (if x25 < (x13.length : Int) then (if x220000.length < 140737488355328 then (spec_SpotBytes.l3 k x13 x14 x15 (wrap64 (x25 + 1)) x219000 x219001 x219002 (x220000 ++ [rd x13 x25]) x220001) else (none)) else (none)) else (none))
end
def spec_SpotBytes.f (k : Nat) (l0 : List (List (S51))) (a1_0 : Int) (a1_1 : Int) (a1_2 : Int) (a1_3 : Int) (l2 : List Int) : Option (List Int) := (spec_table_short.f k ([] : List Int) (([(l0.length : Int)] : List Int))).bind fun t223 => ((spec_table_short.f k t223 (([a1_0, a1_1, a1_2, a1_3] : List Int))).bind fun t229 => (spec_SpotBytes.l0 k l0 0 l0 (l0.length : Int) 0 l2 0 false t229 ()))
theorem spec_SpotBytes.mono_l : ∀ k, (∀ y0 y1 y2 y3 y4 y5 y6 y7 y8 y9, LeO (spec_SpotBytes.l0 k y0 y1 y2 y3 y4 y5 y6 y7 y8 y9) (spec_SpotBytes.l0 (k + 1) y0 y1 y2 y3 y4 y5 y6 y7 y8 y9)) ∧ (∀ y0 y1 y2 y3 y4 y5 y6 y7 y8 y9 y10 y11 y12, LeO (spec_SpotBytes.l1 k y0 y1 y2 y3 y4 y5 y6 y7 y8 y9 y10 y11 y12) (spec_SpotBytes.l1 (k + 1) y0 y1 y2 y3 y4 y5 y6 y7 y8 y9 y10 y11 y12)) ∧ (∀ y0 y1 y2 y3 y4 y5 y6 y7 y8 y9 y10 y11 y12 y13 y14 y15, LeO (spec_SpotBytes.l2 k y0 y1 y2 y3 y4 y5 y6 y7 y8 y9 y10 y11 y12 y13 y14 y15) (spec_SpotBytes.l2 (k + 1) y0 y1 y2 y3 y4 y5 y6 y7 y8 y9 y10 y11 y12 y13 y14 y15)) ∧ (∀ y0 y1 y2 y3 y4 y5 y6 y7 y8 y9 y10 y11 y12 y13 y14 y15 y16 y17 y18 y19, LeO (spec_SpotBytes.j3 k y0 y1 y2 y3 y4 y5 y6 y7 y8 y9 y10 y11 y12 y13 y14 y15 y16 y17 y18 y19) (spec_SpotBytes.j3 (k + 1) y0 y1 y2 y3 y4 y5 y6 y7 y8 y9 y10 y11 y12 y13 y14 y15 y16 y17 y18 y19)) ∧ (∀ y0 y1 y2 y3 y4 y5 y6 y7 y8, LeO (spec_SpotBytes.l3 k y0 y1 y2 y3 y4 y5 y6 y7 y8) (spec_SpotBytes.l3 (k + 1) y0 y1 y2 y3 y4 y5 y6 y7 y8)) ∧ (∀ y0 y1 y2 y3 y4 y5 y6 y7 y8 y9, LeO (spec_SpotBytes.l4 k y0 y1 y2 y3 y4 y5 y6 y7 y8 y9) (spec_SpotBytes.l4 (k + 1) y0 y1 y2 y3 y4 y5 y6 y7 y8 y9)) ∧ (∀ y0 y1 y2 y3 y4 y5 y6 y7 y8 y9 y10, LeO (spec_SpotBytes.j6 k y0 y1 y2 y3 y4 y5 y6 y7 y8 y9 y10) (spec_SpotBytes.j6 (k + 1) y0 y1 y2 y3 y4 y5 y6 y7 y8 y9 y10)) ∧ (∀ y0 y1 y2 y3 y4 y5 y6 y7 y8 y9 y10, LeO (spec_SpotBytes.j7 k y0 y1 y2 y3 y4 y5 y6 y7 y8 y9 y10) (spec_SpotBytes.j7 (k + 1) y0 y1 y2 y3 y4 y5 y6 y7 y8 y9 y10))
 | 0 => ⟨fun _ _ _ _ _ _ _ _ _ _ r h => by simp [spec_SpotBytes.l0] at h, fun _ _ _ _ _ _ _ _ _ _ _ _ _ r h => by simp [spec_SpotBytes.l1] at h, fun _ _ _ _ _ _ _ _ _ _ _ _ _ _ _ _ r h => by simp [spec_SpotBytes.l2] at h, fun _ _ _ _ _ _ _ _ _ _ _ _ _ _ _ _ _ _ _ _ r h => by simp [spec_SpotBytes.j3] at h, fun _ _ _ _ _ _ _ _ _ r h => by simp [spec_SpotBytes.l3] at h, fun _ _ _ _ _ _ _ _ _ _ r h => by simp [spec_SpotBytes.l4] at h, fun _ _ _ _ _ _ _ _ _ _ _ r h => by simp [spec_SpotBytes.j6] at h, fun _ _ _ _ _ _ _ _ _ _ _ r h => by simp [spec_SpotBytes.j7] at h⟩
 | k + 1 => by
  obtain ⟨ih0, ih1, ih2, ih3, ih4, ih5, ih6, ih7⟩ := spec_SpotBytes.mono_l k
  refine ⟨?_, ?_, ?_, ?_, ?_, ?_, ?_, ?_⟩
  ·intro y0 y1 y2 y3 y4 y5 y6 y7 y8 y9
   unfold spec_SpotBytes.l0
   repeat' first
   | (with_reducible exact ih0 _ _ _ _ _ _ _ _ _ _)
   | (with_reducible exact ih1 _ _ _ _ _ _ _ _ _ _ _ _ _)
   | (with_reducible exact ih2 _ _ _ _ _ _ _ _ _ _ _ _ _ _ _ _)
   | (with_reducible exact ih3 _ _ _ _ _ _ _ _ _ _ _ _ _ _ _ _ _ _ _ _)
   | (with_reducible exact ih4 _ _ _ _ _ _ _ _ _)
   | (with_reducible exact ih5 _ _ _ _ _ _ _ _ _ _)
   | (with_reducible exact ih6 _ _ _ _ _ _ _ _ _ _ _)
   | (with_reducible exact ih7 _ _ _ _ _ _ _ _ _ _ _)
   | (with_reducible exact spec_table_short.mono _ _ _)
   | (with_reducible exact spec_writer_step.mono _ _ _ _ _ _ _ _)
   | (with_reducible exact LeO.refl _)
   | (with_reducible exact LeO.none _)
   | (with_reducible refine LeO.ite ?_ ?_)
   | (with_reducible refine LeO.bind ?_ (fun _ => ?_))
   | exact ih0 _ _ _ _ _ _ _ _ _ _
   | exact ih1 _ _ _ _ _ _ _ _ _ _ _ _ _
   | exact ih2 _ _ _ _ _ _ _ _ _ _ _ _ _ _ _ _
   | exact ih3 _ _ _ _ _ _ _ _ _ _ _ _ _ _ _ _ _ _ _ _
   | exact ih4 _ _ _ _ _ _ _ _ _
   | exact ih5 _ _ _ _ _ _ _ _ _ _
   | exact ih6 _ _ _ _ _ _ _ _ _ _ _
   | exact ih7 _ _ _ _ _ _ _ _ _ _ _
   | exact spec_table_short.mono _ _ _
   | exact spec_writer_step.mono _ _ _ _ _ _ _ _
   | exact LeO.none _
   | refine LeO.ite ?_ ?_
   | refine LeO.bind ?_ (fun _ => ?_)
  ·intro y0 y1 y2 y3 y4 y5 y6 y7 y8 y9 y10 y11 y12
   unfold spec_SpotBytes.l1
   repeat' first
   | (with_reducible exact ih0 _ _ _ _ _ _ _ _ _ _)
   | (with_reducible exact ih1 _ _ _ _ _ _ _ _ _ _ _ _ _)
   | (with_reducible exact ih2 _ _ _ _ _ _ _ _ _ _ _ _ _ _ _ _)
   | (with_reducible exact ih3 _ _ _ _ _ _ _ _ _ _ _ _ _ _ _ _ _ _ _ _)
   | (with_reducible exact ih4 _ _ _ _ _ _ _ _ _)
   | (with_reducible exact ih5 _ _ _ _ _ _ _ _ _ _)
   | (with_reducible exact ih6 _ _ _ _ _ _ _ _ _ _ _)
   | (with_reducible exact ih7 _ _ _ _ _ _ _ _ _ _ _)
   | (with_reducible exact spec_table_short.mono _ _ _)
   | (with_reducible exact spec_writer_step.mono _ _ _ _ _ _ _ _)
   | (with_reducible exact LeO.refl _)
   | (with_reducible exact LeO.none _)
   | (with_reducible refine LeO.ite ?_ ?_)
   | (with_reducible refine LeO.bind ?_ (fun _ => ?_))
   | exact ih0 _ _ _ _ _ _ _ _ _ _
   | exact ih1 _ _ _ _ _ _ _ _ _ _ _ _ _
   | exact ih2 _ _ _ _ _ _ _ _ _ _ _ _ _ _ _ _
   | exact ih3 _ _ _ _ _ _ _ _ _ _ _ _ _ _ _ _ _ _ _ _
   | exact ih4 _ _ _ _ _ _ _ _ _
   | exact ih5 _ _ _ _ _ _ _ _ _ _
   | exact ih6 _ _ _ _ _ _ _ _ _ _ _
   | exact ih7 _ _ _ _ _ _ _ _ _ _ _
   | exact spec_table_short.mono _ _ _
   | exact spec_writer_step.mono _ _ _ _ _ _ _ _
   | exact LeO.none _
   | refine LeO.ite ?_ ?_
   | refine LeO.bind ?_ (fun _ => ?_)
  ·intro y0 y1 y2 y3 y4 y5 y6 y7 y8 y9 y10 y11 y12 y13 y14 y15
   unfold spec_SpotBytes.l2
   repeat' first
   | (with_reducible exact ih0 _ _ _ _ _ _ _ _ _ _)
   | (with_reducible exact ih1 _ _ _ _ _ _ _ _ _ _ _ _ _)
   | (with_reducible exact ih2 _ _ _ _ _ _ _ _ _ _ _ _ _ _ _ _)
   | (with_reducible exact ih3 _ _ _ _ _ _ _ _ _ _ _ _ _ _ _ _ _ _ _ _)
   | (with_reducible exact ih4 _ _ _ _ _ _ _ _ _)
   | (with_reducible exact ih5 _ _ _ _ _ _ _ _ _ _)
   | (with_reducible exact ih6 _ _ _ _ _ _ _ _ _ _ _)
   | (with_reducible exact ih7 _ _ _ _ _ _ _ _ _ _ _)
   | (with_reducible exact spec_table_short.mono _ _ _)
   | (with_reducible exact spec_writer_step.mono _ _ _ _ _ _ _ _)
   | (with_reducible exact LeO.refl _)
   | (with_reducible exact LeO.none _)
   | (with_reducible refine LeO.ite ?_ ?_)
   | (with_reducible refine LeO.bind ?_ (fun _ => ?_))
   | exact ih0 _ _ _ _ _ _ _ _ _ _
   | exact ih1 _ _ _ _ _ _ _ _ _ _ _ _ _
   | exact ih2 _ _ _ _ _ _ _ _ _ _ _ _ _ _ _ _
   | exact ih3 _ _ _ _ _ _ _ _ _ _ _ _ _ _ _ _ _ _ _ _
   | exact ih4 _ _ _ _ _ _ _ _ _
   | exact ih5 _ _ _ _ _ _ _ _ _ _
   | exact ih6 _ _ _ _ _ _ _ _ _ _ _
   | exact ih7 _ _ _ _ _ _ _ _ _ _ _
   | exact spec_table_short.mono _ _ _
   | exact spec_writer_step.mono _ _ _ _ _ _ _ _
   | exact LeO.none _
   | refine LeO.ite ?_ ?_
   | refine LeO.bind ?_ (fun _ => ?_)
  ·intro y0 y1 y2 y3 y4 y5 y6 y7 y8 y9 y10 y11 y12 y13 y14 y15 y16 y17 y18 y19
   unfold spec_SpotBytes.j3
   repeat' first
   | (with_reducible exact ih0 _ _ _ _ _ _ _ _ _ _)
   | (with_reducible exact ih1 _ _ _ _ _ _ _ _ _ _ _ _ _)
   | (with_reducible exact ih2 _ _ _ _ _ _ _ _ _ _ _ _ _ _ _ _)
   | (with_reducible exact ih3 _ _ _ _ _ _ _ _ _ _ _ _ _ _ _ _ _ _ _ _)
   | (with_reducible exact ih4 _ _ _ _ _ _ _ _ _)
   | (with_reducible exact ih5 _ _ _ _ _ _ _ _ _ _)
   | (with_reducible exact ih6 _ _ _ _ _ _ _ _ _ _ _)
   | (with_reducible exact ih7 _ _ _ _ _ _ _ _ _ _ _)
   | (with_reducible exact spec_table_short.mono _ _ _)
   | (with_reducible exact spec_writer_step.mono _ _ _ _ _ _ _ _)
   | (with_reducible exact LeO.refl _)
   | (with_reducible exact LeO.none _)
   | (with_reducible refine LeO.ite ?_ ?_)
   | (with_reducible refine LeO.bind ?_ (fun _ => ?_))
   | exact ih0 _ _ _ _ _ _ _ _ _ _
   | exact ih1 _ _ _ _ _ _ _ _ _ _ _ _ _
   | exact ih2 _ _ _ _ _ _ _ _ _ _ _ _ _ _ _ _
   | exact ih3 _ _ _ _ _ _ _ _ _ _ _ _ _ _ _ _ _ _ _ _
   | exact ih4 _ _ _ _ _ _ _ _ _
   | exact ih5 _ _ _ _ _ _ _ _ _ _
   | exact ih6 _ _ _ _ _ _ _ _ _ _ _
   | exact ih7 _ _ _ _ _ _ _ _ _ _ _
   | exact spec_table_short.mono _ _ _
   | exact spec_writer_step.mono _ _ _ _ _ _ _ _
   | exact LeO.none _
   | refine LeO.ite ?_ ?_
   | refine LeO.bind ?_ (fun _ => ?_)
  ·intro y0 y1 y2 y3 y4 y5 y6 y7 y8
   unfold spec_SpotBytes.l3
   repeat' first
   | (with_reducible exact ih0 _ _ _ _ _ _ _ _ _ _)
   | (with_reducible exact ih1 _ _ _ _ _ _ _ _ _ _ _ _ _)
   | (with_reducible exact ih2 _ _ _ _ _ _ _ _ _ _ _ _ _ _ _ _)
   | (with_reducible exact ih3 _ _ _ _ _ _ _ _ _ _ _ _ _ _ _ _ _ _ _ _)
   | (with_reducible exact ih4 _ _ _ _ _ _ _ _ _)
   | (with_reducible exact ih5 _ _ _ _ _ _ _ _ _ _)
   | (with_reducible exact ih6 _ _ _ _ _ _ _ _ _ _ _)
   | (with_reducible exact ih7 _ _ _ _ _ _ _ _ _ _ _)
   | (with_reducible exact spec_table_short.mono _ _ _)
   | (with_reducible exact spec_writer_step.mono _ _ _ _ _ _ _ _)
   | (with_reducible exact LeO.refl _)
   | (with_reducible exact LeO.none _)
   | (with_reducible refine LeO.ite ?_ ?_)
   | (with_reducible refine LeO.bind ?_ (fun _ => ?_))
   | exact ih0 _ _ _ _ _ _ _ _ _ _
   | exact ih1 _ _ _ _ _ _ _ _ _ _ _ _ _
   | exact ih2 _ _ _ _ _ _ _ _ _ _ _ _ _ _ _ _
   | exact ih3 _ _ _ _ _ _ _ _ _ _ _ _ _ _ _ _ _ _ _ _
   | exact ih4 _ _ _ _ _ _ _ _ _
   | exact ih5 _ _ _ _ _ _ _ _ _ _
   | exact ih6 _ _ _ _ _ _ _ _ _ _ _
   | exact ih7 _ _ _ _ _ _ _ _ _ _ _
   | exact spec_table_short.mono _ _ _
   | exact spec_writer_step.mono _ _ _ _ _ _ _ _
   | exact LeO.none _
   | refine LeO.ite ?_ ?_
   | refine LeO.bind ?_ (fun _ => ?_)
  ·intro y0 y1 y2 y3 y4 y5 y6 y7 y8 y9
   unfold spec_SpotBytes.l4
   repeat' first
   | (with_reducible exact ih0 _ _ _ _ _ _ _ _ _ _)
   | (with_reducible exact ih1 _ _ _ _ _ _ _ _ _ _ _ _ _)
   | (with_reducible exact ih2 _ _ _ _ _ _ _ _ _ _ _ _ _ _ _ _)
   | (with_reducible exact ih3 _ _ _ _ _ _ _ _ _ _ _ _ _ _ _ _ _ _ _ _)
   | (with_reducible exact ih4 _ _ _ _ _ _ _ _ _)
   | (with_reducible exact ih5 _ _ _ _ _ _ _ _ _ _)
   | (with_reducible exact ih6 _ _ _ _ _ _ _ _ _ _ _)
   | (with_reducible exact ih7 _ _ _ _ _ _ _ _ _ _ _)
   | (with_reducible exact spec_table_short.mono _ _ _)
   | (with_reducible exact spec_writer_step.mono _ _ _ _ _ _ _ _)
   | (with_reducible exact LeO.refl _)
   | (with_reducible exact LeO.none _)
   | (with_reducible refine LeO.ite ?_ ?_)
   | (with_reducible refine LeO.bind ?_ (fun _ => ?_))
   | exact ih0 _ _ _ _ _ _ _ _ _ _
   | exact ih1 _ _ _ _ _ _ _ _ _ _ _ _ _
   | exact ih2 _ _ _ _ _ _ _ _ _ _ _ _ _ _ _ _
   | exact ih3 _ _ _ _ _ _ _ _ _ _ _ _ _ _ _ _ _ _ _ _
   | exact ih4 _ _ _ _ _ _ _ _ _
   | exact ih5 _ _ _ _ _ _ _ _ _ _
   | exact ih6 _ _ _ _ _ _ _ _ _ _ _
   | exact ih7 _ _ _ _ _ _ _ _ _ _ _
   | exact spec_table_short.mono _ _ _
   | exact spec_writer_step.mono _ _ _ _ _ _ _ _
   | exact LeO.none _
   | refine LeO.ite ?_ ?_
   | refine LeO.bind ?_ (fun _ => ?_)
  ·intro y0 y1 y2 y3 y4 y5 y6 y7 y8 y9 y10
   unfold spec_SpotBytes.j6
   repeat' first
   | (with_reducible exact ih0 _ _ _ _ _ _ _ _ _ _)
   | (with_reducible exact ih1 _ _ _ _ _ _ _ _ _ _ _ _ _)
   | (with_reducible exact ih2 _ _ _ _ _ _ _ _ _ _ _ _ _ _ _ _)
   | (with_reducible exact ih3 _ _ _ _ _ _ _ _ _ _ _ _ _ _ _ _ _ _ _ _)
   | (with_reducible exact ih4 _ _ _ _ _ _ _ _ _)
   | (with_reducible exact ih5 _ _ _ _ _ _ _ _ _ _)
   | (with_reducible exact ih6 _ _ _ _ _ _ _ _ _ _ _)
   | (with_reducible exact ih7 _ _ _ _ _ _ _ _ _ _ _)
   | (with_reducible exact spec_table_short.mono _ _ _)
   | (with_reducible exact spec_writer_step.mono _ _ _ _ _ _ _ _)
   | (with_reducible exact LeO.refl _)
   | (with_reducible exact LeO.none _)
   | (with_reducible refine LeO.ite ?_ ?_)
   | (with_reducible refine LeO.bind ?_ (fun _ => ?_))
   | exact ih0 _ _ _ _ _ _ _ _ _ _
   | exact ih1 _ _ _ _ _ _ _ _ _ _ _ _ _
   | exact ih2 _ _ _ _ _ _ _ _ _ _ _ _ _ _ _ _
   | exact ih3 _ _ _ _ _ _ _ _ _ _ _ _ _ _ _ _ _ _ _ _
   | exact ih4 _ _ _ _ _ _ _ _ _
   | exact ih5 _ _ _ _ _ _ _ _ _ _
   | exact ih6 _ _ _ _ _ _ _ _ _ _ _
   | exact ih7 _ _ _ _ _ _ _ _ _ _ _
   | exact spec_table_short.mono _ _ _
   | exact spec_writer_step.mono _ _ _ _ _ _ _ _
   | exact LeO.none _
   | refine LeO.ite ?_ ?_
   | refine LeO.bind ?_ (fun _ => ?_)
  ·intro y0 y1 y2 y3 y4 y5 y6 y7 y8 y9 y10
   unfold spec_SpotBytes.j7
   repeat' first
   | (with_reducible exact ih0 _ _ _ _ _ _ _ _ _ _)
   | (with_reducible exact ih1 _ _ _ _ _ _ _ _ _ _ _ _ _)
   | (with_reducible exact ih2 _ _ _ _ _ _ _ _ _ _ _ _ _ _ _ _)
   | (with_reducible exact ih3 _ _ _ _ _ _ _ _ _ _ _ _ _ _ _ _ _ _ _ _)
   | (with_reducible exact ih4 _ _ _ _ _ _ _ _ _)
   | (with_reducible exact ih5 _ _ _ _ _ _ _ _ _ _)
   | (with_reducible exact ih6 _ _ _ _ _ _ _ _ _ _ _)
   | (with_reducible exact ih7 _ _ _ _ _ _ _ _ _ _ _)
   | (with_reducible exact spec_table_short.mono _ _ _)
   | (with_reducible exact spec_writer_step.mono _ _ _ _ _ _ _ _)
   | (with_reducible exact LeO.refl _)
   | (with_reducible exact LeO.none _)
   | (with_reducible refine LeO.ite ?_ ?_)
   | (with_reducible refine LeO.bind ?_ (fun _ => ?_))
   | exact ih0 _ _ _ _ _ _ _ _ _ _
   | exact ih1 _ _ _ _ _ _ _ _ _ _ _ _ _
   | exact ih2 _ _ _ _ _ _ _ _ _ _ _ _ _ _ _ _
   | exact ih3 _ _ _ _ _ _ _ _ _ _ _ _ _ _ _ _ _ _ _ _
   | exact ih4 _ _ _ _ _ _ _ _ _
   | exact ih5 _ _ _ _ _ _ _ _ _ _
   | exact ih6 _ _ _ _ _ _ _ _ _ _ _
   | exact ih7 _ _ _ _ _ _ _ _ _ _ _
   | exact spec_table_short.mono _ _ _
   | exact spec_writer_step.mono _ _ _ _ _ _ _ _
   | exact LeO.none _
   | refine LeO.ite ?_ ?_
   | refine LeO.bind ?_ (fun _ => ?_)
theorem spec_SpotBytes.mono : ∀ a0 a1 a2 a3 a4 a5 k, LeO (spec_SpotBytes.f k a0 a1 a2 a3 a4 a5) (spec_SpotBytes.f (k + 1) a0 a1 a2 a3 a4 a5) := by
 intro a0 a1 a2 a3 a4 a5 k
 obtain ⟨ih0, ih1, ih2, ih3, ih4, ih5, ih6, ih7⟩ := spec_SpotBytes.mono_l k
 unfold spec_SpotBytes.f
 repeat' first
   | (with_reducible exact ih0 _ _ _ _ _ _ _ _ _ _)
   | (with_reducible exact ih1 _ _ _ _ _ _ _ _ _ _ _ _ _)
   | (with_reducible exact ih2 _ _ _ _ _ _ _ _ _ _ _ _ _ _ _ _)
   | (with_reducible exact ih3 _ _ _ _ _ _ _ _ _ _ _ _ _ _ _ _ _ _ _ _)
   | (with_reducible exact ih4 _ _ _ _ _ _ _ _ _)
   | (with_reducible exact ih5 _ _ _ _ _ _ _ _ _ _)
   | (with_reducible exact ih6 _ _ _ _ _ _ _ _ _ _ _)
   | (with_reducible exact ih7 _ _ _ _ _ _ _ _ _ _ _)
   | (with_reducible exact spec_table_short.mono _ _ _)
   | (with_reducible exact spec_writer_step.mono _ _ _ _ _ _ _ _)
   | (with_reducible exact LeO.refl _)
   | (with_reducible exact LeO.none _)
   | (with_reducible refine LeO.ite ?_ ?_)
   | (with_reducible refine LeO.bind ?_ (fun _ => ?_))
   | exact ih0 _ _ _ _ _ _ _ _ _ _
   | exact ih1 _ _ _ _ _ _ _ _ _ _ _ _ _
   | exact ih2 _ _ _ _ _ _ _ _ _ _ _ _ _ _ _ _
   | exact ih3 _ _ _ _ _ _ _ _ _ _ _ _ _ _ _ _ _ _ _ _
   | exact ih4 _ _ _ _ _ _ _ _ _
   | exact ih5 _ _ _ _ _ _ _ _ _ _
   | exact ih6 _ _ _ _ _ _ _ _ _ _ _
   | exact ih7 _ _ _ _ _ _ _ _ _ _ _
   | exact spec_table_short.mono _ _ _
   | exact spec_writer_step.mono _ _ _ _ _ _ _ _
   | exact LeO.none _
   | refine LeO.ite ?_ ?_
   | refine LeO.bind ?_ (fun _ => ?_)

end Go.Proofs.Ytchkmmbedgolbaa.PFnGlyphSpots
