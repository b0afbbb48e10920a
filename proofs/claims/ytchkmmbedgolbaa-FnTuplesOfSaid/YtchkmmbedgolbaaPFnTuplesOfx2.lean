-- Written by a program of this session (xprint) out of the translation; Lean checks it.
import Derived.Test.YtchkmmbedgolbaaPFnTuplesOfx0
import Derived.Test.YtchkmmbedgolbaaPFnTuplesOfx1
namespace Go.Proofs.Ytchkmmbedgolbaa.PFnTuplesOf
open Go.RowKit Go.Proofs.YtchkmmbedgolbaaW.PrintWords Go.Proofs.YtchkmmbedgolbaaW.PrintLast Go.Proofs.YtchkmmbedgolbaaW.PrintMore
attribute [local go_sem] max2_int min2_int max_two min_two max_three min_three max_four min_four   -- for this text's walks alone
set_option linter.unusedVariables false
set_option linter.unusedSimpArgs false
theorem cz7x2 {w : World} {g : Nat} {t : TypeId} {v0 v1 v2 v3 v4 v5 v6 : Value} (h : w.heap[g]? = some (.cells #[v0, v1, v2, v3, v4, v5, v6] t (0, 0))) : w.cell? ⟨g, 0, none⟩ = some v0 ∧ w.cell? ⟨g, 1, none⟩ = some v1 ∧ w.cell? ⟨g, 2, none⟩ = some v2 ∧ w.cell? ⟨g, 3, none⟩ = some v3 ∧ w.cell? ⟨g, 4, none⟩ = some v4 ∧ w.cell? ⟨g, 5, none⟩ = some v5 ∧ w.cell? ⟨g, 6, none⟩ = some v6 := ⟨(blk_cell h 0).trans rfl, (blk_cell h 1).trans rfl, (blk_cell h 2).trans rfl, (blk_cell h 3).trans rfl, (blk_cell h 4).trans rfl, (blk_cell h 5).trans rfl, (blk_cell h 6).trans rfl⟩
theorem fz7x2 {w : World} {g : Nat} {t : TypeId} {cs : Array Value} (h : w.heap[g]? = some (.cells cs t (0, 0))) : w.frozen? ⟨g, 0, none⟩ = false ∧ w.frozen? ⟨g, 1, none⟩ = false ∧ w.frozen? ⟨g, 2, none⟩ = false ∧ w.frozen? ⟨g, 3, none⟩ = false ∧ w.frozen? ⟨g, 4, none⟩ = false ∧ w.frozen? ⟨g, 5, none⟩ = false ∧ w.frozen? ⟨g, 6, none⟩ = false := ⟨blk_frozen h 0, blk_frozen h 1, blk_frozen h 2, blk_frozen h 3, blk_frozen h 4, blk_frozen h 5, blk_frozen h 6⟩
theorem z2_6 {p : Prop} (h : p := by have := HJ3.out; first | omega | exact Nat.le_refl _) : p := h
theorem z2_5 {p : Prop} (h : p := by have := HJ3.out; have := HJ7.out; have := HK3.out; first | omega | exact Nat.le_refl _) : p := h
theorem z2_4 {p : Prop} (h : p := by have := HJ3.out; have := HJ7.out; have := HK3.out; have := HJ30.out; have := HK5.out; have := HJ43.out; first | omega | exact Nat.le_refl _) : p := h
theorem z2_3 {p : Prop} (h : p := by first | rfl | (simp; done) | (simp [*]; done)) : p := h
theorem z2_2 {p : Prop} (h : p := by (with_reducible repeat (first | apply b1_ | apply b2_ | apply b3_)); exact BK107.out) : p := h
theorem z2_1 {p : Prop} (h : p := by first | (with_reducible assumption) | assumption) : p := h
theorem z2_0 {p : Prop} (h : p := by repeat (first | (with_reducible first | exact HB.out | apply below_alloc | apply pw_below_drewN | apply below_drew1 | refine below_set ?_ GE107.out) | exact HB.out)) : p := h

mutual
def tMd.j0 : Nat → Int → Int → Int → List Int → Bool → List Int → List Int → List Int → List Int → List Int → Option (Bool)
 | 0, _, _, _, _, _, _, _, _, _, _ => none
 | k + 1, x1, x2, x7, x108000, x108001, x108002, x108003, x108004, x108005, x108006 => if (x108000.length : Int) = x2 then (if (x108005.length : Int) = x7 then (if (x108006.length : Int) = x7 then ((fRi.f k x108004 x1).bind fun t108 => (tMd.j1 k x2 x7 (!t108) x108000 x108001 x108002 x108003 x108004 x108005 x108006)) else (tMd.j1 k x2 x7 true x108000 x108001 x108002 x108003 x108004 x108005 x108006)) else (tMd.j1 k x2 x7 true x108000 x108001 x108002 x108003 x108004 x108005 x108006)) else (tMd.j1 k x2 x7 true x108000 x108001 x108002 x108003 x108004 x108005 x108006)
def tMd.j1 : Nat → Int → Int → Bool → List Int → Bool → List Int → List Int → List Int → List Int → List Int → Option (Bool)
 | 0, _, _, _, _, _, _, _, _, _, _ => none
 | k + 1, x2, x7, x42, x108000, x108001, x108002, x108003, x108004, x108005, x108006 => if x42 = true then (some false) else (tMd.l0 k x2 x7 0 x108000 x108001 x108002 x108003 x108004 x108005 x108006)
def tMd.l0 : Nat → Int → Int → Int → List Int → Bool → List Int → List Int → List Int → List Int → List Int → Option (Bool)
 | 0, _, _, _, _, _, _, _, _, _, _ => none
 | k + 1, x2, x43, x44, x108000, x108001, x108002, x108003, x108004, x108005, x108006 => if x44 < x43 then (if 0 ≤ x44 then (if x44 < (x108005.length : Int) then (if (rd x108005 x44) < (-16000) then (tMd.j3 k x2 x43 x44 true x108000 x108001 x108002 x108003 x108004 x108005 x108006) else (if (rd x108005 x44) > 16000 then (tMd.j3 k x2 x43 x44 true x108000 x108001 x108002 x108003 x108004 x108005 x108006) else (if x44 < (x108006.length : Int) then (if (rd x108006 x44) < (-16000) then (tMd.j3 k x2 x43 x44 true x108000 x108001 x108002 x108003 x108004 x108005 x108006) else (tMd.j3 k x2 x43 x44 (decide ((rd x108006 x44) > 16000)) x108000 x108001 x108002 x108003 x108004 x108005 x108006)) else (none)))) else (none)) else (none)) else (if x108001 = true then (if (x108002.length : Int) = x2 then (if (x108003.length : Int) = x2 then (tMd.j4 k false x108000 x108001 x108002 x108003 x108004 x108005 x108006) else (tMd.j4 k true x108000 x108001 x108002 x108003 x108004 x108005 x108006)) else (tMd.j4 k true x108000 x108001 x108002 x108003 x108004 x108005 x108006)) else (tMd.j4 k (decide ((wrap64 ((x108002.length : Int) + (x108003.length : Int))) > 0)) x108000 x108001 x108002 x108003 x108004 x108005 x108006))
def tMd.j3 : Nat → Int → Int → Int → Bool → List Int → Bool → List Int → List Int → List Int → List Int → List Int → Option (Bool)
 | 0, _, _, _, _, _, _, _, _, _, _, _ => none
 | k + 1, x2, x43, x44, x76, x108000, x108001, x108002, x108003, x108004, x108005, x108006 => if x76 = true then (some false) else (tMd.l0 k x2 x43 (wrap64 (x44 + 1)) x108000 x108001 x108002 x108003 x108004 x108005 x108006)
def tMd.j4 : Nat → Bool → List Int → Bool → List Int → List Int → List Int → List Int → List Int → Option (Bool)
 | 0, _, _, _, _, _, _, _, _ => none
 | k + 1, x108, x108000, x108001, x108002, x108003, x108004, x108005, x108006 => if x108 = true then (some false) else (tMd.l1 k x108000 (x108000.length : Int) 0 x108000 x108001 x108002 x108003 x108004 x108005 x108006)
def tMd.l1 : Nat → List Int → Int → Int → List Int → Bool → List Int → List Int → List Int → List Int → List Int → Option (Bool)
 | 0, _, _, _, _, _, _, _, _, _, _ => none
 | k + 1, x110, x111, x112, x108000, x108001, x108002, x108003, x108004, x108005, x108006 => if x112 < x111 then (if 0 ≤ x112 then (if x112 < (x110.length : Int) then (if (rd x110 x112) < (-16384) then (tMd.j6 k x112 (rd x110 x112) x110 x111 x112 true x108000 x108001 x108002 x108003 x108004 x108005 x108006) else (tMd.j6 k x112 (rd x110 x112) x110 x111 x112 (decide ((rd x110 x112) > 16384)) x108000 x108001 x108002 x108003 x108004 x108005 x108006)) else (none)) else (none)) else (some true)
def tMd.j6 : Nat → Int → Int → List Int → Int → Int → Bool → List Int → Bool → List Int → List Int → List Int → List Int → List Int → Option (Bool)
 | 0, _, _, _, _, _, _, _, _, _, _, _, _, _ => none
 | k + 1, x9, x10, x110, x111, x112, x122, x108000, x108001, x108002, x108003, x108004, x108005, x108006 => if x122 = true then (some false) else (if x108001 = true then (if 0 ≤ x9 then (if x9 < (x108002.length : Int) then (if (rd x108002 x9) < (-16384) then (tMd.j7 k x110 x111 x112 true x108000 x108001 x108002 x108003 x108004 x108005 x108006) else (if x9 < (x108003.length : Int) then (if (rd x108003 x9) > 16384 then (tMd.j7 k x110 x111 x112 true x108000 x108001 x108002 x108003 x108004 x108005 x108006) else (if (rd x108002 x9) > x10 then (tMd.j7 k x110 x111 x112 true x108000 x108001 x108002 x108003 x108004 x108005 x108006) else (if x10 > (rd x108003 x9) then (tMd.j7 k x110 x111 x112 true x108000 x108001 x108002 x108003 x108004 x108005 x108006) else (if (rd x108002 x9) < 0 then (tMd.j7 k x110 x111 x112 (decide ((rd x108003 x9) > 0)) x108000 x108001 x108002 x108003 x108004 x108005 x108006) else (tMd.j7 k x110 x111 x112 false x108000 x108001 x108002 x108003 x108004 x108005 x108006))))) else (none))) else (none)) else (none)) else (tMd.j7 k x110 x111 x112 false x108000 x108001 x108002 x108003 x108004 x108005 x108006))
def tMd.j7 : Nat → List Int → Int → Int → Bool → List Int → Bool → List Int → List Int → List Int → List Int → List Int → Option (Bool)
 | 0, _, _, _, _, _, _, _, _, _, _, _ => none
 | k + 1, x110, x111, x112, x174, x108000, x108001, x108002, x108003, x108004, x108005, x108006 => if x174 = true then (some false) else (tMd.l1 k x110 x111 (wrap64 (x112 + 1)) x108000 x108001 x108002 x108003 x108004 x108005 x108006)
end
def tMd.f (k : Nat) (l0_0 : List Int) (a0_1 : Bool) (l0_2 : List Int) (l0_3 : List Int) (l0_4 : List Int) (l0_5 : List Int) (l0_6 : List Int) (a1 : Int) (a2 : Int) : Option (Bool) := if (l0_4.length : Int) = 0 then (tMd.j0 k a1 a2 a1 l0_0 a0_1 l0_2 l0_3 l0_4 l0_5 l0_6) else (tMd.j0 k a1 a2 (l0_4.length : Int) l0_0 a0_1 l0_2 l0_3 l0_4 l0_5 l0_6)
theorem tMd.mono_l : ∀ k, (∀ y0 y1 y2 y3 y4 y5 y6 y7 y8 y9, LeO (tMd.j0 k y0 y1 y2 y3 y4 y5 y6 y7 y8 y9) (tMd.j0 (k + 1) y0 y1 y2 y3 y4 y5 y6 y7 y8 y9)) ∧ (∀ y0 y1 y2 y3 y4 y5 y6 y7 y8 y9, LeO (tMd.j1 k y0 y1 y2 y3 y4 y5 y6 y7 y8 y9) (tMd.j1 (k + 1) y0 y1 y2 y3 y4 y5 y6 y7 y8 y9)) ∧ (∀ y0 y1 y2 y3 y4 y5 y6 y7 y8 y9, LeO (tMd.l0 k y0 y1 y2 y3 y4 y5 y6 y7 y8 y9) (tMd.l0 (k + 1) y0 y1 y2 y3 y4 y5 y6 y7 y8 y9)) ∧ (∀ y0 y1 y2 y3 y4 y5 y6 y7 y8 y9 y10, LeO (tMd.j3 k y0 y1 y2 y3 y4 y5 y6 y7 y8 y9 y10) (tMd.j3 (k + 1) y0 y1 y2 y3 y4 y5 y6 y7 y8 y9 y10)) ∧ (∀ y0 y1 y2 y3 y4 y5 y6 y7, LeO (tMd.j4 k y0 y1 y2 y3 y4 y5 y6 y7) (tMd.j4 (k + 1) y0 y1 y2 y3 y4 y5 y6 y7)) ∧ (∀ y0 y1 y2 y3 y4 y5 y6 y7 y8 y9, LeO (tMd.l1 k y0 y1 y2 y3 y4 y5 y6 y7 y8 y9) (tMd.l1 (k + 1) y0 y1 y2 y3 y4 y5 y6 y7 y8 y9)) ∧ (∀ y0 y1 y2 y3 y4 y5 y6 y7 y8 y9 y10 y11 y12, LeO (tMd.j6 k y0 y1 y2 y3 y4 y5 y6 y7 y8 y9 y10 y11 y12) (tMd.j6 (k + 1) y0 y1 y2 y3 y4 y5 y6 y7 y8 y9 y10 y11 y12)) ∧ (∀ y0 y1 y2 y3 y4 y5 y6 y7 y8 y9 y10, LeO (tMd.j7 k y0 y1 y2 y3 y4 y5 y6 y7 y8 y9 y10) (tMd.j7 (k + 1) y0 y1 y2 y3 y4 y5 y6 y7 y8 y9 y10))
 | 0 => ⟨fun _ _ _ _ _ _ _ _ _ _ r h => by simp [tMd.j0] at h, fun _ _ _ _ _ _ _ _ _ _ r h => by simp [tMd.j1] at h, fun _ _ _ _ _ _ _ _ _ _ r h => by simp [tMd.l0] at h, fun _ _ _ _ _ _ _ _ _ _ _ r h => by simp [tMd.j3] at h, fun _ _ _ _ _ _ _ _ r h => by simp [tMd.j4] at h, fun _ _ _ _ _ _ _ _ _ _ r h => by simp [tMd.l1] at h, fun _ _ _ _ _ _ _ _ _ _ _ _ _ r h => by simp [tMd.j6] at h, fun _ _ _ _ _ _ _ _ _ _ _ r h => by simp [tMd.j7] at h⟩
 | k + 1 => by
  obtain ⟨ih0, ih1, ih2, ih3, ih4, ih5, ih6, ih7⟩ := tMd.mono_l k
  refine ⟨?_, ?_, ?_, ?_, ?_, ?_, ?_, ?_⟩
  all_goals intros
  all_goals first | unfold tMd.j0 | unfold tMd.j1 | unfold tMd.l0 | unfold tMd.j3 | unfold tMd.j4 | unfold tMd.l1 | unfold tMd.j6 | unfold tMd.j7
  all_goals repeat' first
  | (with_reducible exact ih0 _ _ _ _ _ _ _ _ _ _)
  | (with_reducible exact ih1 _ _ _ _ _ _ _ _ _ _)
  | (with_reducible exact ih2 _ _ _ _ _ _ _ _ _ _)
  | (with_reducible exact ih3 _ _ _ _ _ _ _ _ _ _ _)
  | (with_reducible exact ih4 _ _ _ _ _ _ _ _)
  | (with_reducible exact ih5 _ _ _ _ _ _ _ _ _ _)
  | (with_reducible exact ih6 _ _ _ _ _ _ _ _ _ _ _ _ _)
  | (with_reducible exact ih7 _ _ _ _ _ _ _ _ _ _ _)
  | (with_reducible exact fRi.mono _ _ _)
  | (with_reducible exact LeO.refl _)
  | (with_reducible exact LeO.none _)
  | (with_reducible refine LeO.ite ?_ ?_)
  | (with_reducible refine LeO.bind ?_ (fun _ => ?_))
theorem tMd.mono : ∀ a0 a1 a2 a3 a4 a5 a6 a7 a8 k, LeO (tMd.f k a0 a1 a2 a3 a4 a5 a6 a7 a8) (tMd.f (k + 1) a0 a1 a2 a3 a4 a5 a6 a7 a8) := by
 intro a0 a1 a2 a3 a4 a5 a6 a7 a8 k
 obtain ⟨ih0, ih1, ih2, ih3, ih4, ih5, ih6, ih7⟩ := tMd.mono_l k
 unfold tMd.f
 repeat' first
   | (with_reducible exact ih0 _ _ _ _ _ _ _ _ _ _)
   | (with_reducible exact ih1 _ _ _ _ _ _ _ _ _ _)
   | (with_reducible exact ih2 _ _ _ _ _ _ _ _ _ _)
   | (with_reducible exact ih3 _ _ _ _ _ _ _ _ _ _ _)
   | (with_reducible exact ih4 _ _ _ _ _ _ _ _)
   | (with_reducible exact ih5 _ _ _ _ _ _ _ _ _ _)
   | (with_reducible exact ih6 _ _ _ _ _ _ _ _ _ _ _ _ _)
   | (with_reducible exact ih7 _ _ _ _ _ _ _ _ _ _ _)
   | (with_reducible exact fRi.mono _ _ _)
   | (with_reducible exact LeO.refl _)
   | (with_reducible exact LeO.none _)
   | (with_reducible refine LeO.ite ?_ ?_)
   | (with_reducible refine LeO.bind ?_ (fun _ => ?_))
set_option maxHeartbeats 8000000 in
set_option maxRecDepth 100000 in
theorem tMd.calls (k : Nat) (A0_0 : Option Addr) (c0_0 : Nat) (l0_0 : List Int) (a0_1 : Bool) (A0_2 : Option Addr) (c0_2 : Nat) (l0_2 : List Int) (A0_3 : Option Addr) (c0_3 : Nat) (l0_3 : List Int) (A0_4 : Option Addr) (c0_4 : Nat) (l0_4 : List Int) (A0_5 : Option Addr) (c0_5 : Nat) (l0_5 : List Int) (A0_6 : Option Addr) (c0_6 : Nat) (l0_6 : List Int) (a1 : Int) (a2 : Int) (r : Bool) (w : World) (hr0_0 : Kd.C (Kd.int .i64) w A0_0 l0_0.length l0_0) (hc0_0 : l0_0.length ≤ c0_0) (hr0_2 : Kd.C (Kd.int .i64) w A0_2 l0_2.length l0_2) (hc0_2 : l0_2.length ≤ c0_2) (hr0_3 : Kd.C (Kd.int .i64) w A0_3 l0_3.length l0_3) (hc0_3 : l0_3.length ≤ c0_3) (hr0_4 : Kd.C (Kd.int .i64) w A0_4 l0_4.length l0_4) (hc0_4 : l0_4.length ≤ c0_4) (hr0_5 : Kd.C (Kd.int .i64) w A0_5 l0_5.length l0_5) (hc0_5 : l0_5.length ≤ c0_5) (hr0_6 : Kd.C (Kd.int .i64) w A0_6 l0_6.length l0_6) (hc0_6 : l0_6.length ≤ c0_6) (h : tMd.f k l0_0 a0_1 l0_2 l0_3 l0_4 l0_5 l0_6 a1 a2 = some r) :
  Calls Try.prog 44 #[.agg #[.slice A0_0 l0_0.length c0_0, .bool a0_1, .slice A0_2 l0_2.length c0_2, .slice A0_3 l0_3.length c0_3, .slice A0_4 l0_4.length c0_4, .slice A0_5 l0_5.length c0_5, .slice A0_6 l0_6.length c0_6], .int .i64 a1, .int .i64 a2] w fun e w' => e = .returned (.bool r) ∧ Below w.heap.size w w' := by
 have hu62 := Try.underlying62
 have HR0_0 := Aside0.mk hr0_0
 have HC0_0 := Aside0.mk hc0_0
 clear hr0_0 hc0_0
 have HR0_2 := Aside0.mk hr0_2
 have HC0_2 := Aside0.mk hc0_2
 clear hr0_2 hc0_2
 have HR0_3 := Aside0.mk hr0_3
 have HC0_3 := Aside0.mk hc0_3
 clear hr0_3 hc0_3
 have HR0_4 := Aside0.mk hr0_4
 have HC0_4 := Aside0.mk hc0_4
 clear hr0_4 hc0_4
 have HR0_5 := Aside0.mk hr0_5
 have HC0_5 := Aside0.mk hc0_5
 clear hr0_5 hc0_5
 have HR0_6 := Aside0.mk hr0_6
 have HC0_6 := Aside0.mk hc0_6
 clear hr0_6 hc0_6
 have HB := Aside0.mk (Below.refl w.heap.size w)
 have H : (if (l0_4.length : Int) = 0 then (tMd.j0 k a1 a2 a1 l0_0 a0_1 l0_2 l0_3 l0_4 l0_5 l0_6) else (tMd.j0 k a1 a2 (l0_4.length : Int) l0_0 a0_1 l0_2 l0_3 l0_4 l0_5 l0_6)) = some r := h
 clear h
 have HC4 := Aside0.mk H
 clear H
 go_enter Try.func44, Try.ntmps44
 go_upto_if 15 with (first | ((with_reducible refine gate_dst (N := 3) rfl ?_); (try (refine gate_guard (by rfl) ?_; dsimp only)); refine box_event ?hg (N := 3) ?hd (cs := #[.slice A0_0 l0_0.length c0_0, .bool a0_1, .slice A0_2 l0_2.length c0_2, .slice A0_3 l0_3.length c0_3, .slice A0_4 l0_4.length c0_4, .slice A0_5 l0_5.length c0_5, .slice A0_6 l0_6.length c0_6]) (t := 62) ?hr ?_; (case hd => rfl); (case hg => rfl); (case hr => first | (go_simp; done) | (go_simp; rfl)); intro gb107 hg w5 hbox hb; have n0_ := Aside0.mk (below_step z2_0 hb); have n1_ := Aside0.mk (hbox); have n2_ := Aside0.mk ((by rw [hg]; exact (below_size z2_0) : w.heap.size ≤ gb107)); have n3_ := Aside0.mk ((by rw [hg]; exact (below_size z2_0) : w.heap.size ≤ gb107)); clear HB; have HB := n0_; have BK107 := n1_; have GW107 := n2_; have GE107 := n3_; clear n0_ n1_ n2_ n3_; clear hb hbox hg; obtain ⟨hcz6_0, hcz6_1, hcz6_2, hcz6_3, hcz6_4, hcz6_5, hcz6_6⟩ := cz7x2 BK107.out; obtain ⟨hfz6_0, hfz6_1, hfz6_2, hfz6_3, hfz6_4, hfz6_5, hfz6_6⟩ := fz7x2 BK107.out))
 (try simp only [Act.put, L1_, L2_, L3_])
 go_cut [7] (fun v7 wc => ∃ (kq : Nat) (x7_3 : Int), v7 = .int .i64 x7_3 ∧ Aside0 (tMd.j0 kq a1 a2 x7_3 l0_0 a0_1 l0_2 l0_3 l0_4 l0_5 l0_6 = some r) ∧ Aside0 (kq ≤ k) ∧ Aside0 (wc.heap[gb107]? = some (.cells #[(.slice A0_0 l0_0.length c0_0), .bool a0_1, (.slice A0_2 l0_2.length c0_2), (.slice A0_3 l0_3.length c0_3), (.slice A0_4 l0_4.length c0_4), (.slice A0_5 l0_5.length c0_5), (.slice A0_6 l0_6.length c0_6)] 62 (0, 0))) ∧ Aside0 (Below w.heap.size w wc))
 case first =>
  have H := HC4.out
  clear HC4
  by_cases c7 : (l0_4.length : Int) = 0
  ·rw [if_pos c7] at H
   have c7b0 : ((l0_4.length : Int) == 0) = true := beq_iff_eq.mpr c7
   have c7b1 : ((l0_4.length : Int) != 0) = false := bne_eq_false_iff_eq.mpr c7
   clear c7
   (first | rw [c7b0] | (simp only [i64_w, i32_w]; rw [c7b0]) | skip)
   have H' := Aside0.mk H
   clear H
   go_wp2
   go_meet
   case rel => exact ⟨_, (a1), z2_3, H', ⟨by first | omega | exact Nat.le_refl _⟩, ⟨z2_2⟩, ⟨z2_0⟩⟩
  ·rw [if_neg c7] at H
   have c7b0 : ((l0_4.length : Int) == 0) = false := beq_eq_false_iff_ne.mpr c7
   have c7b1 : ((l0_4.length : Int) != 0) = true := bne_iff_ne.mpr c7
   have c7b2 : ¬ (l0_4 = []) := fun h_ => c7 (by rw [h_]; rfl)
   (first | rw [c7b0] | (simp only [i64_w, i32_w]; rw [c7b0]) | skip)
   have H' := Aside0.mk H
   clear H
   go_wp2
   go_meet
   case rel => exact ⟨_, ((l0_4.length : Int)), z2_3, H', ⟨by first | omega | exact Nat.le_refl _⟩, ⟨z2_2⟩, ⟨z2_0⟩⟩
 case rest =>
  clear HC4
  clear hcz6_0 hcz6_1 hcz6_2 hcz6_3 hcz6_4 hcz6_5 hcz6_6 hfz6_0 hfz6_1 hfz6_2 hfz6_3 hfz6_4 hfz6_5 hfz6_6
  obtain ⟨kq, x7_3, rfl, HA, HJ3, BK107, HB⟩ := hcut
  cases kq with
  | zero => exact absurd HA.out (by simp [tMd.j0])
  | succ kj3 =>
   have H := HA.out
   clear HA
   simp only [tMd.j0] at H
   have HC8 := Aside0.mk H
   clear H
   go_upto_region 4 with (fail)
   go_cut [42] (fun v42 wc => ∃ (kq : Nat) (x42_7 : Bool), v42 = .bool x42_7 ∧ Aside0 (tMd.j1 kq a2 x7_3 x42_7 l0_0 a0_1 l0_2 l0_3 l0_4 l0_5 l0_6 = some r) ∧ Aside0 (kq ≤ kj3) ∧ Aside0 (wc.heap[gb107]? = some (.cells #[(.slice A0_0 l0_0.length c0_0), .bool a0_1, (.slice A0_2 l0_2.length c0_2), (.slice A0_3 l0_3.length c0_3), (.slice A0_4 l0_4.length c0_4), (.slice A0_5 l0_5.length c0_5), (.slice A0_6 l0_6.length c0_6)] 62 (0, 0))) ∧ Aside0 (Below w.heap.size w wc))
   case first =>
    have H := HC8.out
    clear HC8
    by_cases c9 : (l0_0.length : Int) = a2
    ·rw [if_pos c9] at H
     have c9b0 : ((l0_0.length : Int) == a2) = true := beq_iff_eq.mpr c9
     have c9b1 : ((l0_0.length : Int) != a2) = false := bne_eq_false_iff_eq.mpr c9
     clear c9
     (first | rw [c9b0] | (simp only [i64_w, i32_w]; rw [c9b0]) | skip)
     by_cases c10 : (l0_5.length : Int) = x7_3
     ·rw [if_pos c10] at H
      have c10b0 : ((l0_5.length : Int) == x7_3) = true := beq_iff_eq.mpr c10
      have c10b1 : ((l0_5.length : Int) != x7_3) = false := bne_eq_false_iff_eq.mpr c10
      clear c10
      by_cases c11 : (l0_6.length : Int) = x7_3
      ·rw [if_pos c11] at H
       have c11b0 : ((l0_6.length : Int) == x7_3) = true := beq_iff_eq.mpr c11
       have c11b1 : ((l0_6.length : Int) != x7_3) = false := bne_eq_false_iff_eq.mpr c11
       clear c11
       replace H := Option.bind_eq_some_iff.mp H
       obtain ⟨t108, A120, H⟩ := H
       replace H : (tMd.j1 kj3 a2 x7_3 (!t108) l0_0 a0_1 l0_2 l0_3 l0_4 l0_5 l0_6) = some r := H
       have A12 := Aside0.mk A120
       clear A120
       have H' := Aside0.mk H
       clear H
       obtain ⟨hcz13_0, hcz13_1, hcz13_2, hcz13_3, hcz13_4, hcz13_5, hcz13_6⟩ := cz7x2 BK107.out
       obtain ⟨hfz13_0, hfz13_1, hfz13_2, hfz13_3, hfz13_4, hfz13_5, hfz13_6⟩ := fz7x2 BK107.out
       go_wp2_with (first | (go_at_call 59; (with_reducible refine (fRi.calls kj3 _ _ l0_4 a1 t108 _ ?side1 ?side2 A12.out).mono ?_); (case side1 => repeat (first | exact (Kd.C_below HR0_4.out HB.out) | (with_reducible refine Kd.C_alloc ?_ _) | (with_reducible refine Kd.C_drewN ?_ _) | (with_reducible refine Kd.C_drew ?_))); (case side2 => exact HC0_4.out); rintro e w' ⟨rfl, ⟨nd, rfl⟩⟩))
       go_meet
       case rel => exact ⟨_, (!t108), z2_3, H', ⟨z2_6⟩, ⟨z2_2⟩, ⟨z2_0⟩⟩
      ·rw [if_neg c11] at H
       have c11b0 : ((l0_6.length : Int) == x7_3) = false := beq_eq_false_iff_ne.mpr c11
       have c11b1 : ((l0_6.length : Int) != x7_3) = true := bne_iff_ne.mpr c11
       have H' := Aside0.mk H
       clear H
       obtain ⟨hcz14_0, hcz14_1, hcz14_2, hcz14_3, hcz14_4, hcz14_5, hcz14_6⟩ := cz7x2 BK107.out
       obtain ⟨hfz14_0, hfz14_1, hfz14_2, hfz14_3, hfz14_4, hfz14_5, hfz14_6⟩ := fz7x2 BK107.out
       go_wp2
       go_meet
       case rel => exact ⟨_, (true), z2_3, H', ⟨z2_6⟩, ⟨z2_2⟩, ⟨z2_0⟩⟩
     ·rw [if_neg c10] at H
      have c10b0 : ((l0_5.length : Int) == x7_3) = false := beq_eq_false_iff_ne.mpr c10
      have c10b1 : ((l0_5.length : Int) != x7_3) = true := bne_iff_ne.mpr c10
      have H' := Aside0.mk H
      clear H
      obtain ⟨hcz15_0, hcz15_1, hcz15_2, hcz15_3, hcz15_4, hcz15_5, hcz15_6⟩ := cz7x2 BK107.out
      obtain ⟨hfz15_0, hfz15_1, hfz15_2, hfz15_3, hfz15_4, hfz15_5, hfz15_6⟩ := fz7x2 BK107.out
      go_wp2
      go_meet
      case rel => exact ⟨_, (true), z2_3, H', ⟨z2_6⟩, ⟨z2_2⟩, ⟨z2_0⟩⟩
    ·rw [if_neg c9] at H
     have c9b0 : ((l0_0.length : Int) == a2) = false := beq_eq_false_iff_ne.mpr c9
     have c9b1 : ((l0_0.length : Int) != a2) = true := bne_iff_ne.mpr c9
     (first | rw [c9b0] | (simp only [i64_w, i32_w]; rw [c9b0]) | skip)
     have H' := Aside0.mk H
     clear H
     obtain ⟨hcz16_0, hcz16_1, hcz16_2, hcz16_3, hcz16_4, hcz16_5, hcz16_6⟩ := cz7x2 BK107.out
     obtain ⟨hfz16_0, hfz16_1, hfz16_2, hfz16_3, hfz16_4, hfz16_5, hfz16_6⟩ := fz7x2 BK107.out
     go_wp2
     go_meet
     case rel => exact ⟨_, (true), z2_3, H', ⟨z2_6⟩, ⟨z2_2⟩, ⟨z2_0⟩⟩
   case rest =>
    clear HC8
    obtain ⟨kq, x42_7, rfl, HA, HJ7, BK107, HB⟩ := hcut
    cases kq with
    | zero => exact absurd HA.out (by simp [tMd.j1])
    | succ kj7 =>
     have H := HA.out
     clear HA
     simp only [tMd.j1] at H
     by_cases c17 : x42_7 = true
     ·subst c17
      have H1 : (some false) = some r := by rw [if_pos rfl] at H; exact H
      clear H
      have H := H1
      clear H1
      obtain rfl := Option.some.inj H
      go_wp2
      go_ret
      exact ⟨by first | rfl | (simp [errW_none, errW_some] <;> rfl) | (simp [*, errW_none, errW_some] <;> rfl), by repeat (first | (with_reducible first | exact HB.out | apply below_alloc | apply pw_below_drewN | apply below_drew1 | refine below_set ?_ GE107.out) | exact HB.out)⟩
     ·replace c17 := Bool.eq_false_iff.mpr c17
      subst c17
      have H1 : (tMd.l0 kj7 a2 x7_3 0 l0_0 a0_1 l0_2 l0_3 l0_4 l0_5 l0_6) = some r := by rw [if_neg (show ¬ (false = true) by decide)] at H; exact H
      clear H
      have H := H1
      clear H1
      have H' := Aside0.mk H
      clear H
      go_wp2
      go_loopg [44] kj7 (fun kq v44 w' => ∃ (x44_3 : Int), v44 = .int .i64 x44_3 ∧ Aside0 (tMd.l0 kq a2 x7_3 x44_3 l0_0 a0_1 l0_2 l0_3 l0_4 l0_5 l0_6 = some r) ∧ Aside0 (kq ≤ kj7) ∧ Aside0 (w'.heap[gb107]? = some (.cells #[(.slice A0_0 l0_0.length c0_0), .bool a0_1, (.slice A0_2 l0_2.length c0_2), (.slice A0_3 l0_3.length c0_3), (.slice A0_4 l0_4.length c0_4), (.slice A0_5 l0_5.length c0_5), (.slice A0_6 l0_6.length c0_6)] 62 (0, 0))) ∧ Aside0 (Below w.heap.size w w'))
      case atStart => exact ⟨(0), z2_3, H', ⟨Nat.le_refl _⟩, ⟨z2_2⟩, ⟨z2_0⟩⟩
      case round =>
       clear H'
       obtain ⟨x44_3, rfl, HA, HK3, BK107, HB⟩ := hrel
       cases gk with
       | zero => exact absurd HA.out (by simp [tMd.l0])
       | succ k3 =>
        have H := HA.out
        clear HA
        simp only [tMd.l0] at H
        by_cases c18 : x44_3 < x7_3
        ·rw [if_pos c18] at H
         have c18b0 : decide (x44_3 < x7_3) = true := decide_eq_true c18
         clear c18
         have HC19 := Aside0.mk H
         clear H
         go_upto_region 9 with (fail)
         go_cut [76] (fun v76 wc => ∃ (kq : Nat) (x76_18 : Bool), v76 = .bool x76_18 ∧ Aside0 (tMd.j3 kq a2 x7_3 x44_3 x76_18 l0_0 a0_1 l0_2 l0_3 l0_4 l0_5 l0_6 = some r) ∧ Aside0 (kq ≤ k3) ∧ Aside0 (wc.heap[gb107]? = some (.cells #[(.slice A0_0 l0_0.length c0_0), .bool a0_1, (.slice A0_2 l0_2.length c0_2), (.slice A0_3 l0_3.length c0_3), (.slice A0_4 l0_4.length c0_4), (.slice A0_5 l0_5.length c0_5), (.slice A0_6 l0_6.length c0_6)] 62 (0, 0))) ∧ Aside0 (Below w.heap.size w wc))
         case first =>
          have H := HC19.out
          clear HC19
          by_cases c20 : 0 ≤ x44_3
          rotate_left
          ·rw [if_neg c20] at H
           exact absurd H (by simp)
          rw [if_pos c20] at H
          have c20b0 : decide (0 ≤ x44_3) = true := decide_eq_true c20
          clear c20
          (first | rw [c20b0] | (simp only [i64_w, i32_w]; rw [c20b0]) | skip)
          by_cases c21 : x44_3 < (l0_5.length : Int)
          rotate_left
          ·rw [if_neg c21] at H
           exact absurd H (by simp)
          rw [if_pos c21] at H
          have c21b0 : decide (x44_3 < (l0_5.length : Int)) = true := decide_eq_true c21
          clear c21
          by_cases c22 : (rd l0_5 x44_3) < (-16000)
          ·rw [if_pos c22] at H
           have c22b0 : decide ((rd l0_5 x44_3) < (-16000)) = true := decide_eq_true c22
           clear c22
           have H' := Aside0.mk H
           clear H
           obtain ⟨hcz23_0, hcz23_1, hcz23_2, hcz23_3, hcz23_4, hcz23_5, hcz23_6⟩ := cz7x2 BK107.out
           obtain ⟨hfz23_0, hfz23_1, hfz23_2, hfz23_3, hfz23_4, hfz23_5, hfz23_6⟩ := fz7x2 BK107.out
           have p109 : 0 ≤ (x44_3 : Int) := of_decide_eq_true z2_1
           have q109 : x44_3 < (l0_5.length : Int) := of_decide_eq_true z2_1
           obtain ⟨ad109, e109, hx109_0⟩ := Kd.at_int HR0_5.out x44_3 p109 q109
           cases e109
           replace hx109_0 := (HB.out.cell (World.block_lt_of_cell? w _ hx109_0)).trans hx109_0
           replace p109 := eq_true p109
           replace q109 := eq_true q109
           go_wp2
           go_meet
           case rel => exact ⟨_, (true), z2_3, H', ⟨z2_5⟩, ⟨z2_2⟩, ⟨z2_0⟩⟩
          ·rw [if_neg c22] at H
           have c22b0 : decide ((rd l0_5 x44_3) < (-16000)) = false := decide_eq_false c22
           clear c22
           by_cases c24 : (rd l0_5 x44_3) > 16000
           ·rw [if_pos c24] at H
            have c24b0 : decide (16000 < (rd l0_5 x44_3)) = true := decide_eq_true c24
            clear c24
            have H' := Aside0.mk H
            clear H
            obtain ⟨hcz25_0, hcz25_1, hcz25_2, hcz25_3, hcz25_4, hcz25_5, hcz25_6⟩ := cz7x2 BK107.out
            obtain ⟨hfz25_0, hfz25_1, hfz25_2, hfz25_3, hfz25_4, hfz25_5, hfz25_6⟩ := fz7x2 BK107.out
            have p109 : 0 ≤ (x44_3 : Int) := of_decide_eq_true z2_1
            have q109 : x44_3 < (l0_5.length : Int) := of_decide_eq_true z2_1
            obtain ⟨ad109, e109, hx109_0⟩ := Kd.at_int HR0_5.out x44_3 p109 q109
            cases e109
            replace hx109_0 := (HB.out.cell (World.block_lt_of_cell? w _ hx109_0)).trans hx109_0
            replace p109 := eq_true p109
            replace q109 := eq_true q109
            have p110 : 0 ≤ (x44_3 : Int) := of_decide_eq_true z2_1
            have q110 : x44_3 < (l0_5.length : Int) := of_decide_eq_true z2_1
            obtain ⟨ad110, e110, hx110_0⟩ := Kd.at_int HR0_5.out x44_3 p110 q110
            obtain rfl : ad109 = ad110 := (by injection e110)
            replace hx110_0 := (HB.out.cell (World.block_lt_of_cell? w _ hx110_0)).trans hx110_0
            replace p110 := eq_true p110
            replace q110 := eq_true q110
            go_wp2
            go_meet
            case rel => exact ⟨_, (true), z2_3, H', ⟨z2_5⟩, ⟨z2_2⟩, ⟨z2_0⟩⟩
           ·rw [if_neg c24] at H
            have c24b0 : decide (16000 < (rd l0_5 x44_3)) = false := decide_eq_false c24
            clear c24
            by_cases c26 : x44_3 < (l0_6.length : Int)
            rotate_left
            ·rw [if_neg c26] at H
             exact absurd H (by simp)
            rw [if_pos c26] at H
            have c26b0 : decide (x44_3 < (l0_6.length : Int)) = true := decide_eq_true c26
            clear c26
            by_cases c27 : (rd l0_6 x44_3) < (-16000)
            ·rw [if_pos c27] at H
             have c27b0 : decide ((rd l0_6 x44_3) < (-16000)) = true := decide_eq_true c27
             clear c27
             have H' := Aside0.mk H
             clear H
             obtain ⟨hcz28_0, hcz28_1, hcz28_2, hcz28_3, hcz28_4, hcz28_5, hcz28_6⟩ := cz7x2 BK107.out
             obtain ⟨hfz28_0, hfz28_1, hfz28_2, hfz28_3, hfz28_4, hfz28_5, hfz28_6⟩ := fz7x2 BK107.out
             have p109 : 0 ≤ (x44_3 : Int) := of_decide_eq_true z2_1
             have q109 : x44_3 < (l0_5.length : Int) := of_decide_eq_true z2_1
             obtain ⟨ad109, e109, hx109_0⟩ := Kd.at_int HR0_5.out x44_3 p109 q109
             cases e109
             replace hx109_0 := (HB.out.cell (World.block_lt_of_cell? w _ hx109_0)).trans hx109_0
             replace p109 := eq_true p109
             replace q109 := eq_true q109
             have p110 : 0 ≤ (x44_3 : Int) := of_decide_eq_true z2_1
             have q110 : x44_3 < (l0_5.length : Int) := of_decide_eq_true z2_1
             obtain ⟨ad110, e110, hx110_0⟩ := Kd.at_int HR0_5.out x44_3 p110 q110
             obtain rfl : ad109 = ad110 := (by injection e110)
             replace hx110_0 := (HB.out.cell (World.block_lt_of_cell? w _ hx110_0)).trans hx110_0
             replace p110 := eq_true p110
             replace q110 := eq_true q110
             have p111 : 0 ≤ (x44_3 : Int) := of_decide_eq_true z2_1
             have q111 : x44_3 < (l0_6.length : Int) := of_decide_eq_true z2_1
             obtain ⟨ad111, e111, hx111_0⟩ := Kd.at_int HR0_6.out x44_3 p111 q111
             cases e111
             replace hx111_0 := (HB.out.cell (World.block_lt_of_cell? w _ hx111_0)).trans hx111_0
             replace p111 := eq_true p111
             replace q111 := eq_true q111
             go_wp2
             go_meet
             case rel => exact ⟨_, (true), z2_3, H', ⟨z2_5⟩, ⟨z2_2⟩, ⟨z2_0⟩⟩
            ·rw [if_neg c27] at H
             have c27b0 : decide ((rd l0_6 x44_3) < (-16000)) = false := decide_eq_false c27
             clear c27
             have H' := Aside0.mk H
             clear H
             obtain ⟨hcz29_0, hcz29_1, hcz29_2, hcz29_3, hcz29_4, hcz29_5, hcz29_6⟩ := cz7x2 BK107.out
             obtain ⟨hfz29_0, hfz29_1, hfz29_2, hfz29_3, hfz29_4, hfz29_5, hfz29_6⟩ := fz7x2 BK107.out
             have p109 : 0 ≤ (x44_3 : Int) := of_decide_eq_true z2_1
             have q109 : x44_3 < (l0_5.length : Int) := of_decide_eq_true z2_1
             obtain ⟨ad109, e109, hx109_0⟩ := Kd.at_int HR0_5.out x44_3 p109 q109
             cases e109
             replace hx109_0 := (HB.out.cell (World.block_lt_of_cell? w _ hx109_0)).trans hx109_0
             replace p109 := eq_true p109
             replace q109 := eq_true q109
             have p110 : 0 ≤ (x44_3 : Int) := of_decide_eq_true z2_1
             have q110 : x44_3 < (l0_5.length : Int) := of_decide_eq_true z2_1
             obtain ⟨ad110, e110, hx110_0⟩ := Kd.at_int HR0_5.out x44_3 p110 q110
             obtain rfl : ad109 = ad110 := (by injection e110)
             replace hx110_0 := (HB.out.cell (World.block_lt_of_cell? w _ hx110_0)).trans hx110_0
             replace p110 := eq_true p110
             replace q110 := eq_true q110
             have p111 : 0 ≤ (x44_3 : Int) := of_decide_eq_true z2_1
             have q111 : x44_3 < (l0_6.length : Int) := of_decide_eq_true z2_1
             obtain ⟨ad111, e111, hx111_0⟩ := Kd.at_int HR0_6.out x44_3 p111 q111
             cases e111
             replace hx111_0 := (HB.out.cell (World.block_lt_of_cell? w _ hx111_0)).trans hx111_0
             replace p111 := eq_true p111
             replace q111 := eq_true q111
             have p112 : 0 ≤ (x44_3 : Int) := of_decide_eq_true z2_1
             have q112 : x44_3 < (l0_6.length : Int) := of_decide_eq_true z2_1
             obtain ⟨ad112, e112, hx112_0⟩ := Kd.at_int HR0_6.out x44_3 p112 q112
             obtain rfl : ad111 = ad112 := (by injection e112)
             replace hx112_0 := (HB.out.cell (World.block_lt_of_cell? w _ hx112_0)).trans hx112_0
             replace p112 := eq_true p112
             replace q112 := eq_true q112
             go_wp2
             go_meet
             case rel => exact ⟨_, (decide ((rd l0_6 x44_3) > 16000)), z2_3, H', ⟨z2_5⟩, ⟨z2_2⟩, ⟨z2_0⟩⟩
         case rest =>
          clear HC19
          clear c18b0
          obtain ⟨kq, x76_18, rfl, HA, HJ18, BK107, HB⟩ := hcut
          cases kq with
          | zero => exact absurd HA.out (by simp [tMd.j3])
          | succ kj18 =>
           have H := HA.out
           clear HA
           simp only [tMd.j3] at H
           by_cases c30 : x76_18 = true
           ·subst c30
            have H1 : (some false) = some r := by rw [if_pos rfl] at H; exact H
            clear H
            have H := H1
            clear H1
            obtain rfl := Option.some.inj H
            go_wp2
            go_ret
            exact ⟨by first | rfl | (simp [errW_none, errW_some] <;> rfl) | (simp [*, errW_none, errW_some] <;> rfl), by repeat (first | (with_reducible first | exact HB.out | apply below_alloc | apply pw_below_drewN | apply below_drew1 | refine below_set ?_ GE107.out) | exact HB.out)⟩
           ·replace c30 := Bool.eq_false_iff.mpr c30
            subst c30
            have H1 : (tMd.l0 kj18 a2 x7_3 (wrap64 (x44_3 + 1)) l0_0 a0_1 l0_2 l0_3 l0_4 l0_5 l0_6) = some r := by rw [if_neg (show ¬ (false = true) by decide)] at H; exact H
            clear H
            have H := H1
            clear H1
            have H' := Aside0.mk H
            clear H
            go_wp2
            go_roundg kj18
            case measure => have := HJ3.out; have := HJ7.out; have := HK3.out; have := HJ18.out; omega
            case rel => exact ⟨(wrap64 (x44_3 + 1)), z2_3, H', ⟨by have := HJ3.out; have := HJ7.out; have := HK3.out; have := HJ18.out; omega⟩, ⟨z2_2⟩, ⟨z2_0⟩⟩
        ·rw [if_neg c18] at H
         have c18b0 : decide (x44_3 < x7_3) = false := decide_eq_false c18
         clear c18
         have HC31 := Aside0.mk H
         clear H
         go_upto_region 12 with (fail)
         go_cut [108] (fun v108 wc => ∃ (kq : Nat) (x108_30 : Bool), v108 = .bool x108_30 ∧ Aside0 (tMd.j4 kq x108_30 l0_0 a0_1 l0_2 l0_3 l0_4 l0_5 l0_6 = some r) ∧ Aside0 (kq ≤ k3) ∧ Aside0 (wc.heap[gb107]? = some (.cells #[(.slice A0_0 l0_0.length c0_0), .bool a0_1, (.slice A0_2 l0_2.length c0_2), (.slice A0_3 l0_3.length c0_3), (.slice A0_4 l0_4.length c0_4), (.slice A0_5 l0_5.length c0_5), (.slice A0_6 l0_6.length c0_6)] 62 (0, 0))) ∧ Aside0 (Below w.heap.size w wc))
         case first =>
          have H := HC31.out
          clear HC31
          by_cases c32 : a0_1 = true
          ·subst c32
           have H1 : (if (l0_2.length : Int) = a2 then (if (l0_3.length : Int) = a2 then (tMd.j4 k3 false l0_0 true l0_2 l0_3 l0_4 l0_5 l0_6) else (tMd.j4 k3 true l0_0 true l0_2 l0_3 l0_4 l0_5 l0_6)) else (tMd.j4 k3 true l0_0 true l0_2 l0_3 l0_4 l0_5 l0_6)) = some r := by rw [if_pos rfl] at H; exact H
           clear H
           have H := H1
           clear H1
           by_cases c33 : (l0_2.length : Int) = a2
           ·rw [if_pos c33] at H
            have c33b0 : ((l0_2.length : Int) == a2) = true := beq_iff_eq.mpr c33
            have c33b1 : ((l0_2.length : Int) != a2) = false := bne_eq_false_iff_eq.mpr c33
            clear c33
            (first | rw [c33b0] | (simp only [i64_w, i32_w]; rw [c33b0]) | skip)
            by_cases c34 : (l0_3.length : Int) = a2
            ·rw [if_pos c34] at H
             have c34b0 : ((l0_3.length : Int) == a2) = true := beq_iff_eq.mpr c34
             have c34b1 : ((l0_3.length : Int) != a2) = false := bne_eq_false_iff_eq.mpr c34
             clear c34
             have H' := Aside0.mk H
             clear H
             obtain ⟨hcz35_0, hcz35_1, hcz35_2, hcz35_3, hcz35_4, hcz35_5, hcz35_6⟩ := cz7x2 BK107.out
             obtain ⟨hfz35_0, hfz35_1, hfz35_2, hfz35_3, hfz35_4, hfz35_5, hfz35_6⟩ := fz7x2 BK107.out
             go_wp2
             go_meet
             case rel => exact ⟨_, (false), z2_3, H', ⟨z2_5⟩, ⟨z2_2⟩, ⟨z2_0⟩⟩
            ·rw [if_neg c34] at H
             have c34b0 : ((l0_3.length : Int) == a2) = false := beq_eq_false_iff_ne.mpr c34
             have c34b1 : ((l0_3.length : Int) != a2) = true := bne_iff_ne.mpr c34
             have H' := Aside0.mk H
             clear H
             obtain ⟨hcz36_0, hcz36_1, hcz36_2, hcz36_3, hcz36_4, hcz36_5, hcz36_6⟩ := cz7x2 BK107.out
             obtain ⟨hfz36_0, hfz36_1, hfz36_2, hfz36_3, hfz36_4, hfz36_5, hfz36_6⟩ := fz7x2 BK107.out
             go_wp2
             go_meet
             case rel => exact ⟨_, (true), z2_3, H', ⟨z2_5⟩, ⟨z2_2⟩, ⟨z2_0⟩⟩
           ·rw [if_neg c33] at H
            have c33b0 : ((l0_2.length : Int) == a2) = false := beq_eq_false_iff_ne.mpr c33
            have c33b1 : ((l0_2.length : Int) != a2) = true := bne_iff_ne.mpr c33
            (first | rw [c33b0] | (simp only [i64_w, i32_w]; rw [c33b0]) | skip)
            have H' := Aside0.mk H
            clear H
            obtain ⟨hcz37_0, hcz37_1, hcz37_2, hcz37_3, hcz37_4, hcz37_5, hcz37_6⟩ := cz7x2 BK107.out
            obtain ⟨hfz37_0, hfz37_1, hfz37_2, hfz37_3, hfz37_4, hfz37_5, hfz37_6⟩ := fz7x2 BK107.out
            go_wp2
            go_meet
            case rel => exact ⟨_, (true), z2_3, H', ⟨z2_5⟩, ⟨z2_2⟩, ⟨z2_0⟩⟩
          ·replace c32 := Bool.eq_false_iff.mpr c32
           subst c32
           have H1 : (tMd.j4 k3 (decide ((wrap64 ((l0_2.length : Int) + (l0_3.length : Int))) > 0)) l0_0 false l0_2 l0_3 l0_4 l0_5 l0_6) = some r := by rw [if_neg (show ¬ (false = true) by decide)] at H; exact H
           clear H
           have H := H1
           clear H1
           have H' := Aside0.mk H
           clear H
           obtain ⟨hcz38_0, hcz38_1, hcz38_2, hcz38_3, hcz38_4, hcz38_5, hcz38_6⟩ := cz7x2 BK107.out
           obtain ⟨hfz38_0, hfz38_1, hfz38_2, hfz38_3, hfz38_4, hfz38_5, hfz38_6⟩ := fz7x2 BK107.out
           go_wp2
           go_meet
           case rel => exact ⟨_, (decide ((wrap64 ((l0_2.length : Int) + (l0_3.length : Int))) > 0)), z2_3, H', ⟨z2_5⟩, ⟨z2_2⟩, ⟨z2_0⟩⟩
         case rest =>
          clear HC31
          clear c18b0
          obtain ⟨kq, x108_30, rfl, HA, HJ30, BK107, HB⟩ := hcut
          cases kq with
          | zero => exact absurd HA.out (by simp [tMd.j4])
          | succ kj30 =>
           have H := HA.out
           clear HA
           simp only [tMd.j4] at H
           by_cases c39 : x108_30 = true
           ·subst c39
            have H1 : (some false) = some r := by rw [if_pos rfl] at H; exact H
            clear H
            have H := H1
            clear H1
            obtain rfl := Option.some.inj H
            go_wp2
            go_ret
            exact ⟨by first | rfl | (simp [errW_none, errW_some] <;> rfl) | (simp [*, errW_none, errW_some] <;> rfl), by repeat (first | (with_reducible first | exact HB.out | apply below_alloc | apply pw_below_drewN | apply below_drew1 | refine below_set ?_ GE107.out) | exact HB.out)⟩
           ·replace c39 := Bool.eq_false_iff.mpr c39
            subst c39
            have H1 : (tMd.l1 kj30 l0_0 (l0_0.length : Int) 0 l0_0 a0_1 l0_2 l0_3 l0_4 l0_5 l0_6) = some r := by rw [if_neg (show ¬ (false = true) by decide)] at H; exact H
            clear H
            have H := H1
            clear H1
            have H' := Aside0.mk H
            clear H
            obtain ⟨hcz40_0, hcz40_1, hcz40_2, hcz40_3, hcz40_4, hcz40_5, hcz40_6⟩ := cz7x2 BK107.out
            obtain ⟨hfz40_0, hfz40_1, hfz40_2, hfz40_3, hfz40_4, hfz40_5, hfz40_6⟩ := fz7x2 BK107.out
            go_wp2
            go_loopg [112] kj30 (fun kq v112 w' => ∃ (x112_5 : Int), v112 = .int .i64 x112_5 ∧ Aside0 (tMd.l1 kq l0_0 (l0_0.length : Int) x112_5 l0_0 a0_1 l0_2 l0_3 l0_4 l0_5 l0_6 = some r) ∧ Aside0 (kq ≤ kj30) ∧ Aside0 (w'.heap[gb107]? = some (.cells #[(.slice A0_0 l0_0.length c0_0), .bool a0_1, (.slice A0_2 l0_2.length c0_2), (.slice A0_3 l0_3.length c0_3), (.slice A0_4 l0_4.length c0_4), (.slice A0_5 l0_5.length c0_5), (.slice A0_6 l0_6.length c0_6)] 62 (0, 0))) ∧ Aside0 (Below w.heap.size w w'))
            case atStart => exact ⟨(0), z2_3, H', ⟨Nat.le_refl _⟩, ⟨z2_2⟩, ⟨z2_0⟩⟩
            case round =>
             clear H'
             clear hcz40_0 hcz40_1 hcz40_2 hcz40_3 hcz40_4 hcz40_5 hcz40_6 hfz40_0 hfz40_1 hfz40_2 hfz40_3 hfz40_4 hfz40_5 hfz40_6
             obtain ⟨x112_5, rfl, HA, HK5, BK107, HB⟩ := hrel
             cases gk with
             | zero => exact absurd HA.out (by simp [tMd.l1])
             | succ k5 =>
              have H := HA.out
              clear HA
              simp only [tMd.l1] at H
              by_cases c41 : x112_5 < (l0_0.length : Int)
              ·rw [if_pos c41] at H
               have c41b0 : decide (x112_5 < (l0_0.length : Int)) = true := decide_eq_true c41
               clear c41
               by_cases c42 : 0 ≤ x112_5
               rotate_left
               ·rw [if_neg c42] at H
                exact absurd H (by simp)
               rw [if_pos c42] at H
               have c42b0 : decide (0 ≤ x112_5) = true := decide_eq_true c42
               clear c42
               by_cases c43 : x112_5 < (l0_0.length : Int)
               rotate_left
               ·rw [if_neg c43] at H
                exact absurd H (by simp)
               rw [if_pos c43] at H
               have c43b0 : decide (x112_5 < (l0_0.length : Int)) = true := decide_eq_true c43
               clear c43
               have HC44 := Aside0.mk H
               clear H
               have p113 : 0 ≤ (x112_5 : Int) := of_decide_eq_true z2_1
               have q113 : x112_5 < (l0_0.length : Int) := of_decide_eq_true z2_1
               obtain ⟨ad113, e113, hx113_0⟩ := Kd.at_int HR0_0.out x112_5 p113 q113
               cases e113
               replace hx113_0 := (HB.out.cell (World.block_lt_of_cell? w _ hx113_0)).trans hx113_0
               replace p113 := eq_true p113
               replace q113 := eq_true q113
               go_upto_region 17 with (fail)
               go_cut [122] (fun v122 wc => ∃ (kq : Nat) (x122_43 : Bool), v122 = .bool x122_43 ∧ Aside0 (tMd.j6 kq x112_5 (rd l0_0 x112_5) l0_0 (l0_0.length : Int) x112_5 x122_43 l0_0 a0_1 l0_2 l0_3 l0_4 l0_5 l0_6 = some r) ∧ Aside0 (kq ≤ k5) ∧ Aside0 (wc.heap[gb107]? = some (.cells #[(.slice (some ad113) l0_0.length c0_0), .bool a0_1, (.slice A0_2 l0_2.length c0_2), (.slice A0_3 l0_3.length c0_3), (.slice A0_4 l0_4.length c0_4), (.slice A0_5 l0_5.length c0_5), (.slice A0_6 l0_6.length c0_6)] 62 (0, 0))) ∧ Aside0 (Below w.heap.size w wc))
               case first =>
                have H := HC44.out
                clear HC44
                by_cases c45 : (rd l0_0 x112_5) < (-16384)
                ·rw [if_pos c45] at H
                 have c45b0 : decide ((rd l0_0 x112_5) < (-16384)) = true := decide_eq_true c45
                 clear c45
                 (first | rw [c45b0] | (simp only [i64_w, i32_w]; rw [c45b0]) | skip)
                 have H' := Aside0.mk H
                 clear H
                 go_wp2
                 go_meet
                 case rel => exact ⟨_, (true), z2_3, H', ⟨by have := HJ3.out; have := HJ7.out; have := HK3.out; have := HJ30.out; have := HK5.out; first | omega | exact Nat.le_refl _⟩, ⟨z2_2⟩, ⟨z2_0⟩⟩
                ·rw [if_neg c45] at H
                 have c45b0 : decide ((rd l0_0 x112_5) < (-16384)) = false := decide_eq_false c45
                 clear c45
                 (first | rw [c45b0] | (simp only [i64_w, i32_w]; rw [c45b0]) | skip)
                 have H' := Aside0.mk H
                 clear H
                 go_wp2
                 go_meet
                 case rel => exact ⟨_, (decide ((rd l0_0 x112_5) > 16384)), z2_3, H', ⟨by have := HJ3.out; have := HJ7.out; have := HK3.out; have := HJ30.out; have := HK5.out; first | omega | exact Nat.le_refl _⟩, ⟨z2_2⟩, ⟨z2_0⟩⟩
               case rest =>
                clear HC44
                clear c41b0 c42b0 c43b0 hx113_0 p113 q113
                obtain ⟨kq, x122_43, rfl, HA, HJ43, BK107, HB⟩ := hcut
                cases kq with
                | zero => exact absurd HA.out (by simp [tMd.j6])
                | succ kj43 =>
                 have H := HA.out
                 clear HA
                 simp only [tMd.j6] at H
                 by_cases c46 : x122_43 = true
                 ·subst c46
                  have H1 : (some false) = some r := by rw [if_pos rfl] at H; exact H
                  clear H
                  have H := H1
                  clear H1
                  obtain rfl := Option.some.inj H
                  go_wp2
                  go_ret
                  exact ⟨by first | rfl | (simp [errW_none, errW_some] <;> rfl) | (simp [*, errW_none, errW_some] <;> rfl), by repeat (first | (with_reducible first | exact HB.out | apply below_alloc | apply pw_below_drewN | apply below_drew1 | refine below_set ?_ GE107.out) | exact HB.out)⟩
                 ·replace c46 := Bool.eq_false_iff.mpr c46
                  subst c46
                  have H1 : (if a0_1 = true then (if 0 ≤ x112_5 then (if x112_5 < (l0_2.length : Int) then (if (rd l0_2 x112_5) < (-16384) then (tMd.j7 kj43 l0_0 (l0_0.length : Int) x112_5 true l0_0 a0_1 l0_2 l0_3 l0_4 l0_5 l0_6) else (if x112_5 < (l0_3.length : Int) then (if (rd l0_3 x112_5) > 16384 then (tMd.j7 kj43 l0_0 (l0_0.length : Int) x112_5 true l0_0 a0_1 l0_2 l0_3 l0_4 l0_5 l0_6) else (if (rd l0_2 x112_5) > (rd l0_0 x112_5) then (tMd.j7 kj43 l0_0 (l0_0.length : Int) x112_5 true l0_0 a0_1 l0_2 l0_3 l0_4 l0_5 l0_6) else (if (rd l0_0 x112_5) > (rd l0_3 x112_5) then (tMd.j7 kj43 l0_0 (l0_0.length : Int) x112_5 true l0_0 a0_1 l0_2 l0_3 l0_4 l0_5 l0_6) else (if (rd l0_2 x112_5) < 0 then (tMd.j7 kj43 l0_0 (l0_0.length : Int) x112_5 (decide ((rd l0_3 x112_5) > 0)) l0_0 a0_1 l0_2 l0_3 l0_4 l0_5 l0_6) else (tMd.j7 kj43 l0_0 (l0_0.length : Int) x112_5 false l0_0 a0_1 l0_2 l0_3 l0_4 l0_5 l0_6))))) else (none))) else (none)) else (none)) else (tMd.j7 kj43 l0_0 (l0_0.length : Int) x112_5 false l0_0 a0_1 l0_2 l0_3 l0_4 l0_5 l0_6)) = some r := by rw [if_neg (show ¬ (false = true) by decide)] at H; exact H
                  clear H
                  have H := H1
                  clear H1
                  have HC47 := Aside0.mk H
                  clear H
                  go_upto_region 19 with (fail)
                  go_cut [174] (fun v174 wc => ∃ (kq : Nat) (x174_46 : Bool), v174 = .bool x174_46 ∧ Aside0 (tMd.j7 kq l0_0 (l0_0.length : Int) x112_5 x174_46 l0_0 a0_1 l0_2 l0_3 l0_4 l0_5 l0_6 = some r) ∧ Aside0 (kq ≤ kj43) ∧ Aside0 (wc.heap[gb107]? = some (.cells #[(.slice (some ad113) l0_0.length c0_0), .bool a0_1, (.slice A0_2 l0_2.length c0_2), (.slice A0_3 l0_3.length c0_3), (.slice A0_4 l0_4.length c0_4), (.slice A0_5 l0_5.length c0_5), (.slice A0_6 l0_6.length c0_6)] 62 (0, 0))) ∧ Aside0 (Below w.heap.size w wc))
                  case first =>
                   have H := HC47.out
                   clear HC47
                   by_cases c48 : a0_1 = true
                   ·subst c48
                    have H1 : (if 0 ≤ x112_5 then (if x112_5 < (l0_2.length : Int) then (if (rd l0_2 x112_5) < (-16384) then (tMd.j7 kj43 l0_0 (l0_0.length : Int) x112_5 true l0_0 true l0_2 l0_3 l0_4 l0_5 l0_6) else (if x112_5 < (l0_3.length : Int) then (if (rd l0_3 x112_5) > 16384 then (tMd.j7 kj43 l0_0 (l0_0.length : Int) x112_5 true l0_0 true l0_2 l0_3 l0_4 l0_5 l0_6) else (if (rd l0_2 x112_5) > (rd l0_0 x112_5) then (tMd.j7 kj43 l0_0 (l0_0.length : Int) x112_5 true l0_0 true l0_2 l0_3 l0_4 l0_5 l0_6) else (if (rd l0_0 x112_5) > (rd l0_3 x112_5) then (tMd.j7 kj43 l0_0 (l0_0.length : Int) x112_5 true l0_0 true l0_2 l0_3 l0_4 l0_5 l0_6) else (if (rd l0_2 x112_5) < 0 then (tMd.j7 kj43 l0_0 (l0_0.length : Int) x112_5 (decide ((rd l0_3 x112_5) > 0)) l0_0 true l0_2 l0_3 l0_4 l0_5 l0_6) else (tMd.j7 kj43 l0_0 (l0_0.length : Int) x112_5 false l0_0 true l0_2 l0_3 l0_4 l0_5 l0_6))))) else (none))) else (none)) else (none)) = some r := by rw [if_pos rfl] at H; exact H
                    clear H
                    have H := H1
                    clear H1
                    by_cases c49 : 0 ≤ x112_5
                    rotate_left
                    ·rw [if_neg c49] at H
                     exact absurd H (by simp)
                    rw [if_pos c49] at H
                    have c49b0 : decide (0 ≤ x112_5) = true := decide_eq_true c49
                    clear c49
                    (first | rw [c49b0] | (simp only [i64_w, i32_w]; rw [c49b0]) | skip)
                    by_cases c50 : x112_5 < (l0_2.length : Int)
                    rotate_left
                    ·rw [if_neg c50] at H
                     exact absurd H (by simp)
                    rw [if_pos c50] at H
                    have c50b0 : decide (x112_5 < (l0_2.length : Int)) = true := decide_eq_true c50
                    clear c50
                    by_cases c51 : (rd l0_2 x112_5) < (-16384)
                    ·rw [if_pos c51] at H
                     have c51b0 : decide ((rd l0_2 x112_5) < (-16384)) = true := decide_eq_true c51
                     clear c51
                     have H' := Aside0.mk H
                     clear H
                     obtain ⟨hcz52_0, hcz52_1, hcz52_2, hcz52_3, hcz52_4, hcz52_5, hcz52_6⟩ := cz7x2 BK107.out
                     obtain ⟨hfz52_0, hfz52_1, hfz52_2, hfz52_3, hfz52_4, hfz52_5, hfz52_6⟩ := fz7x2 BK107.out
                     have p114 : 0 ≤ (x112_5 : Int) := of_decide_eq_true z2_1
                     have q114 : x112_5 < (l0_2.length : Int) := of_decide_eq_true z2_1
                     obtain ⟨ad114, e114, hx114_0⟩ := Kd.at_int HR0_2.out x112_5 p114 q114
                     cases e114
                     replace hx114_0 := (HB.out.cell (World.block_lt_of_cell? w _ hx114_0)).trans hx114_0
                     replace p114 := eq_true p114
                     replace q114 := eq_true q114
                     go_wp2
                     go_meet
                     case rel => exact ⟨_, (true), z2_3, H', ⟨z2_4⟩, ⟨z2_2⟩, ⟨z2_0⟩⟩
                    ·rw [if_neg c51] at H
                     have c51b0 : decide ((rd l0_2 x112_5) < (-16384)) = false := decide_eq_false c51
                     clear c51
                     by_cases c53 : x112_5 < (l0_3.length : Int)
                     rotate_left
                     ·rw [if_neg c53] at H
                      exact absurd H (by simp)
                     rw [if_pos c53] at H
                     have c53b0 : decide (x112_5 < (l0_3.length : Int)) = true := decide_eq_true c53
                     clear c53
                     by_cases c54 : (rd l0_3 x112_5) > 16384
                     ·rw [if_pos c54] at H
                      have c54b0 : decide (16384 < (rd l0_3 x112_5)) = true := decide_eq_true c54
                      clear c54
                      have H' := Aside0.mk H
                      clear H
                      obtain ⟨hcz55_0, hcz55_1, hcz55_2, hcz55_3, hcz55_4, hcz55_5, hcz55_6⟩ := cz7x2 BK107.out
                      obtain ⟨hfz55_0, hfz55_1, hfz55_2, hfz55_3, hfz55_4, hfz55_5, hfz55_6⟩ := fz7x2 BK107.out
                      have p114 : 0 ≤ (x112_5 : Int) := of_decide_eq_true z2_1
                      have q114 : x112_5 < (l0_2.length : Int) := of_decide_eq_true z2_1
                      obtain ⟨ad114, e114, hx114_0⟩ := Kd.at_int HR0_2.out x112_5 p114 q114
                      cases e114
                      replace hx114_0 := (HB.out.cell (World.block_lt_of_cell? w _ hx114_0)).trans hx114_0
                      replace p114 := eq_true p114
                      replace q114 := eq_true q114
                      have p115 : 0 ≤ (x112_5 : Int) := of_decide_eq_true z2_1
                      have q115 : x112_5 < (l0_3.length : Int) := of_decide_eq_true z2_1
                      obtain ⟨ad115, e115, hx115_0⟩ := Kd.at_int HR0_3.out x112_5 p115 q115
                      cases e115
                      replace hx115_0 := (HB.out.cell (World.block_lt_of_cell? w _ hx115_0)).trans hx115_0
                      replace p115 := eq_true p115
                      replace q115 := eq_true q115
                      go_wp2
                      go_meet
                      case rel => exact ⟨_, (true), z2_3, H', ⟨z2_4⟩, ⟨z2_2⟩, ⟨z2_0⟩⟩
                     ·rw [if_neg c54] at H
                      have c54b0 : decide (16384 < (rd l0_3 x112_5)) = false := decide_eq_false c54
                      clear c54
                      by_cases c56 : (rd l0_2 x112_5) > (rd l0_0 x112_5)
                      ·rw [if_pos c56] at H
                       have c56b0 : decide ((rd l0_0 x112_5) < (rd l0_2 x112_5)) = true := decide_eq_true c56
                       clear c56
                       have H' := Aside0.mk H
                       clear H
                       obtain ⟨hcz57_0, hcz57_1, hcz57_2, hcz57_3, hcz57_4, hcz57_5, hcz57_6⟩ := cz7x2 BK107.out
                       obtain ⟨hfz57_0, hfz57_1, hfz57_2, hfz57_3, hfz57_4, hfz57_5, hfz57_6⟩ := fz7x2 BK107.out
                       have p114 : 0 ≤ (x112_5 : Int) := of_decide_eq_true z2_1
                       have q114 : x112_5 < (l0_2.length : Int) := of_decide_eq_true z2_1
                       obtain ⟨ad114, e114, hx114_0⟩ := Kd.at_int HR0_2.out x112_5 p114 q114
                       cases e114
                       replace hx114_0 := (HB.out.cell (World.block_lt_of_cell? w _ hx114_0)).trans hx114_0
                       replace p114 := eq_true p114
                       replace q114 := eq_true q114
                       have p115 : 0 ≤ (x112_5 : Int) := of_decide_eq_true z2_1
                       have q115 : x112_5 < (l0_3.length : Int) := of_decide_eq_true z2_1
                       obtain ⟨ad115, e115, hx115_0⟩ := Kd.at_int HR0_3.out x112_5 p115 q115
                       cases e115
                       replace hx115_0 := (HB.out.cell (World.block_lt_of_cell? w _ hx115_0)).trans hx115_0
                       replace p115 := eq_true p115
                       replace q115 := eq_true q115
                       have p116 : 0 ≤ (x112_5 : Int) := of_decide_eq_true z2_1
                       have q116 : x112_5 < (l0_2.length : Int) := of_decide_eq_true z2_1
                       obtain ⟨ad116, e116, hx116_0⟩ := Kd.at_int HR0_2.out x112_5 p116 q116
                       obtain rfl : ad114 = ad116 := (by injection e116)
                       replace hx116_0 := (HB.out.cell (World.block_lt_of_cell? w _ hx116_0)).trans hx116_0
                       replace p116 := eq_true p116
                       replace q116 := eq_true q116
                       go_wp2
                       go_meet
                       case rel => exact ⟨_, (true), z2_3, H', ⟨z2_4⟩, ⟨z2_2⟩, ⟨z2_0⟩⟩
                      ·rw [if_neg c56] at H
                       have c56b0 : decide ((rd l0_0 x112_5) < (rd l0_2 x112_5)) = false := decide_eq_false c56
                       clear c56
                       by_cases c58 : (rd l0_0 x112_5) > (rd l0_3 x112_5)
                       ·rw [if_pos c58] at H
                        have c58b0 : decide ((rd l0_3 x112_5) < (rd l0_0 x112_5)) = true := decide_eq_true c58
                        clear c58
                        have H' := Aside0.mk H
                        clear H
                        obtain ⟨hcz59_0, hcz59_1, hcz59_2, hcz59_3, hcz59_4, hcz59_5, hcz59_6⟩ := cz7x2 BK107.out
                        obtain ⟨hfz59_0, hfz59_1, hfz59_2, hfz59_3, hfz59_4, hfz59_5, hfz59_6⟩ := fz7x2 BK107.out
                        have p114 : 0 ≤ (x112_5 : Int) := of_decide_eq_true z2_1
                        have q114 : x112_5 < (l0_2.length : Int) := of_decide_eq_true z2_1
                        obtain ⟨ad114, e114, hx114_0⟩ := Kd.at_int HR0_2.out x112_5 p114 q114
                        cases e114
                        replace hx114_0 := (HB.out.cell (World.block_lt_of_cell? w _ hx114_0)).trans hx114_0
                        replace p114 := eq_true p114
                        replace q114 := eq_true q114
                        have p115 : 0 ≤ (x112_5 : Int) := of_decide_eq_true z2_1
                        have q115 : x112_5 < (l0_3.length : Int) := of_decide_eq_true z2_1
                        obtain ⟨ad115, e115, hx115_0⟩ := Kd.at_int HR0_3.out x112_5 p115 q115
                        cases e115
                        replace hx115_0 := (HB.out.cell (World.block_lt_of_cell? w _ hx115_0)).trans hx115_0
                        replace p115 := eq_true p115
                        replace q115 := eq_true q115
                        have p116 : 0 ≤ (x112_5 : Int) := of_decide_eq_true z2_1
                        have q116 : x112_5 < (l0_2.length : Int) := of_decide_eq_true z2_1
                        obtain ⟨ad116, e116, hx116_0⟩ := Kd.at_int HR0_2.out x112_5 p116 q116
                        obtain rfl : ad114 = ad116 := (by injection e116)
                        replace hx116_0 := (HB.out.cell (World.block_lt_of_cell? w _ hx116_0)).trans hx116_0
                        replace p116 := eq_true p116
                        replace q116 := eq_true q116
                        have p117 : 0 ≤ (x112_5 : Int) := of_decide_eq_true z2_1
                        have q117 : x112_5 < (l0_3.length : Int) := of_decide_eq_true z2_1
                        obtain ⟨ad117, e117, hx117_0⟩ := Kd.at_int HR0_3.out x112_5 p117 q117
                        obtain rfl : ad115 = ad117 := (by injection e117)
                        replace hx117_0 := (HB.out.cell (World.block_lt_of_cell? w _ hx117_0)).trans hx117_0
                        replace p117 := eq_true p117
                        replace q117 := eq_true q117
                        go_wp2
                        go_meet
                        case rel => exact ⟨_, (true), z2_3, H', ⟨z2_4⟩, ⟨z2_2⟩, ⟨z2_0⟩⟩
                       ·rw [if_neg c58] at H
                        have c58b0 : decide ((rd l0_3 x112_5) < (rd l0_0 x112_5)) = false := decide_eq_false c58
                        clear c58
                        by_cases c60 : (rd l0_2 x112_5) < 0
                        ·rw [if_pos c60] at H
                         have c60b0 : decide ((rd l0_2 x112_5) < 0) = true := decide_eq_true c60
                         clear c60
                         have H' := Aside0.mk H
                         clear H
                         obtain ⟨hcz61_0, hcz61_1, hcz61_2, hcz61_3, hcz61_4, hcz61_5, hcz61_6⟩ := cz7x2 BK107.out
                         obtain ⟨hfz61_0, hfz61_1, hfz61_2, hfz61_3, hfz61_4, hfz61_5, hfz61_6⟩ := fz7x2 BK107.out
                         have p114 : 0 ≤ (x112_5 : Int) := of_decide_eq_true z2_1
                         have q114 : x112_5 < (l0_2.length : Int) := of_decide_eq_true z2_1
                         obtain ⟨ad114, e114, hx114_0⟩ := Kd.at_int HR0_2.out x112_5 p114 q114
                         cases e114
                         replace hx114_0 := (HB.out.cell (World.block_lt_of_cell? w _ hx114_0)).trans hx114_0
                         replace p114 := eq_true p114
                         replace q114 := eq_true q114
                         have p115 : 0 ≤ (x112_5 : Int) := of_decide_eq_true z2_1
                         have q115 : x112_5 < (l0_3.length : Int) := of_decide_eq_true z2_1
                         obtain ⟨ad115, e115, hx115_0⟩ := Kd.at_int HR0_3.out x112_5 p115 q115
                         cases e115
                         replace hx115_0 := (HB.out.cell (World.block_lt_of_cell? w _ hx115_0)).trans hx115_0
                         replace p115 := eq_true p115
                         replace q115 := eq_true q115
                         have p116 : 0 ≤ (x112_5 : Int) := of_decide_eq_true z2_1
                         have q116 : x112_5 < (l0_2.length : Int) := of_decide_eq_true z2_1
                         obtain ⟨ad116, e116, hx116_0⟩ := Kd.at_int HR0_2.out x112_5 p116 q116
                         obtain rfl : ad114 = ad116 := (by injection e116)
                         replace hx116_0 := (HB.out.cell (World.block_lt_of_cell? w _ hx116_0)).trans hx116_0
                         replace p116 := eq_true p116
                         replace q116 := eq_true q116
                         have p117 : 0 ≤ (x112_5 : Int) := of_decide_eq_true z2_1
                         have q117 : x112_5 < (l0_3.length : Int) := of_decide_eq_true z2_1
                         obtain ⟨ad117, e117, hx117_0⟩ := Kd.at_int HR0_3.out x112_5 p117 q117
                         obtain rfl : ad115 = ad117 := (by injection e117)
                         replace hx117_0 := (HB.out.cell (World.block_lt_of_cell? w _ hx117_0)).trans hx117_0
                         replace p117 := eq_true p117
                         replace q117 := eq_true q117
                         have p118 : 0 ≤ (x112_5 : Int) := of_decide_eq_true z2_1
                         have q118 : x112_5 < (l0_2.length : Int) := of_decide_eq_true z2_1
                         obtain ⟨ad118, e118, hx118_0⟩ := Kd.at_int HR0_2.out x112_5 p118 q118
                         obtain rfl : ad114 = ad118 := (by injection e118)
                         replace hx118_0 := (HB.out.cell (World.block_lt_of_cell? w _ hx118_0)).trans hx118_0
                         replace p118 := eq_true p118
                         replace q118 := eq_true q118
                         have p119 : 0 ≤ (x112_5 : Int) := of_decide_eq_true z2_1
                         have q119 : x112_5 < (l0_3.length : Int) := of_decide_eq_true z2_1
                         obtain ⟨ad119, e119, hx119_0⟩ := Kd.at_int HR0_3.out x112_5 p119 q119
                         obtain rfl : ad115 = ad119 := (by injection e119)
                         replace hx119_0 := (HB.out.cell (World.block_lt_of_cell? w _ hx119_0)).trans hx119_0
                         replace p119 := eq_true p119
                         replace q119 := eq_true q119
                         go_wp2
                         go_meet
                         case rel => exact ⟨_, (decide ((rd l0_3 x112_5) > 0)), z2_3, H', ⟨z2_4⟩, ⟨z2_2⟩, ⟨z2_0⟩⟩
                        ·rw [if_neg c60] at H
                         have c60b0 : decide ((rd l0_2 x112_5) < 0) = false := decide_eq_false c60
                         clear c60
                         have H' := Aside0.mk H
                         clear H
                         obtain ⟨hcz62_0, hcz62_1, hcz62_2, hcz62_3, hcz62_4, hcz62_5, hcz62_6⟩ := cz7x2 BK107.out
                         obtain ⟨hfz62_0, hfz62_1, hfz62_2, hfz62_3, hfz62_4, hfz62_5, hfz62_6⟩ := fz7x2 BK107.out
                         have p114 : 0 ≤ (x112_5 : Int) := of_decide_eq_true z2_1
                         have q114 : x112_5 < (l0_2.length : Int) := of_decide_eq_true z2_1
                         obtain ⟨ad114, e114, hx114_0⟩ := Kd.at_int HR0_2.out x112_5 p114 q114
                         cases e114
                         replace hx114_0 := (HB.out.cell (World.block_lt_of_cell? w _ hx114_0)).trans hx114_0
                         replace p114 := eq_true p114
                         replace q114 := eq_true q114
                         have p115 : 0 ≤ (x112_5 : Int) := of_decide_eq_true z2_1
                         have q115 : x112_5 < (l0_3.length : Int) := of_decide_eq_true z2_1
                         obtain ⟨ad115, e115, hx115_0⟩ := Kd.at_int HR0_3.out x112_5 p115 q115
                         cases e115
                         replace hx115_0 := (HB.out.cell (World.block_lt_of_cell? w _ hx115_0)).trans hx115_0
                         replace p115 := eq_true p115
                         replace q115 := eq_true q115
                         have p116 : 0 ≤ (x112_5 : Int) := of_decide_eq_true z2_1
                         have q116 : x112_5 < (l0_2.length : Int) := of_decide_eq_true z2_1
                         obtain ⟨ad116, e116, hx116_0⟩ := Kd.at_int HR0_2.out x112_5 p116 q116
                         obtain rfl : ad114 = ad116 := (by injection e116)
                         replace hx116_0 := (HB.out.cell (World.block_lt_of_cell? w _ hx116_0)).trans hx116_0
                         replace p116 := eq_true p116
                         replace q116 := eq_true q116
                         have p117 : 0 ≤ (x112_5 : Int) := of_decide_eq_true z2_1
                         have q117 : x112_5 < (l0_3.length : Int) := of_decide_eq_true z2_1
                         obtain ⟨ad117, e117, hx117_0⟩ := Kd.at_int HR0_3.out x112_5 p117 q117
                         obtain rfl : ad115 = ad117 := (by injection e117)
                         replace hx117_0 := (HB.out.cell (World.block_lt_of_cell? w _ hx117_0)).trans hx117_0
                         replace p117 := eq_true p117
                         replace q117 := eq_true q117
                         have p118 : 0 ≤ (x112_5 : Int) := of_decide_eq_true z2_1
                         have q118 : x112_5 < (l0_2.length : Int) := of_decide_eq_true z2_1
                         obtain ⟨ad118, e118, hx118_0⟩ := Kd.at_int HR0_2.out x112_5 p118 q118
                         obtain rfl : ad114 = ad118 := (by injection e118)
                         replace hx118_0 := (HB.out.cell (World.block_lt_of_cell? w _ hx118_0)).trans hx118_0
                         replace p118 := eq_true p118
                         replace q118 := eq_true q118
                         go_wp2
                         go_meet
                         case rel => exact ⟨_, (false), z2_3, H', ⟨z2_4⟩, ⟨z2_2⟩, ⟨z2_0⟩⟩
                   ·replace c48 := Bool.eq_false_iff.mpr c48
                    subst c48
                    have H1 : (tMd.j7 kj43 l0_0 (l0_0.length : Int) x112_5 false l0_0 false l0_2 l0_3 l0_4 l0_5 l0_6) = some r := by rw [if_neg (show ¬ (false = true) by decide)] at H; exact H
                    clear H
                    have H := H1
                    clear H1
                    have H' := Aside0.mk H
                    clear H
                    obtain ⟨hcz63_0, hcz63_1, hcz63_2, hcz63_3, hcz63_4, hcz63_5, hcz63_6⟩ := cz7x2 BK107.out
                    obtain ⟨hfz63_0, hfz63_1, hfz63_2, hfz63_3, hfz63_4, hfz63_5, hfz63_6⟩ := fz7x2 BK107.out
                    go_wp2
                    go_meet
                    case rel => exact ⟨_, (false), z2_3, H', ⟨z2_4⟩, ⟨z2_2⟩, ⟨z2_0⟩⟩
                  case rest =>
                   clear HC47
                   obtain ⟨kq, x174_46, rfl, HA, HJ46, BK107, HB⟩ := hcut
                   cases kq with
                   | zero => exact absurd HA.out (by simp [tMd.j7])
                   | succ kj46 =>
                    have H := HA.out
                    clear HA
                    simp only [tMd.j7] at H
                    by_cases c64 : x174_46 = true
                    ·subst c64
                     have H1 : (some false) = some r := by rw [if_pos rfl] at H; exact H
                     clear H
                     have H := H1
                     clear H1
                     obtain rfl := Option.some.inj H
                     go_wp2
                     go_ret
                     exact ⟨by first | rfl | (simp [errW_none, errW_some] <;> rfl) | (simp [*, errW_none, errW_some] <;> rfl), by repeat (first | (with_reducible first | exact HB.out | apply below_alloc | apply pw_below_drewN | apply below_drew1 | refine below_set ?_ GE107.out) | exact HB.out)⟩
                    ·replace c64 := Bool.eq_false_iff.mpr c64
                     subst c64
                     have H1 : (tMd.l1 kj46 l0_0 (l0_0.length : Int) (wrap64 (x112_5 + 1)) l0_0 a0_1 l0_2 l0_3 l0_4 l0_5 l0_6) = some r := by rw [if_neg (show ¬ (false = true) by decide)] at H; exact H
                     clear H
                     have H := H1
                     clear H1
                     have H' := Aside0.mk H
                     clear H
                     go_wp2
                     go_roundg kj46
                     case measure => have := HJ3.out; have := HJ7.out; have := HK3.out; have := HJ30.out; have := HK5.out; have := HJ43.out; have := HJ46.out; omega
                     case rel => exact ⟨(wrap64 (x112_5 + 1)), z2_3, H', ⟨by have := HJ3.out; have := HJ7.out; have := HK3.out; have := HJ30.out; have := HK5.out; have := HJ43.out; have := HJ46.out; omega⟩, ⟨z2_2⟩, ⟨z2_0⟩⟩
              ·rw [if_neg c41] at H
               have c41b0 : decide (x112_5 < (l0_0.length : Int)) = false := decide_eq_false c41
               clear c41
               obtain rfl := Option.some.inj H
               go_wp2
               go_ret
               exact ⟨by first | rfl | (simp [errW_none, errW_some] <;> rfl) | (simp [*, errW_none, errW_some] <;> rfl), by repeat (first | (with_reducible first | exact HB.out | apply below_alloc | apply pw_below_drewN | apply below_drew1 | refine below_set ?_ GE107.out) | exact HB.out)⟩

end Go.Proofs.Ytchkmmbedgolbaa.PFnTuplesOf

