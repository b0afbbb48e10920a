-- Written by a program of this session (xprint) out of the translation; Lean checks it.
import Derived.Test.YtchkmmbedgolbaaPFnCoverx0
import Derived.Test.YtchkmmbedgolbaaPFnCoverx1
namespace Go.Proofs.Ytchkmmbedgolbaa.PFnCover
open Go.RowKit Go.Proofs.YtchkmmbedgolbaaW.PrintWords Go.Proofs.YtchkmmbedgolbaaW.PrintLast Go.Proofs.YtchkmmbedgolbaaW.PrintMore
attribute [local go_sem] max2_int min2_int max_two min_two max_three min_three max_four min_four   -- for this text's walks alone
set_option linter.unusedVariables false
set_option linter.unusedSimpArgs false

/-! ### tables_Coverage2_Index: function 119 -/
/-- The cells of a row of structs of three numbers that is read. -/
theorem sx_tri {α : Type} {d : Kd α} (hsz : d.sz = 3) (f g h : α → Int) (hopen : ∀ (w : World) (x : α) (cs : List Value), d.K w x cs → cs = [.int .u16 (f x), .int .u16 (g x), .int .u16 (h x)]) (z : α) {w : World} {A : Option Addr} {l : List α} (hr : d.C w A l.length l) (hl : 0 < l.length) :
    ∃ bk o, A = some ⟨bk, o, none⟩ ∧ ∀ i, i < l.length → w.cell? ⟨bk, o + i * 3, none⟩ = some (.int .u16 (f (l.getD i z))) ∧ w.cell? ⟨bk, o + i * 3 + 1, none⟩ = some (.int .u16 (g (l.getD i z))) ∧ w.cell? ⟨bk, o + i * 3 + 2, none⟩ = some (.int .u16 (h (l.getD i z))) := by
  obtain ⟨⟨bk, o, sp⟩, rfl, hc⟩ := hr.2.2 hl
  have hcell : ∀ i, i < l.length → w.cell? ((⟨bk, o, sp⟩ : Addr).add (i * 3)) = some (.int .u16 (f (l.getD i z))) ∧ w.cell? ((⟨bk, o, sp⟩ : Addr).add (i * 3 + 1)) = some (.int .u16 (g (l.getD i z))) ∧ w.cell? ((⟨bk, o, sp⟩ : Addr).add (i * 3 + 2)) = some (.int .u16 (h (l.getD i z))) := by
    intro i hi
    obtain ⟨c, hlen, hK, hcc⟩ := hc i l[i] (List.getElem?_eq_getElem hi)
    have e := hopen _ _ _ hK
    subst e
    have q0 := hcc 0 _ rfl
    have q1 := hcc 1 _ rfl
    have q2 := hcc 2 _ rfl
    rw [hsz] at q0 q1 q2
    rw [List.getD_eq_getElem?_getD, List.getElem?_eq_getElem hi]
    exact ⟨q0, q1, q2⟩
  have hs : sp = none := by
    have h0 := (hcell 0 hl).1
    unfold Addr.add at h0
    split at h0
    · exact sx_ad h0
    · rename_i e; exact absurd rfl e
  subst hs
  refine ⟨bk, o, rfl, fun i hi => ?_⟩
  have := hcell i hi
  rw [sx_add, sx_add, sx_add] at this
  exact this

set_option maxHeartbeats 2000000 in
theorem c2_clo (bg bc : Nat) (blk off n c : Nat) (x y : Int) (i : Nat) (W : World) (hi : i < n) (hg : W.cell? ⟨bg, 0, none⟩ = some (.int .u16 x)) (hc : W.cell? ⟨bc, 1, none⟩ = some (.slice (some ⟨blk, off, none⟩) n c)) (hy : W.cell? ⟨blk, off + i * 3, none⟩ = some (.int .u16 y)) :
    Calls Try.prog 122 (#[.int .i64 i] ++ #[.pointer (some ⟨bg, 0, none⟩), .pointer (some ⟨bc, 0, none⟩)]) W fun e w' => e = .returned (.bool (decide (x ≤ y))) ∧ ∃ q, w' = W.drewN q := by
  have hiz : (i : Int) < (n : Int) := by omega
  go_enter Try.func122, Try.ntmps122
  go_wp2
  go_region
  all_goals go_wp2
  all_goals go_ret
  all_goals exact ⟨by first | rfl | simp, 1, rfl⟩

def c2_n (l : List S97) (x : Int) : Nat := (List.range l.length).countP (fun i => !decide (x ≤ (l.getD i z97).f0))
theorem sx_mono3 {α : Type} (z : α) (f : α → Int) {l : List α} (h : l.Pairwise (fun a b => f a ≤ f b)) (a b : Nat) (hab : a ≤ b) (hb : b < l.length) : f (l.getD a z) ≤ f (l.getD b z) := by
  rcases Nat.eq_or_lt_of_le hab with rfl | hlt
  · exact Int.le_refl _
  · rw [List.getD_eq_getElem?_getD, List.getElem?_eq_getElem (by omega), List.getD_eq_getElem?_getD, List.getElem?_eq_getElem hb]
    exact List.pairwise_iff_getElem.1 h a b (by omega) hb hlt
theorem c2_cells {w : World} {A : Option Addr} {l : List S97} (hr : Kd.C k97 w A l.length l) (hl : 0 < l.length) : ∃ bk o, A = some ⟨bk, o, none⟩ ∧ ∀ i, i < l.length → w.cell? ⟨bk, o + i * 3, none⟩ = some (.int .u16 (l.getD i z97).f0) ∧ w.cell? ⟨bk, o + i * 3 + 1, none⟩ = some (.int .u16 (l.getD i z97).f1) ∧ w.cell? ⟨bk, o + i * 3 + 2, none⟩ = some (.int .u16 (l.getD i z97).f2) :=
  sx_tri rfl (·.f0) (·.f1) (·.f2) (fun _ _ _ h => k97_open h) z97 hr hl

theorem c2_search (fm : Int) (A : Option Addr) (c : Nat) (l : List S97) (x : Int) (w W0 : World) (hr : Kd.C k97 w A l.length l) (hs : l.Pairwise (fun a b => a.f0 ≤ b.f0)) (hsz : l.length < 4611686018427387904)
    (hW0 : W0 = (w.alloc (.cells #[.int .u16 fm, .slice A l.length c] 95)).alloc (.cells #[.int .u16 x] 35)) :
    Calls Try.prog 117 #[.int .i64 (l.length : Int), .func (.func 122) #[] #[.pointer (some ⟨w.heap.size + 1, 0, none⟩), .pointer (some ⟨w.heap.size, 0, none⟩)]] W0 fun e W1 => e = .returned (.int .i64 (c2_n l x : Int)) ∧
      W1.cell? ⟨w.heap.size, 1, none⟩ = some (.slice A l.length c) ∧ W1.cell? ⟨w.heap.size + 1, 0, none⟩ = some (.int .u16 x) ∧
      (∀ bk o, A = some ⟨bk, o, none⟩ → ∀ i, i < l.length → W1.cell? ⟨bk, o + i * 3, none⟩ = some (.int .u16 (l.getD i z97).f0) ∧ W1.cell? ⟨bk, o + i * 3 + 1, none⟩ = some (.int .u16 (l.getD i z97).f1) ∧ W1.cell? ⟨bk, o + i * 3 + 2, none⟩ = some (.int .u16 (l.getD i z97).f2)) ∧
      w.heap.size + 2 ≤ W1.heap.size ∧ Below w.heap.size w W1 := by
  have hsize : W0.heap.size = w.heap.size + 1 + 1 := by rw [hW0]; simp
  have ca : W0.cell? ⟨w.heap.size, 1, none⟩ = some (.slice A l.length c) := by rw [hW0]; exact cell_alloc_sl _ (sx_pair w _ _ _)
  have cx : W0.cell? ⟨w.heap.size + 1, 0, none⟩ = some (.int .u16 x) := by rw [hW0]; have := cell_new_sl (w.alloc (.cells #[.int .u16 fm, .slice A l.length c] 95)) (.int .u16 x) 35; rwa [World.size_alloc] at this
  have cw : ∀ bk o, A = some ⟨bk, o, none⟩ → ∀ i, i < l.length → w.cell? ⟨bk, o + i * 3, none⟩ = some (.int .u16 (l.getD i z97).f0) ∧ w.cell? ⟨bk, o + i * 3 + 1, none⟩ = some (.int .u16 (l.getD i z97).f1) ∧ w.cell? ⟨bk, o + i * 3 + 2, none⟩ = some (.int .u16 (l.getD i z97).f2) := by
    intro bk o hA i hi
    obtain ⟨bk', o', hA', hc⟩ := c2_cells hr (by omega)
    rw [hA] at hA'
    injection hA' with e1
    injection e1 with e1 e2 e3
    subst e1; subst e2
    exact hc i hi
  have cc : ∀ bk o, A = some ⟨bk, o, none⟩ → ∀ i, i < l.length → W0.cell? ⟨bk, o + i * 3, none⟩ = some (.int .u16 (l.getD i z97).f0) ∧ W0.cell? ⟨bk, o + i * 3 + 1, none⟩ = some (.int .u16 (l.getD i z97).f1) ∧ W0.cell? ⟨bk, o + i * 3 + 2, none⟩ = some (.int .u16 (l.getD i z97).f2) := fun bk o hA i hi => by
    obtain ⟨q0, q1, q2⟩ := cw bk o hA i hi
    rw [hW0]; exact ⟨cell_alloc_sl _ (cell_alloc_sl _ q0), cell_alloc_sl _ (cell_alloc_sl _ q1), cell_alloc_sl _ (cell_alloc_sl _ q2)⟩
  have hb : ∀ bk o, A = some ⟨bk, o, none⟩ → 0 < l.length → bk < W0.heap.size := fun bk o hA hi => World.block_lt_of_cell? (w := W0) (a := ⟨bk, o + 0 * 3, none⟩) (cc bk o hA 0 hi).1
  have eg : ∀ args w, (callFunc 122 args).run Try.prog w = .ok (.enter 122 args) w := enters_of Try.func122 (by kernel_rfl) rfl
  have hS := Try.sort_Search 122 #[.pointer (some ⟨w.heap.size + 1, 0, none⟩), .pointer (some ⟨w.heap.size, 0, none⟩)] l.length (fun i => decide (x ≤ (l.getD i z97).f0)) W0 eg hsz
    (fun m os i hi => by
      obtain ⟨bk, o, hA, _⟩ := c2_cells hr (by omega)
      have h1 := cell_grown (by simp [hsize]; omega) ca m os
      have h2 := cell_grown (by simp [hsize]) cx m os
      have h3 := cell_grown (by have := hb bk o hA (by omega); exact this) (cc bk o hA i hi).1 m os
      rw [hA] at h1
      exact (c2_clo (w.heap.size + 1) w.heap.size bk o l.length c x (l.getD i z97).f0 i _ hi h2 h1 h3).mono fun _ _ ⟨he, q, hq⟩ => ⟨he, q, #[], by rw [hq, Go.Sort.grow_empty]⟩)
    (fun a b hab hb h => decide_eq_true (Int.le_trans (of_decide_eq_true h) (sx_mono3 z97 (·.f0) hs a b hab hb)))
  refine hS.mono ?_
  rintro e W1 ⟨rfl, q, os, rfl⟩
  refine ⟨rfl, cell_grown (by simp [hsize]; omega) ca q os, cell_grown (by simp [hsize]) cx q os, fun bk o hA i hi => ?_, ?_, ?_⟩
  · obtain ⟨q0, q1, q2⟩ := cc bk o hA i hi
    have hl := hb bk o hA (by omega)
    exact ⟨cell_grown hl q0 q os, cell_grown hl q1 q os, cell_grown hl q2 q os⟩
  · show _ ≤ (Go.Sort.grow _ os).heap.size
    simp only [Go.Sort.grow, Array.size_append]
    have : (W0.drewN q).heap.size = W0.heap.size := rfl
    omega
  · have hB0 : Below w.heap.size w W0 := by rw [hW0]; exact ((Below.refl _ w).alloc (Nat.le_refl _) _).alloc (by simp) _
    exact hB0.trans (below_grown_sl w.heap.size W0 q os (by omega))
theorem sx_new3 (W : World) (v0 v1 v2 : Value) (t : TypeId) : (W.alloc (.cells #[v0, v1, v2] t)).cell? ⟨W.heap.size, 0, none⟩ = some v0 ∧ (W.alloc (.cells #[v0, v1, v2] t)).cell? ⟨W.heap.size, 1, none⟩ = some v1 ∧ (W.alloc (.cells #[v0, v1, v2] t)).cell? ⟨W.heap.size, 2, none⟩ = some v2 := by
  refine ⟨?_, ?_, ?_⟩ <;> rw [World.cell?_alloc_at _ _ _ _ (by simp)] <;> rfl
def c2_res (l : List S97) (x : Int) : Int × Bool :=
  if c2_n l x < l.length ∧ x = (l.getD (c2_n l x) z97).f0 then (wrap64 (l.getD (c2_n l x) z97).f2, true)
  else if 0 < c2_n l x ∧ (l.getD (c2_n l x - 1) z97).f0 ≤ x ∧ x ≤ (l.getD (c2_n l x - 1) z97).f1 then (wrap64 (wrap64 (l.getD (c2_n l x - 1) z97).f2 + wrap64 (IntKind.u16.wrap (x - (l.getD (c2_n l x - 1) z97).f0))), true)
  else (0, false)
theorem c2_n_le (l : List S97) (x : Int) : c2_n l x ≤ l.length := by
  have := List.countP_le_length (p := fun i => !decide (x ≤ (l.getD i z97).f0)) (l := List.range l.length)
  simpa [c2_n] using this
set_option maxHeartbeats 8000000 in
theorem c2_idx (fm : Int) (A : Option Addr) (c : Nat) (l : List S97) (x : Int) (r1 : Int) (r2 : Bool) (w : World) (hr : Kd.C k97 w A l.length l) (hs : l.Pairwise (fun a b => a.f0 ≤ b.f0)) (hsz : l.length < 4611686018427387904)
    (hres : c2_res l x = (r1, r2)) :
    Calls Try.prog 119 #[.agg #[.int .u16 fm, .slice A l.length c], .int .u16 x] w fun e w' => e = .returned (.tuple #[.int .i64 r1, .bool r2]) ∧ Below w.heap.size w w' := by
  obtain ⟨W0, hW0⟩ : ∃ W0, W0 = (w.alloc (.cells #[.int .u16 fm, .slice A l.length c] 95)).alloc (.cells #[.int .u16 x] 35) := ⟨_, rfl⟩
  have hS := c2_search fm A c l x w W0 hr hs hsz hW0
  have hrle := c2_n_le l x
  have hB0 : Below w.heap.size w W0 := by rw [hW0]; exact ((Below.refl _ w).alloc (Nat.le_refl _) _).alloc (by simp) _
  unfold c2_res at hres
  generalize c2_n l x = r at hS hres hrle
  by_cases hl0 : l.length = 0
  · rw [if_neg (fun h => by omega), if_neg (fun h => by omega)] at hres
    injection hres with e1 e2
    subst e1; subst e2
    generalize hn : l.length = n at hS hW0 hl0
    subst hl0
    go_enter Try.func119, Try.ntmps119
    go_wp2
    go_ret2
    exact ⟨rfl, hW0 ▸ hB0⟩
  obtain ⟨bk, o, rfl, _⟩ := c2_cells hr (by omega)
  have hlz : ¬ (l.length : Int) = 0 := by omega
  generalize hz0 : (l.getD (r - 1) z97).f0 = z0 at hres
  generalize hz1 : (l.getD (r - 1) z97).f1 = z1 at hres
  generalize hz2 : (l.getD (r - 1) z97).f2 = z2 at hres
  have hrm : 0 < r → (r : Int) - 1 < (l.length : Int) := fun _ => by omega
  have hrn : 0 < r → ((r - 1 : Nat) : Int) = (r : Int) - 1 := fun _ => by omega
  have hrt : 0 < r → ((r : Int) - 1).toNat = r - 1 := fun _ => by omega
  by_cases hrl : r < l.length
  · have hrz : (r : Int) < (l.length : Int) := by omega
    generalize hy0 : (l.getD r z97).f0 = y0 at hres
    generalize hy1 : (l.getD r z97).f1 = y1 at hres
    generalize hy2 : (l.getD r z97).f2 = y2 at hres
    generalize hn : l.length = n at hS hrl hrz hW0 hlz hrm hres hrle
    by_cases hyx : x = y0
    · subst hyx
      rw [if_pos ⟨hrl, rfl⟩] at hres
      injection hres with e1 e2
      subst e1; subst e2
      go_enter Try.func119, Try.ntmps119
      go_wp2_with (go_at_call 117; rw [← hW0]; refine hS.mono ?_; rintro e W1 ⟨rfl, f1, f2, f3, f4, f5⟩; obtain ⟨g0, g1, g2⟩ := f3 bk o rfl r hrl; rw [hy0] at g0; rw [hy1] at g1; rw [hy2] at g2; clear f3; have f1' := cell_alloc_sl (.cells #[.int .u16 x, .int .u16 y1, .int .u16 y2] 97) f1; have f2' := cell_alloc_sl (.cells #[.int .u16 x, .int .u16 y1, .int .u16 y2] 97) f2; obtain ⟨n0, n1, n2⟩ := sx_new3 W1 (.int .u16 x) (.int .u16 y1) (.int .u16 y2) 97)
      go_ret2
      exact ⟨rfl, f5.alloc (by omega) _⟩
    · rw [if_neg (fun h => hyx h.2)] at hres
      have hb : (x == y0) = false := by simpa using hyx
      by_cases hr0 : 0 < r
      · have hrg : (r : Int) > 0 := by omega
        replace hrm := hrm hr0
        replace hrn := hrn hr0
        replace hrt := hrt hr0
        go_enter Try.func119, Try.ntmps119
        go_wp2_with (go_at_call 117; rw [← hW0]; refine hS.mono ?_; rintro e W1 ⟨rfl, f1, f2, f3, f4, f5⟩; obtain ⟨g0, g1, g2⟩ := f3 bk o rfl r hrl; rw [hy0] at g0; rw [hy1] at g1; rw [hy2] at g2; obtain ⟨k0, k1, k2⟩ := f3 bk o rfl (r - 1) (by omega); rw [hz0] at k0; rw [hz1] at k1; rw [hz2] at k2; clear f3; have f1' := cell_alloc_sl (.cells #[.int .u16 y0, .int .u16 y1, .int .u16 y2] 97) f1; have f2' := cell_alloc_sl (.cells #[.int .u16 y0, .int .u16 y1, .int .u16 y2] 97) f2; obtain ⟨n0, n1, n2⟩ := sx_new3 W1 (.int .u16 y0) (.int .u16 y1) (.int .u16 y2) 97; have k0' := cell_alloc_sl (.cells #[.int .u16 y0, .int .u16 y1, .int .u16 y2] 97) k0; have k1' := cell_alloc_sl (.cells #[.int .u16 y0, .int .u16 y1, .int .u16 y2] 97) k1; have k2' := cell_alloc_sl (.cells #[.int .u16 y0, .int .u16 y1, .int .u16 y2] 97) k2; have f2q := cell_alloc_sl (.cells #[.int .u16 z0, .int .u16 z1, .int .u16 z2] 97) f2'; obtain ⟨m0, m1, m2⟩ := sx_new3 (W1.alloc (.cells #[.int .u16 y0, .int .u16 y1, .int .u16 y2] 97)) (.int .u16 z0) (.int .u16 z1) (.int .u16 z2) 97; rw [World.size_alloc] at m0 m1 m2)
        all_goals go_ret2
        all_goals refine ⟨?_, (f5.alloc (by omega) _).alloc (by simp; omega) _⟩
        all_goals (split at hres <;> first | (injection hres with e1 e2; subst e1; subst e2; rfl) | (exfalso; omega))
      · rw [if_neg (fun h => hr0 h.1)] at hres
        injection hres with e1 e2
        subst e1; subst e2
        have hrg : ¬ (r : Int) > 0 := by omega
        go_enter Try.func119, Try.ntmps119
        go_wp2_with (go_at_call 117; rw [← hW0]; refine hS.mono ?_; rintro e W1 ⟨rfl, f1, f2, f3, f4, f5⟩; obtain ⟨g0, g1, g2⟩ := f3 bk o rfl r hrl; rw [hy0] at g0; rw [hy1] at g1; rw [hy2] at g2; clear f3; have f1' := cell_alloc_sl (.cells #[.int .u16 y0, .int .u16 y1, .int .u16 y2] 97) f1; have f2' := cell_alloc_sl (.cells #[.int .u16 y0, .int .u16 y1, .int .u16 y2] 97) f2; obtain ⟨n0, n1, n2⟩ := sx_new3 W1 (.int .u16 y0) (.int .u16 y1) (.int .u16 y2) 97)
        go_ret2
        exact ⟨rfl, f5.alloc (by omega) _⟩
  · have hrz : ¬ (r : Int) < (l.length : Int) := by omega
    rw [if_neg (fun h => hrl h.1)] at hres
    have hr0 : 0 < r := by omega
    have hrg : (r : Int) > 0 := by omega
    replace hrm := hrm hr0
    replace hrn := hrn hr0
    replace hrt := hrt hr0
    generalize hn : l.length = n at hS hrl hrz hW0 hlz hrm hres hrle hl0
    go_enter Try.func119, Try.ntmps119
    go_wp2_with (go_at_call 117; rw [← hW0]; refine hS.mono ?_; rintro e W1 ⟨rfl, f1, f2, f3, f4, f5⟩; obtain ⟨k0, k1, k2⟩ := f3 bk o rfl (r - 1) (by omega); rw [hz0] at k0; rw [hz1] at k1; rw [hz2] at k2; clear f3; have f2' := cell_alloc_sl (.cells #[.int .u16 z0, .int .u16 z1, .int .u16 z2] 97) f2; obtain ⟨m0, m1, m2⟩ := sx_new3 W1 (.int .u16 z0) (.int .u16 z1) (.int .u16 z2) 97)
    all_goals go_ret2
    all_goals refine ⟨?_, f5.alloc (by omega) _⟩
    all_goals (split at hres <;> first | (injection hres with e1 e2; subst e1; subst e2; rfl) | (exfalso; omega))


def tables_Coverage2_Index.f (a0_0 : Int) (l0_1 : List S97) (a1 : Int) : Option (Int × Bool) := if l0_1.Pairwise (fun a b => a.f0 ≤ b.f0) ∧ l0_1.length < 4611686018427387904 then some (c2_res l0_1 a1) else none
theorem tables_Coverage2_Index.calls (a0_0 : Int) (A0_1 : Option Addr) (c0_1 : Nat) (l0_1 : List S97) (a1 : Int) (r1 : Int) (r2 : Bool) (w : World) (hr0_1 : Kd.C k97 w A0_1 l0_1.length l0_1) (hc0_1 : l0_1.length ≤ c0_1) (h : tables_Coverage2_Index.f a0_0 l0_1 a1 = some (r1, r2)) :
    Calls Try.prog 119 #[.agg #[.int .u16 a0_0, .slice A0_1 l0_1.length c0_1], .int .u16 a1] w fun e w' => e = .returned (.tuple #[.int .i64 r1, .bool r2]) ∧ Below w.heap.size w w' := by
  unfold tables_Coverage2_Index.f at h
  split at h
  · rename_i hj
    exact c2_idx a0_0 A0_1 c0_1 l0_1 a1 r1 r2 w hr0_1 hj.1 hj.2 (Option.some.inj h)
  · cases h

/-! ### impl_Cover: function 12 -/
mutual
def impl_Cover.l0 : Nat → Int → List Int → Int → Int → Int → List Int → Option (Int)
  | 0, _, _, _, _, _, _ => none
  | k + 1, x2, x23, x24, x25, x117000, x117001 => if x25 < x24 then (if 0 ≤ x25 then (if x25 < (x23.length : Int) then (if x117001.length < 70368744177664 then (impl_Cover.l0 k x2 x23 x24 (wrap64 (x25 + 1)) x117000 (x117001 ++ [IntKind.u16.wrap (rd x23 x25)])) else (none)) else (none)) else (none)) else ((tables_Coverage1_Index.f x117000 x117001 (IntKind.u16.wrap (x2))).bind fun bt121 => (if bt121.2 = true then (some bt121.1) else (some (-1))))
def impl_Cover.l1 : Nat → List Int → Int → List Int → Int → Int → Int → List (S97) → Option (Int)
  | 0, _, _, _, _, _, _, _ => none
  | k + 1, x1, x2, x41, x42, x43, x124000, x124001 => if x43 < x42 then (if 0 ≤ x43 then (if x43 < (x41.length : Int) then (if x43 > 0 then (if 0 ≤ (wrap64 (x43 - 1)) then (if (wrap64 (x43 - 1)) < (x1.length : Int) then (if (rd x41 x43) = (wrap64 ((rd x1 (wrap64 (x43 - 1))) + 1)) then (if 0 ≤ (wrap64 ((x124001.length : Int) - 1)) then (if (wrap64 ((x124001.length : Int) - 1)) < (x124001.length : Int) then (impl_Cover.l1 k x1 x2 x41 x42 (wrap64 (x43 + 1)) x124000 (x124001.set ((wrap64 ((x124001.length : Int) - 1)) : Int).toNat (⟨(rd_T97 x124001 (wrap64 ((x124001.length : Int) - 1))).f0, IntKind.u16.wrap (rd x41 x43), (rd_T97 x124001 (wrap64 ((x124001.length : Int) - 1))).f2⟩ : S97))) else (none)) else (none)) else (if x124001.length < 23456248059221 then (impl_Cover.l1 k x1 x2 x41 x42 (wrap64 (x43 + 1)) x124000 (x124001 ++ [(⟨IntKind.u16.wrap (rd x41 x43), IntKind.u16.wrap (rd x41 x43), IntKind.u16.wrap (x43)⟩ : S97)])) else (none))) else (none)) else (none)) else (if x124001.length < 23456248059221 then (impl_Cover.l1 k x1 x2 x41 x42 (wrap64 (x43 + 1)) x124000 (x124001 ++ [(⟨IntKind.u16.wrap (rd x41 x43), IntKind.u16.wrap (rd x41 x43), IntKind.u16.wrap (x43)⟩ : S97)])) else (none))) else (none)) else (none)) else ((tables_Coverage2_Index.f x124000 x124001 (IntKind.u16.wrap (x2))).bind fun bt133 => (if bt133.2 = true then (some bt133.1) else (some (-1))))
end
def impl_Cover.f (k : Nat) (a0 : Int) (l1 : List Int) (a2 : Int) : Option (Int) := (impl_rising.f k l1 a2).bind fun t115 => (if t115 = true then (if a0 = 1 then (impl_Cover.l0 k a2 l1 (l1.length : Int) 0 0 ([] : List Int)) else (if a0 = 2 then (impl_Cover.l1 k l1 a2 l1 (l1.length : Int) 0 0 ([] : List (S97))) else (some (-1)))) else (some (-1)))
theorem impl_Cover.mono_l : ∀ k, (∀ y0 y1 y2 y3 y4 y5, LeO (impl_Cover.l0 k y0 y1 y2 y3 y4 y5) (impl_Cover.l0 (k + 1) y0 y1 y2 y3 y4 y5)) ∧ (∀ y0 y1 y2 y3 y4 y5 y6, LeO (impl_Cover.l1 k y0 y1 y2 y3 y4 y5 y6) (impl_Cover.l1 (k + 1) y0 y1 y2 y3 y4 y5 y6))
  | 0 => ⟨fun _ _ _ _ _ _ r h => by simp [impl_Cover.l0] at h, fun _ _ _ _ _ _ _ r h => by simp [impl_Cover.l1] at h⟩
  | k + 1 => by
    obtain ⟨ih0, ih1⟩ := impl_Cover.mono_l k
    refine ⟨?_, ?_⟩
    · intro y0 y1 y2 y3 y4 y5
      unfold impl_Cover.l0
      repeat' first
      | (with_reducible exact ih0 _ _ _ _ _ _)
      | (with_reducible exact ih1 _ _ _ _ _ _ _)
      | (with_reducible exact impl_rising.mono _ _ _)
      | (with_reducible exact LeO.refl _)
      | (with_reducible exact LeO.none _)
      | (with_reducible refine LeO.ite ?_ ?_)
      | (with_reducible refine LeO.bind ?_ (fun _ => ?_))
      | exact ih0 _ _ _ _ _ _
      | exact ih1 _ _ _ _ _ _ _
      | exact impl_rising.mono _ _ _
      | exact LeO.none _
      | refine LeO.ite ?_ ?_
      | refine LeO.bind ?_ (fun _ => ?_)
    · intro y0 y1 y2 y3 y4 y5 y6
      unfold impl_Cover.l1
      repeat' first
      | (with_reducible exact ih0 _ _ _ _ _ _)
      | (with_reducible exact ih1 _ _ _ _ _ _ _)
      | (with_reducible exact impl_rising.mono _ _ _)
      | (with_reducible exact LeO.refl _)
      | (with_reducible exact LeO.none _)
      | (with_reducible refine LeO.ite ?_ ?_)
      | (with_reducible refine LeO.bind ?_ (fun _ => ?_))
      | exact ih0 _ _ _ _ _ _
      | exact ih1 _ _ _ _ _ _ _
      | exact impl_rising.mono _ _ _
      | exact LeO.none _
      | refine LeO.ite ?_ ?_
      | refine LeO.bind ?_ (fun _ => ?_)
theorem impl_Cover.mono : ∀ a0 a1 a2 k, LeO (impl_Cover.f k a0 a1 a2) (impl_Cover.f (k + 1) a0 a1 a2) := by
  intro a0 a1 a2 k
  obtain ⟨ih0, ih1⟩ := impl_Cover.mono_l k
  unfold impl_Cover.f
  repeat' first
      | (with_reducible exact ih0 _ _ _ _ _ _)
      | (with_reducible exact ih1 _ _ _ _ _ _ _)
      | (with_reducible exact impl_rising.mono _ _ _)
      | (with_reducible exact LeO.refl _)
      | (with_reducible exact LeO.none _)
      | (with_reducible refine LeO.ite ?_ ?_)
      | (with_reducible refine LeO.bind ?_ (fun _ => ?_))
      | exact ih0 _ _ _ _ _ _
      | exact ih1 _ _ _ _ _ _ _
      | exact impl_rising.mono _ _ _
      | exact LeO.none _
      | refine LeO.ite ?_ ?_
      | refine LeO.bind ?_ (fun _ => ?_)
set_option maxHeartbeats 8000000 in
set_option maxRecDepth 100000 in
theorem impl_Cover.calls (k : Nat) (a0 : Int) (A1 : Option Addr) (c1 : Nat) (l1 : List Int) (a2 : Int) (r : Int) (w : World) (hr1 : Kd.C (Kd.int .i64) w A1 l1.length l1) (hc1 : l1.length ≤ c1) (h : impl_Cover.f k a0 l1 a2 = some r) :
    Calls Try.prog 12 #[.int .i64 a0, .slice A1 l1.length c1, .int .i64 a2] w fun e w' => e = .returned (.int .i64 r) ∧ Below w.heap.size w w' := by
  have hu92 := Try.underlying92
  have hu95 := Try.underlying95
  have hu97 := Try.underlying97
  have HR1 := Aside0.mk hr1
  have HC1 := Aside0.mk hc1
  clear hr1 hc1
  have HB := Aside0.mk (Below.refl w.heap.size w)
  have H : ((impl_rising.f k l1 a2).bind fun t115 => (if t115 = true then (if a0 = 1 then (impl_Cover.l0 k a2 l1 (l1.length : Int) 0 0 ([] : List Int)) else (if a0 = 2 then (impl_Cover.l1 k l1 a2 l1 (l1.length : Int) 0 0 ([] : List (S97))) else (some (-1)))) else (some (-1)))) = some r := h
  clear h
  replace H := Option.bind_eq_some_iff.mp H
  obtain ⟨t115, A40, H⟩ := H
  replace H : (if t115 = true then (if a0 = 1 then (impl_Cover.l0 k a2 l1 (l1.length : Int) 0 0 ([] : List Int)) else (if a0 = 2 then (impl_Cover.l1 k l1 a2 l1 (l1.length : Int) 0 0 ([] : List (S97))) else (some (-1)))) else (some (-1))) = some r := H
  have A4 := Aside0.mk A40
  clear A40
  by_cases c5 : t115 = true
  · subst c5
    have H1 : (if a0 = 1 then (impl_Cover.l0 k a2 l1 (l1.length : Int) 0 0 ([] : List Int)) else (if a0 = 2 then (impl_Cover.l1 k l1 a2 l1 (l1.length : Int) 0 0 ([] : List (S97))) else (some (-1)))) = some r := by rw [if_pos rfl] at H; exact H
    clear H
    have H := H1
    clear H1
    by_cases c6 : a0 = 1
    · rw [if_pos c6] at H
      have c6b0 : (a0 == 1) = true := beq_iff_eq.mpr c6
      have c6b1 : (a0 != 1) = false := bne_eq_false_iff_eq.mpr c6
      clear c6
      have H' := Aside0.mk H
      clear H
      go_enter Try.func12, Try.ntmps12
      go_wp2_with (first | ((with_reducible refine gate_callee (f := 36) rfl ?_); refine goesL_ (some 18) rfl rfl Try.func36 (by kernel_rfl) rfl #[.slice A1 l1.length c1, .int .i64 a2] rfl (by (try simp only [List.map_toArray, List.map_cons, List.map_nil]); first | done | rfl | (simp only [List.length_drop, List.length_take]; rfl)) ?_; (with_reducible refine (impl_rising.calls k _ _ l1 a2 true _ ?side1 ?side2 A4.out).mono ?_); (case side1 => repeat (first | exact HR1.out | (with_reducible refine Kd.C_alloc ?_ _) | (with_reducible refine Kd.C_drewN ?_ _) | (with_reducible refine Kd.C_drew ?_))); (case side2 => exact HC1.out); rintro e w' ⟨rfl, ⟨nd, rfl⟩⟩; refine ⟨_, rfl, ?_⟩) | ((with_reducible refine gate_dst (N := 8) rfl ?_); refine box_event ?hg (N := 8) ?hd (cs := #[.int .u16 0, .slice none 0 0]) (t := 92) ?hr ?_; (case hd => rfl); (case hg => rfl); (case hr => first | (go_simp; done) | (go_simp; rfl)); intro gb116 hg w7 hbox hb; have n0_ := Aside0.mk (below_step (by repeat (first | (with_reducible first | exact HB.out | apply below_alloc | apply pw_below_drewN | apply below_drew1) | exact HB.out)) hb); have n1_ := Aside0.mk (hbox); have n2_ := Aside0.mk ((by rw [hg]; exact (below_size (by repeat (first | (with_reducible first | exact HB.out | apply below_alloc | apply pw_below_drewN | apply below_drew1) | exact HB.out))) : w.heap.size ≤ gb116)); have n3_ := Aside0.mk ((by rw [hg]; exact (below_size (by repeat (first | (with_reducible first | exact HB.out | apply below_alloc | apply pw_below_drewN | apply below_drew1) | exact HB.out))) : w.heap.size ≤ gb116)); clear HB; have HB := n0_; have BK116 := n1_; have GW116 := n2_; have GE116 := n3_; clear n0_ n1_ n2_ n3_; clear hb hbox hg))
      go_loopg [25] k (fun kq v25 w' => ∃ (x25_1 : Int) (x117001_1 : List Int) (u117001 : Value), v25 = .int .i64 x25_1 ∧ Aside0 (impl_Cover.l0 kq a2 l1 (l1.length : Int) x25_1 0 x117001_1 = some r) ∧ Aside0 (kq ≤ k) ∧ Aside0 (Kd.R (Kd.int .u16) 35 w' w.heap.size (fun _ => True) u117001 x117001_1) ∧ Aside0 (w'.heap[gb116]? = some (.cells #[.int .u16 0, u117001] 92 (0, 0))) ∧ Aside0 (Below w.heap.size w w'))
      case atStart => exact ⟨(0), (([] : List Int)), (.slice none 0 0), (by first | rfl | (simp; done) | (simp [*]; done)), H', ⟨Nat.le_refl _⟩, ⟨by first | exact Kd.R_nil _ _ _ _ _ | exact Kd.N_nil _ _ _ _ _ | exact Kd.V_nil _ _ _ _ _ | exact Kd.Q_nil _ _ _ _ _ | exact Kd.S_nil _ _ _ _ _⟩, ⟨by (with_reducible repeat (first | refine blk_drewN ?_ _ | refine blk_drew ?_ | refine blk_alloc ?_ _)); exact BK116.out⟩, ⟨by repeat (first | (with_reducible first | exact HB.out | apply below_alloc | apply pw_below_drewN | apply below_drew1 | refine below_set ?_ GE116.out) | exact HB.out)⟩⟩
      case round =>
        clear H'
        try clear c1
        try clear p2
        try clear c3
        try clear c5
        try clear c6
        try clear c6b0
        try clear c6b1
        obtain ⟨x25_1, x117001_1, u117001, rfl, HA, HK1, HO_117001, BK116, HB⟩ := hrel
        cases gk with
        | zero => exact absurd HA.out (by simp [impl_Cover.l0])
        | succ k1 =>
          have H := HA.out
          clear HA
          simp only [impl_Cover.l0] at H
          by_cases c8 : x25_1 < (l1.length : Int)
          · rw [if_pos c8] at H
            have c8b0 : decide (x25_1 < (l1.length : Int)) = true := decide_eq_true c8
            clear c8
            by_cases c9 : 0 ≤ x25_1
            · rw [if_pos c9] at H
              have c9b0 : decide (0 ≤ x25_1) = true := decide_eq_true c9
              clear c9
              by_cases c10 : x25_1 < (l1.length : Int)
              · rw [if_pos c10] at H
                have c10b0 : decide (x25_1 < (l1.length : Int)) = true := decide_eq_true c10
                clear c10
                by_cases c11 : x117001_1.length < 70368744177664
                · rw [if_pos c11] at H
                  have LMc11 := Aside0.mk c11
                  clear c11
                  obtain ⟨y118, hy118⟩ : ∃ y_ : List Int, y_ = (x117001_1 ++ [IntKind.u16.wrap (rd l1 x25_1)]) := ⟨_, rfl⟩
                  replace H : (impl_Cover.l0 k1 a2 l1 (l1.length : Int) (wrap64 (x25_1 + 1)) 0 y118) = some r := by first | (rw [hy118]; with_reducible exact H) | (have H2_ := (Option.bind_some _ _).symm.trans H; rw [hy118]; with_reducible exact H2_) | (have H2_ := (Option.bind_some _ _).symm.trans H; with_reducible exact H2_) | with_reducible exact H | (rw [hy118]; exact H) | exact H
                  have Ny118 := Aside0.mk hy118
                  clear hy118
                  have H' := Aside0.mk H
                  clear H
                  have p117 : 0 ≤ (x25_1 : Int) := of_decide_eq_true (by first | (with_reducible assumption) | assumption)
                  have q117 : x25_1 < (l1.length : Int) := of_decide_eq_true (by first | (with_reducible assumption) | assumption)
                  obtain ⟨ad117, e117, hx117_0⟩ := Kd.at_int HR1.out x25_1 p117 q117
                  cases e117
                  replace hx117_0 := (HB.out.cell (World.block_lt_of_cell? w _ hx117_0)).trans hx117_0
                  replace p117 := eq_true p117
                  replace q117 := eq_true q117
                  have hcz12_0 : wr.cell? ⟨gb116, 0, none⟩ = some (.int .u16 0) := (blk_cell BK116.out 0).trans rfl
                  have hcz12_1 : wr.cell? ⟨gb116, 1, none⟩ = some (u117001) := (blk_cell BK116.out 1).trans rfl
                  have hfz12_0 := blk_frozen BK116.out 0
                  have hfz12_1 := blk_frozen BK116.out 1
                  go_wp2_with (first | ((with_reducible refine gate_builtin (b := .append) (xs := #[.tmp 30, .tmp 33]) rfl ?_); at_builtin; refine Kd.R_append (Kd.int .u16) (w0 := w) w.heap.size rfl (.tmp 30) (.tmp 33) 34 35 (.int .u16 0) 2 rfl Try.underlying34 info35 rfl (by decide) (by omega) u117001 x117001_1 (IntKind.u16.wrap (rd l1 x25_1)) [.int .u16 (IntKind.u16.wrap (rd l1 x25_1))] (fun _ => True) (fun _ => False) rfl rfl ?aP (fun _ hk => hk.elim) ?aF ?aO ?aB ?aS ?aL ?_; (case aP => exact rfl); (case aB => exact (by repeat (first | (with_reducible first | exact HB.out | apply below_alloc | apply pw_below_drewN | apply below_drew1 | refine below_set ?_ GE116.out) | exact HB.out))); (case aF => exact (fun _ _ => trivial)); (case aO => exact (by (with_reducible repeat (first | apply Kd.R_alloc | apply Kd.R_drewN | apply Kd.R_drew)); exact HO_117001.out)); (case aS => exact (below_size (by repeat (first | (with_reducible first | exact HB.out | apply below_alloc | apply pw_below_drewN | apply below_drew1 | refine below_set ?_ GE116.out) | exact HB.out)))); (case aL => have := LMc11.out; omega); intro v119 w13 ho hb hg hat; rw [← Ny118.out] at ho; have n0_ := Aside0.mk (blk_grown (g := gb116) (o := .cells #[.int .u16 0, u117001] 92 (0, 0)) (by (with_reducible repeat (first | refine blk_drewN ?_ _ | refine blk_drew ?_ | refine blk_alloc ?_ _)); exact BK116.out) hg (Kd.R_ne HO_117001.out BK116.out (by decide))); have n1_ := Aside0.mk (hb); have n2_ := Aside0.mk (ho); clear BK116; clear HB; clear HO_117001; have BK116 := n0_; have HB := n1_; have HO120 := n2_; clear n0_ n1_ n2_; clear ho hb hg hat; obtain ⟨Ao14, co14, eo14⟩ := Kd.R_slice HO120.out; subst eo14; have hcz15_0 : w13.cell? ⟨gb116, 0, none⟩ = some (.int .u16 0) := (blk_cell BK116.out 0).trans rfl; have hcz15_1 : w13.cell? ⟨gb116, 1, none⟩ = some (u117001) := (blk_cell BK116.out 1).trans rfl; have hfz15_0 := blk_frozen BK116.out 0; have hfz15_1 := blk_frozen BK116.out 1))
                  go_roundg k1
                  case measure => have := HK1.out; omega
                  case rel => exact ⟨(wrap64 (x25_1 + 1)), (y118), (.slice Ao14 y118.length co14), (by first | rfl | (simp; done) | (simp [*]; done)), H', ⟨by have := HK1.out; omega⟩, ⟨by (with_reducible repeat (first | apply Kd.R_alloc | apply Kd.R_drewN | apply Kd.R_drew)); exact Kd.R_mono (Kd.R_far (p := ⟨gb116, 1, none⟩) (Kd.R_types HO120.out BK116.out (by decide)) (fun _ hk => hk.2) (.slice Ao14 y118.length co14)) (fun _ hk => trivial)⟩, ⟨by (with_reducible repeat (first | refine blk_drewN ?_ _ | refine blk_drew ?_ | refine blk_alloc ?_ _)); refine blk_put (cs := #[.int .u16 0, u117001]) ?_ 1 _ rfl; (with_reducible repeat (first | refine blk_drewN ?_ _ | refine blk_drew ?_ | refine blk_alloc ?_ _)); exact BK116.out⟩, ⟨by repeat (first | (with_reducible first | exact HB.out | apply below_alloc | apply pw_below_drewN | apply below_drew1 | refine below_set ?_ GE116.out) | exact HB.out)⟩⟩
                · rw [if_neg c11] at H
                  exact absurd H (by simp)
              · rw [if_neg c10] at H
                exact absurd H (by simp)
            · rw [if_neg c9] at H
              exact absurd H (by simp)
          · rw [if_neg c8] at H
            have c8b0 : decide (x25_1 < (l1.length : Int)) = false := decide_eq_false c8
            clear c8
            replace H := Option.bind_eq_some_iff.mp H
            obtain ⟨⟨t121, t122⟩, A160, H⟩ := H
            replace H : (if t122 = true then (some t121) else (some (-1))) = some r := H
            have A16 := Aside0.mk A160
            clear A160
            by_cases c17 : t122 = true
            · subst c17
              have H1 : (some t121) = some r := by rw [if_pos rfl] at H; exact H
              clear H
              have H := H1
              clear H1
              obtain rfl := Option.some.inj H
              have hcz18_0 : wr.cell? ⟨gb116, 0, none⟩ = some (.int .u16 0) := (blk_cell BK116.out 0).trans rfl
              have hcz18_1 : wr.cell? ⟨gb116, 1, none⟩ = some (u117001) := (blk_cell BK116.out 1).trans rfl
              have hfz18_0 := blk_frozen BK116.out 0
              have hfz18_1 := blk_frozen BK116.out 1
              obtain ⟨Ao19, co19, eo19⟩ := Kd.R_slice HO_117001.out
              subst eo19
              go_wp2_with (first | ((with_reducible refine gate_dst (N := 89) rfl ?_); refine goesIL_ (some 89) rfl rfl #[.agg #[.int .u16 0, .slice Ao19 x117001_1.length co19], .int .u16 (IntKind.u16.wrap (a2))] rfl (by (try simp only [List.map_toArray, List.map_cons, List.map_nil]); exact meth92_Index _ _  _) ?_; (with_reducible refine (tables_Coverage1_Index.calls 0 _ _ x117001_1 (IntKind.u16.wrap (a2)) t121 true _ ?side1 ?side2 A16.out).mono ?_); (case side1 => repeat (first | exact (Kd.R_reads' HO_117001.out).2.2 | (with_reducible refine Kd.C_alloc ?_ _) | (with_reducible refine Kd.C_drewN ?_ _) | (with_reducible refine Kd.C_drew ?_))); (case side2 => exact (Kd.R_reads' HO_117001.out).2.1); rintro e w20 ⟨rfl, hb⟩; refine ⟨_, rfl, ?_⟩; have n0_ := Aside0.mk (Kd.R_below (by (with_reducible repeat (first | apply Kd.R_alloc | apply Kd.R_drewN | apply Kd.R_drew)); exact HO_117001.out) hb); have n1_ := Aside0.mk (blk_below (g := gb116) (o := .cells #[.int .u16 0, .slice Ao19 x117001_1.length co19] 92 (0, 0)) (by (with_reducible repeat (first | refine blk_drewN ?_ _ | refine blk_drew ?_ | refine blk_alloc ?_ _)); exact BK116.out) hb); have n2_ := Aside0.mk (below_step (by repeat (first | (with_reducible first | exact HB.out | apply below_alloc | apply pw_below_drewN | apply below_drew1 | refine below_set ?_ GE116.out) | exact HB.out)) hb); clear HO_117001; clear BK116; clear HB; have HO_117001 := n0_; have BK116 := n1_; have HB := n2_; clear n0_ n1_ n2_; (try clear hb); (try clear hb2); (try clear hk); (try clear hi)))
              go_ret
              exact ⟨by first | rfl | (simp [errW_none, errW_some] <;> rfl) | (simp [*, errW_none, errW_some] <;> rfl), by repeat (first | (with_reducible first | exact HB.out | apply below_alloc | apply pw_below_drewN | apply below_drew1 | refine below_set ?_ GE116.out) | exact HB.out)⟩
            · replace c17 := Bool.eq_false_iff.mpr c17
              subst c17
              have H1 : (some (-1)) = some r := by rw [if_neg (show ¬ (false = true) by decide)] at H; exact H
              clear H
              have H := H1
              clear H1
              obtain rfl := Option.some.inj H
              have hcz21_0 : wr.cell? ⟨gb116, 0, none⟩ = some (.int .u16 0) := (blk_cell BK116.out 0).trans rfl
              have hcz21_1 : wr.cell? ⟨gb116, 1, none⟩ = some (u117001) := (blk_cell BK116.out 1).trans rfl
              have hfz21_0 := blk_frozen BK116.out 0
              have hfz21_1 := blk_frozen BK116.out 1
              obtain ⟨Ao22, co22, eo22⟩ := Kd.R_slice HO_117001.out
              subst eo22
              go_wp2_with (first | ((with_reducible refine gate_dst (N := 89) rfl ?_); refine goesIL_ (some 89) rfl rfl #[.agg #[.int .u16 0, .slice Ao22 x117001_1.length co22], .int .u16 (IntKind.u16.wrap (a2))] rfl (by (try simp only [List.map_toArray, List.map_cons, List.map_nil]); exact meth92_Index _ _  _) ?_; (with_reducible refine (tables_Coverage1_Index.calls 0 _ _ x117001_1 (IntKind.u16.wrap (a2)) t121 false _ ?side1 ?side2 A16.out).mono ?_); (case side1 => repeat (first | exact (Kd.R_reads' HO_117001.out).2.2 | (with_reducible refine Kd.C_alloc ?_ _) | (with_reducible refine Kd.C_drewN ?_ _) | (with_reducible refine Kd.C_drew ?_))); (case side2 => exact (Kd.R_reads' HO_117001.out).2.1); rintro e w23 ⟨rfl, hb⟩; refine ⟨_, rfl, ?_⟩; have n0_ := Aside0.mk (Kd.R_below (by (with_reducible repeat (first | apply Kd.R_alloc | apply Kd.R_drewN | apply Kd.R_drew)); exact HO_117001.out) hb); have n1_ := Aside0.mk (blk_below (g := gb116) (o := .cells #[.int .u16 0, .slice Ao22 x117001_1.length co22] 92 (0, 0)) (by (with_reducible repeat (first | refine blk_drewN ?_ _ | refine blk_drew ?_ | refine blk_alloc ?_ _)); exact BK116.out) hb); have n2_ := Aside0.mk (below_step (by repeat (first | (with_reducible first | exact HB.out | apply below_alloc | apply pw_below_drewN | apply below_drew1 | refine below_set ?_ GE116.out) | exact HB.out)) hb); clear HO_117001; clear BK116; clear HB; have HO_117001 := n0_; have BK116 := n1_; have HB := n2_; clear n0_ n1_ n2_; (try clear hb); (try clear hb2); (try clear hk); (try clear hi)))
              go_ret
              exact ⟨by first | rfl | (simp [errW_none, errW_some] <;> rfl) | (simp [*, errW_none, errW_some] <;> rfl), by repeat (first | (with_reducible first | exact HB.out | apply below_alloc | apply pw_below_drewN | apply below_drew1 | refine below_set ?_ GE116.out) | exact HB.out)⟩
    · rw [if_neg c6] at H
      have c6b0 : (a0 == 1) = false := beq_eq_false_iff_ne.mpr c6
      have c6b1 : (a0 != 1) = true := bne_iff_ne.mpr c6
      by_cases c24 : a0 = 2
      · rw [if_pos c24] at H
        have c24b0 : (a0 == 2) = true := beq_iff_eq.mpr c24
        have c24b1 : (a0 != 2) = false := bne_eq_false_iff_eq.mpr c24
        clear c24
        have H' := Aside0.mk H
        clear H
        go_enter Try.func12, Try.ntmps12
        go_wp2_with (first | ((with_reducible refine gate_callee (f := 36) rfl ?_); refine goesL_ (some 18) rfl rfl Try.func36 (by kernel_rfl) rfl #[.slice A1 l1.length c1, .int .i64 a2] rfl (by (try simp only [List.map_toArray, List.map_cons, List.map_nil]); first | done | rfl | (simp only [List.length_drop, List.length_take]; rfl)) ?_; (with_reducible refine (impl_rising.calls k _ _ l1 a2 true _ ?side1 ?side2 A4.out).mono ?_); (case side1 => repeat (first | exact HR1.out | (with_reducible refine Kd.C_alloc ?_ _) | (with_reducible refine Kd.C_drewN ?_ _) | (with_reducible refine Kd.C_drew ?_))); (case side2 => exact HC1.out); rintro e w' ⟨rfl, ⟨nd, rfl⟩⟩; refine ⟨_, rfl, ?_⟩) | ((with_reducible refine gate_dst (N := 11) rfl ?_); refine box_event ?hg (N := 11) ?hd (cs := #[.int .u16 0, .slice none 0 0]) (t := 95) ?hr ?_; (case hd => rfl); (case hg => rfl); (case hr => first | (go_simp; done) | (go_simp; rfl)); intro gb123 hg w25 hbox hb; have n0_ := Aside0.mk (below_step (by repeat (first | (with_reducible first | exact HB.out | apply below_alloc | apply pw_below_drewN | apply below_drew1) | exact HB.out)) hb); have n1_ := Aside0.mk (hbox); have n2_ := Aside0.mk ((by rw [hg]; exact (below_size (by repeat (first | (with_reducible first | exact HB.out | apply below_alloc | apply pw_below_drewN | apply below_drew1) | exact HB.out))) : w.heap.size ≤ gb123)); have n3_ := Aside0.mk ((by rw [hg]; exact (below_size (by repeat (first | (with_reducible first | exact HB.out | apply below_alloc | apply pw_below_drewN | apply below_drew1) | exact HB.out))) : w.heap.size ≤ gb123)); clear HB; have HB := n0_; have BK123 := n1_; have GW123 := n2_; have GE123 := n3_; clear n0_ n1_ n2_ n3_; clear hb hbox hg))
        go_loopg [43] k (fun kq v43 w' => ∃ (x43_1 : Int) (x124001_1 : List (S97)) (u124001 : Value), v43 = .int .i64 x43_1 ∧ Aside0 (impl_Cover.l1 kq l1 a2 l1 (l1.length : Int) x43_1 0 x124001_1 = some r) ∧ Aside0 (kq ≤ k) ∧ Aside0 (Kd.R k97 97 w' w.heap.size (fun _ => True) u124001 x124001_1) ∧ Aside0 (w'.heap[gb123]? = some (.cells #[.int .u16 0, u124001] 95 (0, 0))) ∧ Aside0 (Below w.heap.size w w'))
        case atStart => exact ⟨(0), (([] : List (S97))), (.slice none 0 0), (by first | rfl | (simp; done) | (simp [*]; done)), H', ⟨Nat.le_refl _⟩, ⟨by first | exact Kd.R_nil _ _ _ _ _ | exact Kd.N_nil _ _ _ _ _ | exact Kd.V_nil _ _ _ _ _ | exact Kd.Q_nil _ _ _ _ _ | exact Kd.S_nil _ _ _ _ _⟩, ⟨by (with_reducible repeat (first | refine blk_drewN ?_ _ | refine blk_drew ?_ | refine blk_alloc ?_ _)); exact BK123.out⟩, ⟨by repeat (first | (with_reducible first | exact HB.out | apply below_alloc | apply pw_below_drewN | apply below_drew1 | refine below_set ?_ GE123.out) | exact HB.out)⟩⟩
        case round =>
          clear H'
          try clear c1
          try clear p1
          try clear q1
          try clear hx1
          try clear c2
          try clear p2
          try clear c3
          try clear c5
          try clear c6
          try clear c6b0
          try clear c6b1
          try clear p6
          try clear c8
          try clear c8b0
          try clear c9
          try clear c9b0
          try clear c10
          try clear c10b0
          try clear c11
          try clear p11
          try clear q11
          try clear hx11
          try clear c12
          try clear c17
          try clear c24
          try clear c24b0
          try clear c24b1
          try clear hcz12_0
          try clear hcz12_1
          try clear hcz15_0
          try clear hcz15_1
          try clear hcz18_0
          try clear hcz18_1
          try clear hcz21_0
          try clear hcz21_1
          try clear hfz12_0
          try clear hfz12_1
          try clear hfz15_0
          try clear hfz15_1
          try clear hfz18_0
          try clear hfz18_1
          try clear hfz21_0
          try clear hfz21_1
          try clear hx117_0
          try clear p117
          try clear p2
          try clear q117
          obtain ⟨x43_1, x124001_1, u124001, rfl, HA, HK1, HO_124001, BK123, HB⟩ := hrel
          cases gk with
          | zero => exact absurd HA.out (by simp [impl_Cover.l1])
          | succ k1 =>
            have H := HA.out
            clear HA
            simp only [impl_Cover.l1] at H
            by_cases c26 : x43_1 < (l1.length : Int)
            · rw [if_pos c26] at H
              have c26b0 : decide (x43_1 < (l1.length : Int)) = true := decide_eq_true c26
              clear c26
              by_cases c27 : 0 ≤ x43_1
              · rw [if_pos c27] at H
                have c27b0 : decide (0 ≤ x43_1) = true := decide_eq_true c27
                clear c27
                by_cases c28 : x43_1 < (l1.length : Int)
                · rw [if_pos c28] at H
                  have c28b0 : decide (x43_1 < (l1.length : Int)) = true := decide_eq_true c28
                  clear c28
                  by_cases c29 : x43_1 > 0
                  · rw [if_pos c29] at H
                    have c29b0 : decide (0 < x43_1) = true := decide_eq_true c29
                    clear c29
                    obtain ⟨ji30, hji30⟩ : ∃ j_ : Int, (wrap64 (x43_1 - 1)) = j_ := ⟨_, rfl⟩
                    replace H : (if 0 ≤ (ji30) then (if (ji30) < (l1.length : Int) then (if (rd l1 x43_1) = (wrap64 ((rd l1 (ji30)) + 1)) then (if 0 ≤ (wrap64 ((x124001_1.length : Int) - 1)) then (if (wrap64 ((x124001_1.length : Int) - 1)) < (x124001_1.length : Int) then (impl_Cover.l1 k1 l1 a2 l1 (l1.length : Int) (wrap64 (x43_1 + 1)) 0 (x124001_1.set ((wrap64 ((x124001_1.length : Int) - 1)) : Int).toNat (⟨(rd_T97 x124001_1 (wrap64 ((x124001_1.length : Int) - 1))).f0, IntKind.u16.wrap (rd l1 x43_1), (rd_T97 x124001_1 (wrap64 ((x124001_1.length : Int) - 1))).f2⟩ : S97))) else (none)) else (none)) else (if x124001_1.length < 23456248059221 then (impl_Cover.l1 k1 l1 a2 l1 (l1.length : Int) (wrap64 (x43_1 + 1)) 0 (x124001_1 ++ [(⟨IntKind.u16.wrap (rd l1 x43_1), IntKind.u16.wrap (rd l1 x43_1), IntKind.u16.wrap (x43_1)⟩ : S97)])) else (none))) else (none)) else (none)) = some r := by first | (rw [hji30] at H; exact H) | (simp only [hji30] at H ⊢; exact H)
                    have hji30w : (IntKind.i64.wrap (x43_1 - 1)) = ji30 := (i64_w _).trans hji30
                    by_cases c31 : 0 ≤ (ji30)
                    · rw [if_pos c31] at H
                      have c31b0 : decide (0 ≤ (ji30)) = true := decide_eq_true c31
                      clear c31
                      by_cases c32 : (ji30) < (l1.length : Int)
                      · rw [if_pos c32] at H
                        have c32b0 : decide ((ji30) < (l1.length : Int)) = true := decide_eq_true c32
                        clear c32
                        by_cases c33 : (rd l1 x43_1) = (wrap64 ((rd l1 (ji30)) + 1))
                        · rw [if_pos c33] at H
                          have c33b0 : ((rd l1 x43_1) == (wrap64 ((rd l1 (ji30)) + 1))) = true := beq_iff_eq.mpr c33
                          have c33b1 : ((rd l1 x43_1) != (wrap64 ((rd l1 (ji30)) + 1))) = false := bne_eq_false_iff_eq.mpr c33
                          clear c33
                          obtain ⟨ji34, hji34⟩ : ∃ j_ : Int, (wrap64 ((x124001_1.length : Int) - 1)) = j_ := ⟨_, rfl⟩
                          replace H : (if 0 ≤ (ji34) then (if (ji34) < (x124001_1.length : Int) then (impl_Cover.l1 k1 l1 a2 l1 (l1.length : Int) (wrap64 (x43_1 + 1)) 0 (x124001_1.set ((ji34) : Int).toNat (⟨(rd_T97 x124001_1 (ji34)).f0, IntKind.u16.wrap (rd l1 x43_1), (rd_T97 x124001_1 (ji34)).f2⟩ : S97))) else (none)) else (none)) = some r := by first | (rw [hji34] at H; exact H) | (simp only [hji34] at H ⊢; exact H)
                          have hji34w : (IntKind.i64.wrap ((x124001_1.length : Int) - 1)) = ji34 := (i64_w _).trans hji34
                          by_cases c35 : 0 ≤ (ji34)
                          · rw [if_pos c35] at H
                            have c35b0 : decide (0 ≤ (ji34)) = true := decide_eq_true c35
                            clear c35
                            by_cases c36 : (ji34) < (x124001_1.length : Int)
                            · rw [if_pos c36] at H
                              have c36b0 : decide ((ji34) < (x124001_1.length : Int)) = true := decide_eq_true c36
                              clear c36
                              obtain ⟨y126, hy126⟩ : ∃ y_ : List (S97), y_ = (x124001_1.set ((ji34) : Int).toNat (⟨(rd_T97 x124001_1 (ji34)).f0, IntKind.u16.wrap (rd l1 x43_1), (rd_T97 x124001_1 (ji34)).f2⟩ : S97)) := ⟨_, rfl⟩
                              replace H : (impl_Cover.l1 k1 l1 a2 l1 (l1.length : Int) (wrap64 (x43_1 + 1)) 0 y126) = some r := by first | (rw [hy126]; with_reducible exact H) | (have H2_ := (Option.bind_some _ _).symm.trans H; rw [hy126]; with_reducible exact H2_) | (have H2_ := (Option.bind_some _ _).symm.trans H; with_reducible exact H2_) | with_reducible exact H | (rw [hy126]; exact H) | exact H
                              have Ny126 := Aside0.mk hy126
                              clear hy126
                              have H' := Aside0.mk H
                              clear H
                              have p124 : 0 ≤ (x43_1 : Int) := of_decide_eq_true (by first | (with_reducible assumption) | assumption)
                              have q124 : x43_1 < (l1.length : Int) := of_decide_eq_true (by first | (with_reducible assumption) | assumption)
                              obtain ⟨ad124, e124, hx124_0⟩ := Kd.at_int HR1.out x43_1 p124 q124
                              cases e124
                              replace hx124_0 := (HB.out.cell (World.block_lt_of_cell? w _ hx124_0)).trans hx124_0
                              replace p124 := eq_true p124
                              replace q124 := eq_true q124
                              have p125 : 0 ≤ ((ji30) : Int) := of_decide_eq_true (by first | (with_reducible assumption) | assumption)
                              have q125 : (ji30) < (l1.length : Int) := of_decide_eq_true (by first | (with_reducible assumption) | assumption)
                              obtain ⟨ad125, e125, hx125_0⟩ := Kd.at_int HR1.out (ji30) p125 q125
                              obtain rfl : ad124 = ad125 := (by injection e125)
                              replace hx125_0 := (HB.out.cell (World.block_lt_of_cell? w _ hx125_0)).trans hx125_0
                              replace p125 := eq_true p125
                              replace q125 := eq_true q125
                              have hcz38_0 : wr.cell? ⟨gb123, 0, none⟩ = some (.int .u16 0) := (blk_cell BK123.out 0).trans rfl
                              have hcz38_1 : wr.cell? ⟨gb123, 1, none⟩ = some (u124001) := (blk_cell BK123.out 1).trans rfl
                              have hfz38_0 := blk_frozen BK123.out 0
                              have hfz38_1 := blk_frozen BK123.out 1
                              obtain ⟨Ao39, co39, eo39⟩ := Kd.R_slice HO_124001.out
                              subst eo39
                              have p37 : 0 ≤ ((ji34) : Int) := of_decide_eq_true (by first | (with_reducible assumption) | assumption)
                              have q37 : ((ji34) : Int) < ((x124001_1.length : Int) : Int) := of_decide_eq_true (by first | (with_reducible assumption) | assumption)
                              obtain ⟨go37, co37, eo37, gb37, gl37, cl37, HG37⟩ := Kd.R_form HO_124001.out (by omega)
                              (first | cases eo37 | (injection eo37 with ea_ en_ ec_; (first | subst ea_ | (injection ea_ with ea_; subst ea_)); subst ec_; clear en_))
                              have GB37 := Aside0.mk gb37
                              have GG37 := Aside0.mk HG37
                              clear gb37 gl37 HG37
                              obtain ⟨ce37, hcl37, hM37, hcc37, hfr37⟩ := Kd.R_elem HO_124001.out z97 ((ji34) : Int) p37 q37
                              obtain rfl := k97_openM hM37
                              have hx37_0 : wr.cell? ⟨go37, ((ji34) : Int).toNat * 3, none⟩ = some (.int .u16 ((rd_T97 x124001_1 (ji34)).f0)) := hcc37 0 _ rfl
                              have hx37_1 : wr.cell? ⟨go37, ((ji34) : Int).toNat * 3 + 1, none⟩ = some (.int .u16 ((rd_T97 x124001_1 (ji34)).f1)) := hcc37 1 _ rfl
                              have hx37_2 : wr.cell? ⟨go37, ((ji34) : Int).toNat * 3 + 2, none⟩ = some (.int .u16 ((rd_T97 x124001_1 (ji34)).f2)) := hcc37 2 _ rfl
                              have hf37_0 : wr.frozen? ⟨go37, ((ji34) : Int).toNat * 3, none⟩ = false := hfr37 0
                              have hf37_1 : wr.frozen? ⟨go37, ((ji34) : Int).toNat * 3 + 1, none⟩ = false := hfr37 1
                              have hf37_2 : wr.frozen? ⟨go37, ((ji34) : Int).toNat * 3 + 2, none⟩ = false := hfr37 2
                              clear hcl37 hcc37 hfr37 hM37
                              replace p37 := eq_true p37
                              replace q37 := eq_true q37
                              have HX40 := Aside0.mk (show Kd.R k97 97 wr w.heap.size (fun _ => True) (.slice (some ⟨go37, 0, none⟩) x124001_1.length co39) x124001_1 from (by (with_reducible repeat (first | apply Kd.R_alloc | apply Kd.R_drewN | apply Kd.R_drew)); exact HO_124001.out))
                              obtain ⟨ce40, hcl40, hM40, hcc40, hfr40⟩ := Kd.R_elem HX40.out z97 ((ji34) : Int) (of_decide_eq_true (by first | (with_reducible assumption) | assumption)) (by have h_ : ((ji34) : Int) < ((x124001_1.length : Int) : Int) := of_decide_eq_true (by first | (with_reducible assumption) | assumption); first | exact h_ | (have e_ := (Kd.R_reads' HO_124001.out).1; omega) | simpa using h_)
                              obtain rfl := k97_openM hM40
                              have HP40 := Kd.R_seg HX40.out ((ji34) : Int) (of_decide_eq_true (by first | (with_reducible assumption) | assumption)) (by have h_ : ((ji34) : Int) < ((x124001_1.length : Int) : Int) := of_decide_eq_true (by first | (with_reducible assumption) | assumption); first | exact h_ | (have e_ := (Kd.R_reads' HO_124001.out).1; omega) | simpa using h_) (seg := [.int .u16 (IntKind.u16.wrap (rd l1 x43_1))]) (j := 1) hcl40 hcc40 (show 2 ≤ 3 from by decide) (x' := (⟨(rd_T97 x124001_1 (ji34)).f0, IntKind.u16.wrap (rd l1 x43_1), (rd_T97 x124001_1 (ji34)).f2⟩ : S97)) (k97_mkM _ _ _ (⟨(rd_T97 x124001_1 (ji34)).f0, IntKind.u16.wrap (rd l1 x43_1), (rd_T97 x124001_1 (ji34)).f2⟩ : S97) ) (fun _ hk => hk)
                              have hx40_1 := hcc40 1 _ rfl
                              (try simp only [show (k97).sz = 3 from rfl, Nat.mul_one, Nat.add_zero] at hx40_1)
                              have hf40_1 := hfr40 1
                              (try simp only [show (k97).sz = 3 from rfl, Nat.mul_one, Nat.add_zero] at hf40_1)
                              clear hcl40 hcc40 hfr40 hM40
                              go_wp2_with (first | ((with_reducible refine gate_store (t := 35) (p := 69) rfl ?_); refine store_event (t := 35) (p := 69) (v := ?vo_w41) (w1 := (wr.setCell ⟨go37, ((ji34) : Int).toNat * 3 + 1, none⟩ (.int .u16 (IntKind.u16.wrap (rd l1 x43_1))))) ?hg ?ho ?hn ?hr ?_; (case ho => rfl); (case hg => rfl); (case hn => rfl); (case hr => first | (go_simp; done) | (go_simp; rfl)); intro w41 hw; have hg : wr.grownBy w41 (some go37) := (by rw [hw]; exact HP40.2); have hp_ : Kd.R k97 97 w41 w.heap.size (fun _ => True) (.slice (some ⟨go37, 0, none⟩) x124001_1.length co39) y126 := (by rw [hw, Ny126.out]; exact HP40.1); clear HP40; have n0_ := Aside0.mk (hp_); have n1_ := Aside0.mk (blk_grown (g := gb123) (o := .cells #[.int .u16 0, .slice (some ⟨go37, 0, none⟩) x124001_1.length co39] 95 (0, 0)) (by (with_reducible repeat (first | refine blk_drewN ?_ _ | refine blk_drew ?_ | refine blk_alloc ?_ _)); exact BK123.out) hg (Kd.R_ne HO_124001.out BK123.out (by decide))); have n2_ := Aside0.mk ((by rw [hw]; exact below_set (HB.out) GB37.out : Below w.heap.size w w41)); clear HO_124001; clear BK123; clear HB; have HO_124001 := n0_; have BK123 := n1_; have HB := n2_; clear n0_ n1_ n2_; clear hg hw hp_))
                              go_roundg k1
                              case measure => have := HK1.out; omega
                              case rel => exact ⟨(wrap64 (x43_1 + 1)), (y126), (.slice (some ⟨go37, 0, none⟩) x124001_1.length co39), (by first | rfl | (simp; done) | (simp [*]; done)), H', ⟨by have := HK1.out; omega⟩, ⟨by (with_reducible repeat (first | apply Kd.R_alloc | apply Kd.R_drewN | apply Kd.R_drew)); exact HO_124001.out⟩, ⟨by (with_reducible repeat (first | refine blk_drewN ?_ _ | refine blk_drew ?_ | refine blk_alloc ?_ _)); exact BK123.out⟩, ⟨by repeat (first | (with_reducible first | exact HB.out | apply below_alloc | apply pw_below_drewN | apply below_drew1 | refine below_set ?_ GE123.out) | exact HB.out)⟩⟩
                            · rw [if_neg c36] at H
                              exact absurd H (by simp)
                          · rw [if_neg c35] at H
                            exact absurd H (by simp)
                        · rw [if_neg c33] at H
                          have c33b0 : ((rd l1 x43_1) == (wrap64 ((rd l1 (ji30)) + 1))) = false := beq_eq_false_iff_ne.mpr c33
                          have c33b1 : ((rd l1 x43_1) != (wrap64 ((rd l1 (ji30)) + 1))) = true := bne_iff_ne.mpr c33
                          by_cases c42 : x124001_1.length < 23456248059221
                          · rw [if_pos c42] at H
                            have LMc42 := Aside0.mk c42
                            clear c42
                            obtain ⟨y127, hy127⟩ : ∃ y_ : List (S97), y_ = (x124001_1 ++ [(⟨IntKind.u16.wrap (rd l1 x43_1), IntKind.u16.wrap (rd l1 x43_1), IntKind.u16.wrap (x43_1)⟩ : S97)]) := ⟨_, rfl⟩
                            replace H : (impl_Cover.l1 k1 l1 a2 l1 (l1.length : Int) (wrap64 (x43_1 + 1)) 0 y127) = some r := by first | (rw [hy127]; with_reducible exact H) | (have H2_ := (Option.bind_some _ _).symm.trans H; rw [hy127]; with_reducible exact H2_) | (have H2_ := (Option.bind_some _ _).symm.trans H; with_reducible exact H2_) | with_reducible exact H | (rw [hy127]; exact H) | exact H
                            have Ny127 := Aside0.mk hy127
                            clear hy127
                            have H' := Aside0.mk H
                            clear H
                            have p124 : 0 ≤ (x43_1 : Int) := of_decide_eq_true (by first | (with_reducible assumption) | assumption)
                            have q124 : x43_1 < (l1.length : Int) := of_decide_eq_true (by first | (with_reducible assumption) | assumption)
                            obtain ⟨ad124, e124, hx124_0⟩ := Kd.at_int HR1.out x43_1 p124 q124
                            cases e124
                            replace hx124_0 := (HB.out.cell (World.block_lt_of_cell? w _ hx124_0)).trans hx124_0
                            replace p124 := eq_true p124
                            replace q124 := eq_true q124
                            have p125 : 0 ≤ ((ji30) : Int) := of_decide_eq_true (by first | (with_reducible assumption) | assumption)
                            have q125 : (ji30) < (l1.length : Int) := of_decide_eq_true (by first | (with_reducible assumption) | assumption)
                            obtain ⟨ad125, e125, hx125_0⟩ := Kd.at_int HR1.out (ji30) p125 q125
                            obtain rfl : ad124 = ad125 := (by injection e125)
                            replace hx125_0 := (HB.out.cell (World.block_lt_of_cell? w _ hx125_0)).trans hx125_0
                            replace p125 := eq_true p125
                            replace q125 := eq_true q125
                            have hcz43_0 : wr.cell? ⟨gb123, 0, none⟩ = some (.int .u16 0) := (blk_cell BK123.out 0).trans rfl
                            have hcz43_1 : wr.cell? ⟨gb123, 1, none⟩ = some (u124001) := (blk_cell BK123.out 1).trans rfl
                            have hfz43_0 := blk_frozen BK123.out 0
                            have hfz43_1 := blk_frozen BK123.out 1
                            go_wp2_with (first | ((with_reducible refine gate_builtin (b := .append) (xs := #[.tmp 71, .tmp 79]) rfl ?_); at_builtin; refine Kd.R_append k97 (w0 := w) w.heap.size rfl (.tmp 71) (.tmp 79) 93 97 (.agg #[(.int .u16 0), (.int .u16 0), (.int .u16 0)]) 6 rfl Try.underlying93 info97 rfl (by decide) (by omega) u124001 x124001_1 (⟨IntKind.u16.wrap (rd l1 x43_1), IntKind.u16.wrap (rd l1 x43_1), IntKind.u16.wrap (x43_1)⟩ : S97) [.int .u16 (IntKind.u16.wrap (rd l1 x43_1)), .int .u16 (IntKind.u16.wrap (rd l1 x43_1)), .int .u16 (IntKind.u16.wrap (x43_1))] (fun _ => True) (fun _ => False) rfl rfl ?aP (fun _ hk => hk.elim) ?aF ?aO ?aB ?aS ?aL ?_; (case aP => exact k97_mkM _ _ _ (⟨IntKind.u16.wrap (rd l1 x43_1), IntKind.u16.wrap (rd l1 x43_1), IntKind.u16.wrap (x43_1)⟩ : S97)); (case aB => exact (by repeat (first | (with_reducible first | exact HB.out | apply below_alloc | apply pw_below_drewN | apply below_drew1 | refine below_set ?_ GE123.out) | exact HB.out))); (case aF => exact (fun _ _ => trivial)); (case aO => exact (by (with_reducible repeat (first | apply Kd.R_alloc | apply Kd.R_drewN | apply Kd.R_drew)); exact HO_124001.out)); (case aS => exact (below_size (by repeat (first | (with_reducible first | exact HB.out | apply below_alloc | apply pw_below_drewN | apply below_drew1 | refine below_set ?_ GE123.out) | exact HB.out)))); (case aL => have := LMc42.out; omega); intro v128 w44 ho hb hg hat; rw [← Ny127.out] at ho; have n0_ := Aside0.mk (blk_grown (g := gb123) (o := .cells #[.int .u16 0, u124001] 95 (0, 0)) (by (with_reducible repeat (first | refine blk_drewN ?_ _ | refine blk_drew ?_ | refine blk_alloc ?_ _)); exact BK123.out) hg (Kd.R_ne HO_124001.out BK123.out (by decide))); have n1_ := Aside0.mk (hb); have n2_ := Aside0.mk (ho); clear BK123; clear HB; clear HO_124001; have BK123 := n0_; have HB := n1_; have HO129 := n2_; clear n0_ n1_ n2_; clear ho hb hg hat; obtain ⟨Ao45, co45, eo45⟩ := Kd.R_slice HO129.out; subst eo45; have hcz46_0 : w44.cell? ⟨gb123, 0, none⟩ = some (.int .u16 0) := (blk_cell BK123.out 0).trans rfl; have hcz46_1 : w44.cell? ⟨gb123, 1, none⟩ = some (u124001) := (blk_cell BK123.out 1).trans rfl; have hfz46_0 := blk_frozen BK123.out 0; have hfz46_1 := blk_frozen BK123.out 1))
                            go_roundg k1
                            case measure => have := HK1.out; omega
                            case rel => exact ⟨(wrap64 (x43_1 + 1)), (y127), (.slice Ao45 y127.length co45), (by first | rfl | (simp; done) | (simp [*]; done)), H', ⟨by have := HK1.out; omega⟩, ⟨by (with_reducible repeat (first | apply Kd.R_alloc | apply Kd.R_drewN | apply Kd.R_drew)); exact Kd.R_mono (Kd.R_far (p := ⟨gb123, 1, none⟩) (Kd.R_types HO129.out BK123.out (by decide)) (fun _ hk => hk.2) (.slice Ao45 y127.length co45)) (fun _ hk => trivial)⟩, ⟨by (with_reducible repeat (first | refine blk_drewN ?_ _ | refine blk_drew ?_ | refine blk_alloc ?_ _)); refine blk_put (cs := #[.int .u16 0, u124001]) ?_ 1 _ rfl; (with_reducible repeat (first | refine blk_drewN ?_ _ | refine blk_drew ?_ | refine blk_alloc ?_ _)); exact BK123.out⟩, ⟨by repeat (first | (with_reducible first | exact HB.out | apply below_alloc | apply pw_below_drewN | apply below_drew1 | refine below_set ?_ GE123.out) | exact HB.out)⟩⟩
                          · rw [if_neg c42] at H
                            exact absurd H (by simp)
                      · rw [if_neg c32] at H
                        exact absurd H (by simp)
                    · rw [if_neg c31] at H
                      exact absurd H (by simp)
                  · rw [if_neg c29] at H
                    have c29b0 : decide (0 < x43_1) = false := decide_eq_false c29
                    clear c29
                    by_cases c47 : x124001_1.length < 23456248059221
                    · rw [if_pos c47] at H
                      have LMc47 := Aside0.mk c47
                      clear c47
                      obtain ⟨y130, hy130⟩ : ∃ y_ : List (S97), y_ = (x124001_1 ++ [(⟨IntKind.u16.wrap (rd l1 x43_1), IntKind.u16.wrap (rd l1 x43_1), IntKind.u16.wrap (x43_1)⟩ : S97)]) := ⟨_, rfl⟩
                      replace H : (impl_Cover.l1 k1 l1 a2 l1 (l1.length : Int) (wrap64 (x43_1 + 1)) 0 y130) = some r := by first | (rw [hy130]; with_reducible exact H) | (have H2_ := (Option.bind_some _ _).symm.trans H; rw [hy130]; with_reducible exact H2_) | (have H2_ := (Option.bind_some _ _).symm.trans H; with_reducible exact H2_) | with_reducible exact H | (rw [hy130]; exact H) | exact H
                      have Ny130 := Aside0.mk hy130
                      clear hy130
                      have H' := Aside0.mk H
                      clear H
                      have p124 : 0 ≤ (x43_1 : Int) := of_decide_eq_true (by first | (with_reducible assumption) | assumption)
                      have q124 : x43_1 < (l1.length : Int) := of_decide_eq_true (by first | (with_reducible assumption) | assumption)
                      obtain ⟨ad124, e124, hx124_0⟩ := Kd.at_int HR1.out x43_1 p124 q124
                      cases e124
                      replace hx124_0 := (HB.out.cell (World.block_lt_of_cell? w _ hx124_0)).trans hx124_0
                      replace p124 := eq_true p124
                      replace q124 := eq_true q124
                      have hcz48_0 : wr.cell? ⟨gb123, 0, none⟩ = some (.int .u16 0) := (blk_cell BK123.out 0).trans rfl
                      have hcz48_1 : wr.cell? ⟨gb123, 1, none⟩ = some (u124001) := (blk_cell BK123.out 1).trans rfl
                      have hfz48_0 := blk_frozen BK123.out 0
                      have hfz48_1 := blk_frozen BK123.out 1
                      go_wp2_with (first | ((with_reducible refine gate_builtin (b := .append) (xs := #[.tmp 71, .tmp 79]) rfl ?_); at_builtin; refine Kd.R_append k97 (w0 := w) w.heap.size rfl (.tmp 71) (.tmp 79) 93 97 (.agg #[(.int .u16 0), (.int .u16 0), (.int .u16 0)]) 6 rfl Try.underlying93 info97 rfl (by decide) (by omega) u124001 x124001_1 (⟨IntKind.u16.wrap (rd l1 x43_1), IntKind.u16.wrap (rd l1 x43_1), IntKind.u16.wrap (x43_1)⟩ : S97) [.int .u16 (IntKind.u16.wrap (rd l1 x43_1)), .int .u16 (IntKind.u16.wrap (rd l1 x43_1)), .int .u16 (IntKind.u16.wrap (x43_1))] (fun _ => True) (fun _ => False) rfl rfl ?aP (fun _ hk => hk.elim) ?aF ?aO ?aB ?aS ?aL ?_; (case aP => exact k97_mkM _ _ _ (⟨IntKind.u16.wrap (rd l1 x43_1), IntKind.u16.wrap (rd l1 x43_1), IntKind.u16.wrap (x43_1)⟩ : S97)); (case aB => exact (by repeat (first | (with_reducible first | exact HB.out | apply below_alloc | apply pw_below_drewN | apply below_drew1 | refine below_set ?_ GE123.out) | exact HB.out))); (case aF => exact (fun _ _ => trivial)); (case aO => exact (by (with_reducible repeat (first | apply Kd.R_alloc | apply Kd.R_drewN | apply Kd.R_drew)); exact HO_124001.out)); (case aS => exact (below_size (by repeat (first | (with_reducible first | exact HB.out | apply below_alloc | apply pw_below_drewN | apply below_drew1 | refine below_set ?_ GE123.out) | exact HB.out)))); (case aL => have := LMc47.out; omega); intro v131 w49 ho hb hg hat; rw [← Ny130.out] at ho; have n0_ := Aside0.mk (blk_grown (g := gb123) (o := .cells #[.int .u16 0, u124001] 95 (0, 0)) (by (with_reducible repeat (first | refine blk_drewN ?_ _ | refine blk_drew ?_ | refine blk_alloc ?_ _)); exact BK123.out) hg (Kd.R_ne HO_124001.out BK123.out (by decide))); have n1_ := Aside0.mk (hb); have n2_ := Aside0.mk (ho); clear BK123; clear HB; clear HO_124001; have BK123 := n0_; have HB := n1_; have HO132 := n2_; clear n0_ n1_ n2_; clear ho hb hg hat; obtain ⟨Ao50, co50, eo50⟩ := Kd.R_slice HO132.out; subst eo50; have hcz51_0 : w49.cell? ⟨gb123, 0, none⟩ = some (.int .u16 0) := (blk_cell BK123.out 0).trans rfl; have hcz51_1 : w49.cell? ⟨gb123, 1, none⟩ = some (u124001) := (blk_cell BK123.out 1).trans rfl; have hfz51_0 := blk_frozen BK123.out 0; have hfz51_1 := blk_frozen BK123.out 1))
                      go_roundg k1
                      case measure => have := HK1.out; omega
                      case rel => exact ⟨(wrap64 (x43_1 + 1)), (y130), (.slice Ao50 y130.length co50), (by first | rfl | (simp; done) | (simp [*]; done)), H', ⟨by have := HK1.out; omega⟩, ⟨by (with_reducible repeat (first | apply Kd.R_alloc | apply Kd.R_drewN | apply Kd.R_drew)); exact Kd.R_mono (Kd.R_far (p := ⟨gb123, 1, none⟩) (Kd.R_types HO132.out BK123.out (by decide)) (fun _ hk => hk.2) (.slice Ao50 y130.length co50)) (fun _ hk => trivial)⟩, ⟨by (with_reducible repeat (first | refine blk_drewN ?_ _ | refine blk_drew ?_ | refine blk_alloc ?_ _)); refine blk_put (cs := #[.int .u16 0, u124001]) ?_ 1 _ rfl; (with_reducible repeat (first | refine blk_drewN ?_ _ | refine blk_drew ?_ | refine blk_alloc ?_ _)); exact BK123.out⟩, ⟨by repeat (first | (with_reducible first | exact HB.out | apply below_alloc | apply pw_below_drewN | apply below_drew1 | refine below_set ?_ GE123.out) | exact HB.out)⟩⟩
                    · rw [if_neg c47] at H
                      exact absurd H (by simp)
                · rw [if_neg c28] at H
                  exact absurd H (by simp)
              · rw [if_neg c27] at H
                exact absurd H (by simp)
            · rw [if_neg c26] at H
              have c26b0 : decide (x43_1 < (l1.length : Int)) = false := decide_eq_false c26
              clear c26
              replace H := Option.bind_eq_some_iff.mp H
              obtain ⟨⟨t133, t134⟩, A520, H⟩ := H
              replace H : (if t134 = true then (some t133) else (some (-1))) = some r := H
              have A52 := Aside0.mk A520
              clear A520
              by_cases c53 : t134 = true
              · subst c53
                have H1 : (some t133) = some r := by rw [if_pos rfl] at H; exact H
                clear H
                have H := H1
                clear H1
                obtain rfl := Option.some.inj H
                have hcz54_0 : wr.cell? ⟨gb123, 0, none⟩ = some (.int .u16 0) := (blk_cell BK123.out 0).trans rfl
                have hcz54_1 : wr.cell? ⟨gb123, 1, none⟩ = some (u124001) := (blk_cell BK123.out 1).trans rfl
                have hfz54_0 := blk_frozen BK123.out 0
                have hfz54_1 := blk_frozen BK123.out 1
                obtain ⟨Ao55, co55, eo55⟩ := Kd.R_slice HO_124001.out
                subst eo55
                go_wp2_with (first | ((with_reducible refine gate_dst (N := 89) rfl ?_); refine goesIL_ (some 89) rfl rfl #[.agg #[.int .u16 0, .slice Ao55 x124001_1.length co55], .int .u16 (IntKind.u16.wrap (a2))] rfl (by (try simp only [List.map_toArray, List.map_cons, List.map_nil]); exact meth95_Index _ _  _) ?_; (with_reducible refine (tables_Coverage2_Index.calls 0 _ _ x124001_1 (IntKind.u16.wrap (a2)) t133 true _ ?side1 ?side2 A52.out).mono ?_); (case side1 => repeat (first | exact (Kd.R_reads' HO_124001.out).2.2 | (with_reducible refine Kd.C_alloc ?_ _) | (with_reducible refine Kd.C_drewN ?_ _) | (with_reducible refine Kd.C_drew ?_))); (case side2 => exact (Kd.R_reads' HO_124001.out).2.1); rintro e w56 ⟨rfl, hb⟩; refine ⟨_, rfl, ?_⟩; have n0_ := Aside0.mk (Kd.R_below (by (with_reducible repeat (first | apply Kd.R_alloc | apply Kd.R_drewN | apply Kd.R_drew)); exact HO_124001.out) hb); have n1_ := Aside0.mk (blk_below (g := gb123) (o := .cells #[.int .u16 0, .slice Ao55 x124001_1.length co55] 95 (0, 0)) (by (with_reducible repeat (first | refine blk_drewN ?_ _ | refine blk_drew ?_ | refine blk_alloc ?_ _)); exact BK123.out) hb); have n2_ := Aside0.mk (below_step (by repeat (first | (with_reducible first | exact HB.out | apply below_alloc | apply pw_below_drewN | apply below_drew1 | refine below_set ?_ GE123.out) | exact HB.out)) hb); clear HO_124001; clear BK123; clear HB; have HO_124001 := n0_; have BK123 := n1_; have HB := n2_; clear n0_ n1_ n2_; (try clear hb); (try clear hb2); (try clear hk); (try clear hi)))
                go_ret
                exact ⟨by first | rfl | (simp [errW_none, errW_some] <;> rfl) | (simp [*, errW_none, errW_some] <;> rfl), by repeat (first | (with_reducible first | exact HB.out | apply below_alloc | apply pw_below_drewN | apply below_drew1 | refine below_set ?_ GE123.out) | exact HB.out)⟩
              · replace c53 := Bool.eq_false_iff.mpr c53
                subst c53
                have H1 : (some (-1)) = some r := by rw [if_neg (show ¬ (false = true) by decide)] at H; exact H
                clear H
                have H := H1
                clear H1
                obtain rfl := Option.some.inj H
                have hcz57_0 : wr.cell? ⟨gb123, 0, none⟩ = some (.int .u16 0) := (blk_cell BK123.out 0).trans rfl
                have hcz57_1 : wr.cell? ⟨gb123, 1, none⟩ = some (u124001) := (blk_cell BK123.out 1).trans rfl
                have hfz57_0 := blk_frozen BK123.out 0
                have hfz57_1 := blk_frozen BK123.out 1
                obtain ⟨Ao58, co58, eo58⟩ := Kd.R_slice HO_124001.out
                subst eo58
                go_wp2_with (first | ((with_reducible refine gate_dst (N := 89) rfl ?_); refine goesIL_ (some 89) rfl rfl #[.agg #[.int .u16 0, .slice Ao58 x124001_1.length co58], .int .u16 (IntKind.u16.wrap (a2))] rfl (by (try simp only [List.map_toArray, List.map_cons, List.map_nil]); exact meth95_Index _ _  _) ?_; (with_reducible refine (tables_Coverage2_Index.calls 0 _ _ x124001_1 (IntKind.u16.wrap (a2)) t133 false _ ?side1 ?side2 A52.out).mono ?_); (case side1 => repeat (first | exact (Kd.R_reads' HO_124001.out).2.2 | (with_reducible refine Kd.C_alloc ?_ _) | (with_reducible refine Kd.C_drewN ?_ _) | (with_reducible refine Kd.C_drew ?_))); (case side2 => exact (Kd.R_reads' HO_124001.out).2.1); rintro e w59 ⟨rfl, hb⟩; refine ⟨_, rfl, ?_⟩; have n0_ := Aside0.mk (Kd.R_below (by (with_reducible repeat (first | apply Kd.R_alloc | apply Kd.R_drewN | apply Kd.R_drew)); exact HO_124001.out) hb); have n1_ := Aside0.mk (blk_below (g := gb123) (o := .cells #[.int .u16 0, .slice Ao58 x124001_1.length co58] 95 (0, 0)) (by (with_reducible repeat (first | refine blk_drewN ?_ _ | refine blk_drew ?_ | refine blk_alloc ?_ _)); exact BK123.out) hb); have n2_ := Aside0.mk (below_step (by repeat (first | (with_reducible first | exact HB.out | apply below_alloc | apply pw_below_drewN | apply below_drew1 | refine below_set ?_ GE123.out) | exact HB.out)) hb); clear HO_124001; clear BK123; clear HB; have HO_124001 := n0_; have BK123 := n1_; have HB := n2_; clear n0_ n1_ n2_; (try clear hb); (try clear hb2); (try clear hk); (try clear hi)))
                go_ret
                exact ⟨by first | rfl | (simp [errW_none, errW_some] <;> rfl) | (simp [*, errW_none, errW_some] <;> rfl), by repeat (first | (with_reducible first | exact HB.out | apply below_alloc | apply pw_below_drewN | apply below_drew1 | refine below_set ?_ GE123.out) | exact HB.out)⟩
      · rw [if_neg c24] at H
        have c24b0 : (a0 == 2) = false := beq_eq_false_iff_ne.mpr c24
        have c24b1 : (a0 != 2) = true := bne_iff_ne.mpr c24
        obtain rfl := Option.some.inj H
        go_enter Try.func12, Try.ntmps12
        go_wp2_with (first | ((with_reducible refine gate_callee (f := 36) rfl ?_); refine goesL_ (some 18) rfl rfl Try.func36 (by kernel_rfl) rfl #[.slice A1 l1.length c1, .int .i64 a2] rfl (by (try simp only [List.map_toArray, List.map_cons, List.map_nil]); first | done | rfl | (simp only [List.length_drop, List.length_take]; rfl)) ?_; (with_reducible refine (impl_rising.calls k _ _ l1 a2 true _ ?side1 ?side2 A4.out).mono ?_); (case side1 => repeat (first | exact HR1.out | (with_reducible refine Kd.C_alloc ?_ _) | (with_reducible refine Kd.C_drewN ?_ _) | (with_reducible refine Kd.C_drew ?_))); (case side2 => exact HC1.out); rintro e w' ⟨rfl, ⟨nd, rfl⟩⟩; refine ⟨_, rfl, ?_⟩))
        go_ret
        exact ⟨by first | rfl | (simp [errW_none, errW_some] <;> rfl) | (simp [*, errW_none, errW_some] <;> rfl), by repeat (first | (with_reducible first | exact HB.out | apply below_alloc | apply pw_below_drewN | apply below_drew1) | exact HB.out)⟩
  · replace c5 := Bool.eq_false_iff.mpr c5
    subst c5
    have H1 : (some (-1)) = some r := by rw [if_neg (show ¬ (false = true) by decide)] at H; exact H
    clear H
    have H := H1
    clear H1
    obtain rfl := Option.some.inj H
    go_enter Try.func12, Try.ntmps12
    go_wp2_with (first | ((with_reducible refine gate_callee (f := 36) rfl ?_); refine goesL_ (some 18) rfl rfl Try.func36 (by kernel_rfl) rfl #[.slice A1 l1.length c1, .int .i64 a2] rfl (by (try simp only [List.map_toArray, List.map_cons, List.map_nil]); first | done | rfl | (simp only [List.length_drop, List.length_take]; rfl)) ?_; (with_reducible refine (impl_rising.calls k _ _ l1 a2 false _ ?side1 ?side2 A4.out).mono ?_); (case side1 => repeat (first | exact HR1.out | (with_reducible refine Kd.C_alloc ?_ _) | (with_reducible refine Kd.C_drewN ?_ _) | (with_reducible refine Kd.C_drew ?_))); (case side2 => exact HC1.out); rintro e w' ⟨rfl, ⟨nd, rfl⟩⟩; refine ⟨_, rfl, ?_⟩))
    go_ret
    exact ⟨by first | rfl | (simp [errW_none, errW_some] <;> rfl) | (simp [*, errW_none, errW_some] <;> rfl), by repeat (first | (with_reducible first | exact HB.out | apply below_alloc | apply pw_below_drewN | apply below_drew1) | exact HB.out)⟩

/-! ### spec_fontCover: function 37 -/
def spec_fontCover.l0 : Nat → Int → List Int → Int → Int → Option (Int)
  | 0, _, _, _, _ => none
  | k + 1, x1, x7, x8, x9 => if x9 < x8 then (if 0 ≤ x9 then (if x9 < (x7.length : Int) then (if (rd x7 x9) = x1 then (some x9) else (spec_fontCover.l0 k x1 x7 x8 (wrap64 (x9 + 1)))) else (none)) else (none)) else (some (-1))
def spec_fontCover.f (k : Nat) (l0 : List Int) (a1 : Int) : Option (Int) := spec_fontCover.l0 k a1 l0 (l0.length : Int) 0
theorem spec_fontCover.mono_l : ∀ k, (∀ y0 y1 y2 y3, LeO (spec_fontCover.l0 k y0 y1 y2 y3) (spec_fontCover.l0 (k + 1) y0 y1 y2 y3))
  | 0 => fun _ _ _ _ r h => by simp [spec_fontCover.l0] at h
  | k + 1 => by
    have ih0 := spec_fontCover.mono_l k
    · intro y0 y1 y2 y3
      unfold spec_fontCover.l0
      repeat' first
      | (with_reducible exact ih0 _ _ _ _)
      | (with_reducible exact LeO.refl _)
      | (with_reducible exact LeO.none _)
      | (with_reducible refine LeO.ite ?_ ?_)
      | (with_reducible refine LeO.bind ?_ (fun _ => ?_))
      | exact ih0 _ _ _ _
      | exact LeO.none _
      | refine LeO.ite ?_ ?_
      | refine LeO.bind ?_ (fun _ => ?_)
theorem spec_fontCover.mono : ∀ a0 a1 k, LeO (spec_fontCover.f k a0 a1) (spec_fontCover.f (k + 1) a0 a1) := by
  intro a0 a1 k
  have ih0 := spec_fontCover.mono_l k
  unfold spec_fontCover.f
  repeat' first
      | (with_reducible exact ih0 _ _ _ _)
      | (with_reducible exact LeO.refl _)
      | (with_reducible exact LeO.none _)
      | (with_reducible refine LeO.ite ?_ ?_)
      | (with_reducible refine LeO.bind ?_ (fun _ => ?_))
      | exact ih0 _ _ _ _
      | exact LeO.none _
      | refine LeO.ite ?_ ?_
      | refine LeO.bind ?_ (fun _ => ?_)
set_option maxHeartbeats 8000000 in
set_option maxRecDepth 100000 in
theorem spec_fontCover.calls (k : Nat) (A0 : Option Addr) (c0 : Nat) (l0 : List Int) (a1 : Int) (r : Int) (w : World) (hr0 : Kd.C (Kd.int .i64) w A0 l0.length l0) (hc0 : l0.length ≤ c0) (h : spec_fontCover.f k l0 a1 = some r) :
    Calls Try.prog 37 #[.slice A0 l0.length c0, .int .i64 a1] w fun e w' => e = .returned (.int .i64 r) ∧ Drawn0 w w' := by
  have HR0 := Aside0.mk hr0
  have HC0 := Aside0.mk hc0
  clear hr0 hc0
  have H : (spec_fontCover.l0 k a1 l0 (l0.length : Int) 0) = some r := h
  clear h
  have H' := Aside0.mk H
  clear H
  go_enter Try.func37, Try.ntmps37
  go_wp2
  go_loopg [9] k (fun kq v9 w' => ∃ (x9_1 : Int), v9 = .int .i64 x9_1 ∧ Aside0 (spec_fontCover.l0 kq a1 l0 (l0.length : Int) x9_1 = some r) ∧ Aside0 (kq ≤ k) ∧ Drawn0 w w')
  case atStart => exact ⟨(0), (by first | rfl | (simp; done) | (simp [*]; done)), H', ⟨Nat.le_refl _⟩, by repeat (first | exact Drawn0.refl _ | apply Drawn0.step)⟩
  case round =>
    clear H'
    try clear p2
    obtain ⟨x9_1, rfl, HA, HK1, ⟨m1, rfl⟩⟩ := hrel
    cases gk with
    | zero => exact absurd HA.out (by simp [spec_fontCover.l0])
    | succ k1 =>
      have H := HA.out
      clear HA
      simp only [spec_fontCover.l0] at H
      by_cases c3 : x9_1 < (l0.length : Int)
      · rw [if_pos c3] at H
        have c3b0 : decide (x9_1 < (l0.length : Int)) = true := decide_eq_true c3
        clear c3
        by_cases c4 : 0 ≤ x9_1
        · rw [if_pos c4] at H
          have c4b0 : decide (0 ≤ x9_1) = true := decide_eq_true c4
          clear c4
          by_cases c5 : x9_1 < (l0.length : Int)
          · rw [if_pos c5] at H
            have c5b0 : decide (x9_1 < (l0.length : Int)) = true := decide_eq_true c5
            clear c5
            by_cases c6 : (rd l0 x9_1) = a1
            · rw [if_pos c6] at H
              have c6b0 : ((rd l0 x9_1) == a1) = true := beq_iff_eq.mpr c6
              have c6b1 : ((rd l0 x9_1) != a1) = false := bne_eq_false_iff_eq.mpr c6
              clear c6
              obtain rfl := Option.some.inj H
              have p135 : 0 ≤ (x9_1 : Int) := of_decide_eq_true (by first | (with_reducible assumption) | assumption)
              have q135 : x9_1 < (l0.length : Int) := of_decide_eq_true (by first | (with_reducible assumption) | assumption)
              obtain ⟨ad135, e135, hx135_0⟩ := Kd.at_int HR0.out x9_1 p135 q135
              cases e135
              replace p135 := eq_true p135
              replace q135 := eq_true q135
              go_wp2
              go_ret
              exact ⟨by first | rfl | (simp; done) | (simp [*]; done), by repeat (first | exact Drawn0.refl _ | apply Drawn0.step)⟩
            · rw [if_neg c6] at H
              have c6b0 : ((rd l0 x9_1) == a1) = false := beq_eq_false_iff_ne.mpr c6
              have c6b1 : ((rd l0 x9_1) != a1) = true := bne_iff_ne.mpr c6
              have H' := Aside0.mk H
              clear H
              have p135 : 0 ≤ (x9_1 : Int) := of_decide_eq_true (by first | (with_reducible assumption) | assumption)
              have q135 : x9_1 < (l0.length : Int) := of_decide_eq_true (by first | (with_reducible assumption) | assumption)
              obtain ⟨ad135, e135, hx135_0⟩ := Kd.at_int HR0.out x9_1 p135 q135
              cases e135
              replace p135 := eq_true p135
              replace q135 := eq_true q135
              go_wp2
              go_roundg k1
              case measure => have := HK1.out; omega
              case rel => exact ⟨(wrap64 (x9_1 + 1)), (by first | rfl | (simp; done) | (simp [*]; done)), H', ⟨by have := HK1.out; omega⟩, by repeat (first | exact Drawn0.refl _ | apply Drawn0.step)⟩
          · rw [if_neg c5] at H
            exact absurd H (by simp)
        · rw [if_neg c4] at H
          exact absurd H (by simp)
      · rw [if_neg c3] at H
        have c3b0 : decide (x9_1 < (l0.length : Int)) = false := decide_eq_false c3
        clear c3
        obtain rfl := Option.some.inj H
        go_wp2
        go_ret
        exact ⟨by first | rfl | (simp; done) | (simp [*]; done), by repeat (first | exact Drawn0.refl _ | apply Drawn0.step)⟩

/-! ### spec_CoverRef: function 13 -/
def spec_CoverRef.f (k : Nat) (l0 : List Int) (a1 : Int) : Option (Int) := (spec_fontCover.f k l0 a1).bind fun t136 => (some t136)
theorem spec_CoverRef.mono : ∀ a0 a1 k, LeO (spec_CoverRef.f k a0 a1) (spec_CoverRef.f (k + 1) a0 a1) := by
  intro a0 a1 k
  unfold spec_CoverRef.f
  repeat' first
      | (with_reducible exact spec_fontCover.mono _ _ _)
      | (with_reducible exact LeO.refl _)
      | (with_reducible exact LeO.none _)
      | (with_reducible refine LeO.ite ?_ ?_)
      | (with_reducible refine LeO.bind ?_ (fun _ => ?_))
      | exact spec_fontCover.mono _ _ _
      | exact LeO.none _
      | refine LeO.ite ?_ ?_
      | refine LeO.bind ?_ (fun _ => ?_)
set_option maxHeartbeats 8000000 in
set_option maxRecDepth 100000 in
theorem spec_CoverRef.calls (k : Nat) (A0 : Option Addr) (c0 : Nat) (l0 : List Int) (a1 : Int) (r : Int) (w : World) (hr0 : Kd.C (Kd.int .i64) w A0 l0.length l0) (hc0 : l0.length ≤ c0) (h : spec_CoverRef.f k l0 a1 = some r) :
    Calls Try.prog 13 #[.slice A0 l0.length c0, .int .i64 a1] w fun e w' => e = .returned (.int .i64 r) ∧ Drawn0 w w' := by
  have HR0 := Aside0.mk hr0
  have HC0 := Aside0.mk hc0
  clear hr0 hc0
  have H : ((spec_fontCover.f k l0 a1).bind fun t136 => (some t136)) = some r := h
  clear h
  replace H := Option.bind_eq_some_iff.mp H
  obtain ⟨t136, A30, H⟩ := H
  replace H : (some t136) = some r := H
  have A3 := Aside0.mk A30
  clear A30
  obtain rfl := Option.some.inj H
  go_enter Try.func13, Try.ntmps13
  go_wp2_with (first | ((with_reducible refine gate_callee (f := 37) rfl ?_); refine goesL_ (some 7) rfl rfl Try.func37 (by kernel_rfl) rfl #[.slice A0 l0.length c0, .int .i64 a1] rfl (by (try simp only [List.map_toArray, List.map_cons, List.map_nil]); first | done | rfl | (simp only [List.length_drop, List.length_take]; rfl)) ?_; (with_reducible refine (spec_fontCover.calls k _ _ l0 a1 t136 _ ?side1 ?side2 A3.out).mono ?_); (case side1 => repeat (first | exact HR0.out | (with_reducible refine Kd.C_alloc ?_ _) | (with_reducible refine Kd.C_drewN ?_ _) | (with_reducible refine Kd.C_drew ?_))); (case side2 => exact HC0.out); rintro e w' ⟨rfl, ⟨nd, rfl⟩⟩; refine ⟨_, rfl, ?_⟩))
  go_ret
  exact ⟨by first | rfl | (simp; done) | (simp [*]; done), by repeat (first | exact Drawn0.refl _ | apply Drawn0.step)⟩

end Go.Proofs.Ytchkmmbedgolbaa.PFnCover
