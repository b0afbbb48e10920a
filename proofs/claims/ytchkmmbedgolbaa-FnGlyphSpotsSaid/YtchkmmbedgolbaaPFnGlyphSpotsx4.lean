-- Written by a program of this session (xprint) out of the translation; Lean checks it.
import Derived.Test.YtchkmmbedgolbaaPFnGlyphSpotsx0
import Derived.Test.YtchkmmbedgolbaaPFnGlyphSpotsx2
import Derived.Test.YtchkmmbedgolbaaPFnGlyphSpotsx3
namespace Go.Proofs.Ytchkmmbedgolbaa.PFnGlyphSpots
open Go.RowKit Go.Proofs.YtchkmmbedgolbaaW.PrintWords Go.Proofs.YtchkmmbedgolbaaW.PrintLast Go.Proofs.YtchkmmbedgolbaaW.PrintMore
attribute [local go_sem] max2_int min2_int max_two min_two max_three min_three max_four min_four   -- for this text's walks alone
set_option linter.unusedVariables false
set_option linter.unusedSimpArgs false

/-- A state of type 120 at block g of W; what its slices lead to came in by w0. -/
def IsS120 (w0 W : World) (g : Nat) (f0 : List Int) (f1 : Unit) (f2 : List (S123)) : Prop := ∃ A0 c0, ∃ A2 c2, W.heap[g]? = some (.cells #[.slice A0 f0.length c0, .slice none 0 0, .slice A2 f2.length c2] 120 (0, 0)) ∧ w0.heap.size ≤ g ∧ (Kd.C (Kd.int .u16) w0 A0 f0.length f0 ∧ f0.length ≤ c0) ∧ (Kd.C k123 w0 A2 f2.length f2 ∧ f2.length ≤ c2)
theorem IsS120.grown {w0 W : World} {g : Nat} {f0 : List Int} {f1 : Unit} {f2 : List (S123)} {W1 : World} {row : Option Nat} (h : IsS120 w0 W g f0 f1 f2) (hw : W.grownBy W1 row) (hne : some g ≠ row) : IsS120 w0 W1 g f0 f1 f2 := by
 obtain ⟨A0, c0, A2, c2, hb, hg, hr0, hr2⟩ := h
 exact ⟨A0, c0, A2, c2, blk_grown hb hw hne, hg, hr0, hr2⟩
theorem IsS120.own_neN {w0 W : World} {g : Nat} {f0 : List Int} {f1 : Unit} {f2 : List (S123)} {α : Type} {d : Kd α} {e : Nat} {base : Nat} {ok : Nat → Prop} {v : Value} {xs : List α} (h : IsS120 w0 W g f0 f1 f2) (ho : Kd.N d e W base ok v xs) (ht : e ≠ 120) : some g ≠ v.ownBlock := by
 obtain ⟨A0, c0, A2, c2, hb, hg, hr0, hr2⟩ := h
 exact Kd.N_ne ho hb ht
theorem IsS120.fresh {w0 W : World} {g : Nat} {f0 : List Int} {f1 : Unit} {f2 : List (S123)} (h : IsS120 w0 W g f0 f1 f2) : ∀ k, W.heap.size ≤ k → k ≠ g := by
 obtain ⟨A0, c0, A2, c2, hb, hg, hr0, hr2⟩ := h
 exact Kd.freshB hb
theorem IsS120.kept {w0 W : World} {g : Nat} {f0 : List Int} {f1 : Unit} {f2 : List (S123)} {W1 : World} {S : Nat → Prop} (h : IsS120 w0 W g f0 f1 f2) (hk : Kept W W1 S) (hne : ¬ S g) : IsS120 w0 W1 g f0 f1 f2 := by
 obtain ⟨A0, c0, A2, c2, hb, hg, hr0, hr2⟩ := h
 exact ⟨A0, c0, A2, c2, blk_kept hb hk hne, hg, hr0, hr2⟩
theorem IsS120.below {w0 W : World} {g : Nat} {f0 : List Int} {f1 : Unit} {f2 : List (S123)} {W1 : World} (h : IsS120 w0 W g f0 f1 f2) (hw : Below W.heap.size W W1) : IsS120 w0 W1 g f0 f1 f2 := h.grown (grown_of_below hw none) (by simp)
theorem IsS120.alloc {w0 W : World} {g : Nat} {f0 : List Int} {f1 : Unit} {f2 : List (S123)} (h : IsS120 w0 W g f0 f1 f2) (o : Obj) : IsS120 w0 (W.alloc o) g f0 f1 f2 := h.below (below_alloc (Below.refl _ _) o)
theorem IsS120.drewN {w0 W : World} {g : Nat} {f0 : List Int} {f1 : Unit} {f2 : List (S123)} (h : IsS120 w0 W g f0 f1 f2) (m : Nat) : IsS120 w0 (W.drewN m) g f0 f1 f2 := h
theorem IsS120.drew {w0 W : World} {g : Nat} {f0 : List Int} {f1 : Unit} {f2 : List (S123)} (h : IsS120 w0 W g f0 f1 f2) : IsS120 w0 W.drew g f0 f1 f2 := h
theorem IsS120.at_ {w0 W : World} {g : Nat} {f0 : List Int} {f1 : Unit} {f2 : List (S123)} {w' : World} {m : Nat} (hq : W.drewN m = w') (h : IsS120 w0 W g f0 f1 f2) : IsS120 w0 w' g f0 f1 f2 := by subst hq; exact IsS120.drewN h m
theorem IsS120.apart {w0 W : World} {g : Nat} {f0 : List Int} {f1 : Unit} {f2 : List (S123)} {α : Type} {d : Kd α} {e : Nat} {base : Nat} {ok : Nat → Prop} {v : Value} {xs : List α} (h : IsS120 w0 W g f0 f1 f2) (ho : d.R e W base ok v xs) (ht : ∀ q, q ∈ e :: d.E → q ≠ 120) : d.R e W base (fun k => ok k ∧ k ≠ g) v xs := by
 obtain ⟨A0, c0, A2, c2, hb, hg, hr0, hr2⟩ := h
 exact Kd.R_types ho hb ht
theorem IsS120.own_ne {w0 W : World} {g : Nat} {f0 : List Int} {f1 : Unit} {f2 : List (S123)} {α : Type} {d : Kd α} {e : Nat} {base : Nat} {ok : Nat → Prop} {v : Value} {xs : List α} (h : IsS120 w0 W g f0 f1 f2) (ho : d.R e W base ok v xs) (ht : e ≠ 120) : some g ≠ v.ownBlock := by
 obtain ⟨A0, c0, A2, c2, hb, hg, hr0, hr2⟩ := h
 exact Kd.R_ne ho hb ht
theorem IsS120.apartQ {w0 W : World} {g : Nat} {f0 : List Int} {f1 : Unit} {f2 : List (S123)} {α : Type} {d : Kd α} {e : Nat} {base : Nat} {ok : Nat → Prop} {v : Value} {xs : List α} (h : IsS120 w0 W g f0 f1 f2) (ho : d.Q e W base ok v xs) (ht : ∀ q, q ∈ e :: d.E → q ≠ 120) : d.Q e W base (fun k => ok k ∧ k ≠ g) v xs := by
 obtain ⟨A0, c0, A2, c2, hb, hg, hr0, hr2⟩ := h
 exact Kd.Q_types ho hb ht
theorem IsS120.own_neQ {w0 W : World} {g : Nat} {f0 : List Int} {f1 : Unit} {f2 : List (S123)} {α : Type} {d : Kd α} {e : Nat} {base : Nat} {ok : Nat → Prop} {v : Value} {xs : List α} (h : IsS120 w0 W g f0 f1 f2) (ho : d.Q e W base ok v xs) (ht : e ≠ 120) : some g ≠ v.ownBlock := by
 obtain ⟨A0, c0, A2, c2, hb, hg, hr0, hr2⟩ := h
 exact Kd.Q_ne ho hb ht
theorem IsS120.apartS {w0 W : World} {g : Nat} {f0 : List Int} {f1 : Unit} {f2 : List (S123)} {α : Type} {d : Kd α} {e : Nat} {base : Nat} {ok : Nat → Prop} {v : Value} {xs : List α} (h : IsS120 w0 W g f0 f1 f2) (ho : d.S e W base ok v xs) (ht : ∀ q, q ∈ e :: d.E → q ≠ 120) : d.S e W base (fun k => ok k ∧ k ≠ g) v xs := by
 obtain ⟨A0, c0, A2, c2, hb, hg, hr0, hr2⟩ := h
 exact Kd.S_types ho hb ht
theorem IsS120.own_neS {w0 W : World} {g : Nat} {f0 : List Int} {f1 : Unit} {f2 : List (S123)} {α : Type} {d : Kd α} {e : Nat} {base : Nat} {ok : Nat → Prop} {v : Value} {xs : List α} (h : IsS120 w0 W g f0 f1 f2) (ho : d.S e W base ok v xs) (ht : e ≠ 120) : some g ≠ v.ownBlock := by
 obtain ⟨A0, c0, A2, c2, hb, hg, hr0, hr2⟩ := h
 exact Kd.S_ne ho hb ht
theorem IsS120.lt {w0 W : World} {g : Nat} {f0 : List Int} {f1 : Unit} {f2 : List (S123)} (h : IsS120 w0 W g f0 f1 f2) : g < W.heap.size := by
 obtain ⟨A0, c0, A2, c2, hb, hg, hr0, hr2⟩ := h
 exact blk_lt hb
theorem IsS120.ge {w0 W : World} {g : Nat} {f0 : List Int} {f1 : Unit} {f2 : List (S123)} (h : IsS120 w0 W g f0 f1 f2) : w0.heap.size ≤ g := by
 obtain ⟨A0, c0, A2, c2, hb, hg, hr0, hr2⟩ := h
 exact hg
theorem IsS120.ne_blk {w0 W : World} {g : Nat} {f0 : List Int} {f1 : Unit} {f2 : List (S123)} {a : Nat} {cs : Array Value} {t : TypeId} {fr : Nat × Nat} (h : IsS120 w0 W g f0 f1 f2) (hb2 : W.heap[a]? = some (.cells cs t fr)) (ht : t ≠ 120) : g ≠ a := by
 obtain ⟨A0, c0, A2, c2, hb, hg, hr0, hr2⟩ := h
 rintro rfl
 rw [hb] at hb2
 injection hb2 with hb2
 injection hb2 with _ ht2
 exact ht ht2.symm
theorem IsS120.far {w0 W : World} {g : Nat} {f0 : List Int} {f1 : Unit} {f2 : List (S123)} {p : Addr} (h : IsS120 w0 W g f0 f1 f2) (hne : g ≠ p.block) (u : Value) : IsS120 w0 (W.setCell p u) g f0 f1 f2 := by
 obtain ⟨A0, c0, A2, c2, hb, hg, hr0, hr2⟩ := h
 exact ⟨A0, c0, A2, c2, blk_far hb hne u, hg, hr0, hr2⟩
theorem IsS120.ofS {w0 W : World} {g : Nat} {f0 : List Int} {f1 : Unit} {f2 : List (S123)} {A0 : Option Addr} {c0 : Nat} {A2 : Option Addr} {c2 : Nat} (h : W.heap[g]? = some (.cells #[.slice A0 f0.length c0, .slice none 0 0, .slice A2 f2.length c2] 120 (0, 0))) (hg : w0.heap.size ≤ g) (hr0 : Kd.C (Kd.int .u16) w0 A0 f0.length f0 ∧ f0.length ≤ c0) (hr2 : Kd.C k123 w0 A2 f2.length f2 ∧ f2.length ≤ c2) : IsS120 w0 W g f0 f1 f2 := ⟨A0, c0, A2, c2, h, hg, hr0, hr2⟩
theorem cellS120_0 {W : World} {g : Nat} {A0 : Option Addr} {c0 : Nat} {A2 : Option Addr} {c2 : Nat} {f0 : List Int} {f1 : Unit} {f2 : List (S123)} (h : W.heap[g]? = some (.cells #[.slice A0 f0.length c0, .slice none 0 0, .slice A2 f2.length c2] 120 (0, 0))) : W.cell? ⟨g, 0, none⟩ = some (.slice A0 f0.length c0) := (blk_cell h 0).trans rfl
theorem cellS120_1 {W : World} {g : Nat} {A0 : Option Addr} {c0 : Nat} {A2 : Option Addr} {c2 : Nat} {f0 : List Int} {f1 : Unit} {f2 : List (S123)} (h : W.heap[g]? = some (.cells #[.slice A0 f0.length c0, .slice none 0 0, .slice A2 f2.length c2] 120 (0, 0))) : W.cell? ⟨g, 1, none⟩ = some (.slice none 0 0) := (blk_cell h 1).trans rfl
theorem IsS120.set_1 {w0 W : World} {g : Nat} {f0 : List Int} {f1 : Unit} {f2 : List (S123)} (h : IsS120 w0 W g f0 f1 f2) (x : Unit) : IsS120 w0 (W.setCell ⟨g, 1, none⟩ (.slice none 0 0)) g f0 x f2 := by
 obtain ⟨A0, c0, A2, c2, hb, hg, hr0, hr2⟩ := h
 exact ⟨A0, c0, A2, c2, by simpa using blk_set hb 1 (.slice none 0 0), hg, hr0, hr2⟩
theorem cellS120_2 {W : World} {g : Nat} {A0 : Option Addr} {c0 : Nat} {A2 : Option Addr} {c2 : Nat} {f0 : List Int} {f1 : Unit} {f2 : List (S123)} (h : W.heap[g]? = some (.cells #[.slice A0 f0.length c0, .slice none 0 0, .slice A2 f2.length c2] 120 (0, 0))) : W.cell? ⟨g, 2, none⟩ = some (.slice A2 f2.length c2) := (blk_cell h 2).trans rfl
theorem IsS120.new (w0 W : World) (A0 : Option Addr) (c0 : Nat) (A2 : Option Addr) (c2 : Nat) (f0 : List Int) (f1 : Unit) (f2 : List (S123)) (hB : Below w0.heap.size w0 W) (hr0 : (Kd.C (Kd.int .u16) w0 A0 f0.length f0 ∧ f0.length ≤ c0)) (hr2 : (Kd.C k123 w0 A2 f2.length f2 ∧ f2.length ≤ c2)) : IsS120 w0 (W.alloc (.cells #[.slice A0 f0.length c0, .slice none 0 0, .slice A2 f2.length c2] 120)) W.heap.size f0 f1 f2 := ⟨A0, c0, A2, c2, by simpa using heap_alloc_new W _, hB.size, hr0, hr2⟩

/-! ### tables_SimpleGlyph_parsePoints: function 86 -/
mutual
def tables_SimpleGlyph_parsePoints.l0 : Nat → List Int → Int → Int → Int → Int → Int → Int → List (S123) → Option (Option Int × (List (S123)))
 | 0, _, _, _, _, _, _, _, _ => none
 | k + 1, x1, x7, x8, x9, x10, x11, x12, x45 => if x12 < x7 then (if x11 ≤ x10 then ((errors_New.f (⟨#[105, 110, 118, 97, 108, 105, 100, 32, 115, 105, 109, 112, 108, 101, 32, 103, 108, 121, 112, 104, 32, 100, 97, 116, 97, 32, 102, 108, 97, 103, 115, 32, 40, 69, 79, 70, 41]⟩ : ByteArray)).bind fun t128 => (some (t128, x45))) else (if 0 ≤ x10 then (if x10 < (x1.length : Int) then (if 0 ≤ x12 then (if x12 < (x45.length : Int) then ((some (x45.set (x12 : Int).toNat (⟨rd x1 x10, (rd_T123 x45 x12).f1, (rd_T123 x45 x12).f2⟩ : S123) : List (S123))).bind fun y130 => (if (Go.bits .and .u8 (rd x1 x10) 2) = 0 then (if (Go.bits .and .u8 (rd x1 x10) 16) = 0 then (tables_SimpleGlyph_parsePoints.j1 k x1 x7 x8 x9 (wrap64 (x10 + 1)) x11 x12 (rd x1 x10) 2 0 y130) else (tables_SimpleGlyph_parsePoints.j1 k x1 x7 x8 x9 (wrap64 (x10 + 1)) x11 x12 (rd x1 x10) 0 0 y130)) else (tables_SimpleGlyph_parsePoints.j1 k x1 x7 x8 x9 (wrap64 (x10 + 1)) x11 x12 (rd x1 x10) 1 0 y130))) else (none)) else (none)) else (none)) else (none))) else (if 0 ≤ x10 then (if x10 ≤ (x1.length : Int) then (if ((x1.drop (x10 : Int).toNat).length : Int) < (wrap64 (x8 + x9)) then ((errors_New.f (⟨#[69, 79, 70, 58, 32, 101, 120, 112, 101, 99, 116, 101, 100, 32, 108, 101, 110, 103, 116, 104, 58, 32, 37, 100, 44, 32, 103, 111, 116, 32, 37, 100]⟩ : ByteArray)).bind fun t139 => (some (t139, x45))) else (if 0 ≤ x8 then (if x8 ≤ ((x1.drop (x10 : Int).toNat).length : Int) then (if x8 ≤ (wrap64 (x8 + x9)) then (if (wrap64 (x8 + x9)) ≤ ((x1.drop (x10 : Int).toNat).length : Int) then ((tables_parseGlyphContourPoints.f k ((x1.drop (x10 : Int).toNat).take (x8 : Int).toNat) (((x1.drop (x10 : Int).toNat).take ((wrap64 (x8 + x9)) : Int).toNat).drop (x8 : Int).toNat) x45).bind fun t142 => (some (none, t142))) else (none)) else (none)) else (none)) else (none))) else (none)) else (none))
def tables_SimpleGlyph_parsePoints.j1 : Nat → List Int → Int → Int → Int → Int → Int → Int → Int → Int → Int → List (S123) → Option (Option Int × (List (S123)))
 | 0, _, _, _, _, _, _, _, _, _, _, _ => none
 | k + 1, x1, x7, x8, x9, x10, x11, x12, x13, x14, x15, x45 => if (Go.bits .and .u8 x13 4) = 0 then (if (Go.bits .and .u8 x13 32) = 0 then (tables_SimpleGlyph_parsePoints.j2 k x1 x7 x8 x9 x10 x11 x12 x13 x14 2 x45) else (tables_SimpleGlyph_parsePoints.j2 k x1 x7 x8 x9 x10 x11 x12 x13 x14 x15 x45)) else (tables_SimpleGlyph_parsePoints.j2 k x1 x7 x8 x9 x10 x11 x12 x13 x14 1 x45)
def tables_SimpleGlyph_parsePoints.j2 : Nat → List Int → Int → Int → Int → Int → Int → Int → Int → Int → Int → List (S123) → Option (Option Int × (List (S123)))
 | 0, _, _, _, _, _, _, _, _, _, _, _ => none
 | k + 1, x1, x7, x8, x9, x10, x11, x12, x13, x14, x15, x45 => if (Go.bits .and .u8 x13 8) = 0 then (tables_SimpleGlyph_parsePoints.l0 k x1 x7 (wrap64 (x8 + x14)) (wrap64 (x9 + x15)) x10 x11 (wrap64 (x12 + 1)) x45) else (if x11 ≤ x10 then ((errors_New.f (⟨#[105, 110, 118, 97, 108, 105, 100, 32, 115, 105, 109, 112, 108, 101, 32, 103, 108, 121, 112, 104, 32, 100, 97, 116, 97, 32, 102, 108, 97, 103, 115, 32, 40, 69, 79, 70, 41]⟩ : ByteArray)).bind fun t131 => (some (t131, x45))) else (if 0 ≤ x10 then (if x10 < (x1.length : Int) then (if (wrap64 ((wrap64 (x12 + (wrap64 (rd x1 x10)))) + 1)) > x7 then (tables_SimpleGlyph_parsePoints.j3 k x1 x7 x8 x9 (wrap64 (x10 + 1)) x11 x12 x13 x14 x15 (wrap64 ((wrap64 (x7 - x12)) - 1)) x45) else (tables_SimpleGlyph_parsePoints.j3 k x1 x7 x8 x9 (wrap64 (x10 + 1)) x11 x12 x13 x14 x15 (wrap64 (rd x1 x10)) x45)) else (none)) else (none)))
def tables_SimpleGlyph_parsePoints.j3 : Nat → List Int → Int → Int → Int → Int → Int → Int → Int → Int → Int → Int → List (S123) → Option (Option Int × (List (S123)))
 | 0, _, _, _, _, _, _, _, _, _, _, _, _ => none
 | k + 1, x1, x7, x8, x9, x10, x11, x12, x13, x14, x15, x16, x45 => if 0 ≤ (wrap64 (x12 + 1)) then (if (wrap64 (x12 + 1)) ≤ (wrap64 ((wrap64 (x12 + x16)) + 1)) then (if (wrap64 ((wrap64 (x12 + x16)) + 1)) ≤ (x45.length : Int) then (tables_SimpleGlyph_parsePoints.l1 k x1 x7 x8 x9 x10 x11 x12 x13 x14 x15 x16 x45 (wrap64 (x12 + 1)) (wrap64 ((wrap64 ((wrap64 (x12 + x16)) + 1)) - (wrap64 (x12 + 1)))) 0) else (none)) else (none)) else (none)
def tables_SimpleGlyph_parsePoints.l1 : Nat → List Int → Int → Int → Int → Int → Int → Int → Int → Int → Int → Int → List (S123) → Int → Int → Int → Option (Option Int × (List (S123)))
 | 0, _, _, _, _, _, _, _, _, _, _, _, _, _, _, _ => none
 | k + 1, x1, x7, x8, x9, x10, x11, x12, x13, x14, x15, x16, x45, x114, x121, x122 => if x122 < x121 then (if 0 ≤ (wrap64 (x122 + x114)) then (if (wrap64 (x122 + x114)) < (x45.length : Int) then (tables_SimpleGlyph_parsePoints.l1 k x1 x7 x8 x9 x10 x11 x12 x13 x14 x15 x16 (x45.set ((wrap64 (x122 + x114)) : Int).toNat (⟨x13, (rd_T123 x45 (wrap64 (x122 + x114))).f1, (rd_T123 x45 (wrap64 (x122 + x114))).f2⟩ : S123)) x114 x121 (wrap64 (x122 + 1))) else (none)) else (none)) else (tables_SimpleGlyph_parsePoints.l0 k x1 x7 (wrap64 (x8 + (wrap64 (x14 + (wrap64 (x16 * x14)))))) (wrap64 (x9 + (wrap64 (x15 + (wrap64 (x16 * x15)))))) x10 x11 (wrap64 ((wrap64 (x12 + x16)) + 1)) x45)
end
def tables_SimpleGlyph_parsePoints.f (k : Nat) (s0_0 : List Int) (s0_1 : Unit) (s0_2 : List (S123)) (l1 : List Int) (a2 : Int) : Option (Option Int × (List (S123))) := if (s0_0.length : Int) = 0 then (none) else (if 0 ≤ (wrap64 ((s0_0.length : Int) - 1)) then (if (wrap64 ((s0_0.length : Int) - 1)) < (s0_0.length : Int) then (if 0 ≤ (wrap64 ((wrap64 (rd s0_0 (wrap64 ((s0_0.length : Int) - 1)))) + 1)) then (if (wrap64 ((wrap64 (rd s0_0 (wrap64 ((s0_0.length : Int) - 1)))) + 1) : Int).toNat ≤ 46912496118442 then (tables_SimpleGlyph_parsePoints.l0 k l1 (wrap64 ((wrap64 (rd s0_0 (wrap64 ((s0_0.length : Int) - 1)))) + 1)) 0 0 0 (l1.length : Int) 0 (List.replicate (wrap64 ((wrap64 (rd s0_0 (wrap64 ((s0_0.length : Int) - 1)))) + 1) : Int).toNat z123)) else (none)) else (none)) else (none)) else (none))
theorem tables_SimpleGlyph_parsePoints.mono_l : ∀ k, (∀ y0 y1 y2 y3 y4 y5 y6 y7, LeO (tables_SimpleGlyph_parsePoints.l0 k y0 y1 y2 y3 y4 y5 y6 y7) (tables_SimpleGlyph_parsePoints.l0 (k + 1) y0 y1 y2 y3 y4 y5 y6 y7)) ∧ (∀ y0 y1 y2 y3 y4 y5 y6 y7 y8 y9 y10, LeO (tables_SimpleGlyph_parsePoints.j1 k y0 y1 y2 y3 y4 y5 y6 y7 y8 y9 y10) (tables_SimpleGlyph_parsePoints.j1 (k + 1) y0 y1 y2 y3 y4 y5 y6 y7 y8 y9 y10)) ∧ (∀ y0 y1 y2 y3 y4 y5 y6 y7 y8 y9 y10, LeO (tables_SimpleGlyph_parsePoints.j2 k y0 y1 y2 y3 y4 y5 y6 y7 y8 y9 y10) (tables_SimpleGlyph_parsePoints.j2 (k + 1) y0 y1 y2 y3 y4 y5 y6 y7 y8 y9 y10)) ∧ (∀ y0 y1 y2 y3 y4 y5 y6 y7 y8 y9 y10 y11, LeO (tables_SimpleGlyph_parsePoints.j3 k y0 y1 y2 y3 y4 y5 y6 y7 y8 y9 y10 y11) (tables_SimpleGlyph_parsePoints.j3 (k + 1) y0 y1 y2 y3 y4 y5 y6 y7 y8 y9 y10 y11)) ∧ (∀ y0 y1 y2 y3 y4 y5 y6 y7 y8 y9 y10 y11 y12 y13 y14, LeO (tables_SimpleGlyph_parsePoints.l1 k y0 y1 y2 y3 y4 y5 y6 y7 y8 y9 y10 y11 y12 y13 y14) (tables_SimpleGlyph_parsePoints.l1 (k + 1) y0 y1 y2 y3 y4 y5 y6 y7 y8 y9 y10 y11 y12 y13 y14))
 | 0 => ⟨fun _ _ _ _ _ _ _ _ r h => by simp [tables_SimpleGlyph_parsePoints.l0] at h, fun _ _ _ _ _ _ _ _ _ _ _ r h => by simp [tables_SimpleGlyph_parsePoints.j1] at h, fun _ _ _ _ _ _ _ _ _ _ _ r h => by simp [tables_SimpleGlyph_parsePoints.j2] at h, fun _ _ _ _ _ _ _ _ _ _ _ _ r h => by simp [tables_SimpleGlyph_parsePoints.j3] at h, fun _ _ _ _ _ _ _ _ _ _ _ _ _ _ _ r h => by simp [tables_SimpleGlyph_parsePoints.l1] at h⟩
 | k + 1 => by
  obtain ⟨ih0, ih1, ih2, ih3, ih4⟩ := tables_SimpleGlyph_parsePoints.mono_l k
  refine ⟨?_, ?_, ?_, ?_, ?_⟩
  ·intro y0 y1 y2 y3 y4 y5 y6 y7
   unfold tables_SimpleGlyph_parsePoints.l0
   repeat' first
   | (with_reducible exact ih0 _ _ _ _ _ _ _ _)
   | (with_reducible exact ih1 _ _ _ _ _ _ _ _ _ _ _)
   | (with_reducible exact ih2 _ _ _ _ _ _ _ _ _ _ _)
   | (with_reducible exact ih3 _ _ _ _ _ _ _ _ _ _ _ _)
   | (with_reducible exact ih4 _ _ _ _ _ _ _ _ _ _ _ _ _ _ _)
   | (with_reducible exact tables_parseGlyphContourPoints.mono _ _ _ _)
   | (with_reducible exact LeO.refl _)
   | (with_reducible exact LeO.none _)
   | (with_reducible refine LeO.ite ?_ ?_)
   | (with_reducible refine LeO.bind ?_ (fun _ => ?_))
   | exact ih0 _ _ _ _ _ _ _ _
   | exact ih1 _ _ _ _ _ _ _ _ _ _ _
   | exact ih2 _ _ _ _ _ _ _ _ _ _ _
   | exact ih3 _ _ _ _ _ _ _ _ _ _ _ _
   | exact ih4 _ _ _ _ _ _ _ _ _ _ _ _ _ _ _
   | exact tables_parseGlyphContourPoints.mono _ _ _ _
   | exact LeO.none _
   | refine LeO.ite ?_ ?_
   | refine LeO.bind ?_ (fun _ => ?_)
  ·intro y0 y1 y2 y3 y4 y5 y6 y7 y8 y9 y10
   unfold tables_SimpleGlyph_parsePoints.j1
   repeat' first
   | (with_reducible exact ih0 _ _ _ _ _ _ _ _)
   | (with_reducible exact ih1 _ _ _ _ _ _ _ _ _ _ _)
   | (with_reducible exact ih2 _ _ _ _ _ _ _ _ _ _ _)
   | (with_reducible exact ih3 _ _ _ _ _ _ _ _ _ _ _ _)
   | (with_reducible exact ih4 _ _ _ _ _ _ _ _ _ _ _ _ _ _ _)
   | (with_reducible exact tables_parseGlyphContourPoints.mono _ _ _ _)
   | (with_reducible exact LeO.refl _)
   | (with_reducible exact LeO.none _)
   | (with_reducible refine LeO.ite ?_ ?_)
   | (with_reducible refine LeO.bind ?_ (fun _ => ?_))
   | exact ih0 _ _ _ _ _ _ _ _
   | exact ih1 _ _ _ _ _ _ _ _ _ _ _
   | exact ih2 _ _ _ _ _ _ _ _ _ _ _
   | exact ih3 _ _ _ _ _ _ _ _ _ _ _ _
   | exact ih4 _ _ _ _ _ _ _ _ _ _ _ _ _ _ _
   | exact tables_parseGlyphContourPoints.mono _ _ _ _
   | exact LeO.none _
   | refine LeO.ite ?_ ?_
   | refine LeO.bind ?_ (fun _ => ?_)
  ·intro y0 y1 y2 y3 y4 y5 y6 y7 y8 y9 y10
   unfold tables_SimpleGlyph_parsePoints.j2
   repeat' first
   | (with_reducible exact ih0 _ _ _ _ _ _ _ _)
   | (with_reducible exact ih1 _ _ _ _ _ _ _ _ _ _ _)
   | (with_reducible exact ih2 _ _ _ _ _ _ _ _ _ _ _)
   | (with_reducible exact ih3 _ _ _ _ _ _ _ _ _ _ _ _)
   | (with_reducible exact ih4 _ _ _ _ _ _ _ _ _ _ _ _ _ _ _)
   | (with_reducible exact tables_parseGlyphContourPoints.mono _ _ _ _)
   | (with_reducible exact LeO.refl _)
   | (with_reducible exact LeO.none _)
   | (with_reducible refine LeO.ite ?_ ?_)
   | (with_reducible refine LeO.bind ?_ (fun _ => ?_))
   | exact ih0 _ _ _ _ _ _ _ _
   | exact ih1 _ _ _ _ _ _ _ _ _ _ _
   | exact ih2 _ _ _ _ _ _ _ _ _ _ _
   | exact ih3 _ _ _ _ _ _ _ _ _ _ _ _
   | exact ih4 _ _ _ _ _ _ _ _ _ _ _ _ _ _ _
   | exact tables_parseGlyphContourPoints.mono _ _ _ _
   | exact LeO.none _
   | refine LeO.ite ?_ ?_
   | refine LeO.bind ?_ (fun _ => ?_)
  ·intro y0 y1 y2 y3 y4 y5 y6 y7 y8 y9 y10 y11
   unfold tables_SimpleGlyph_parsePoints.j3
   repeat' first
   | (with_reducible exact ih0 _ _ _ _ _ _ _ _)
   | (with_reducible exact ih1 _ _ _ _ _ _ _ _ _ _ _)
   | (with_reducible exact ih2 _ _ _ _ _ _ _ _ _ _ _)
   | (with_reducible exact ih3 _ _ _ _ _ _ _ _ _ _ _ _)
   | (with_reducible exact ih4 _ _ _ _ _ _ _ _ _ _ _ _ _ _ _)
   | (with_reducible exact tables_parseGlyphContourPoints.mono _ _ _ _)
   | (with_reducible exact LeO.refl _)
   | (with_reducible exact LeO.none _)
   | (with_reducible refine LeO.ite ?_ ?_)
   | (with_reducible refine LeO.bind ?_ (fun _ => ?_))
   | exact ih0 _ _ _ _ _ _ _ _
   | exact ih1 _ _ _ _ _ _ _ _ _ _ _
   | exact ih2 _ _ _ _ _ _ _ _ _ _ _
   | exact ih3 _ _ _ _ _ _ _ _ _ _ _ _
   | exact ih4 _ _ _ _ _ _ _ _ _ _ _ _ _ _ _
   | exact tables_parseGlyphContourPoints.mono _ _ _ _
   | exact LeO.none _
   | refine LeO.ite ?_ ?_
   | refine LeO.bind ?_ (fun _ => ?_)
  ·intro y0 y1 y2 y3 y4 y5 y6 y7 y8 y9 y10 y11 y12 y13 y14
   unfold tables_SimpleGlyph_parsePoints.l1
   repeat' first
   | (with_reducible exact ih0 _ _ _ _ _ _ _ _)
   | (with_reducible exact ih1 _ _ _ _ _ _ _ _ _ _ _)
   | (with_reducible exact ih2 _ _ _ _ _ _ _ _ _ _ _)
   | (with_reducible exact ih3 _ _ _ _ _ _ _ _ _ _ _ _)
   | (with_reducible exact ih4 _ _ _ _ _ _ _ _ _ _ _ _ _ _ _)
   | (with_reducible exact tables_parseGlyphContourPoints.mono _ _ _ _)
   | (with_reducible exact LeO.refl _)
   | (with_reducible exact LeO.none _)
   | (with_reducible refine LeO.ite ?_ ?_)
   | (with_reducible refine LeO.bind ?_ (fun _ => ?_))
   | exact ih0 _ _ _ _ _ _ _ _
   | exact ih1 _ _ _ _ _ _ _ _ _ _ _
   | exact ih2 _ _ _ _ _ _ _ _ _ _ _
   | exact ih3 _ _ _ _ _ _ _ _ _ _ _ _
   | exact ih4 _ _ _ _ _ _ _ _ _ _ _ _ _ _ _
   | exact tables_parseGlyphContourPoints.mono _ _ _ _
   | exact LeO.none _
   | refine LeO.ite ?_ ?_
   | refine LeO.bind ?_ (fun _ => ?_)
theorem tables_SimpleGlyph_parsePoints.mono : ∀ a0 a1 a2 a3 a4 k, LeO (tables_SimpleGlyph_parsePoints.f k a0 a1 a2 a3 a4) (tables_SimpleGlyph_parsePoints.f (k + 1) a0 a1 a2 a3 a4) := by
 intro a0 a1 a2 a3 a4 k
 obtain ⟨ih0, ih1, ih2, ih3, ih4⟩ := tables_SimpleGlyph_parsePoints.mono_l k
 unfold tables_SimpleGlyph_parsePoints.f
 repeat' first
   | (with_reducible exact ih0 _ _ _ _ _ _ _ _)
   | (with_reducible exact ih1 _ _ _ _ _ _ _ _ _ _ _)
   | (with_reducible exact ih2 _ _ _ _ _ _ _ _ _ _ _)
   | (with_reducible exact ih3 _ _ _ _ _ _ _ _ _ _ _ _)
   | (with_reducible exact ih4 _ _ _ _ _ _ _ _ _ _ _ _ _ _ _)
   | (with_reducible exact tables_parseGlyphContourPoints.mono _ _ _ _)
   | (with_reducible exact LeO.refl _)
   | (with_reducible exact LeO.none _)
   | (with_reducible refine LeO.ite ?_ ?_)
   | (with_reducible refine LeO.bind ?_ (fun _ => ?_))
   | exact ih0 _ _ _ _ _ _ _ _
   | exact ih1 _ _ _ _ _ _ _ _ _ _ _
   | exact ih2 _ _ _ _ _ _ _ _ _ _ _
   | exact ih3 _ _ _ _ _ _ _ _ _ _ _ _
   | exact ih4 _ _ _ _ _ _ _ _ _ _ _ _ _ _ _
   | exact tables_parseGlyphContourPoints.mono _ _ _ _
   | exact LeO.none _
   | refine LeO.ite ?_ ?_
   | refine LeO.bind ?_ (fun _ => ?_)
/-- The receiver's block: its first slice is known, the third one's header is v. -/
def IsP (A0 : Option Addr) (c0 : Nat) (s0 : List Int) (e1 : Value) (w0 W : World) (g : Nat) (v : Value) : Prop := W.heap[g]? = some (.cells #[.slice A0 s0.length c0, e1, v] 120 (0, 0)) ∧ w0.heap.size ≤ g
section
variable {A0 : Option Addr} {c0 : Nat} {s0 : List Int} {e1 v : Value} {w0 W W1 : World} {g : Nat}
theorem IsP.grown {row : Option Nat} (h : IsP A0 c0 s0 e1 w0 W g v) (hw : W.grownBy W1 row) (hne : some g ≠ row) : IsP A0 c0 s0 e1 w0 W1 g v := ⟨blk_grown h.1 hw hne, h.2⟩
theorem IsP.kept {S : Nat → Prop} (h : IsP A0 c0 s0 e1 w0 W g v) (hk : Kept W W1 S) (hne : ¬ S g) : IsP A0 c0 s0 e1 w0 W1 g v := ⟨blk_kept h.1 hk hne, h.2⟩
theorem IsP.below (h : IsP A0 c0 s0 e1 w0 W g v) (hw : Below W.heap.size W W1) : IsP A0 c0 s0 e1 w0 W1 g v := h.grown (grown_of_below hw none) (by simp)
theorem IsP.alloc (h : IsP A0 c0 s0 e1 w0 W g v) (o : Obj) : IsP A0 c0 s0 e1 w0 (W.alloc o) g v := h.below (below_alloc (Below.refl _ _) o)
theorem IsP.drewN (h : IsP A0 c0 s0 e1 w0 W g v) (m : Nat) : IsP A0 c0 s0 e1 w0 (W.drewN m) g v := h
theorem IsP.drew (h : IsP A0 c0 s0 e1 w0 W g v) : IsP A0 c0 s0 e1 w0 W.drew g v := h
theorem IsP.at_ {w' : World} {m : Nat} (hq : W.drewN m = w') (h : IsP A0 c0 s0 e1 w0 W g v) : IsP A0 c0 s0 e1 w0 w' g v := by subst hq; exact IsP.drewN h m
theorem IsP.own_ne {α : Type} {d : Kd α} {e : Nat} {base : Nat} {ok : Nat → Prop} {u : Value} {xs : List α} (h : IsP A0 c0 s0 e1 w0 W g v) (ho : d.R e W base ok u xs) (ht : e ≠ 120) : some g ≠ u.ownBlock := Kd.R_ne ho h.1 ht
theorem IsP.ge (h : IsP A0 c0 s0 e1 w0 W g v) : w0.heap.size ≤ g := h.2
theorem IsP.lt (h : IsP A0 c0 s0 e1 w0 W g v) : g < W.heap.size := blk_lt h.1
theorem IsP.far {p : Addr} (h : IsP A0 c0 s0 e1 w0 W g v) (hne : g ≠ p.block) (u : Value) : IsP A0 c0 s0 e1 w0 (W.setCell p u) g v := ⟨blk_far h.1 hne u, h.2⟩
theorem IsP.cl0 (h : IsP A0 c0 s0 e1 w0 W g v) : W.cell? ⟨g, 0, none⟩ = some (.slice A0 s0.length c0) := (blk_cell h.1 0).trans rfl
theorem IsP.cl2 (h : IsP A0 c0 s0 e1 w0 W g v) : W.cell? ⟨g, 2, none⟩ = some v := (blk_cell h.1 2).trans rfl
theorem IsP.fr (h : IsP A0 c0 s0 e1 w0 W g v) (i : Nat) : W.frozen? ⟨g, i, none⟩ = false := blk_frozen h.1 i
theorem IsP.set2 (h : IsP A0 c0 s0 e1 w0 W g v) (u : Value) : IsP A0 c0 s0 e1 w0 (W.setCell ⟨g, 2, none⟩ u) g u := ⟨blk_put h.1 2 u rfl, h.2⟩
end
theorem wrap64_lt (x : Int) : wrap64 x < 9223372036854775808 := by unfold wrap64; omega
theorem cut_len {a b : Int} (h0 : 0 ≤ a) (h1 : a ≤ b) (hb : b < 9223372036854775808) : wrap64 (b - a) = ((b.toNat - a.toNat : Nat) : Int) := by unfold wrap64; omega
theorem cut_at {x a : Int} (h0 : 0 ≤ x) (h1 : 0 ≤ a) (h2 : x + a < 9223372036854775808) : (wrap64 (x + a)).toNat * 3 = a.toNat * 3 + x.toNat * 3 := by unfold wrap64; omega
set_option maxHeartbeats 8000000 in
set_option maxRecDepth 100000 in
theorem tables_SimpleGlyph_parsePoints.calls (k : Nat) (g : Nat) (s0_0 : List Int) (s0_1 : Unit) (s0_2 : List (S123)) (A0_ : Option Addr) (c0_ : Nat) (e1_ u2_ : Value) (A1 : Option Addr) (c1 : Nat) (l1 : List Int) (a2 : Int) (r1 : Option Int) (r2 : List (S123)) (w0 w : World) (hI : IsP A0_ c0_ s0_0 e1_ w0 w g u2_) (hs0 : Kd.C (Kd.int .u16) w A0_ s0_0.length s0_0) (hB : Below w0.heap.size w0 w) (hr1 : Kd.C (Kd.int .u8) w A1 l1.length l1) (hc1 : l1.length ≤ c1) (hf1 : ∀ ad, A1 = some ad → 0 < l1.length → ad.block ≠ g) (h : tables_SimpleGlyph_parsePoints.f k s0_0 s0_1 s0_2 l1 a2 = some (r1, r2)) :
  Calls Try.prog 86 #[.pointer (some ⟨g, 0, none⟩), .slice A1 l1.length c1, .int .i64 a2] w fun e w' => ∃ v1_ : Value, ∃ e0_ : Value, e = .returned (e0_) ∧ Kd.R k123 123 w' w.heap.size (fun _ => True) v1_ r2 ∧ EV e0_ r1 ∧ IsP A0_ c0_ s0_0 e1_ w0 w' g v1_ ∧ Below w0.heap.size w0 w' ∧ KeepBut w w' g none := by
 have HS0 := Aside0.mk hs0
 clear hs0
 have hu120 := Try.underlying120
 have HR1 := Aside0.mk hr1
 have HC1 := Aside0.mk hc1
 clear hr1 hc1
 have HI0 := Aside0.mk hI
 have HK := Aside0.mk (KeepBut.refl w g none)
 have HL := Aside0.mk hB.size
 clear hI
 have HW0 := Aside0.mk hB.size
 have HB := Aside0.mk hB
 clear hB
 have H : (if (s0_0.length : Int) = 0 then (none) else (if 0 ≤ (wrap64 ((s0_0.length : Int) - 1)) then (if (wrap64 ((s0_0.length : Int) - 1)) < (s0_0.length : Int) then (if 0 ≤ (wrap64 ((wrap64 (rd s0_0 (wrap64 ((s0_0.length : Int) - 1)))) + 1)) then (if (wrap64 ((wrap64 (rd s0_0 (wrap64 ((s0_0.length : Int) - 1)))) + 1) : Int).toNat ≤ 46912496118442 then (tables_SimpleGlyph_parsePoints.l0 k l1 (wrap64 ((wrap64 (rd s0_0 (wrap64 ((s0_0.length : Int) - 1)))) + 1)) 0 0 0 (l1.length : Int) 0 (List.replicate (wrap64 ((wrap64 (rd s0_0 (wrap64 ((s0_0.length : Int) - 1)))) + 1) : Int).toNat z123)) else (none)) else (none)) else (none)) else (none))) = some (r1, r2) := h
 clear h
 by_cases c4 : (s0_0.length : Int) = 0
 ·rw [if_pos c4] at H
  exact absurd H (by simp)
 ·rw [if_neg c4] at H
  have c4b0 : ((s0_0.length : Int) == 0) = false := beq_eq_false_iff_ne.mpr c4
  have c4b1 : ((s0_0.length : Int) != 0) = true := bne_iff_ne.mpr c4
  have c4b2 : ¬ (s0_0 = []) := fun h_ => c4 (by rw [h_]; rfl)
  obtain ⟨ji5, hji5⟩ : ∃ j_ : Int, (wrap64 ((s0_0.length : Int) - 1)) = j_ := ⟨_, rfl⟩
  replace H : (if 0 ≤ (ji5) then (if (ji5) < (s0_0.length : Int) then (if 0 ≤ (wrap64 ((wrap64 (rd s0_0 (ji5))) + 1)) then (if (wrap64 ((wrap64 (rd s0_0 (ji5))) + 1) : Int).toNat ≤ 46912496118442 then (tables_SimpleGlyph_parsePoints.l0 k l1 (wrap64 ((wrap64 (rd s0_0 (ji5))) + 1)) 0 0 0 (l1.length : Int) 0 (List.replicate (wrap64 ((wrap64 (rd s0_0 (ji5))) + 1) : Int).toNat z123)) else (none)) else (none)) else (none)) else (none)) = some (r1, r2) := by first | (rw [hji5] at H; exact H) | (simp only [hji5] at H ⊢; exact H)
  have hji5w : (IntKind.i64.wrap ((s0_0.length : Int) - 1)) = ji5 := (i64_w _).trans hji5
  by_cases c6 : 0 ≤ (ji5)
  ·rw [if_pos c6] at H
   have c6b0 : decide (0 ≤ (ji5)) = true := decide_eq_true c6
   clear c6
   by_cases c7 : (ji5) < (s0_0.length : Int)
   ·rw [if_pos c7] at H
    have c7b0 : decide ((ji5) < (s0_0.length : Int)) = true := decide_eq_true c7
    clear c7
    obtain ⟨ji8, hji8⟩ : ∃ j_ : Int, (wrap64 ((wrap64 (rd s0_0 (ji5))) + 1)) = j_ := ⟨_, rfl⟩
    replace H : (if 0 ≤ (ji8) then (if (ji8 : Int).toNat ≤ 46912496118442 then (tables_SimpleGlyph_parsePoints.l0 k l1 ji8 0 0 0 (l1.length : Int) 0 (List.replicate (ji8 : Int).toNat z123)) else (none)) else (none)) = some (r1, r2) := by first | (rw [hji8] at H; exact H) | (simp only [hji8] at H ⊢; exact H)
    have hji8w : (IntKind.i64.wrap ((wrap64 (rd s0_0 (ji5))) + 1)) = ji8 := (i64_w _).trans hji8
    by_cases c9 : 0 ≤ (ji8)
    ·rw [if_pos c9] at H
     have c9b0 := eq_true c9
     have c9b1 : decide (0 ≤ (ji8)) = true := decide_eq_true c9
     clear c9
     by_cases c10 : (ji8 : Int).toNat ≤ 46912496118442
     ·rw [if_pos c10] at H
      have c10b0 := eq_true c10
      have c10b1 : decide ((ji8 : Int).toNat ≤ 46912496118442) = true := decide_eq_true c10
      clear c10
      obtain ⟨y125, hy125⟩ : ∃ y_ : List (S123), y_ = (List.replicate (ji8 : Int).toNat z123) := ⟨_, rfl⟩
      replace H : (tables_SimpleGlyph_parsePoints.l0 k l1 ji8 0 0 0 (l1.length : Int) 0 y125) = some (r1, r2) := by first | (rw [hy125]; with_reducible exact H) | (have H2_ := (Option.bind_some _ _).symm.trans H; rw [hy125]; with_reducible exact H2_) | (have H2_ := (Option.bind_some _ _).symm.trans H; with_reducible exact H2_) | with_reducible exact H | (rw [hy125]; exact H) | exact H
      have Ny125 := Aside0.mk hy125
      clear hy125
      have H' := Aside0.mk H
      clear H
      have hcz11_0 := IsP.cl0 HI0.out
      have HSz11_0 := HS0.out
      have p124 : 0 ≤ ((ji5) : Int) := of_decide_eq_true (by first | (with_reducible assumption) | assumption)
      have q124 : (ji5) < (s0_0.length : Int) := of_decide_eq_true (by first | (with_reducible assumption) | assumption)
      obtain ⟨ad124, e124, hx124_0⟩ := Kd.at_int HSz11_0 (ji5) p124 q124
      cases e124
      replace p124 := eq_true p124
      replace q124 := eq_true q124
      go_enter Try.func86, Try.ntmps86
      go_wp2_with (first | ((with_reducible refine gate_dst (N := 45) rfl ?_); refine Kd.R_make k123 _ 123 rfl (N := 45) rfl 118 _ _ rfl ji8 rfl rfl Try.underlying118 (.agg #[(.int .u8 0), (.int .i16 0), (.int .i16 0)]) 6 info123 rfl (by decide) (by omega) z123 (ok := fun _ => True) (okp := fun _ => True) (k123_mkM _ _ _ z123 ) (fun _ hk => hk) trivial (of_decide_eq_true (by first | (with_reducible assumption) | assumption)) (Nat.le_trans (Nat.mul_le_mul_right _ (of_decide_eq_true (by first | (with_reducible assumption) | assumption) : ji8.toNat ≤ 46912496118442)) (by omega)) (Below.refl _ _) (Nat.le_refl _) ?_; intro v126 w12 ho13 hb hg_ hnew_; clear hg_ hnew_; (first | rw [← Ny125.out] at ho13 | (simp only [Int.reduceToNat] at ho13; rw [← Ny125.out] at ho13)); have n0_ := Aside0.mk (Kd.R_lower ho13 (keep_size (w := w) (g := g) (row := none) (by repeat (first | (with_reducible first | exact HK.out | apply KeepBut.set_ | apply keep_drewN | apply keep_drew | apply keep_alloc) | exact HK.out)))); have n1_ := Aside0.mk (IsP.below (by repeat (first | (with_reducible first | exact HI0.out | apply IsP.alloc | apply IsP.drewN | apply IsP.drew) | exact HI0.out)) hb); have n2_ := Aside0.mk (KeepBut.trans (by repeat (first | (with_reducible first | exact HK.out | apply KeepBut.set_ | apply keep_drewN | apply keep_drew | apply keep_alloc) | exact HK.out)) (KeepBut.of_below hb g none) (.inl rfl)); have n3_ := Aside0.mk (below_step (by repeat (first | (with_reducible first | exact HB.out | apply below_alloc | apply pw_below_drewN | apply below_drew1 | refine below_set ?_ (IsP.ge HI0.out)) | exact HB.out)) hb); clear HI0; clear HK; clear HB; have HO127 := n0_; have HI0 := n1_; have HK := n2_; have HB := n3_; clear n0_ n1_ n2_ n3_; clear hb ho13; have hcs_ := IsP.cl2 HI0.out; have hfs_ := IsP.fr HI0.out 2; obtain ⟨Ao126, co126, eo126⟩ := Kd.R_slice HO127.out; subst eo126))
      go_quiet (fail)
      go_wp2_with (first | ((with_reducible refine gate_dst (N := 45) rfl ?_); refine Kd.R_make k123 _ 123 rfl (N := 45) rfl 118 _ _ rfl ji8 rfl rfl Try.underlying118 (.agg #[(.int .u8 0), (.int .i16 0), (.int .i16 0)]) 6 info123 rfl (by decide) (by omega) z123 (ok := fun _ => True) (okp := fun _ => True) (k123_mkM _ _ _ z123 ) (fun _ hk => hk) trivial (of_decide_eq_true (by first | (with_reducible assumption) | assumption)) (Nat.le_trans (Nat.mul_le_mul_right _ (of_decide_eq_true (by first | (with_reducible assumption) | assumption) : ji8.toNat ≤ 46912496118442)) (by omega)) (Below.refl _ _) (Nat.le_refl _) ?_; intro v126 w12 ho13 hb hg_ hnew_; clear hg_ hnew_; (first | rw [← Ny125.out] at ho13 | (simp only [Int.reduceToNat] at ho13; rw [← Ny125.out] at ho13)); have n0_ := Aside0.mk (Kd.R_lower ho13 (keep_size (w := w) (g := g) (row := none) (by repeat (first | (with_reducible first | exact HK.out | apply KeepBut.set_ | apply keep_drewN | apply keep_drew | apply keep_alloc) | exact HK.out)))); have n1_ := Aside0.mk (IsP.below (by repeat (first | (with_reducible first | exact HI0.out | apply IsP.alloc | apply IsP.drewN | apply IsP.drew) | exact HI0.out)) hb); have n2_ := Aside0.mk (KeepBut.trans (by repeat (first | (with_reducible first | exact HK.out | apply KeepBut.set_ | apply keep_drewN | apply keep_drew | apply keep_alloc) | exact HK.out)) (KeepBut.of_below hb g none) (.inl rfl)); have n3_ := Aside0.mk (below_step (by repeat (first | (with_reducible first | exact HB.out | apply below_alloc | apply pw_below_drewN | apply below_drew1 | refine below_set ?_ (IsP.ge HI0.out)) | exact HB.out)) hb); clear HI0; clear HK; clear HB; have HO127 := n0_; have HI0 := n1_; have HK := n2_; have HB := n3_; clear n0_ n1_ n2_ n3_; clear hb ho13; have hcs_ := IsP.cl2 HI0.out; have hfs_ := IsP.fr HI0.out 2; obtain ⟨Ao126, co126, eo126⟩ := Kd.R_slice HO127.out; subst eo126))
      generalize hv_ : Value.slice Ao126 y125.length co126 = v126 at HO127 ⊢
      clear hv_ hcs_ hfs_
      go_loopg [8, 9, 10, 12] k (fun kq v8 v9 v10 v12 w' => ∃ (x8_1 : Int) (x9_1 : Int) (x10_1 : Int) (x12_1 : Int) (x45_1 : List (S123)), v8 = .int .i64 x8_1 ∧ v9 = .int .i64 x9_1 ∧ v10 = .int .i64 x10_1 ∧ v12 = .int .i64 x12_1 ∧ Aside0 (tables_SimpleGlyph_parsePoints.l0 kq l1 ji8 x8_1 x9_1 x10_1 (l1.length : Int) x12_1 x45_1 = some (r1, r2)) ∧ Aside0 (kq ≤ k) ∧ Aside0 (Kd.R k123 123 w' w.heap.size (fun _ => True) v126 x45_1) ∧ Aside0 (IsP (some ad124) c0_ s0_0 e1_ w0 w' g v126) ∧ Aside0 (KeepBut w w' g none) ∧ Aside0 (Below w0.heap.size w0 w'))
      case atStart => exact ⟨(0), (0), (0), (0), (y125), (by first | rfl | (simp; done) | (simp [*]; done)), (by first | rfl | (simp; done) | (simp [*]; done)), (by first | rfl | (simp; done) | (simp [*]; done)), (by first | rfl | (simp; done) | (simp [*]; done)), H', ⟨Nat.le_refl _⟩, ⟨by (with_reducible repeat (first | apply Kd.R_alloc | apply Kd.R_drewN | apply Kd.R_drew)); exact Kd.R_mono (Kd.R_far (p := ⟨g, 2, none⟩) (Kd.R_types HO127.out HI0.out.1 (by decide)) (fun _ hk => hk.2) _) (fun _ _ => trivial)⟩, ⟨IsP.set2 HI0.out v126⟩, ⟨by repeat (first | (with_reducible first | exact HK.out | apply KeepBut.set_ | apply keep_drewN | apply keep_drew | apply keep_alloc) | exact HK.out)⟩, ⟨by repeat (first | (with_reducible first | exact HB.out | apply below_alloc | apply pw_below_drewN | apply below_drew1 | refine below_set ?_ (IsP.ge HI0.out)) | exact HB.out)⟩⟩
      case round =>
       clear H'
       try clear c1
       try clear p1
       try clear q1
       try clear hx1
       try clear p2
       try clear c4
       try clear c4b0
       try clear c4b1
       try clear c4b2
       try clear c6
       try clear c6b0
       try clear p6
       try clear c7
       try clear c7b0
       try clear c8
       try clear c9
       try clear c9b0
       try clear c9b1
       try clear c10
       try clear c10b0
       try clear c10b1
       try clear p12
       try clear q12
       try clear hx12
       try clear hcz11_0
       try clear hcz11_1
       try clear hcz11_2
       try clear hx124_0
       try clear p124
       try clear q124
       obtain ⟨x8_1, x9_1, x10_1, x12_1, x45_1, rfl, rfl, rfl, rfl, HA, HK1, HO_45, HI0, HK, HB⟩ := hrel
       cases gk with
       | zero => exact absurd HA.out (by simp [tables_SimpleGlyph_parsePoints.l0])
       | succ k1 =>
        have H := HA.out
        clear HA
        simp only [tables_SimpleGlyph_parsePoints.l0] at H
        by_cases c14 : x12_1 < ji8
        ·rw [if_pos c14] at H
         have c14b0 : decide (x12_1 < ji8) = true := decide_eq_true c14
         clear c14
         by_cases c15 : (l1.length : Int) ≤ x10_1
         ·rw [if_pos c15] at H
          have c15b0 : decide ((l1.length : Int) ≤ x10_1) = true := decide_eq_true c15
          clear c15
          replace H := Option.bind_eq_some_iff.mp H
          obtain ⟨t128, A160, H⟩ := H
          replace H : (some (t128, x45_1)) = some (r1, r2) := H
          have A16 := Aside0.mk A160
          clear A160
          simp only [Option.some.injEq, Prod.mk.injEq] at H
          obtain ⟨rfl, rfl⟩ := H
          go_wp2_with (first | (go_at_call 56; (with_reducible refine (errors_New.calls (⟨#[105, 110, 118, 97, 108, 105, 100, 32, 115, 105, 109, 112, 108, 101, 32, 103, 108, 121, 112, 104, 32, 100, 97, 116, 97, 32, 102, 108, 97, 103, 115, 32, 40, 69, 79, 70, 41]⟩ : ByteArray) t128 _ A16.out).mono ?_); rintro e w19 ⟨ev17, rfl, he18, hb⟩; have n0_ := Aside0.mk (Kd.R_below (by (with_reducible repeat (first | apply Kd.R_alloc | apply Kd.R_drewN | apply Kd.R_drew)); exact HO_45.out) hb); have n1_ := Aside0.mk (IsP.below (by repeat (first | (with_reducible first | exact HI0.out | apply IsP.alloc | apply IsP.drewN | apply IsP.drew) | exact HI0.out)) hb); have n2_ := Aside0.mk (KeepBut.trans (by repeat (first | (with_reducible first | exact HK.out | apply KeepBut.set_ | apply keep_drewN | apply keep_drew | apply keep_alloc) | exact HK.out)) (KeepBut.of_below hb g none) (.inl rfl)); have n3_ := Aside0.mk (below_step (by repeat (first | (with_reducible first | exact HB.out | apply below_alloc | apply pw_below_drewN | apply below_drew1 | refine below_set ?_ (IsP.ge HI0.out)) | exact HB.out)) hb); clear HO_45; clear HI0; clear HK; clear HB; have HO_45 := n0_; have HI0 := n1_; have HK := n2_; have HB := n3_; clear n0_ n1_ n2_ n3_; (try clear hb); (try clear hb2); (try clear hk); (try clear hi); (first | (obtain rfl := EV_none he18) | (obtain ⟨te_, pe_, rfl⟩ := EV_some he18) | skip)))
          repeat (go_quiet (first | (go_at_call 56; (with_reducible refine (errors_New.calls (⟨#[105, 110, 118, 97, 108, 105, 100, 32, 115, 105, 109, 112, 108, 101, 32, 103, 108, 121, 112, 104, 32, 100, 97, 116, 97, 32, 102, 108, 97, 103, 115, 32, 40, 69, 79, 70, 41]⟩ : ByteArray) t128 _ A16.out).mono ?_); rintro e w19 ⟨ev17, rfl, he18, hb⟩; have n0_ := Aside0.mk (Kd.R_below (by (with_reducible repeat (first | apply Kd.R_alloc | apply Kd.R_drewN | apply Kd.R_drew)); exact HO_45.out) hb); have n1_ := Aside0.mk (IsP.below (by repeat (first | (with_reducible first | exact HI0.out | apply IsP.alloc | apply IsP.drewN | apply IsP.drew) | exact HI0.out)) hb); have n2_ := Aside0.mk (KeepBut.trans (by repeat (first | (with_reducible first | exact HK.out | apply KeepBut.set_ | apply keep_drewN | apply keep_drew | apply keep_alloc) | exact HK.out)) (KeepBut.of_below hb g none) (.inl rfl)); have n3_ := Aside0.mk (below_step (by repeat (first | (with_reducible first | exact HB.out | apply below_alloc | apply pw_below_drewN | apply below_drew1 | refine below_set ?_ (IsP.ge HI0.out)) | exact HB.out)) hb); clear HO_45; clear HI0; clear HK; clear HB; have HO_45 := n0_; have HI0 := n1_; have HK := n2_; have HB := n3_; clear n0_ n1_ n2_ n3_; (try clear hb); (try clear hb2); (try clear hk); (try clear hi); (first | (obtain rfl := EV_none he18) | (obtain ⟨te_, pe_, rfl⟩ := EV_some he18) | skip))); try go_wp2_with (first | (go_at_call 56; (with_reducible refine (errors_New.calls (⟨#[105, 110, 118, 97, 108, 105, 100, 32, 115, 105, 109, 112, 108, 101, 32, 103, 108, 121, 112, 104, 32, 100, 97, 116, 97, 32, 102, 108, 97, 103, 115, 32, 40, 69, 79, 70, 41]⟩ : ByteArray) t128 _ A16.out).mono ?_); rintro e w19 ⟨ev17, rfl, he18, hb⟩; have n0_ := Aside0.mk (Kd.R_below (by (with_reducible repeat (first | apply Kd.R_alloc | apply Kd.R_drewN | apply Kd.R_drew)); exact HO_45.out) hb); have n1_ := Aside0.mk (IsP.below (by repeat (first | (with_reducible first | exact HI0.out | apply IsP.alloc | apply IsP.drewN | apply IsP.drew) | exact HI0.out)) hb); have n2_ := Aside0.mk (KeepBut.trans (by repeat (first | (with_reducible first | exact HK.out | apply KeepBut.set_ | apply keep_drewN | apply keep_drew | apply keep_alloc) | exact HK.out)) (KeepBut.of_below hb g none) (.inl rfl)); have n3_ := Aside0.mk (below_step (by repeat (first | (with_reducible first | exact HB.out | apply below_alloc | apply pw_below_drewN | apply below_drew1 | refine below_set ?_ (IsP.ge HI0.out)) | exact HB.out)) hb); clear HO_45; clear HI0; clear HK; clear HB; have HO_45 := n0_; have HI0 := n1_; have HK := n2_; have HB := n3_; clear n0_ n1_ n2_ n3_; (try clear hb); (try clear hb2); (try clear hk); (try clear hi); (first | (obtain rfl := EV_none he18) | (obtain ⟨te_, pe_, rfl⟩ := EV_some he18) | skip))))
          go_ret
          exact ⟨_, _, by first | rfl | (simp [errW_none, errW_some] <;> rfl) | (simp only [← hji5, ← hji8]; first | rfl | (simp [errW_none, errW_some] <;> rfl)) | (simp [*, errW_none, errW_some] <;> rfl), by (with_reducible repeat (first | apply Kd.R_alloc | apply Kd.R_drewN | apply Kd.R_drew)); exact HO_45.out, (by first | assumption | exact rfl | exact ⟨_, _, rfl⟩), by repeat (first | (with_reducible first | exact HI0.out | apply IsP.alloc | apply IsP.drewN | apply IsP.drew) | exact HI0.out), by repeat (first | (with_reducible first | exact HB.out | apply below_alloc | apply pw_below_drewN | apply below_drew1 | refine below_set ?_ (IsP.ge HI0.out)) | exact HB.out), by repeat (first | (with_reducible first | exact HK.out | apply KeepBut.set_ | apply keep_drewN | apply keep_drew | apply keep_alloc) | exact HK.out)⟩
         ·rw [if_neg c15] at H
          have c15b0 : decide ((l1.length : Int) ≤ x10_1) = false := decide_eq_false c15
          clear c15
          by_cases c20 : 0 ≤ x10_1
          ·rw [if_pos c20] at H
           have c20b0 : decide (0 ≤ x10_1) = true := decide_eq_true c20
           clear c20
           by_cases c21 : x10_1 < (l1.length : Int)
           ·rw [if_pos c21] at H
            have c21b0 : decide (x10_1 < (l1.length : Int)) = true := decide_eq_true c21
            clear c21
            by_cases c22 : 0 ≤ x12_1
            ·rw [if_pos c22] at H
             have c22b0 : decide (0 ≤ x12_1) = true := decide_eq_true c22
             clear c22
             by_cases c23 : x12_1 < (x45_1.length : Int)
             ·rw [if_pos c23] at H
              have c23b0 : decide (x12_1 < (x45_1.length : Int)) = true := decide_eq_true c23
              clear c23
              obtain ⟨y130, hy130⟩ : ∃ y_ : List (S123), y_ = (x45_1.set (x12_1 : Int).toNat (⟨rd l1 x10_1, (rd_T123 x45_1 x12_1).f1, (rd_T123 x45_1 x12_1).f2⟩ : S123)) := ⟨_, rfl⟩
              replace H : (if (Go.bits .and .u8 (rd l1 x10_1) 2) = 0 then (if (Go.bits .and .u8 (rd l1 x10_1) 16) = 0 then (tables_SimpleGlyph_parsePoints.j1 k1 l1 ji8 x8_1 x9_1 (wrap64 (x10_1 + 1)) (l1.length : Int) x12_1 (rd l1 x10_1) 2 0 y130) else (tables_SimpleGlyph_parsePoints.j1 k1 l1 ji8 x8_1 x9_1 (wrap64 (x10_1 + 1)) (l1.length : Int) x12_1 (rd l1 x10_1) 0 0 y130)) else (tables_SimpleGlyph_parsePoints.j1 k1 l1 ji8 x8_1 x9_1 (wrap64 (x10_1 + 1)) (l1.length : Int) x12_1 (rd l1 x10_1) 1 0 y130)) = some (r1, r2) := by first | (rw [hy130]; with_reducible exact H) | (have H2_ := (Option.bind_some _ _).symm.trans H; rw [hy130]; with_reducible exact H2_) | (have H2_ := (Option.bind_some _ _).symm.trans H; with_reducible exact H2_) | with_reducible exact H | (rw [hy130]; exact H) | exact H
              have Ny130 := Aside0.mk hy130
              clear hy130
              have HC25 := Aside0.mk H
              clear H
              have p129 : 0 ≤ (x10_1 : Int) := of_decide_eq_true (by first | (with_reducible assumption) | assumption)
              have q129 : x10_1 < (l1.length : Int) := of_decide_eq_true (by first | (with_reducible assumption) | assumption)
              obtain ⟨ad129, e129, hx129_0⟩ := Kd.at_int HR1.out x10_1 p129 q129
              cases e129
              replace hx129_0 := keep_cell HK.out hx129_0 (by first | (rw [add_block]; exact hf1 _ rfl (by omega)) | exact hf1 _ rfl (by omega) | exact hf1 ad129 rfl (by omega))
              replace p129 := eq_true p129
              replace q129 := eq_true q129
              have p24 : 0 ≤ (x12_1 : Int) := of_decide_eq_true (by first | (with_reducible assumption) | assumption)
              have q24 : (x12_1 : Int) < ((x45_1.length : Int) : Int) := of_decide_eq_true (by first | (with_reducible assumption) | assumption)
              obtain ⟨go24, co24, eo24, gb24, gl24, cl24, HG24⟩ := Kd.R_form HO_45.out (by omega)
              (first | cases eo24 | (injection eo24 with ea_ en_ ec_; (first | subst ea_ | (injection ea_ with ea_; subst ea_)); subst ec_; clear en_))
              have GB24 := Aside0.mk gb24
              have GG24 := Aside0.mk HG24
              clear gb24 gl24 HG24
              obtain ⟨ce24, hcl24, hM24, hcc24, hfr24⟩ := Kd.R_elem HO_45.out z123 (x12_1 : Int) p24 q24
              obtain rfl := k123_openM hM24
              have hx24_0 : wr.cell? ⟨go24, (x12_1 : Int).toNat * 3, none⟩ = some (.int .u8 ((rd_T123 x45_1 x12_1).f0)) := hcc24 0 _ rfl
              have hx24_1 : wr.cell? ⟨go24, (x12_1 : Int).toNat * 3 + 1, none⟩ = some (.int .i16 ((rd_T123 x45_1 x12_1).f1)) := hcc24 1 _ rfl
              have hx24_2 : wr.cell? ⟨go24, (x12_1 : Int).toNat * 3 + 2, none⟩ = some (.int .i16 ((rd_T123 x45_1 x12_1).f2)) := hcc24 2 _ rfl
              have hf24_0 : wr.frozen? ⟨go24, (x12_1 : Int).toNat * 3, none⟩ = false := hfr24 0
              have hf24_1 : wr.frozen? ⟨go24, (x12_1 : Int).toNat * 3 + 1, none⟩ = false := hfr24 1
              have hf24_2 : wr.frozen? ⟨go24, (x12_1 : Int).toNat * 3 + 2, none⟩ = false := hfr24 2
              clear hcl24 hcc24 hfr24 hM24
              replace p24 := eq_true p24
              replace q24 := eq_true q24
              have HX26 := Aside0.mk (show Kd.R k123 123 wr w.heap.size (fun _ => True) (.slice (some ⟨go24, 0, none⟩) x45_1.length co24) x45_1 from (by (with_reducible repeat (first | apply Kd.R_alloc | apply Kd.R_drewN | apply Kd.R_drew)); exact HO_45.out))
              obtain ⟨ce26, hcl26, hM26, hcc26, hfr26⟩ := Kd.R_elem HX26.out z123 (x12_1 : Int) (of_decide_eq_true (by first | (with_reducible assumption) | assumption)) (by have h_ : (x12_1 : Int) < ((x45_1.length : Int) : Int) := of_decide_eq_true (by first | (with_reducible assumption) | assumption); first | exact h_ | (have e_ := (Kd.R_reads' HO_45.out).1; omega) | simpa using h_)
              obtain rfl := k123_openM hM26
              have HP26 := Kd.R_seg HX26.out (x12_1 : Int) (of_decide_eq_true (by first | (with_reducible assumption) | assumption)) (by have h_ : (x12_1 : Int) < ((x45_1.length : Int) : Int) := of_decide_eq_true (by first | (with_reducible assumption) | assumption); first | exact h_ | (have e_ := (Kd.R_reads' HO_45.out).1; omega) | simpa using h_) (seg := [.int .u8 (rd l1 x10_1)]) (j := 0) hcl26 hcc26 (show 1 ≤ 3 from by decide) (x' := (⟨rd l1 x10_1, (rd_T123 x45_1 x12_1).f1, (rd_T123 x45_1 x12_1).f2⟩ : S123)) (k123_mkM _ _ _ (⟨rd l1 x10_1, (rd_T123 x45_1 x12_1).f1, (rd_T123 x45_1 x12_1).f2⟩ : S123) ) (fun _ hk => hk)
              have hx26_0 := hcc26 0 _ rfl
              (try simp only [show (k123).sz = 3 from rfl, Nat.mul_one, Nat.add_zero] at hx26_0)
              have hf26_0 := hfr26 0
              (try simp only [show (k123).sz = 3 from rfl, Nat.mul_one, Nat.add_zero] at hf26_0)
              clear hcl26 hcc26 hfr26 hM26
              have hcg_ := IsP.cl2 HI0.out
              go_upto_if 75 with (first | ((with_reducible refine gate_store (t := 5) (p := 70) rfl ?_); (try (rw [drewN_self wr]; generalize hq_ : World.drewN wr _ = wr; have n0_ := Aside0.mk (Kd.R_at hq_ HO_45.out); have n1_ := Aside0.mk (IsP.at_ hq_ HI0.out); have n2_ := Aside0.mk (keep_at hq_ HK.out); have n3_ := Aside0.mk (below_at hq_ HB.out); clear hq_ HO_45 HI0 HK HB; have HO_45 := n0_; have HI0 := n1_; have HK := n2_; have HB := n3_; clear n0_ n1_ n2_ n3_; (try (have HX26 := Aside0.mk (show Kd.R k123 123 wr w.heap.size (fun _ => True) (.slice (some ⟨go24, 0, none⟩) x45_1.length co24) x45_1 from (by (with_reducible repeat (first | apply Kd.R_alloc | apply Kd.R_drewN | apply Kd.R_drew)); exact HO_45.out)))); (try (obtain ⟨ce26, hcl26, hM26, hcc26, hfr26⟩ := Kd.R_elem HX26.out z123 (x12_1 : Int) (of_decide_eq_true (by first | (with_reducible assumption) | assumption)) (by have h_ : (x12_1 : Int) < ((x45_1.length : Int) : Int) := of_decide_eq_true (by first | (with_reducible assumption) | assumption); first | exact h_ | (have e_ := (Kd.R_reads' HO_45.out).1; omega) | simpa using h_))); (try (obtain rfl := k123_openM hM26)); (try (have HP26 := Kd.R_seg HX26.out (x12_1 : Int) (of_decide_eq_true (by first | (with_reducible assumption) | assumption)) (by have h_ : (x12_1 : Int) < ((x45_1.length : Int) : Int) := of_decide_eq_true (by first | (with_reducible assumption) | assumption); first | exact h_ | (have e_ := (Kd.R_reads' HO_45.out).1; omega) | simpa using h_) (seg := [.int .u8 (rd l1 x10_1)]) (j := 0) hcl26 hcc26 (show 1 ≤ 3 from by decide) (x' := (⟨rd l1 x10_1, (rd_T123 x45_1 x12_1).f1, (rd_T123 x45_1 x12_1).f2⟩ : S123)) (k123_mkM _ _ _ (⟨rd l1 x10_1, (rd_T123 x45_1 x12_1).f1, (rd_T123 x45_1 x12_1).f2⟩ : S123) ) (fun _ hk => hk))); (try (have hx26_0 := hcc26 0 _ rfl)); (try (try simp only [show (k123).sz = 3 from rfl, Nat.mul_one, Nat.add_zero] at hx26_0)); (try (have hf26_0 := hfr26 0)); (try (try simp only [show (k123).sz = 3 from rfl, Nat.mul_one, Nat.add_zero] at hf26_0)); (try (clear hcl26 hcc26 hfr26 hM26)))); refine store_event (t := 5) (p := 70) (v := ?vo_w27) (w1 := (wr.setCell ⟨go24, (x12_1 : Int).toNat * 3, none⟩ (.int .u8 (rd l1 x10_1)))) ?hg ?ho ?hn ?hr ?_; (case ho => rfl); (case hg => rfl); (case hn => rfl); (case hr => first | (go_simp; done) | (go_simp; rfl)); intro w27 hw; have hg : wr.grownBy w27 (some go24) := (by rw [hw]; exact HP26.2); have hp_ : Kd.R k123 123 w27 w.heap.size (fun _ => True) (.slice (some ⟨go24, 0, none⟩) x45_1.length co24) y130 := (by rw [hw, Ny130.out]; exact HP26.1); clear HP26; have n0_ := Aside0.mk (hp_); have n1_ := Aside0.mk (IsP.grown (by repeat (first | (with_reducible first | exact HI0.out | apply IsP.alloc | apply IsP.drewN | apply IsP.drew) | exact HI0.out)) hg (IsP.own_ne HI0.out HO_45.out (by decide))); have n2_ := Aside0.mk ((by rw [hw]; exact below_set (HB.out) (Nat.le_trans HL.out GB24.out) : Below w0.heap.size w0 w27)); have n3_ := Aside0.mk (KeepBut.trans (by repeat (first | (with_reducible first | exact HK.out | apply KeepBut.set_ | apply keep_drewN | apply keep_drew | apply keep_alloc) | exact HK.out)) (KeepBut.of_grown hg g) (Kd.R_base2 HO_45.out)); clear HO_45; clear HI0; clear HB; clear HK; have HO_45 := n0_; have HI0 := n1_; have HB := n2_; have HK := n3_; clear n0_ n1_ n2_ n3_; clear hg hw hp_))
              repeat (go_quiet (first | ((with_reducible refine gate_store (t := 5) (p := 70) rfl ?_); (try (rw [drewN_self wr]; generalize hq_ : World.drewN wr _ = wr; have n0_ := Aside0.mk (Kd.R_at hq_ HO_45.out); have n1_ := Aside0.mk (IsP.at_ hq_ HI0.out); have n2_ := Aside0.mk (keep_at hq_ HK.out); have n3_ := Aside0.mk (below_at hq_ HB.out); clear hq_ HO_45 HI0 HK HB; have HO_45 := n0_; have HI0 := n1_; have HK := n2_; have HB := n3_; clear n0_ n1_ n2_ n3_; (try (have HX26 := Aside0.mk (show Kd.R k123 123 wr w.heap.size (fun _ => True) (.slice (some ⟨go24, 0, none⟩) x45_1.length co24) x45_1 from (by (with_reducible repeat (first | apply Kd.R_alloc | apply Kd.R_drewN | apply Kd.R_drew)); exact HO_45.out)))); (try (obtain ⟨ce26, hcl26, hM26, hcc26, hfr26⟩ := Kd.R_elem HX26.out z123 (x12_1 : Int) (of_decide_eq_true (by first | (with_reducible assumption) | assumption)) (by have h_ : (x12_1 : Int) < ((x45_1.length : Int) : Int) := of_decide_eq_true (by first | (with_reducible assumption) | assumption); first | exact h_ | (have e_ := (Kd.R_reads' HO_45.out).1; omega) | simpa using h_))); (try (obtain rfl := k123_openM hM26)); (try (have HP26 := Kd.R_seg HX26.out (x12_1 : Int) (of_decide_eq_true (by first | (with_reducible assumption) | assumption)) (by have h_ : (x12_1 : Int) < ((x45_1.length : Int) : Int) := of_decide_eq_true (by first | (with_reducible assumption) | assumption); first | exact h_ | (have e_ := (Kd.R_reads' HO_45.out).1; omega) | simpa using h_) (seg := [.int .u8 (rd l1 x10_1)]) (j := 0) hcl26 hcc26 (show 1 ≤ 3 from by decide) (x' := (⟨rd l1 x10_1, (rd_T123 x45_1 x12_1).f1, (rd_T123 x45_1 x12_1).f2⟩ : S123)) (k123_mkM _ _ _ (⟨rd l1 x10_1, (rd_T123 x45_1 x12_1).f1, (rd_T123 x45_1 x12_1).f2⟩ : S123) ) (fun _ hk => hk))); (try (have hx26_0 := hcc26 0 _ rfl)); (try (try simp only [show (k123).sz = 3 from rfl, Nat.mul_one, Nat.add_zero] at hx26_0)); (try (have hf26_0 := hfr26 0)); (try (try simp only [show (k123).sz = 3 from rfl, Nat.mul_one, Nat.add_zero] at hf26_0)); (try (clear hcl26 hcc26 hfr26 hM26)))); refine store_event (t := 5) (p := 70) (v := ?vo_w27) (w1 := (wr.setCell ⟨go24, (x12_1 : Int).toNat * 3, none⟩ (.int .u8 (rd l1 x10_1)))) ?hg ?ho ?hn ?hr ?_; (case ho => rfl); (case hg => rfl); (case hn => rfl); (case hr => first | (go_simp; done) | (go_simp; rfl)); intro w27 hw; have hg : wr.grownBy w27 (some go24) := (by rw [hw]; exact HP26.2); have hp_ : Kd.R k123 123 w27 w.heap.size (fun _ => True) (.slice (some ⟨go24, 0, none⟩) x45_1.length co24) y130 := (by rw [hw, Ny130.out]; exact HP26.1); clear HP26; have n0_ := Aside0.mk (hp_); have n1_ := Aside0.mk (IsP.grown (by repeat (first | (with_reducible first | exact HI0.out | apply IsP.alloc | apply IsP.drewN | apply IsP.drew) | exact HI0.out)) hg (IsP.own_ne HI0.out HO_45.out (by decide))); have n2_ := Aside0.mk ((by rw [hw]; exact below_set (HB.out) (Nat.le_trans HL.out GB24.out) : Below w0.heap.size w0 w27)); have n3_ := Aside0.mk (KeepBut.trans (by repeat (first | (with_reducible first | exact HK.out | apply KeepBut.set_ | apply keep_drewN | apply keep_drew | apply keep_alloc) | exact HK.out)) (KeepBut.of_grown hg g) (Kd.R_base2 HO_45.out)); clear HO_45; clear HI0; clear HB; clear HK; have HO_45 := n0_; have HI0 := n1_; have HB := n2_; have HK := n3_; clear n0_ n1_ n2_ n3_; clear hg hw hp_)); go_upto_if 75 with (first | ((with_reducible refine gate_store (t := 5) (p := 70) rfl ?_); (try (rw [drewN_self wr]; generalize hq_ : World.drewN wr _ = wr; have n0_ := Aside0.mk (Kd.R_at hq_ HO_45.out); have n1_ := Aside0.mk (IsP.at_ hq_ HI0.out); have n2_ := Aside0.mk (keep_at hq_ HK.out); have n3_ := Aside0.mk (below_at hq_ HB.out); clear hq_ HO_45 HI0 HK HB; have HO_45 := n0_; have HI0 := n1_; have HK := n2_; have HB := n3_; clear n0_ n1_ n2_ n3_; (try (have HX26 := Aside0.mk (show Kd.R k123 123 wr w.heap.size (fun _ => True) (.slice (some ⟨go24, 0, none⟩) x45_1.length co24) x45_1 from (by (with_reducible repeat (first | apply Kd.R_alloc | apply Kd.R_drewN | apply Kd.R_drew)); exact HO_45.out)))); (try (obtain ⟨ce26, hcl26, hM26, hcc26, hfr26⟩ := Kd.R_elem HX26.out z123 (x12_1 : Int) (of_decide_eq_true (by first | (with_reducible assumption) | assumption)) (by have h_ : (x12_1 : Int) < ((x45_1.length : Int) : Int) := of_decide_eq_true (by first | (with_reducible assumption) | assumption); first | exact h_ | (have e_ := (Kd.R_reads' HO_45.out).1; omega) | simpa using h_))); (try (obtain rfl := k123_openM hM26)); (try (have HP26 := Kd.R_seg HX26.out (x12_1 : Int) (of_decide_eq_true (by first | (with_reducible assumption) | assumption)) (by have h_ : (x12_1 : Int) < ((x45_1.length : Int) : Int) := of_decide_eq_true (by first | (with_reducible assumption) | assumption); first | exact h_ | (have e_ := (Kd.R_reads' HO_45.out).1; omega) | simpa using h_) (seg := [.int .u8 (rd l1 x10_1)]) (j := 0) hcl26 hcc26 (show 1 ≤ 3 from by decide) (x' := (⟨rd l1 x10_1, (rd_T123 x45_1 x12_1).f1, (rd_T123 x45_1 x12_1).f2⟩ : S123)) (k123_mkM _ _ _ (⟨rd l1 x10_1, (rd_T123 x45_1 x12_1).f1, (rd_T123 x45_1 x12_1).f2⟩ : S123) ) (fun _ hk => hk))); (try (have hx26_0 := hcc26 0 _ rfl)); (try (try simp only [show (k123).sz = 3 from rfl, Nat.mul_one, Nat.add_zero] at hx26_0)); (try (have hf26_0 := hfr26 0)); (try (try simp only [show (k123).sz = 3 from rfl, Nat.mul_one, Nat.add_zero] at hf26_0)); (try (clear hcl26 hcc26 hfr26 hM26)))); refine store_event (t := 5) (p := 70) (v := ?vo_w27) (w1 := (wr.setCell ⟨go24, (x12_1 : Int).toNat * 3, none⟩ (.int .u8 (rd l1 x10_1)))) ?hg ?ho ?hn ?hr ?_; (case ho => rfl); (case hg => rfl); (case hn => rfl); (case hr => first | (go_simp; done) | (go_simp; rfl)); intro w27 hw; have hg : wr.grownBy w27 (some go24) := (by rw [hw]; exact HP26.2); have hp_ : Kd.R k123 123 w27 w.heap.size (fun _ => True) (.slice (some ⟨go24, 0, none⟩) x45_1.length co24) y130 := (by rw [hw, Ny130.out]; exact HP26.1); clear HP26; have n0_ := Aside0.mk (hp_); have n1_ := Aside0.mk (IsP.grown (by repeat (first | (with_reducible first | exact HI0.out | apply IsP.alloc | apply IsP.drewN | apply IsP.drew) | exact HI0.out)) hg (IsP.own_ne HI0.out HO_45.out (by decide))); have n2_ := Aside0.mk ((by rw [hw]; exact below_set (HB.out) (Nat.le_trans HL.out GB24.out) : Below w0.heap.size w0 w27)); have n3_ := Aside0.mk (KeepBut.trans (by repeat (first | (with_reducible first | exact HK.out | apply KeepBut.set_ | apply keep_drewN | apply keep_drew | apply keep_alloc) | exact HK.out)) (KeepBut.of_grown hg g) (Kd.R_base2 HO_45.out)); clear HO_45; clear HI0; clear HB; clear HK; have HO_45 := n0_; have HI0 := n1_; have HB := n2_; have HK := n3_; clear n0_ n1_ n2_ n3_; clear hg hw hp_)))
              (try simp only [Act.put, L1_, L2_, L3_])
              go_cut [14] (fun v14 wc => ∃ (kq : Nat) (x14_24 : Int), v14 = .int .i64 x14_24 ∧ Aside0 (tables_SimpleGlyph_parsePoints.j1 kq l1 ji8 x8_1 x9_1 (wrap64 (x10_1 + 1)) (l1.length : Int) x12_1 (rd l1 x10_1) x14_24 0 y130 = some (r1, r2)) ∧ Aside0 (kq ≤ k1) ∧ Aside0 (Kd.R k123 123 wc w.heap.size (fun _ => True) (.slice (some ⟨go24, 0, none⟩) x45_1.length co24) y130) ∧ Aside0 (IsP (some ad124) c0_ s0_0 e1_ w0 wc g (.slice (some ⟨go24, 0, none⟩) x45_1.length co24)) ∧ Aside0 (KeepBut w wc g none) ∧ Aside0 (Below w0.heap.size w0 wc))
              case first =>
               have H := HC25.out
               clear HC25
               by_cases c28 : (Go.bits .and .u8 (rd l1 x10_1) 2) = 0
               ·rw [if_pos c28] at H
                have c28b0 : ((Go.bits .and .u8 (rd l1 x10_1) 2) == 0) = true := beq_iff_eq.mpr c28
                have c28b1 : ((Go.bits .and .u8 (rd l1 x10_1) 2) != 0) = false := bne_eq_false_iff_eq.mpr c28
                clear c28
                (first | rw [c28b0] | (simp only [i64_w, i32_w]; rw [c28b0]) | skip)
                by_cases c29 : (Go.bits .and .u8 (rd l1 x10_1) 16) = 0
                ·rw [if_pos c29] at H
                 have c29b0 : ((Go.bits .and .u8 (rd l1 x10_1) 16) == 0) = true := beq_iff_eq.mpr c29
                 have c29b1 : ((Go.bits .and .u8 (rd l1 x10_1) 16) != 0) = false := bne_eq_false_iff_eq.mpr c29
                 clear c29
                 have H' := Aside0.mk H
                 clear H
                 go_wp2
                 repeat (go_quiet (fail); try go_wp2)
                 go_meet
                 case rel => exact ⟨_, (2), (by first | rfl | (simp; done) | (simp [*]; done)), H', ⟨by have := HK1.out; first | omega | exact Nat.le_refl _⟩, ⟨by (with_reducible repeat (first | apply Kd.R_alloc | apply Kd.R_drewN | apply Kd.R_drew)); exact HO_45.out⟩, ⟨by repeat (first | (with_reducible first | exact HI0.out | apply IsP.alloc | apply IsP.drewN | apply IsP.drew) | exact HI0.out)⟩, ⟨by repeat (first | (with_reducible first | exact HK.out | apply KeepBut.set_ | apply keep_drewN | apply keep_drew | apply keep_alloc) | exact HK.out)⟩, ⟨by repeat (first | (with_reducible first | exact HB.out | apply below_alloc | apply pw_below_drewN | apply below_drew1 | refine below_set ?_ (IsP.ge HI0.out)) | exact HB.out)⟩⟩
                ·rw [if_neg c29] at H
                 have c29b0 : ((Go.bits .and .u8 (rd l1 x10_1) 16) == 0) = false := beq_eq_false_iff_ne.mpr c29
                 have c29b1 : ((Go.bits .and .u8 (rd l1 x10_1) 16) != 0) = true := bne_iff_ne.mpr c29
                 have H' := Aside0.mk H
                 clear H
                 go_wp2
                 repeat (go_quiet (fail); try go_wp2)
                 go_meet
                 case rel => exact ⟨_, (0), (by first | rfl | (simp; done) | (simp [*]; done)), H', ⟨by have := HK1.out; first | omega | exact Nat.le_refl _⟩, ⟨by (with_reducible repeat (first | apply Kd.R_alloc | apply Kd.R_drewN | apply Kd.R_drew)); exact HO_45.out⟩, ⟨by repeat (first | (with_reducible first | exact HI0.out | apply IsP.alloc | apply IsP.drewN | apply IsP.drew) | exact HI0.out)⟩, ⟨by repeat (first | (with_reducible first | exact HK.out | apply KeepBut.set_ | apply keep_drewN | apply keep_drew | apply keep_alloc) | exact HK.out)⟩, ⟨by repeat (first | (with_reducible first | exact HB.out | apply below_alloc | apply pw_below_drewN | apply below_drew1 | refine below_set ?_ (IsP.ge HI0.out)) | exact HB.out)⟩⟩
               ·rw [if_neg c28] at H
                have c28b0 : ((Go.bits .and .u8 (rd l1 x10_1) 2) == 0) = false := beq_eq_false_iff_ne.mpr c28
                have c28b1 : ((Go.bits .and .u8 (rd l1 x10_1) 2) != 0) = true := bne_iff_ne.mpr c28
                (first | rw [c28b0] | (simp only [i64_w, i32_w]; rw [c28b0]) | skip)
                have H' := Aside0.mk H
                clear H
                go_wp2
                repeat (go_quiet (fail); try go_wp2)
                go_meet
                case rel => exact ⟨_, (1), (by first | rfl | (simp; done) | (simp [*]; done)), H', ⟨by have := HK1.out; first | omega | exact Nat.le_refl _⟩, ⟨by (with_reducible repeat (first | apply Kd.R_alloc | apply Kd.R_drewN | apply Kd.R_drew)); exact HO_45.out⟩, ⟨by repeat (first | (with_reducible first | exact HI0.out | apply IsP.alloc | apply IsP.drewN | apply IsP.drew) | exact HI0.out)⟩, ⟨by repeat (first | (with_reducible first | exact HK.out | apply KeepBut.set_ | apply keep_drewN | apply keep_drew | apply keep_alloc) | exact HK.out)⟩, ⟨by repeat (first | (with_reducible first | exact HB.out | apply below_alloc | apply pw_below_drewN | apply below_drew1 | refine below_set ?_ (IsP.ge HI0.out)) | exact HB.out)⟩⟩
              case rest =>
               clear HC25
               try clear c1
               try clear p1
               try clear q1
               try clear hx1
               try clear c2
               try clear p2
               try clear q2
               try clear hx2
               try clear c4
               try clear c4b0
               try clear c4b1
               try clear c4b2
               try clear c6
               try clear c6b0
               try clear p6
               try clear c7
               try clear c7b0
               try clear c8
               try clear c9
               try clear c9b0
               try clear c9b1
               try clear c10
               try clear c10b0
               try clear c10b1
               try clear p12
               try clear q12
               try clear hx12
               try clear c14
               try clear c14b0
               try clear c15
               try clear c15b0
               try clear c20
               try clear c20b0
               try clear c21
               try clear c21b0
               try clear c22
               try clear c22b0
               try clear c23
               try clear c23b0
               try clear c24
               try clear p24
               try clear q24
               try clear hx24
               try clear hf24
               try clear c26
               try clear hx26
               try clear hf26
               try clear c28
               try clear c28b0
               try clear c28b1
               try clear c29
               try clear c29b0
               try clear c29b1
               try clear hcz11_0
               try clear hcz11_1
               try clear hcz11_2
               try clear hx124_0
               try clear hx129_0
               try clear hx24_0
               try clear hx24_1
               try clear hx24_2
               try clear hx26_0
               try clear p1
               try clear p12
               try clear p124
               try clear p129
               try clear p2
               try clear p24
               try clear p6
               try clear q1
               try clear q12
               try clear q124
               try clear q129
               try clear q24
               obtain ⟨kq, x14_24, rfl, HA, HJ24, HO_45, HI0, HK, HB⟩ := hcut
               have hl45_24 := (Kd.R_reads' HO_45.out).1
               rw [hl45_24] at HO_45
               (try rw [hl45_24] at HI0)
               (try simp only [hl45_24])
               cases kq with
               | zero => exact absurd HA.out (by simp [tables_SimpleGlyph_parsePoints.j1])
               | succ kj24 =>
                have H := HA.out
                clear HA
                simp only [tables_SimpleGlyph_parsePoints.j1] at H
                have HC30 := Aside0.mk H
                clear H
                go_upto_if 81 with (fail)
                repeat (go_quiet (fail); go_upto_if 81 with (fail))
                go_cut [15] (fun v15 wc => ∃ (kq : Nat) (x15_29 : Int), v15 = .int .i64 x15_29 ∧ Aside0 (tables_SimpleGlyph_parsePoints.j2 kq l1 ji8 x8_1 x9_1 (wrap64 (x10_1 + 1)) (l1.length : Int) x12_1 (rd l1 x10_1) x14_24 x15_29 y130 = some (r1, r2)) ∧ Aside0 (kq ≤ kj24) ∧ Aside0 (Kd.R k123 123 wc w.heap.size (fun _ => True) (.slice (some ⟨go24, 0, none⟩) y130.length co24) y130) ∧ Aside0 (IsP (some ad124) c0_ s0_0 e1_ w0 wc g (.slice (some ⟨go24, 0, none⟩) y130.length co24)) ∧ Aside0 (KeepBut w wc g none) ∧ Aside0 (Below w0.heap.size w0 wc))
                case first =>
                 have H := HC30.out
                 clear HC30
                 by_cases c31 : (Go.bits .and .u8 (rd l1 x10_1) 4) = 0
                 ·rw [if_pos c31] at H
                  have c31b0 : ((Go.bits .and .u8 (rd l1 x10_1) 4) == 0) = true := beq_iff_eq.mpr c31
                  have c31b1 : ((Go.bits .and .u8 (rd l1 x10_1) 4) != 0) = false := bne_eq_false_iff_eq.mpr c31
                  clear c31
                  (first | rw [c31b0] | (simp only [i64_w, i32_w]; rw [c31b0]) | skip)
                  by_cases c32 : (Go.bits .and .u8 (rd l1 x10_1) 32) = 0
                  ·rw [if_pos c32] at H
                   have c32b0 : ((Go.bits .and .u8 (rd l1 x10_1) 32) == 0) = true := beq_iff_eq.mpr c32
                   have c32b1 : ((Go.bits .and .u8 (rd l1 x10_1) 32) != 0) = false := bne_eq_false_iff_eq.mpr c32
                   clear c32
                   have H' := Aside0.mk H
                   clear H
                   go_wp2
                   repeat (go_quiet (fail); try go_wp2)
                   go_meet
                   case rel => exact ⟨_, (2), (by first | rfl | (simp; done) | (simp [*]; done)), H', ⟨by have := HK1.out; have := HJ24.out; first | omega | exact Nat.le_refl _⟩, ⟨by (try simp only [hl45_24]); (with_reducible repeat (first | apply Kd.R_alloc | apply Kd.R_drewN | apply Kd.R_drew)); exact HO_45.out⟩, ⟨by (try simp only [hl45_24]); repeat (first | (with_reducible first | exact HI0.out | apply IsP.alloc | apply IsP.drewN | apply IsP.drew) | exact HI0.out)⟩, ⟨by repeat (first | (with_reducible first | exact HK.out | apply KeepBut.set_ | apply keep_drewN | apply keep_drew | apply keep_alloc) | exact HK.out)⟩, ⟨by repeat (first | (with_reducible first | exact HB.out | apply below_alloc | apply pw_below_drewN | apply below_drew1 | refine below_set ?_ (IsP.ge HI0.out)) | exact HB.out)⟩⟩
                  ·rw [if_neg c32] at H
                   have c32b0 : ((Go.bits .and .u8 (rd l1 x10_1) 32) == 0) = false := beq_eq_false_iff_ne.mpr c32
                   have c32b1 : ((Go.bits .and .u8 (rd l1 x10_1) 32) != 0) = true := bne_iff_ne.mpr c32
                   have H' := Aside0.mk H
                   clear H
                   go_wp2
                   repeat (go_quiet (fail); try go_wp2)
                   go_meet
                   case rel => exact ⟨_, (0), (by first | rfl | (simp; done) | (simp [*]; done)), H', ⟨by have := HK1.out; have := HJ24.out; first | omega | exact Nat.le_refl _⟩, ⟨by (try simp only [hl45_24]); (with_reducible repeat (first | apply Kd.R_alloc | apply Kd.R_drewN | apply Kd.R_drew)); exact HO_45.out⟩, ⟨by (try simp only [hl45_24]); repeat (first | (with_reducible first | exact HI0.out | apply IsP.alloc | apply IsP.drewN | apply IsP.drew) | exact HI0.out)⟩, ⟨by repeat (first | (with_reducible first | exact HK.out | apply KeepBut.set_ | apply keep_drewN | apply keep_drew | apply keep_alloc) | exact HK.out)⟩, ⟨by repeat (first | (with_reducible first | exact HB.out | apply below_alloc | apply pw_below_drewN | apply below_drew1 | refine below_set ?_ (IsP.ge HI0.out)) | exact HB.out)⟩⟩
                 ·rw [if_neg c31] at H
                  have c31b0 : ((Go.bits .and .u8 (rd l1 x10_1) 4) == 0) = false := beq_eq_false_iff_ne.mpr c31
                  have c31b1 : ((Go.bits .and .u8 (rd l1 x10_1) 4) != 0) = true := bne_iff_ne.mpr c31
                  (first | rw [c31b0] | (simp only [i64_w, i32_w]; rw [c31b0]) | skip)
                  have H' := Aside0.mk H
                  clear H
                  go_wp2
                  repeat (go_quiet (fail); try go_wp2)
                  go_meet
                  case rel => exact ⟨_, (1), (by first | rfl | (simp; done) | (simp [*]; done)), H', ⟨by have := HK1.out; have := HJ24.out; first | omega | exact Nat.le_refl _⟩, ⟨by (try simp only [hl45_24]); (with_reducible repeat (first | apply Kd.R_alloc | apply Kd.R_drewN | apply Kd.R_drew)); exact HO_45.out⟩, ⟨by (try simp only [hl45_24]); repeat (first | (with_reducible first | exact HI0.out | apply IsP.alloc | apply IsP.drewN | apply IsP.drew) | exact HI0.out)⟩, ⟨by repeat (first | (with_reducible first | exact HK.out | apply KeepBut.set_ | apply keep_drewN | apply keep_drew | apply keep_alloc) | exact HK.out)⟩, ⟨by repeat (first | (with_reducible first | exact HB.out | apply below_alloc | apply pw_below_drewN | apply below_drew1 | refine below_set ?_ (IsP.ge HI0.out)) | exact HB.out)⟩⟩
                case rest =>
                 clear HC30
                 try clear c1
                 try clear p1
                 try clear q1
                 try clear hx1
                 try clear c2
                 try clear p2
                 try clear q2
                 try clear hx2
                 try clear c3
                 try clear c4
                 try clear c4b0
                 try clear c4b1
                 try clear c4b2
                 try clear c6
                 try clear c6b0
                 try clear p6
                 try clear c7
                 try clear c7b0
                 try clear c8
                 try clear c9
                 try clear c9b0
                 try clear c9b1
                 try clear c10
                 try clear c10b0
                 try clear c10b1
                 try clear p12
                 try clear q12
                 try clear hx12
                 try clear c14
                 try clear c14b0
                 try clear c15
                 try clear c15b0
                 try clear c20
                 try clear c20b0
                 try clear c21
                 try clear c21b0
                 try clear c22
                 try clear c22b0
                 try clear c23
                 try clear c23b0
                 try clear c24
                 try clear p24
                 try clear q24
                 try clear hx24
                 try clear hf24
                 try clear c26
                 try clear hx26
                 try clear hf26
                 try clear c28
                 try clear c28b0
                 try clear c28b1
                 try clear c29
                 try clear c29b0
                 try clear c29b1
                 try clear c31
                 try clear c31b0
                 try clear c31b1
                 try clear c32
                 try clear c32b0
                 try clear c32b1
                 try clear hcz11_0
                 try clear hcz11_1
                 try clear hcz11_2
                 try clear hx124_0
                 try clear hx129_0
                 try clear hx24_0
                 try clear hx24_1
                 try clear hx24_2
                 try clear hx26_0
                 try clear p1
                 try clear p12
                 try clear p124
                 try clear p129
                 try clear p2
                 try clear p24
                 try clear p6
                 try clear q1
                 try clear q12
                 try clear q124
                 try clear q129
                 try clear q2
                 try clear q24
                 obtain ⟨kq, x15_29, rfl, HA, HJ29, HO_45, HI0, HK, HB⟩ := hcut
                 cases kq with
                 | zero => exact absurd HA.out (by simp [tables_SimpleGlyph_parsePoints.j2])
                 | succ kj29 =>
                  have H := HA.out
                  clear HA
                  simp only [tables_SimpleGlyph_parsePoints.j2] at H
                  by_cases c33 : (Go.bits .and .u8 (rd l1 x10_1) 8) = 0
                  ·rw [if_pos c33] at H
                   have c33b0 : ((Go.bits .and .u8 (rd l1 x10_1) 8) == 0) = true := beq_iff_eq.mpr c33
                   have c33b1 : ((Go.bits .and .u8 (rd l1 x10_1) 8) != 0) = false := bne_eq_false_iff_eq.mpr c33
                   clear c33
                   have H' := Aside0.mk H
                   clear H
                   go_wp2
                   repeat (go_quiet (fail); try go_wp2)
                   (try simp only [← hl45_24])
                   go_roundg kj29
                   case measure => have := HK1.out; have := HJ24.out; have := HJ29.out; omega
                   case rel => exact ⟨(wrap64 (x8_1 + x14_24)), (wrap64 (x9_1 + x15_29)), ((wrap64 (x10_1 + 1))), (wrap64 (x12_1 + 1)), (y130), (by first | rfl | (simp; done) | (simp [*]; done)), (by first | rfl | (simp; done) | (simp [*]; done)), (by first | rfl | (simp; done) | (simp [*]; done)), (by first | rfl | (simp; done) | (simp [*]; done)), H', ⟨by have := HK1.out; have := HJ24.out; have := HJ29.out; omega⟩, ⟨by (try simp only [hl45_24]); (with_reducible repeat (first | apply Kd.R_alloc | apply Kd.R_drewN | apply Kd.R_drew)); exact HO_45.out⟩, ⟨by (try simp only [hl45_24]); repeat (first | (with_reducible first | exact HI0.out | apply IsP.alloc | apply IsP.drewN | apply IsP.drew) | exact HI0.out)⟩, ⟨by repeat (first | (with_reducible first | exact HK.out | apply KeepBut.set_ | apply keep_drewN | apply keep_drew | apply keep_alloc) | exact HK.out)⟩, ⟨by repeat (first | (with_reducible first | exact HB.out | apply below_alloc | apply pw_below_drewN | apply below_drew1 | refine below_set ?_ (IsP.ge HI0.out)) | exact HB.out)⟩⟩
                  ·rw [if_neg c33] at H
                   have c33b0 : ((Go.bits .and .u8 (rd l1 x10_1) 8) == 0) = false := beq_eq_false_iff_ne.mpr c33
                   have c33b1 : ((Go.bits .and .u8 (rd l1 x10_1) 8) != 0) = true := bne_iff_ne.mpr c33
                   by_cases c34 : (l1.length : Int) ≤ (wrap64 (x10_1 + 1))
                   ·rw [if_pos c34] at H
                    have c34b0 : decide ((l1.length : Int) ≤ (wrap64 (x10_1 + 1))) = true := decide_eq_true c34
                    (try simp only [hl45_24] at c34b0)
                    clear c34
                    replace H := Option.bind_eq_some_iff.mp H
                    obtain ⟨t131, A350, H⟩ := H
                    replace H : (some (t131, y130)) = some (r1, r2) := H
                    have A35 := Aside0.mk A350
                    clear A350
                    simp only [Option.some.injEq, Prod.mk.injEq] at H
                    obtain ⟨rfl, rfl⟩ := H
                    go_wp2_with (first | (go_at_call 56; (with_reducible refine (errors_New.calls (⟨#[105, 110, 118, 97, 108, 105, 100, 32, 115, 105, 109, 112, 108, 101, 32, 103, 108, 121, 112, 104, 32, 100, 97, 116, 97, 32, 102, 108, 97, 103, 115, 32, 40, 69, 79, 70, 41]⟩ : ByteArray) t131 _ A35.out).mono ?_); rintro e w38 ⟨ev36, rfl, he37, hb⟩; have n0_ := Aside0.mk (Kd.R_below (by (with_reducible repeat (first | apply Kd.R_alloc | apply Kd.R_drewN | apply Kd.R_drew)); exact HO_45.out) hb); have n1_ := Aside0.mk (IsP.below (by repeat (first | (with_reducible first | exact HI0.out | apply IsP.alloc | apply IsP.drewN | apply IsP.drew) | exact HI0.out)) hb); have n2_ := Aside0.mk (KeepBut.trans (by repeat (first | (with_reducible first | exact HK.out | apply KeepBut.set_ | apply keep_drewN | apply keep_drew | apply keep_alloc) | exact HK.out)) (KeepBut.of_below hb g none) (.inl rfl)); have n3_ := Aside0.mk (below_step (by repeat (first | (with_reducible first | exact HB.out | apply below_alloc | apply pw_below_drewN | apply below_drew1 | refine below_set ?_ (IsP.ge HI0.out)) | exact HB.out)) hb); clear HO_45; clear HI0; clear HK; clear HB; have HO_45 := n0_; have HI0 := n1_; have HK := n2_; have HB := n3_; clear n0_ n1_ n2_ n3_; (try clear hb); (try clear hb2); (try clear hk); (try clear hi); (first | (obtain rfl := EV_none he37) | (obtain ⟨te_, pe_, rfl⟩ := EV_some he37) | skip)))
                    repeat (go_quiet (first | (go_at_call 56; (with_reducible refine (errors_New.calls (⟨#[105, 110, 118, 97, 108, 105, 100, 32, 115, 105, 109, 112, 108, 101, 32, 103, 108, 121, 112, 104, 32, 100, 97, 116, 97, 32, 102, 108, 97, 103, 115, 32, 40, 69, 79, 70, 41]⟩ : ByteArray) t131 _ A35.out).mono ?_); rintro e w38 ⟨ev36, rfl, he37, hb⟩; have n0_ := Aside0.mk (Kd.R_below (by (with_reducible repeat (first | apply Kd.R_alloc | apply Kd.R_drewN | apply Kd.R_drew)); exact HO_45.out) hb); have n1_ := Aside0.mk (IsP.below (by repeat (first | (with_reducible first | exact HI0.out | apply IsP.alloc | apply IsP.drewN | apply IsP.drew) | exact HI0.out)) hb); have n2_ := Aside0.mk (KeepBut.trans (by repeat (first | (with_reducible first | exact HK.out | apply KeepBut.set_ | apply keep_drewN | apply keep_drew | apply keep_alloc) | exact HK.out)) (KeepBut.of_below hb g none) (.inl rfl)); have n3_ := Aside0.mk (below_step (by repeat (first | (with_reducible first | exact HB.out | apply below_alloc | apply pw_below_drewN | apply below_drew1 | refine below_set ?_ (IsP.ge HI0.out)) | exact HB.out)) hb); clear HO_45; clear HI0; clear HK; clear HB; have HO_45 := n0_; have HI0 := n1_; have HK := n2_; have HB := n3_; clear n0_ n1_ n2_ n3_; (try clear hb); (try clear hb2); (try clear hk); (try clear hi); (first | (obtain rfl := EV_none he37) | (obtain ⟨te_, pe_, rfl⟩ := EV_some he37) | skip))); try go_wp2_with (first | (go_at_call 56; (with_reducible refine (errors_New.calls (⟨#[105, 110, 118, 97, 108, 105, 100, 32, 115, 105, 109, 112, 108, 101, 32, 103, 108, 121, 112, 104, 32, 100, 97, 116, 97, 32, 102, 108, 97, 103, 115, 32, 40, 69, 79, 70, 41]⟩ : ByteArray) t131 _ A35.out).mono ?_); rintro e w38 ⟨ev36, rfl, he37, hb⟩; have n0_ := Aside0.mk (Kd.R_below (by (with_reducible repeat (first | apply Kd.R_alloc | apply Kd.R_drewN | apply Kd.R_drew)); exact HO_45.out) hb); have n1_ := Aside0.mk (IsP.below (by repeat (first | (with_reducible first | exact HI0.out | apply IsP.alloc | apply IsP.drewN | apply IsP.drew) | exact HI0.out)) hb); have n2_ := Aside0.mk (KeepBut.trans (by repeat (first | (with_reducible first | exact HK.out | apply KeepBut.set_ | apply keep_drewN | apply keep_drew | apply keep_alloc) | exact HK.out)) (KeepBut.of_below hb g none) (.inl rfl)); have n3_ := Aside0.mk (below_step (by repeat (first | (with_reducible first | exact HB.out | apply below_alloc | apply pw_below_drewN | apply below_drew1 | refine below_set ?_ (IsP.ge HI0.out)) | exact HB.out)) hb); clear HO_45; clear HI0; clear HK; clear HB; have HO_45 := n0_; have HI0 := n1_; have HK := n2_; have HB := n3_; clear n0_ n1_ n2_ n3_; (try clear hb); (try clear hb2); (try clear hk); (try clear hi); (first | (obtain rfl := EV_none he37) | (obtain ⟨te_, pe_, rfl⟩ := EV_some he37) | skip))))
                    go_ret
                    exact ⟨_, _, by first | rfl | (simp [errW_none, errW_some] <;> rfl) | (simp only [← hji5, ← hji8]; first | rfl | (simp [errW_none, errW_some] <;> rfl)) | (simp [*, errW_none, errW_some] <;> rfl), by (with_reducible repeat (first | apply Kd.R_alloc | apply Kd.R_drewN | apply Kd.R_drew)); exact HO_45.out, (by first | assumption | exact rfl | exact ⟨_, _, rfl⟩), by repeat (first | (with_reducible first | exact HI0.out | apply IsP.alloc | apply IsP.drewN | apply IsP.drew) | exact HI0.out), by repeat (first | (with_reducible first | exact HB.out | apply below_alloc | apply pw_below_drewN | apply below_drew1 | refine below_set ?_ (IsP.ge HI0.out)) | exact HB.out), by repeat (first | (with_reducible first | exact HK.out | apply KeepBut.set_ | apply keep_drewN | apply keep_drew | apply keep_alloc) | exact HK.out)⟩
                   ·rw [if_neg c34] at H
                    have c34b0 : decide ((l1.length : Int) ≤ (wrap64 (x10_1 + 1))) = false := decide_eq_false c34
                    (try simp only [hl45_24] at c34b0)
                    clear c34
                    obtain ⟨ji39, hji39⟩ : ∃ j_ : Int, (wrap64 (x10_1 + 1)) = j_ := ⟨_, rfl⟩
                    replace H : (if 0 ≤ (ji39) then (if (ji39) < (l1.length : Int) then (if (wrap64 ((wrap64 (x12_1 + (wrap64 (rd l1 (ji39))))) + 1)) > ji8 then (tables_SimpleGlyph_parsePoints.j3 kj29 l1 ji8 x8_1 x9_1 (wrap64 ((ji39) + 1)) (l1.length : Int) x12_1 (rd l1 x10_1) x14_24 x15_29 (wrap64 ((wrap64 (ji8 - x12_1)) - 1)) y130) else (tables_SimpleGlyph_parsePoints.j3 kj29 l1 ji8 x8_1 x9_1 (wrap64 ((ji39) + 1)) (l1.length : Int) x12_1 (rd l1 x10_1) x14_24 x15_29 (wrap64 (rd l1 (ji39))) y130)) else (none)) else (none)) = some (r1, r2) := by first | (rw [hji39] at H; exact H) | (simp only [hji39] at H ⊢; exact H)
                    (try rw [hji39] at c34b0)
                    have hji39w : (IntKind.i64.wrap (x10_1 + 1)) = ji39 := (i64_w _).trans hji39
                    by_cases c40 : 0 ≤ (ji39)
                    ·rw [if_pos c40] at H
                     have c40b0 : decide (0 ≤ (ji39)) = true := decide_eq_true c40
                     clear c40
                     by_cases c41 : (ji39) < (l1.length : Int)
                     ·rw [if_pos c41] at H
                      have c41b0 : decide ((ji39) < (l1.length : Int)) = true := decide_eq_true c41
                      (try simp only [hl45_24] at c41b0)
                      clear c41
                      have HC42 := Aside0.mk H
                      clear H
                      have p132 : 0 ≤ ((ji39) : Int) := of_decide_eq_true (by first | (with_reducible assumption) | assumption)
                      have q132 : (ji39) < (l1.length : Int) := of_decide_eq_true (by first | (with_reducible assumption) | assumption)
                      obtain ⟨ad132, e132, hx132_0⟩ := Kd.at_int HR1.out (ji39) p132 q132
                      obtain rfl : ad129 = ad132 := (by injection e132)
                      replace hx132_0 := keep_cell HK.out hx132_0 (by first | (rw [add_block]; exact hf1 _ rfl (by omega)) | exact hf1 _ rfl (by omega) | exact hf1 ad129 rfl (by omega))
                      replace p132 := eq_true p132
                      replace q132 := eq_true q132
                      go_upto_if 104 with (fail)
                      repeat (go_quiet (fail); go_upto_if 104 with (fail))
                      go_cut [16] (fun v16 wc => ∃ (kq : Nat) (x16_41 : Int), v16 = .int .i64 x16_41 ∧ Aside0 (tables_SimpleGlyph_parsePoints.j3 kq l1 ji8 x8_1 x9_1 (wrap64 ((ji39) + 1)) (l1.length : Int) x12_1 (rd l1 x10_1) x14_24 x15_29 x16_41 y130 = some (r1, r2)) ∧ Aside0 (kq ≤ kj29) ∧ Aside0 (Kd.R k123 123 wc w.heap.size (fun _ => True) (.slice (some ⟨go24, 0, none⟩) y130.length co24) y130) ∧ Aside0 (IsP (some ad124) c0_ s0_0 e1_ w0 wc g (.slice (some ⟨go24, 0, none⟩) y130.length co24)) ∧ Aside0 (KeepBut w wc g none) ∧ Aside0 (Below w0.heap.size w0 wc))
                      case first =>
                       have H := HC42.out
                       clear HC42
                       by_cases c43 : (wrap64 ((wrap64 (x12_1 + (wrap64 (rd l1 (ji39))))) + 1)) > ji8
                       ·rw [if_pos c43] at H
                        have c43b0 : decide (ji8 < (wrap64 ((wrap64 (x12_1 + (wrap64 (rd l1 (ji39))))) + 1))) = true := decide_eq_true c43
                        clear c43
                        (first | rw [c43b0] | (simp only [i64_w, i32_w]; rw [c43b0]) | skip)
                        have H' := Aside0.mk H
                        clear H
                        go_wp2
                        repeat (go_quiet (fail); try go_wp2)
                        go_meet
                        case rel => exact ⟨_, (wrap64 ((wrap64 (ji8 - x12_1)) - 1)), (by first | rfl | (simp; done) | (simp only [← hji8] <;> (first | rfl | simp)) | (simp [*]; done)), H', ⟨by have := HK1.out; have := HJ24.out; have := HJ29.out; first | omega | exact Nat.le_refl _⟩, ⟨by (try simp only [hl45_24]); (with_reducible repeat (first | apply Kd.R_alloc | apply Kd.R_drewN | apply Kd.R_drew)); exact HO_45.out⟩, ⟨by (try simp only [hl45_24]); repeat (first | (with_reducible first | exact HI0.out | apply IsP.alloc | apply IsP.drewN | apply IsP.drew) | exact HI0.out)⟩, ⟨by repeat (first | (with_reducible first | exact HK.out | apply KeepBut.set_ | apply keep_drewN | apply keep_drew | apply keep_alloc) | exact HK.out)⟩, ⟨by repeat (first | (with_reducible first | exact HB.out | apply below_alloc | apply pw_below_drewN | apply below_drew1 | refine below_set ?_ (IsP.ge HI0.out)) | exact HB.out)⟩⟩
                       ·rw [if_neg c43] at H
                        have c43b0 : decide (ji8 < (wrap64 ((wrap64 (x12_1 + (wrap64 (rd l1 (ji39))))) + 1))) = false := decide_eq_false c43
                        clear c43
                        (first | rw [c43b0] | (simp only [i64_w, i32_w]; rw [c43b0]) | skip)
                        have H' := Aside0.mk H
                        clear H
                        go_wp2
                        repeat (go_quiet (fail); try go_wp2)
                        go_meet
                        case rel => exact ⟨_, (wrap64 (rd l1 (ji39))), (by first | rfl | (simp; done) | (simp only [← hji39] <;> (first | rfl | simp)) | (simp [*]; done)), H', ⟨by have := HK1.out; have := HJ24.out; have := HJ29.out; first | omega | exact Nat.le_refl _⟩, ⟨by (try simp only [hl45_24]); (with_reducible repeat (first | apply Kd.R_alloc | apply Kd.R_drewN | apply Kd.R_drew)); exact HO_45.out⟩, ⟨by (try simp only [hl45_24]); repeat (first | (with_reducible first | exact HI0.out | apply IsP.alloc | apply IsP.drewN | apply IsP.drew) | exact HI0.out)⟩, ⟨by repeat (first | (with_reducible first | exact HK.out | apply KeepBut.set_ | apply keep_drewN | apply keep_drew | apply keep_alloc) | exact HK.out)⟩, ⟨by repeat (first | (with_reducible first | exact HB.out | apply below_alloc | apply pw_below_drewN | apply below_drew1 | refine below_set ?_ (IsP.ge HI0.out)) | exact HB.out)⟩⟩
                      case rest =>
                       clear HC42
                       try clear c1
                       try clear p1
                       try clear q1
                       try clear hx1
                       try clear c2
                       try clear p2
                       try clear q2
                       try clear hx2
                       try clear c3
                       try clear c4
                       try clear c4b0
                       try clear c4b1
                       try clear c4b2
                       try clear c6
                       try clear c6b0
                       try clear p6
                       try clear c7
                       try clear c7b0
                       try clear c8
                       try clear c9
                       try clear c9b0
                       try clear c9b1
                       try clear c10
                       try clear c10b0
                       try clear c10b1
                       try clear p12
                       try clear q12
                       try clear hx12
                       try clear p13
                       try clear q13
                       try clear hx13
                       try clear c14
                       try clear c14b0
                       try clear c15
                       try clear c15b0
                       try clear c20
                       try clear c20b0
                       try clear c21
                       try clear c21b0
                       try clear c22
                       try clear c22b0
                       try clear c23
                       try clear c23b0
                       try clear c24
                       try clear p24
                       try clear q24
                       try clear hx24
                       try clear hf24
                       try clear c26
                       try clear hx26
                       try clear hf26
                       try clear c28
                       try clear c28b0
                       try clear c28b1
                       try clear c29
                       try clear c29b0
                       try clear c29b1
                       try clear c31
                       try clear c31b0
                       try clear c31b1
                       try clear c32
                       try clear c32b0
                       try clear c32b1
                       try clear c33
                       try clear c33b0
                       try clear c33b1
                       try clear c34
                       try clear c34b0
                       try clear c40
                       try clear c40b0
                       try clear c41
                       try clear c41b0
                       try clear c43
                       try clear c43b0
                       try clear hcz11_0
                       try clear hcz11_1
                       try clear hcz11_2
                       try clear hx124_0
                       try clear hx129_0
                       try clear hx132_0
                       try clear hx24_0
                       try clear hx24_1
                       try clear hx24_2
                       try clear hx26_0
                       try clear p1
                       try clear p12
                       try clear p124
                       try clear p129
                       try clear p132
                       try clear p2
                       try clear p24
                       try clear p6
                       try clear q1
                       try clear q12
                       try clear q124
                       try clear q129
                       try clear q132
                       try clear q2
                       try clear q24
                       obtain ⟨kq, x16_41, rfl, HA, HJ41, HO_45, HI0, HK, HB⟩ := hcut
                       cases kq with
                       | zero => exact absurd HA.out (by simp [tables_SimpleGlyph_parsePoints.j3])
                       | succ kj41 =>
                        have H := HA.out
                        clear HA
                        simp only [tables_SimpleGlyph_parsePoints.j3] at H
                        obtain ⟨ji44, hji44⟩ : ∃ j_ : Int, (wrap64 (x12_1 + 1)) = j_ := ⟨_, rfl⟩
                        replace H : (if 0 ≤ (ji44) then (if (ji44) ≤ (wrap64 ((wrap64 (x12_1 + x16_41)) + 1)) then (if (wrap64 ((wrap64 (x12_1 + x16_41)) + 1)) ≤ (y130.length : Int) then (tables_SimpleGlyph_parsePoints.l1 kj41 l1 ji8 x8_1 x9_1 (wrap64 ((ji39) + 1)) (l1.length : Int) x12_1 (rd l1 x10_1) x14_24 x15_29 x16_41 y130 ji44 (wrap64 ((wrap64 ((wrap64 (x12_1 + x16_41)) + 1)) - (ji44))) 0) else (none)) else (none)) else (none)) = some (r1, r2) := by first | (rw [hji44] at H; exact H) | (simp only [hji44] at H ⊢; exact H)
                        have hji44w : (IntKind.i64.wrap (x12_1 + 1)) = ji44 := (i64_w _).trans hji44
                        by_cases c45 : 0 ≤ (ji44)
                        ·rw [if_pos c45] at H
                         have c45b0 := eq_true c45
                         have c45b1 : decide (0 ≤ (ji44)) = true := decide_eq_true c45
                         clear c45
                         by_cases c46 : (ji44) ≤ (wrap64 ((wrap64 (x12_1 + x16_41)) + 1))
                         ·rw [if_pos c46] at H
                          have c46b0 := eq_true c46
                          have c46b1 : decide ((ji44) ≤ (wrap64 ((wrap64 (x12_1 + x16_41)) + 1))) = true := decide_eq_true c46
                          by_cases c47 : (wrap64 ((wrap64 (x12_1 + x16_41)) + 1)) ≤ (y130.length : Int)
                          ·rw [if_pos c47] at H
                           have c47b0 := eq_true c47
                           have c47b1 : decide ((wrap64 ((wrap64 (x12_1 + x16_41)) + 1)) ≤ (y130.length : Int)) = true := decide_eq_true c47
                           obtain ⟨y133, hy133⟩ : ∃ y_ : List (S123), y_ = ((y130.take ((wrap64 ((wrap64 (x12_1 + x16_41)) + 1)) : Int).toNat).drop ((ji44) : Int).toNat) := ⟨_, rfl⟩
                           replace H : (tables_SimpleGlyph_parsePoints.l1 kj41 l1 ji8 x8_1 x9_1 (wrap64 ((ji39) + 1)) (l1.length : Int) x12_1 (rd l1 x10_1) x14_24 x15_29 x16_41 y130 ji44 (wrap64 ((wrap64 ((wrap64 (x12_1 + x16_41)) + 1)) - (ji44))) 0) = some (r1, r2) := by first | (rw [hy133]; with_reducible exact H) | (have H2_ := (Option.bind_some _ _).symm.trans H; rw [hy133]; with_reducible exact H2_) | (have H2_ := (Option.bind_some _ _).symm.trans H; with_reducible exact H2_) | with_reducible exact H | (rw [hy133]; exact H) | exact H
                           have Ny133 := Aside0.mk hy133
                           clear hy133
                           have H' := Aside0.mk H
                           clear H
                           have q48 : ((wrap64 ((wrap64 (x12_1 + x16_41)) + 1)) : Int) ≤ ((y130.length : Int) : Int) := of_decide_eq_true (by first | (with_reducible assumption) | assumption)
                           obtain ⟨i048, hi048, _, hsz48, _⟩ := info_parts info123
                           have hroom48 : y130.length ≤ co24 := (Kd.R_reads' HO_45.out).2.1
                           have hC48 : Kd.C k123 _ (some ⟨go24, 0, none⟩) y130.length y130 := (Kd.R_reads' HO_45.out).2.2
                           have ql48 : ((ji44) : Int) ≤ ((wrap64 ((wrap64 (x12_1 + x16_41)) + 1)) : Int) := of_decide_eq_true (by first | (with_reducible assumption) | assumption)
                           have q048 : (0 : Int) ≤ ((ji44) : Int) := of_decide_eq_true (by first | (with_reducible assumption) | assumption)
                           have hcut48 := cut_mid (P := Try.prog) 118 123 .i64 .i64 Try.underlying118 hi048 3 hsz48 (some ⟨go24, 0, none⟩) y130.length co24 (ji44) (wrap64 ((wrap64 (x12_1 + x16_41)) + 1)) q048 ql48 q48 hroom48
                           have hr48 := Kd.C_mid (lo := ((ji44) : Int).toNat) (hi := ((wrap64 ((wrap64 (x12_1 + x16_41)) + 1)) : Int).toNat) (c := co24) hC48 (by omega) (by omega) hroom48
                           obtain ⟨A48, hA48⟩ : ∃ A1, A1 = (if co24 = ((ji44) : Int).toNat then (some ⟨go24, 0, none⟩) else ((some ⟨go24, 0, none⟩) : Option Addr).map (·.add (((ji44) : Int).toNat * 3))) := ⟨_, rfl⟩
                           obtain ⟨c48, hc48⟩ : ∃ c1, c1 = co24 - ((ji44) : Int).toNat := ⟨_, rfl⟩
                           have hy48 : y133.length = ((wrap64 ((wrap64 (x12_1 + x16_41)) + 1)) : Int).toNat - ((ji44) : Int).toNat := (by rw [Ny133.out, List.length_drop, List.length_take] <;> omega)
                           rw [show ((y130).take ((wrap64 ((wrap64 (x12_1 + x16_41)) + 1)) : Int).toNat).drop ((ji44) : Int).toNat = y133 from Ny133.out.symm] at hr48
                           replace hr48 : Kd.C k123 _ A48 y133.length y133 := (by rw [hA48]; exact hr48)
                           rw [← hy48, ← hA48, ← hc48] at hcut48
                           have HR136 := Aside0.mk hr48
                           have HC136 := Aside0.mk (show y133.length ≤ c48 from by rw [hy48, hc48]; exact Nat.sub_le_sub_right (Nat.le_trans (by omega) hroom48) _)
                           clear hr48 hC48 hroom48 hi048 hsz48 hc48
                           have KY48 := Aside0.mk hy48
                           have KA48 := Aside0.mk hA48
                           clear hy48 hA48
                           have KL48 := Aside0.mk (show ((wrap64 ((wrap64 (x12_1 + x16_41)) + 1)) : Int).toNat ≤ y130.length from by omega)
                           have KM48 := Aside0.mk (show ((ji44) : Int).toNat ≤ ((wrap64 ((wrap64 (x12_1 + x16_41)) + 1)) : Int).toNat from by omega)
                           have hLEN := Aside0.mk (show wrap64 ((wrap64 ((wrap64 (x12_1 + x16_41)) + 1)) - (ji44)) = (y133.length : Int) from by rw [KY48.out]; exact cut_len q048 ql48 (wrap64_lt _))
                           have hHI := Aside0.mk (show (wrap64 ((wrap64 (x12_1 + x16_41)) + 1)) < 9223372036854775808 from wrap64_lt _)
                           have hJ0 := Aside0.mk q048
                           replace q48 := eq_true q48
                           have hcg_ := IsP.cl2 HI0.out
                           go_wp2
                           repeat (go_quiet (fail); try go_wp2)
                           go_loopg [122] kj41 (fun kq v122 w' => ∃ (x45_5 : List (S123)) (x122_5 : Int), v122 = .int .i64 x122_5 ∧ Aside0 (0 ≤ x122_5) ∧ Aside0 (tables_SimpleGlyph_parsePoints.l1 kq l1 ji8 x8_1 x9_1 (wrap64 ((ji39) + 1)) (l1.length : Int) x12_1 (rd l1 x10_1) x14_24 x15_29 x16_41 x45_5 ji44 (wrap64 ((wrap64 ((wrap64 (x12_1 + x16_41)) + 1)) - (ji44))) x122_5 = some (r1, r2)) ∧ Aside0 (kq ≤ kj41) ∧ Aside0 (Kd.R k123 123 w' w.heap.size (fun _ => True) (.slice (some ⟨go24, 0, none⟩) y130.length co24) x45_5) ∧ Aside0 (IsP (some ad124) c0_ s0_0 e1_ w0 w' g (.slice (some ⟨go24, 0, none⟩) y130.length co24)) ∧ Aside0 (KeepBut w w' g none) ∧ Aside0 (Below w0.heap.size w0 w'))
                           case atStart => exact ⟨(y130), (0), (by first | rfl | (simp; done) | (simp [*]; done)), ⟨Int.le_refl _⟩, H', ⟨Nat.le_refl _⟩, ⟨by (try simp only [hl45_24]); (with_reducible repeat (first | apply Kd.R_alloc | apply Kd.R_drewN | apply Kd.R_drew)); exact HO_45.out⟩, ⟨by (try simp only [hl45_24]); repeat (first | (with_reducible first | exact HI0.out | apply IsP.alloc | apply IsP.drewN | apply IsP.drew) | exact HI0.out)⟩, ⟨by repeat (first | (with_reducible first | exact HK.out | apply KeepBut.set_ | apply keep_drewN | apply keep_drew | apply keep_alloc) | exact HK.out)⟩, ⟨by repeat (first | (with_reducible first | exact HB.out | apply below_alloc | apply pw_below_drewN | apply below_drew1 | refine below_set ?_ (IsP.ge HI0.out)) | exact HB.out)⟩⟩
                           case round =>
                            clear H'
                            try clear c1
                            try clear p1
                            try clear q1
                            try clear hx1
                            try clear c2
                            try clear p2
                            try clear q2
                            try clear hx2
                            try clear c3
                            try clear c4
                            try clear c4b0
                            try clear c4b1
                            try clear c4b2
                            try clear q4
                            try clear c6
                            try clear c6b0
                            try clear p6
                            try clear c7
                            try clear c7b0
                            try clear c8
                            try clear c9
                            try clear c9b0
                            try clear c9b1
                            try clear c10
                            try clear c10b0
                            try clear c10b1
                            try clear p12
                            try clear q12
                            try clear hx12
                            try clear p13
                            try clear q13
                            try clear hx13
                            try clear c14
                            try clear c14b0
                            try clear c15
                            try clear c15b0
                            try clear c20
                            try clear c20b0
                            try clear c21
                            try clear c21b0
                            try clear c22
                            try clear c22b0
                            try clear c23
                            try clear c23b0
                            try clear c24
                            try clear p24
                            try clear q24
                            try clear hx24
                            try clear hf24
                            try clear c26
                            try clear hx26
                            try clear hf26
                            try clear c28
                            try clear c28b0
                            try clear c28b1
                            try clear c29
                            try clear c29b0
                            try clear c29b1
                            try clear c31
                            try clear c31b0
                            try clear c31b1
                            try clear c32
                            try clear c32b0
                            try clear c32b1
                            try clear c33
                            try clear c33b0
                            try clear c33b1
                            try clear c34
                            try clear c34b0
                            try clear c40
                            try clear c40b0
                            try clear c41
                            try clear c41b0
                            try clear c43
                            try clear c43b0
                            try clear c45
                            try clear c45b0
                            try clear c45b1
                            try clear c46
                            try clear c46b0
                            try clear c46b1
                            try clear c47
                            try clear c47b0
                            try clear c47b1
                            try clear c48
                            try clear q48
                            try clear hcz11_0
                            try clear hcz11_1
                            try clear hcz11_2
                            try clear hx124_0
                            try clear hx129_0
                            try clear hx132_0
                            try clear hx24_0
                            try clear hx24_1
                            try clear hx24_2
                            try clear hx26_0
                            try clear p1
                            try clear p12
                            try clear p124
                            try clear p129
                            try clear p13
                            try clear p132
                            try clear p2
                            try clear p24
                            try clear p6
                            try clear q048
                            try clear q1
                            try clear q12
                            try clear q124
                            try clear q129
                            try clear q13
                            try clear q132
                            try clear q2
                            try clear q24
                            try clear q48
                            obtain ⟨x45_5, x122_5, rfl, HX0, HA, HK5, HO_45, HI0, HK, HB⟩ := hrel
                            have hl45_5 := (Kd.R_reads' HO_45.out).1
                            rw [hl45_5] at HO_45
                            (try rw [hl45_5] at HI0)
                            (try simp only [hl45_5])
                            cases gk with
                            | zero => exact absurd HA.out (by simp [tables_SimpleGlyph_parsePoints.l1])
                            | succ k5 =>
                             have H := HA.out
                             clear HA
                             simp only [tables_SimpleGlyph_parsePoints.l1] at H
                             by_cases c49 : x122_5 < (wrap64 ((wrap64 ((wrap64 (x12_1 + x16_41)) + 1)) - (ji44)))
                             ·rw [if_pos c49] at H
                              have c49b0 : decide (x122_5 < (wrap64 ((wrap64 ((wrap64 (x12_1 + x16_41)) + 1)) - (ji44)))) = true := decide_eq_true c49
                              rw [hLEN.out] at c49b0
                              clear c49
                              obtain ⟨ji50, hji50⟩ : ∃ j_ : Int, (wrap64 (x122_5 + ji44)) = j_ := ⟨_, rfl⟩
                              replace H : (if 0 ≤ (ji50) then (if (ji50) < (x45_5.length : Int) then (tables_SimpleGlyph_parsePoints.l1 k5 l1 ji8 x8_1 x9_1 (wrap64 ((ji39) + 1)) (l1.length : Int) x12_1 (rd l1 x10_1) x14_24 x15_29 x16_41 (x45_5.set ((ji50) : Int).toNat (⟨(rd l1 x10_1), (rd_T123 x45_5 (ji50)).f1, (rd_T123 x45_5 (ji50)).f2⟩ : S123)) ji44 (wrap64 ((wrap64 ((wrap64 (x12_1 + x16_41)) + 1)) - (ji44))) (wrap64 (x122_5 + 1))) else (none)) else (none)) = some (r1, r2) := by first | (rw [hji50] at H; exact H) | (simp only [hji50] at H ⊢; exact H)
                              have hji50w : (IntKind.i64.wrap (x122_5 + ji44)) = ji50 := (i64_w _).trans hji50
                              by_cases c51 : 0 ≤ (ji50)
                              ·rw [if_pos c51] at H
                               have c51b0 : decide (0 ≤ (ji50)) = true := decide_eq_true c51
                               clear c51
                               by_cases c52 : (ji50) < (x45_5.length : Int)
                               ·rw [if_pos c52] at H
                                have c52b0 : decide ((ji50) < (x45_5.length : Int)) = true := decide_eq_true c52
                                (try simp only [hl45_24, hl45_5] at c52b0)
                                clear c52
                                obtain ⟨y137, hy137⟩ : ∃ y_ : List (S123), y_ = (x45_5.set ((ji50) : Int).toNat (⟨(rd l1 x10_1), (rd_T123 x45_5 (ji50)).f1, (rd_T123 x45_5 (ji50)).f2⟩ : S123)) := ⟨_, rfl⟩
                                replace H : (tables_SimpleGlyph_parsePoints.l1 k5 l1 ji8 x8_1 x9_1 (wrap64 ((ji39) + 1)) (l1.length : Int) x12_1 (rd l1 x10_1) x14_24 x15_29 x16_41 y137 ji44 (wrap64 ((wrap64 ((wrap64 (x12_1 + x16_41)) + 1)) - (ji44))) (wrap64 (x122_5 + 1))) = some (r1, r2) := by first | (rw [hy137]; with_reducible exact H) | (have H2_ := (Option.bind_some _ _).symm.trans H; rw [hy137]; with_reducible exact H2_) | (have H2_ := (Option.bind_some _ _).symm.trans H; with_reducible exact H2_) | with_reducible exact H | (rw [hy137]; exact H) | exact H
                                have Ny137 := Aside0.mk hy137
                                clear hy137
                                have H' := Aside0.mk H
                                clear H
                                have h0x_ : 0 ≤ x122_5 := HX0.out
                                have hlx_ : x122_5 < (y133.length : Int) := of_decide_eq_true c49b0
                                have hroom_ := (Kd.R_reads' HO_45.out).2.1
                                have hA_ : A48 = some ⟨go24, (ji44 : Int).toNat * 3, none⟩ := by
                                 rw [KA48.out, if_neg (by have := KY48.out; have := KL48.out; omega)]
                                 simp [add_plain]
                                subst hA_
                                have hadr_ : ((ji50) : Int).toNat * 3 = (ji44 : Int).toNat * 3 + (x122_5 : Int).toNat * 3 := by rw [← hji50]; exact cut_at h0x_ hJ0.out (by have := KY48.out; have := hHI.out; have := KM48.out; omega)
                                have hx1_ := Aside0.mk (show 0 ≤ wrap64 (x122_5 + 1) from by have := KY48.out; have := hHI.out; unfold wrap64; omega)
                                clear hroom_
                                replace hlx_ := eq_true hlx_
                                replace h0x_ := eq_true h0x_
                                have p53 : 0 ≤ ((ji50) : Int) := of_decide_eq_true (by first | (with_reducible assumption) | assumption)
                                have q53 : ((ji50) : Int) < ((x45_5.length : Int) : Int) := of_decide_eq_true (by first | (with_reducible assumption) | assumption)
                                obtain ⟨ce53, hcl53, hM53, hcc53, hfr53⟩ := Kd.R_elem HO_45.out z123 ((ji50) : Int) p53 q53
                                obtain rfl := k123_openM hM53
                                have hx53_0 : wr.cell? ⟨go24, ((ji50) : Int).toNat * 3, none⟩ = some (.int .u8 ((rd_T123 x45_5 (ji50)).f0)) := hcc53 0 _ rfl
                                have hx53_1 : wr.cell? ⟨go24, ((ji50) : Int).toNat * 3 + 1, none⟩ = some (.int .i16 ((rd_T123 x45_5 (ji50)).f1)) := hcc53 1 _ rfl
                                have hx53_2 : wr.cell? ⟨go24, ((ji50) : Int).toNat * 3 + 2, none⟩ = some (.int .i16 ((rd_T123 x45_5 (ji50)).f2)) := hcc53 2 _ rfl
                                have hf53_0 : wr.frozen? ⟨go24, ((ji50) : Int).toNat * 3, none⟩ = false := hfr53 0
                                have hf53_1 : wr.frozen? ⟨go24, ((ji50) : Int).toNat * 3 + 1, none⟩ = false := hfr53 1
                                have hf53_2 : wr.frozen? ⟨go24, ((ji50) : Int).toNat * 3 + 2, none⟩ = false := hfr53 2
                                clear hcl53 hcc53 hfr53 hM53
                                replace p53 := eq_true p53
                                replace q53 := eq_true q53
                                have HX54 := Aside0.mk (show Kd.R k123 123 wr w.heap.size (fun _ => True) (.slice (some ⟨go24, 0, none⟩) x45_5.length co24) x45_5 from (by (with_reducible repeat (first | apply Kd.R_alloc | apply Kd.R_drewN | apply Kd.R_drew)); exact HO_45.out))
                                obtain ⟨ce54, hcl54, hM54, hcc54, hfr54⟩ := Kd.R_elem HX54.out z123 ((ji50) : Int) (of_decide_eq_true (by first | (with_reducible assumption) | assumption)) (by have h_ : ((ji50) : Int) < ((x45_5.length : Int) : Int) := of_decide_eq_true (by first | (with_reducible assumption) | assumption); first | exact h_ | (have e_ := (Kd.R_reads' HO_45.out).1; omega) | simpa using h_)
                                obtain rfl := k123_openM hM54
                                have HP54 := Kd.R_seg HX54.out ((ji50) : Int) (of_decide_eq_true (by first | (with_reducible assumption) | assumption)) (by have h_ : ((ji50) : Int) < ((x45_5.length : Int) : Int) := of_decide_eq_true (by first | (with_reducible assumption) | assumption); first | exact h_ | (have e_ := (Kd.R_reads' HO_45.out).1; omega) | simpa using h_) (seg := [.int .u8 (rd l1 x10_1)]) (j := 0) hcl54 hcc54 (show 1 ≤ 3 from by decide) (x' := (⟨(rd l1 x10_1), (rd_T123 x45_5 (ji50)).f1, (rd_T123 x45_5 (ji50)).f2⟩ : S123)) (k123_mkM _ _ _ (⟨(rd l1 x10_1), (rd_T123 x45_5 (ji50)).f1, (rd_T123 x45_5 (ji50)).f2⟩ : S123) ) (fun _ hk => hk)
                                have hx54_0 := hcc54 0 _ rfl
                                (try simp only [show (k123).sz = 3 from rfl, Nat.mul_one, Nat.add_zero] at hx54_0)
                                have hf54_0 := hfr54 0
                                (try simp only [show (k123).sz = 3 from rfl, Nat.mul_one, Nat.add_zero] at hf54_0)
                                clear hcl54 hcc54 hfr54 hM54
                                simp only [hadr_] at hx53_0 hx53_1 hx53_2 hf53_0 hf53_1 hf53_2 hx54_0 hf54_0
                                have HADR := Aside0.mk hadr_
                                clear hadr_
                                go_wp2_with (first | ((with_reducible refine gate_store (t := 5) (p := 129) rfl ?_); (try (rw [drewN_self wr]; generalize hq_ : World.drewN wr _ = wr; have n0_ := Aside0.mk (Kd.R_at hq_ HO_45.out); have n1_ := Aside0.mk (IsP.at_ hq_ HI0.out); have n2_ := Aside0.mk (keep_at hq_ HK.out); have n3_ := Aside0.mk (below_at hq_ HB.out); clear hq_ HO_45 HI0 HK HB; have HO_45 := n0_; have HI0 := n1_; have HK := n2_; have HB := n3_; clear n0_ n1_ n2_ n3_; (try (have HX54 := Aside0.mk (show Kd.R k123 123 wr w.heap.size (fun _ => True) (.slice (some ⟨go24, 0, none⟩) x45_5.length co24) x45_5 from (by (with_reducible repeat (first | apply Kd.R_alloc | apply Kd.R_drewN | apply Kd.R_drew)); exact HO_45.out)))); (try (obtain ⟨ce54, hcl54, hM54, hcc54, hfr54⟩ := Kd.R_elem HX54.out z123 ((ji50) : Int) (of_decide_eq_true (by first | (with_reducible assumption) | assumption)) (by have h_ : ((ji50) : Int) < ((x45_5.length : Int) : Int) := of_decide_eq_true (by first | (with_reducible assumption) | assumption); first | exact h_ | (have e_ := (Kd.R_reads' HO_45.out).1; omega) | simpa using h_))); (try (obtain rfl := k123_openM hM54)); (try (have HP54 := Kd.R_seg HX54.out ((ji50) : Int) (of_decide_eq_true (by first | (with_reducible assumption) | assumption)) (by have h_ : ((ji50) : Int) < ((x45_5.length : Int) : Int) := of_decide_eq_true (by first | (with_reducible assumption) | assumption); first | exact h_ | (have e_ := (Kd.R_reads' HO_45.out).1; omega) | simpa using h_) (seg := [.int .u8 (rd l1 x10_1)]) (j := 0) hcl54 hcc54 (show 1 ≤ 3 from by decide) (x' := (⟨(rd l1 x10_1), (rd_T123 x45_5 (ji50)).f1, (rd_T123 x45_5 (ji50)).f2⟩ : S123)) (k123_mkM _ _ _ (⟨(rd l1 x10_1), (rd_T123 x45_5 (ji50)).f1, (rd_T123 x45_5 (ji50)).f2⟩ : S123) ) (fun _ hk => hk))); (try (have hx54_0 := hcc54 0 _ rfl)); (try (try simp only [show (k123).sz = 3 from rfl, Nat.mul_one, Nat.add_zero] at hx54_0)); (try (have hf54_0 := hfr54 0)); (try (try simp only [show (k123).sz = 3 from rfl, Nat.mul_one, Nat.add_zero] at hf54_0)); (try (clear hcl54 hcc54 hfr54 hM54)))); refine store_event (t := 5) (p := 129) (v := ?vo_w55) (w1 := (wr.setCell ⟨go24, (ji44 : Int).toNat * 3 + (x122_5 : Int).toNat * 3, none⟩ (.int .u8 (rd l1 x10_1)))) ?hg ?ho ?hn ?hr ?_; (case ho => rfl); (case hg => rfl); (case hn => rfl); (case hr => first | (go_simp; done) | (go_simp; rfl)); intro w55 hw; have hg : wr.grownBy w55 (some go24) := (by rw [hw, ← HADR.out]; exact HP54.2); have hp_ : Kd.R k123 123 w55 w.heap.size (fun _ => True) (.slice (some ⟨go24, 0, none⟩) x45_5.length co24) y137 := (by rw [hw, Ny137.out, ← HADR.out]; exact HP54.1); clear HP54; have n0_ := Aside0.mk (hp_); have n1_ := Aside0.mk (IsP.grown (by repeat (first | (with_reducible first | exact HI0.out | apply IsP.alloc | apply IsP.drewN | apply IsP.drew) | exact HI0.out)) hg (IsP.own_ne HI0.out HO_45.out (by decide))); have n2_ := Aside0.mk ((by rw [hw]; exact below_set (HB.out) (Nat.le_trans HL.out GB24.out) : Below w0.heap.size w0 w55)); have n3_ := Aside0.mk (KeepBut.trans (by repeat (first | (with_reducible first | exact HK.out | apply KeepBut.set_ | apply keep_drewN | apply keep_drew | apply keep_alloc) | exact HK.out)) (KeepBut.of_grown hg g) (Kd.R_base2 HO_45.out)); clear HO_45; clear HI0; clear HB; clear HK; have HO_45 := n0_; have HI0 := n1_; have HB := n2_; have HK := n3_; clear n0_ n1_ n2_ n3_; clear hg hw hp_))
                                (try simp only [← hl45_5])
                                go_roundg k5
                                case measure => have := HK1.out; have := HJ24.out; have := HJ29.out; have := HJ41.out; have := HK5.out; omega
                                case rel => exact ⟨(y137), (wrap64 (x122_5 + 1)), (by first | rfl | (simp; done) | (simp [*]; done)), hx1_, H', ⟨by have := HK1.out; have := HJ24.out; have := HJ29.out; have := HJ41.out; have := HK5.out; omega⟩, ⟨by (try simp only [hl45_24]); (try simp only [hl45_5]); (with_reducible repeat (first | apply Kd.R_alloc | apply Kd.R_drewN | apply Kd.R_drew)); exact HO_45.out⟩, ⟨by (try simp only [hl45_24]); (try simp only [hl45_5]); repeat (first | (with_reducible first | exact HI0.out | apply IsP.alloc | apply IsP.drewN | apply IsP.drew) | exact HI0.out)⟩, ⟨by repeat (first | (with_reducible first | exact HK.out | apply KeepBut.set_ | apply keep_drewN | apply keep_drew | apply keep_alloc) | exact HK.out)⟩, ⟨by repeat (first | (with_reducible first | exact HB.out | apply below_alloc | apply pw_below_drewN | apply below_drew1 | refine below_set ?_ (IsP.ge HI0.out)) | exact HB.out)⟩⟩
                               ·rw [if_neg c52] at H
                                exact absurd H (by simp)
                              ·rw [if_neg c51] at H
                               exact absurd H (by simp)
                             ·rw [if_neg c49] at H
                              have c49b0 : decide (x122_5 < (wrap64 ((wrap64 ((wrap64 (x12_1 + x16_41)) + 1)) - (ji44)))) = false := decide_eq_false c49
                              rw [hLEN.out] at c49b0
                              clear c49
                              have H' := Aside0.mk H
                              clear H
                              go_wp2
                              repeat (go_quiet (fail); try go_wp2)
                              (try simp only [← hl45_24, ← hl45_5])
                              go_roundg k5
                              case measure => have := HK1.out; have := HJ24.out; have := HJ29.out; have := HJ41.out; have := HK5.out; omega
                              case rel => exact ⟨(wrap64 (x8_1 + (wrap64 (x14_24 + (wrap64 (x16_41 * x14_24)))))), (wrap64 (x9_1 + (wrap64 (x15_29 + (wrap64 (x16_41 * x15_29)))))), ((wrap64 ((ji39) + 1))), (wrap64 ((wrap64 (x12_1 + x16_41)) + 1)), (x45_5), (by first | rfl | (simp; done) | (simp [*]; done)), (by first | rfl | (simp; done) | (simp [*]; done)), (by first | rfl | (simp; done) | (simp only [← hji39] <;> (first | rfl | simp)) | (simp [*]; done)), (by first | rfl | (simp; done) | (simp [*]; done)), H', ⟨by have := HK1.out; have := HJ24.out; have := HJ29.out; have := HJ41.out; have := HK5.out; omega⟩, ⟨by (try simp only [hl45_24]); (try simp only [hl45_5]); (with_reducible repeat (first | apply Kd.R_alloc | apply Kd.R_drewN | apply Kd.R_drew)); exact HO_45.out⟩, ⟨by (try simp only [hl45_24]); (try simp only [hl45_5]); repeat (first | (with_reducible first | exact HI0.out | apply IsP.alloc | apply IsP.drewN | apply IsP.drew) | exact HI0.out)⟩, ⟨by repeat (first | (with_reducible first | exact HK.out | apply KeepBut.set_ | apply keep_drewN | apply keep_drew | apply keep_alloc) | exact HK.out)⟩, ⟨by repeat (first | (with_reducible first | exact HB.out | apply below_alloc | apply pw_below_drewN | apply below_drew1 | refine below_set ?_ (IsP.ge HI0.out)) | exact HB.out)⟩⟩
                          ·rw [if_neg c47] at H
                           exact absurd H (by simp)
                         ·rw [if_neg c46] at H
                          exact absurd H (by simp)
                        ·rw [if_neg c45] at H
                         exact absurd H (by simp)
                     ·rw [if_neg c41] at H
                      exact absurd H (by simp)
                    ·rw [if_neg c40] at H
                     exact absurd H (by simp)
             ·rw [if_neg c23] at H
              exact absurd H (by simp)
            ·rw [if_neg c22] at H
             exact absurd H (by simp)
           ·rw [if_neg c21] at H
            exact absurd H (by simp)
          ·rw [if_neg c20] at H
           exact absurd H (by simp)
        ·rw [if_neg c14] at H
         have c14b0 : decide (x12_1 < ji8) = false := decide_eq_false c14
         clear c14
         by_cases c56 : 0 ≤ x10_1
         ·rw [if_pos c56] at H
          have c56b0 := eq_true c56
          have c56b1 : decide (0 ≤ x10_1) = true := decide_eq_true c56
          clear c56
          by_cases c57 : x10_1 ≤ (l1.length : Int)
          ·rw [if_pos c57] at H
           have c57b0 := eq_true c57
           have c57b1 : decide (x10_1 ≤ (l1.length : Int)) = true := decide_eq_true c57
           clear c57
           by_cases c58 : ((l1.drop (x10_1 : Int).toNat).length : Int) < (wrap64 (x8_1 + x9_1))
           ·rw [if_pos c58] at H
            have c58b0 : decide (((l1.drop (x10_1 : Int).toNat).length : Int) < (wrap64 (x8_1 + x9_1))) = true := decide_eq_true c58
            clear c58
            replace H := Option.bind_eq_some_iff.mp H
            obtain ⟨t139, A590, H⟩ := H
            replace H : (some (t139, x45_1)) = some (r1, r2) := H
            have A59 := Aside0.mk A590
            clear A590
            simp only [Option.some.injEq, Prod.mk.injEq] at H
            obtain ⟨rfl, rfl⟩ := H
            obtain ⟨i060, hi060, _, hsz60, _⟩ := info_parts info5
            obtain ⟨A60, hcut60, hA60, hC60⟩ := print_drop_of (P := Try.prog) (Value.int .u8) 0 22 5 .i64 Try.underlying22 hi060 hsz60 A1 c1 l1 x10_1 (of_decide_eq_true (by first | (with_reducible assumption) | assumption)) (of_decide_eq_true (by first | (with_reducible assumption) | assumption)) HC1.out
            have HR138 := Aside0.mk (Kd.C_of_reads (h1 := fun _ => rfl) (hA60 _ (Kd.reads_of_C HR1.out)))
            have HC138 := Aside0.mk hC60
            have hf138 : ∀ ad : Addr, A60 = some ad → 0 < (l1.drop (x10_1 : Int).toNat).length → ad.block ≠ g := fun ad he h_ => by cases he; exact Kd.foot_ne (fun W_ hk_ => Kd.C_of_reads (h1 := fun _ => rfl) (hA60 _ (Kd.reads_of_C (Kd.C_foot_ne (fun h => h) HR1.out hf1 W_ hk_)))) h_ (by decide)
            clear hA60 hC60 hi060 hsz60
            generalize (l1.drop (x10_1 : Int).toNat) = l1d at *
            go_wp2_with (first | (go_at_call 56; (with_reducible refine (errors_New.calls (⟨#[69, 79, 70, 58, 32, 101, 120, 112, 101, 99, 116, 101, 100, 32, 108, 101, 110, 103, 116, 104, 58, 32, 37, 100, 44, 32, 103, 111, 116, 32, 37, 100]⟩ : ByteArray) t139 _ A59.out).mono ?_); rintro e w63 ⟨ev61, rfl, he62, hb⟩; have n0_ := Aside0.mk (Kd.R_below (by (with_reducible repeat (first | apply Kd.R_alloc | apply Kd.R_drewN | apply Kd.R_drew)); exact HO_45.out) hb); have n1_ := Aside0.mk (IsP.below (by repeat (first | (with_reducible first | exact HI0.out | apply IsP.alloc | apply IsP.drewN | apply IsP.drew) | exact HI0.out)) hb); have n2_ := Aside0.mk (KeepBut.trans (by repeat (first | (with_reducible first | exact HK.out | apply KeepBut.set_ | apply keep_drewN | apply keep_drew | apply keep_alloc) | exact HK.out)) (KeepBut.of_below hb g none) (.inl rfl)); have n3_ := Aside0.mk (below_step (by repeat (first | (with_reducible first | exact HB.out | apply below_alloc | apply pw_below_drewN | apply below_drew1 | refine below_set ?_ (IsP.ge HI0.out)) | exact HB.out)) hb); clear HO_45; clear HI0; clear HK; clear HB; have HO_45 := n0_; have HI0 := n1_; have HK := n2_; have HB := n3_; clear n0_ n1_ n2_ n3_; (try clear hb); (try clear hb2); (try clear hk); (try clear hi); (first | (obtain rfl := EV_none he62) | (obtain ⟨te_, pe_, rfl⟩ := EV_some he62) | skip)))
            repeat (go_quiet (first | (go_at_call 56; (with_reducible refine (errors_New.calls (⟨#[69, 79, 70, 58, 32, 101, 120, 112, 101, 99, 116, 101, 100, 32, 108, 101, 110, 103, 116, 104, 58, 32, 37, 100, 44, 32, 103, 111, 116, 32, 37, 100]⟩ : ByteArray) t139 _ A59.out).mono ?_); rintro e w63 ⟨ev61, rfl, he62, hb⟩; have n0_ := Aside0.mk (Kd.R_below (by (with_reducible repeat (first | apply Kd.R_alloc | apply Kd.R_drewN | apply Kd.R_drew)); exact HO_45.out) hb); have n1_ := Aside0.mk (IsP.below (by repeat (first | (with_reducible first | exact HI0.out | apply IsP.alloc | apply IsP.drewN | apply IsP.drew) | exact HI0.out)) hb); have n2_ := Aside0.mk (KeepBut.trans (by repeat (first | (with_reducible first | exact HK.out | apply KeepBut.set_ | apply keep_drewN | apply keep_drew | apply keep_alloc) | exact HK.out)) (KeepBut.of_below hb g none) (.inl rfl)); have n3_ := Aside0.mk (below_step (by repeat (first | (with_reducible first | exact HB.out | apply below_alloc | apply pw_below_drewN | apply below_drew1 | refine below_set ?_ (IsP.ge HI0.out)) | exact HB.out)) hb); clear HO_45; clear HI0; clear HK; clear HB; have HO_45 := n0_; have HI0 := n1_; have HK := n2_; have HB := n3_; clear n0_ n1_ n2_ n3_; (try clear hb); (try clear hb2); (try clear hk); (try clear hi); (first | (obtain rfl := EV_none he62) | (obtain ⟨te_, pe_, rfl⟩ := EV_some he62) | skip))); try go_wp2_with (first | (go_at_call 56; (with_reducible refine (errors_New.calls (⟨#[69, 79, 70, 58, 32, 101, 120, 112, 101, 99, 116, 101, 100, 32, 108, 101, 110, 103, 116, 104, 58, 32, 37, 100, 44, 32, 103, 111, 116, 32, 37, 100]⟩ : ByteArray) t139 _ A59.out).mono ?_); rintro e w63 ⟨ev61, rfl, he62, hb⟩; have n0_ := Aside0.mk (Kd.R_below (by (with_reducible repeat (first | apply Kd.R_alloc | apply Kd.R_drewN | apply Kd.R_drew)); exact HO_45.out) hb); have n1_ := Aside0.mk (IsP.below (by repeat (first | (with_reducible first | exact HI0.out | apply IsP.alloc | apply IsP.drewN | apply IsP.drew) | exact HI0.out)) hb); have n2_ := Aside0.mk (KeepBut.trans (by repeat (first | (with_reducible first | exact HK.out | apply KeepBut.set_ | apply keep_drewN | apply keep_drew | apply keep_alloc) | exact HK.out)) (KeepBut.of_below hb g none) (.inl rfl)); have n3_ := Aside0.mk (below_step (by repeat (first | (with_reducible first | exact HB.out | apply below_alloc | apply pw_below_drewN | apply below_drew1 | refine below_set ?_ (IsP.ge HI0.out)) | exact HB.out)) hb); clear HO_45; clear HI0; clear HK; clear HB; have HO_45 := n0_; have HI0 := n1_; have HK := n2_; have HB := n3_; clear n0_ n1_ n2_ n3_; (try clear hb); (try clear hb2); (try clear hk); (try clear hi); (first | (obtain rfl := EV_none he62) | (obtain ⟨te_, pe_, rfl⟩ := EV_some he62) | skip))))
            go_ret
            exact ⟨_, _, by first | rfl | (simp [errW_none, errW_some] <;> rfl) | (simp only [← hji5, ← hji8]; first | rfl | (simp [errW_none, errW_some] <;> rfl)) | (simp [*, errW_none, errW_some] <;> rfl), by (with_reducible repeat (first | apply Kd.R_alloc | apply Kd.R_drewN | apply Kd.R_drew)); exact HO_45.out, (by first | assumption | exact rfl | exact ⟨_, _, rfl⟩), by repeat (first | (with_reducible first | exact HI0.out | apply IsP.alloc | apply IsP.drewN | apply IsP.drew) | exact HI0.out), by repeat (first | (with_reducible first | exact HB.out | apply below_alloc | apply pw_below_drewN | apply below_drew1 | refine below_set ?_ (IsP.ge HI0.out)) | exact HB.out), by repeat (first | (with_reducible first | exact HK.out | apply KeepBut.set_ | apply keep_drewN | apply keep_drew | apply keep_alloc) | exact HK.out)⟩
           ·rw [if_neg c58] at H
            have c58b0 : decide (((l1.drop (x10_1 : Int).toNat).length : Int) < (wrap64 (x8_1 + x9_1))) = false := decide_eq_false c58
            clear c58
            by_cases c64 : 0 ≤ x8_1
            ·rw [if_pos c64] at H
             have c64b0 := eq_true c64
             have c64b1 : decide (0 ≤ x8_1) = true := decide_eq_true c64
             clear c64
             by_cases c65 : x8_1 ≤ ((l1.drop (x10_1 : Int).toNat).length : Int)
             ·rw [if_pos c65] at H
              have c65b0 := eq_true c65
              have c65b1 : decide (x8_1 ≤ ((l1.drop (x10_1 : Int).toNat).length : Int)) = true := decide_eq_true c65
              clear c65
              have c66b0 := eq_true (of_decide_eq_true (by first | (with_reducible assumption) | assumption) : 0 ≤ x8_1)
              by_cases c67 : x8_1 ≤ (wrap64 (x8_1 + x9_1))
              ·rw [if_pos c67] at H
               have c67b0 := eq_true c67
               have c67b1 : decide (x8_1 ≤ (wrap64 (x8_1 + x9_1))) = true := decide_eq_true c67
               by_cases c68 : (wrap64 (x8_1 + x9_1)) ≤ ((l1.drop (x10_1 : Int).toNat).length : Int)
               ·rw [if_pos c68] at H
                have c68b0 := eq_true c68
                have c68b1 : decide ((wrap64 (x8_1 + x9_1)) ≤ ((l1.drop (x10_1 : Int).toNat).length : Int)) = true := decide_eq_true c68
                replace H := Option.bind_eq_some_iff.mp H
                obtain ⟨t142, A690, H⟩ := H
                replace H : (some (none, t142)) = some (r1, r2) := H
                have A69 := Aside0.mk A690
                clear A690
                simp only [Option.some.injEq, Prod.mk.injEq] at H
                obtain ⟨rfl, rfl⟩ := H
                obtain ⟨i070, hi070, _, hsz70, _⟩ := info_parts info5
                obtain ⟨A70, hcut70, hA70, hC70⟩ := print_drop_of (P := Try.prog) (Value.int .u8) 0 22 5 .i64 Try.underlying22 hi070 hsz70 A1 c1 l1 x10_1 (of_decide_eq_true (by first | (with_reducible assumption) | assumption)) (of_decide_eq_true (by first | (with_reducible assumption) | assumption)) HC1.out
                have HR138 := Aside0.mk (Kd.C_of_reads (h1 := fun _ => rfl) (hA70 _ (Kd.reads_of_C HR1.out)))
                have HC138 := Aside0.mk hC70
                have hf138 : ∀ ad : Addr, A70 = some ad → 0 < (l1.drop (x10_1 : Int).toNat).length → ad.block ≠ g := fun ad he h_ => by cases he; exact Kd.foot_ne (fun W_ hk_ => Kd.C_of_reads (h1 := fun _ => rfl) (hA70 _ (Kd.reads_of_C (Kd.C_foot_ne (fun h => h) HR1.out hf1 W_ hk_)))) h_ (by decide)
                clear hA70 hC70 hi070 hsz70
                generalize (l1.drop (x10_1 : Int).toNat) = l1d at *
                obtain ⟨i071, hi071, _, hsz71, _⟩ := info_parts info5
                obtain ⟨hcut71, hA71, hC71⟩ := print_take_of (P := Try.prog) (Value.int .u8) 0 22 5 .i64 Try.underlying22 hi071 hsz71 A70 (c1 - x10_1.toNat) l1d x8_1 (of_decide_eq_true (by first | (with_reducible assumption) | assumption)) (of_decide_eq_true (by first | (with_reducible assumption) | assumption)) HC138.out
                have HR140 := Aside0.mk (Kd.C_of_reads (h1 := fun _ => rfl) (hA71 _ (Kd.reads_of_C HR138.out)))
                have HC140 := Aside0.mk hC71
                have hf140 : ∀ ad : Addr, A70 = some ad → 0 < (l1d.take (x8_1 : Int).toNat).length → ad.block ≠ g := fun ad he h_ => by cases he; exact Kd.foot_ne (fun W_ hk_ => Kd.C_of_reads (h1 := fun _ => rfl) (hA71 _ (Kd.reads_of_C (Kd.C_foot_ne (fun h => h) HR138.out hf138 W_ hk_)))) h_ (by decide)
                clear hA71 hC71 hi071 hsz71
                obtain ⟨i072, hi072, _, hsz72, _⟩ := info_parts info5
                obtain ⟨A72, hcut72, hA72, hC72⟩ := print_mid_of (P := Try.prog) (Value.int .u8) 0 22 5 .i64 .i64 Try.underlying22 hi072 hsz72 A70 (c1 - x10_1.toNat) l1d x8_1 (wrap64 (x8_1 + x9_1)) (of_decide_eq_true (by first | (with_reducible assumption) | assumption)) (by first | omega | exact of_decide_eq_true (by first | (with_reducible assumption) | assumption)) (of_decide_eq_true (by first | (with_reducible assumption) | assumption)) HC138.out
                have HR141 := Aside0.mk (Kd.C_of_reads (h1 := fun _ => rfl) (hA72 _ (Kd.reads_of_C HR138.out)))
                have HC141 := Aside0.mk hC72
                have hf141 : ∀ ad : Addr, A72 = some ad → 0 < ((l1d.take ((wrap64 (x8_1 + x9_1)) : Int).toNat).drop (x8_1 : Int).toNat).length → ad.block ≠ g := fun ad he h_ => by cases he; exact Kd.foot_ne (fun W_ hk_ => Kd.C_of_reads (h1 := fun _ => rfl) (hA72 _ (Kd.reads_of_C (Kd.C_foot_ne (fun h => h) HR138.out hf138 W_ hk_)))) h_ (by decide)
                clear hA72 hC72 hi072 hsz72
                generalize (l1d.take (x8_1 : Int).toNat) = l1x at *
                generalize ((l1d.take ((wrap64 (x8_1 + x9_1)) : Int).toNat).drop (x8_1 : Int).toNat) = l1y at *
                obtain ⟨Ao73, co73, eo73⟩ := Kd.R_slice HO_45.out
                subst eo73
                have hcg_ := IsP.cl2 HI0.out
                go_wp2_with (first | (go_at_call 94; (with_reducible refine (tables_parseGlyphContourPoints.calls k1 _ _ l1x _ _ l1y (fun k_ => some k_ = (.slice Ao73 x45_1.length co73 : Value).ownBlock) (.slice Ao73 x45_1.length co73) x45_1 t142 w0 _ ?side1 ?side2 ?side3 ?side4 ?side5 ?side6 A69.out).mono ?_); (case side1 => repeat (first | (with_reducible first | exact HB.out | apply below_alloc | apply pw_below_drewN | apply below_drew1 | refine below_set ?_ (IsP.ge HI0.out)) | exact HB.out)); (case side2 => exact fun W_ hk_ => Kd.C_foot_ne (fun h_ => h_) HR140.out hf140 W_ (Kept.keep (by repeat (first | (with_reducible first | exact HK.out | apply KeepBut.set_ | apply keep_drewN | apply keep_drew | apply keep_alloc) | exact HK.out)) hk_ (fun k_ hs_ => (fun e_ => Kd.R_base HO_45.out k_ e_.symm) hs_))); (case side3 => exact HC140.out); (case side4 => exact fun W_ hk_ => Kd.C_foot_ne (fun h_ => h_) HR141.out hf141 W_ (Kept.keep (by repeat (first | (with_reducible first | exact HK.out | apply KeepBut.set_ | apply keep_drewN | apply keep_drew | apply keep_alloc) | exact HK.out)) hk_ (fun k_ hs_ => (fun e_ => Kd.R_base HO_45.out k_ e_.symm) hs_))); (case side5 => exact HC141.out); (case side6 => exact Kd.R_lower (Kd.R_tight rfl HO_45.out) HL.out); rintro e w74 ⟨rfl, hy0, hb, hkp⟩; have n0_ := Aside0.mk (Kd.R_reok rfl (Kd.R_raise (d := k123) (b := w0.heap.size) (b' := w.heap.size) (fun _ _ _ _ h_ => h_) hy0 (fun k_ e_ => Or.elim (hy0.1 k_ e_) (fun hs_ => (fun e_ => Kd.R_base HO_45.out k_ e_.symm) hs_) (fun hn_ => Nat.le_trans (keep_size (w := w) (g := g) (row := none) (by repeat (first | (with_reducible first | exact HK.out | apply KeepBut.set_ | apply keep_drewN | apply keep_drew | apply keep_alloc) | exact HK.out))) hn_))) (fun k_ e_ => HO_45.out.1 k_ e_)); have n1_ := Aside0.mk (IsP.kept (by repeat (first | (with_reducible first | exact HI0.out | apply IsP.alloc | apply IsP.drewN | apply IsP.drew) | exact HI0.out)) hkp (fun hs_ => (fun e_ => (IsP.own_ne HI0.out HO_45.out (by decide)) e_) hs_)); have n2_ := Aside0.mk (Kept.keepG (by repeat (first | (with_reducible first | exact HK.out | apply KeepBut.set_ | apply keep_drewN | apply keep_drew | apply keep_alloc) | exact HK.out)) hkp (fun k_ hs_ => (fun e_ => .inr (Kd.R_base HO_45.out k_ e_.symm)) hs_)); have n3_ := Aside0.mk (hb); clear HO_45; clear HI0; clear HK; clear HB; have HO_45 := n0_; have HI0 := n1_; have HK := n2_; have HB := n3_; clear n0_ n1_ n2_ n3_; (try clear hb); (try clear hkp); (try clear hy0)))
                repeat (go_quiet (first | (go_at_call 94; (with_reducible refine (tables_parseGlyphContourPoints.calls k1 _ _ l1x _ _ l1y (fun k_ => some k_ = (.slice Ao73 x45_1.length co73 : Value).ownBlock) (.slice Ao73 x45_1.length co73) x45_1 t142 w0 _ ?side1 ?side2 ?side3 ?side4 ?side5 ?side6 A69.out).mono ?_); (case side1 => repeat (first | (with_reducible first | exact HB.out | apply below_alloc | apply pw_below_drewN | apply below_drew1 | refine below_set ?_ (IsP.ge HI0.out)) | exact HB.out)); (case side2 => exact fun W_ hk_ => Kd.C_foot_ne (fun h_ => h_) HR140.out hf140 W_ (Kept.keep (by repeat (first | (with_reducible first | exact HK.out | apply KeepBut.set_ | apply keep_drewN | apply keep_drew | apply keep_alloc) | exact HK.out)) hk_ (fun k_ hs_ => (fun e_ => Kd.R_base HO_45.out k_ e_.symm) hs_))); (case side3 => exact HC140.out); (case side4 => exact fun W_ hk_ => Kd.C_foot_ne (fun h_ => h_) HR141.out hf141 W_ (Kept.keep (by repeat (first | (with_reducible first | exact HK.out | apply KeepBut.set_ | apply keep_drewN | apply keep_drew | apply keep_alloc) | exact HK.out)) hk_ (fun k_ hs_ => (fun e_ => Kd.R_base HO_45.out k_ e_.symm) hs_))); (case side5 => exact HC141.out); (case side6 => exact Kd.R_lower (Kd.R_tight rfl HO_45.out) HL.out); rintro e w74 ⟨rfl, hy0, hb, hkp⟩; have n0_ := Aside0.mk (Kd.R_reok rfl (Kd.R_raise (d := k123) (b := w0.heap.size) (b' := w.heap.size) (fun _ _ _ _ h_ => h_) hy0 (fun k_ e_ => Or.elim (hy0.1 k_ e_) (fun hs_ => (fun e_ => Kd.R_base HO_45.out k_ e_.symm) hs_) (fun hn_ => Nat.le_trans (keep_size (w := w) (g := g) (row := none) (by repeat (first | (with_reducible first | exact HK.out | apply KeepBut.set_ | apply keep_drewN | apply keep_drew | apply keep_alloc) | exact HK.out))) hn_))) (fun k_ e_ => HO_45.out.1 k_ e_)); have n1_ := Aside0.mk (IsP.kept (by repeat (first | (with_reducible first | exact HI0.out | apply IsP.alloc | apply IsP.drewN | apply IsP.drew) | exact HI0.out)) hkp (fun hs_ => (fun e_ => (IsP.own_ne HI0.out HO_45.out (by decide)) e_) hs_)); have n2_ := Aside0.mk (Kept.keepG (by repeat (first | (with_reducible first | exact HK.out | apply KeepBut.set_ | apply keep_drewN | apply keep_drew | apply keep_alloc) | exact HK.out)) hkp (fun k_ hs_ => (fun e_ => .inr (Kd.R_base HO_45.out k_ e_.symm)) hs_)); have n3_ := Aside0.mk (hb); clear HO_45; clear HI0; clear HK; clear HB; have HO_45 := n0_; have HI0 := n1_; have HK := n2_; have HB := n3_; clear n0_ n1_ n2_ n3_; (try clear hb); (try clear hkp); (try clear hy0))); try go_wp2_with (first | (go_at_call 94; (with_reducible refine (tables_parseGlyphContourPoints.calls k1 _ _ l1x _ _ l1y (fun k_ => some k_ = (.slice Ao73 x45_1.length co73 : Value).ownBlock) (.slice Ao73 x45_1.length co73) x45_1 t142 w0 _ ?side1 ?side2 ?side3 ?side4 ?side5 ?side6 A69.out).mono ?_); (case side1 => repeat (first | (with_reducible first | exact HB.out | apply below_alloc | apply pw_below_drewN | apply below_drew1 | refine below_set ?_ (IsP.ge HI0.out)) | exact HB.out)); (case side2 => exact fun W_ hk_ => Kd.C_foot_ne (fun h_ => h_) HR140.out hf140 W_ (Kept.keep (by repeat (first | (with_reducible first | exact HK.out | apply KeepBut.set_ | apply keep_drewN | apply keep_drew | apply keep_alloc) | exact HK.out)) hk_ (fun k_ hs_ => (fun e_ => Kd.R_base HO_45.out k_ e_.symm) hs_))); (case side3 => exact HC140.out); (case side4 => exact fun W_ hk_ => Kd.C_foot_ne (fun h_ => h_) HR141.out hf141 W_ (Kept.keep (by repeat (first | (with_reducible first | exact HK.out | apply KeepBut.set_ | apply keep_drewN | apply keep_drew | apply keep_alloc) | exact HK.out)) hk_ (fun k_ hs_ => (fun e_ => Kd.R_base HO_45.out k_ e_.symm) hs_))); (case side5 => exact HC141.out); (case side6 => exact Kd.R_lower (Kd.R_tight rfl HO_45.out) HL.out); rintro e w74 ⟨rfl, hy0, hb, hkp⟩; have n0_ := Aside0.mk (Kd.R_reok rfl (Kd.R_raise (d := k123) (b := w0.heap.size) (b' := w.heap.size) (fun _ _ _ _ h_ => h_) hy0 (fun k_ e_ => Or.elim (hy0.1 k_ e_) (fun hs_ => (fun e_ => Kd.R_base HO_45.out k_ e_.symm) hs_) (fun hn_ => Nat.le_trans (keep_size (w := w) (g := g) (row := none) (by repeat (first | (with_reducible first | exact HK.out | apply KeepBut.set_ | apply keep_drewN | apply keep_drew | apply keep_alloc) | exact HK.out))) hn_))) (fun k_ e_ => HO_45.out.1 k_ e_)); have n1_ := Aside0.mk (IsP.kept (by repeat (first | (with_reducible first | exact HI0.out | apply IsP.alloc | apply IsP.drewN | apply IsP.drew) | exact HI0.out)) hkp (fun hs_ => (fun e_ => (IsP.own_ne HI0.out HO_45.out (by decide)) e_) hs_)); have n2_ := Aside0.mk (Kept.keepG (by repeat (first | (with_reducible first | exact HK.out | apply KeepBut.set_ | apply keep_drewN | apply keep_drew | apply keep_alloc) | exact HK.out)) hkp (fun k_ hs_ => (fun e_ => .inr (Kd.R_base HO_45.out k_ e_.symm)) hs_)); have n3_ := Aside0.mk (hb); clear HO_45; clear HI0; clear HK; clear HB; have HO_45 := n0_; have HI0 := n1_; have HK := n2_; have HB := n3_; clear n0_ n1_ n2_ n3_; (try clear hb); (try clear hkp); (try clear hy0))))
                go_ret
                exact ⟨_, _, by first | rfl | (simp [errW_none, errW_some] <;> rfl) | (simp only [← hji5, ← hji8]; first | rfl | (simp [errW_none, errW_some] <;> rfl)) | (simp [*, errW_none, errW_some] <;> rfl), by (with_reducible repeat (first | apply Kd.R_alloc | apply Kd.R_drewN | apply Kd.R_drew)); exact HO_45.out, (by first | assumption | exact rfl | exact ⟨_, _, rfl⟩), by repeat (first | (with_reducible first | exact HI0.out | apply IsP.alloc | apply IsP.drewN | apply IsP.drew) | exact HI0.out), by repeat (first | (with_reducible first | exact HB.out | apply below_alloc | apply pw_below_drewN | apply below_drew1 | refine below_set ?_ (IsP.ge HI0.out)) | exact HB.out), by repeat (first | (with_reducible first | exact HK.out | apply KeepBut.set_ | apply keep_drewN | apply keep_drew | apply keep_alloc) | exact HK.out)⟩
               ·rw [if_neg c68] at H
                exact absurd H (by simp)
              ·rw [if_neg c67] at H
               exact absurd H (by simp)
             ·rw [if_neg c65] at H
              exact absurd H (by simp)
            ·rw [if_neg c64] at H
             exact absurd H (by simp)
          ·rw [if_neg c57] at H
           exact absurd H (by simp)
         ·rw [if_neg c56] at H
          exact absurd H (by simp)
     ·rw [if_neg c10] at H
      exact absurd H (by simp)
    ·rw [if_neg c9] at H
     exact absurd H (by simp)
   ·rw [if_neg c7] at H
    exact absurd H (by simp)
  ·rw [if_neg c6] at H
   exact absurd H (by simp)

theorem set_back2 {w : World} {g : Nat} {t : TypeId} {v x y : Value} (h : w.heap[g]? = some (.cells #[x, y, v] t (0, 0))) (u : Value) : (w.setCell ⟨g, 2, none⟩ u).setCell ⟨g, 2, none⟩ v = w := by
 have hx : ((w.setCell ⟨g, 2, none⟩ u).setCell ⟨g, 2, none⟩ v).heap = w.heap := by
  refine Array.ext_getElem? (fun i => ?_)
  by_cases e : i = g
  · subst e
    rw [h]
    exact blk_put (blk_put h 2 u rfl) 2 v rfl
  · exact (Below.heap_setCell _ ⟨g, 2, none⟩ v i e).trans (Below.heap_setCell _ ⟨g, 2, none⟩ u i e)
 calc _ = { w with heap := ((w.setCell ⟨g, 2, none⟩ u).setCell ⟨g, 2, none⟩ v).heap } := rfl
  _ = w := by rw [hx]
def tables_parsePts.f (k : Nat) (l0 : List Int) (l1 : List Int) (a2 : Int) : Option (Option Int × (List (S123))) := tables_SimpleGlyph_parsePoints.f k l0 () [] l1 a2
theorem tables_parsePts.mono : ∀ a0 a1 a2 k, LeO (tables_parsePts.f k a0 a1 a2) (tables_parsePts.f (k + 1) a0 a1 a2) := fun _ _ _ _ => tables_SimpleGlyph_parsePoints.mono _ _ _ _ _ _
theorem tables_parsePts.calls (k : Nat) (A0 : Option Addr) (c0 : Nat) (l0 : List Int) (A1 : Option Addr) (c1 : Nat) (l1 : List Int) (a2 : Int) (r1 : Option Int) (r2 : List (S123)) (w : World) (g : Nat) (e1_ : Value) (hg : w.heap[g]? = some (.cells #[.slice A0 l0.length c0, e1_, .slice none 0 0] 120 (0, 0))) (hr0 : Kd.C (Kd.int .u16) w A0 l0.length l0) (hc0 : l0.length ≤ c0) (hr1 : Kd.C (Kd.int .u8) w A1 l1.length l1) (hc1 : l1.length ≤ c1) (hf1 : ∀ ad, A1 = some ad → 0 < l1.length → ad.block ≠ g) (h : tables_parsePts.f k l0 l1 a2 = some (r1, r2)) :
  Calls Try.prog 86 #[.pointer (some ⟨g, 0, none⟩), .slice A1 l1.length c1, .int .i64 a2] w fun e w' => ∃ (v1_ e0_ : Value) (w1 : World), e = .returned (e0_) ∧ w' = w1.setCell ⟨g, 2, none⟩ v1_ ∧ Kd.R k123 123 w1 w.heap.size (fun _ => True) v1_ r2 ∧ EV e0_ r1 ∧ Below w.heap.size w w1 := by
 have hB0 : Below ({ w with heap := #[] } : World).heap.size { w with heap := #[] } w := ⟨rfl, rfl, rfl, Nat.zero_le _, fun i hi => absurd hi (Nat.not_lt_zero i)⟩
 refine (tables_SimpleGlyph_parsePoints.calls k g l0 () [] A0 c0 e1_ (.slice none 0 0) A1 c1 l1 a2 r1 r2 { w with heap := #[] } w ⟨hg, Nat.zero_le _⟩ hr0 hB0 hr1 hc1 hf1 h).mono ?_
 rintro e w' ⟨v1_, e0_, rfl, ho, he, hp, hb, hk⟩
 refine ⟨v1_, e0_, w'.setCell ⟨g, 2, none⟩ (.slice none 0 0), rfl, (set_back2 hp.1 _).symm, Kd.R_mono (Kd.R_far (p := ⟨g, 2, none⟩) (Kd.R_types ho hp.1 (by decide)) (fun _ hk => hk.2) _) (fun _ _ => trivial), he, ?_⟩
 refine ⟨hb.os, hb.tape, hb.output, by simpa [World.setCell] using hk.1, fun i hi => ?_⟩
 by_cases e : i = g
 · subst e
   rw [hg]
   exact blk_put hp.1 2 _ rfl
 · exact (Below.heap_setCell w' ⟨g, 2, none⟩ _ i e).trans (hk.2 i hi e (by simp))

end Go.Proofs.Ytchkmmbedgolbaa.PFnGlyphSpots
