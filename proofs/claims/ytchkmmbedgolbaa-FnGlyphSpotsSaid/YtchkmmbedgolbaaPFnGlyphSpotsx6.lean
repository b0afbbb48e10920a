-- Written by a program of this session (xprint) out of the translation; Lean checks it.
import Derived.Test.YtchkmmbedgolbaaPFnGlyphSpotsx0
import Derived.Test.YtchkmmbedgolbaaPFnGlyphSpotsx2
import Derived.Test.YtchkmmbedgolbaaPFnGlyphSpotsx5
namespace Go.Proofs.Ytchkmmbedgolbaa.PFnGlyphSpots
open Go.RowKit Go.Proofs.YtchkmmbedgolbaaW.PrintWords Go.Proofs.YtchkmmbedgolbaaW.PrintLast Go.Proofs.YtchkmmbedgolbaaW.PrintMore
attribute [local go_sem] max2_int min2_int max_two min_two max_three min_three max_four min_four   -- for this text's walks alone
set_option linter.unusedVariables false
set_option linter.unusedSimpArgs false

/-! ### tables_Glyph_parseData: function 58 -/
def tables_Glyph_parseData.f (k : Nat) (a0 : Int) (l1 : List Int) : Option (Option Int × List Int × Unit × List (S123)) := if 0 ≤ a0 then (tables_ParseSimpleGlyph.f k l1 (wrap64 a0)).bind fun t => some (t.2.2.2.2, t.1, (), t.2.2.1) else none
theorem tables_Glyph_parseData.mono : ∀ a0 a1 k, LeO (tables_Glyph_parseData.f k a0 a1) (tables_Glyph_parseData.f (k + 1) a0 a1) := by
  intro a0 a1 k
  unfold tables_Glyph_parseData.f
  exact LeO.ite (LeO.bind (tables_ParseSimpleGlyph.mono _ _ _) (fun _ => LeO.refl _)) (LeO.none _)
set_option maxHeartbeats 800000 in
theorem tables_Glyph_parseData.calls (k : Nat) (a0 : Int) (A1 : Option Addr) (c1 : Nat) (l1 : List Int) (r1 : Option Int) (r2 : List Int) (r3 : Unit) (r4 : List (S123)) (w : World) (g : Nat) (x1 x2 x3 x4 u5 : Value) (hg : w.heap[g]? = some (.cells #[.int .i16 a0, x1, x2, x3, x4, u5] 113 (0, 0))) (hr1 : Kd.C (Kd.int .u8) w A1 l1.length l1) (hc1 : l1.length ≤ c1) (h : tables_Glyph_parseData.f k a0 l1 = some (r1, r2, r3, r4)) :
    Calls Try.prog 58 #[.pointer (some ⟨g, 0, none⟩), .slice A1 l1.length c1] w fun e w' => ∃ (v0_ : Value) (A1_ : Option Addr) (n1_ c1_ : Nat) (v2_ e0_ : Value) (w1 : World), e = .returned (e0_) ∧ w' = w1.setCell ⟨g, 5, none⟩ (.iface 120 (.agg #[v0_, .slice A1_ n1_ c1_, v2_])) ∧ Kd.R (Kd.int .u16) 35 w1 w.heap.size (fun _ => True) v0_ r2 ∧ Kd.R k123 123 w1 w.heap.size (fun _ => True) v2_ r4 ∧ EV e0_ r1 ∧ Below w.heap.size w w1 := by
  have hu113 := Try.underlying113
  have HG := Aside0.mk hg
  have HR1 := Aside0.mk hr1
  have HC1 := Aside0.mk hc1
  clear hr1 hc1
  unfold tables_Glyph_parseData.f at h
  by_cases h0 : 0 ≤ a0
  case neg => rw [if_neg h0] at h; cases h
  rw [if_pos h0] at h
  obtain ⟨⟨q1, q2, q3, q4, q5⟩, ht, h⟩ := Option.bind_eq_some_iff.mp h
  have HT := Aside0.mk ht
  clear ht
  simp only [Option.some.injEq, Prod.mk.injEq] at h
  obtain ⟨rfl, rfl, -, rfl⟩ := h
  have hb0 : decide (0 ≤ a0) = true := decide_eq_true h0
  have hcz_0 : w.cell? ⟨g, 0, none⟩ = some (.int .i16 a0) := (blk_cell HG.out 0).trans rfl
  clear hg h0
  go_enter Try.func58, Try.ntmps58
  go_wp2_with (go_at_call 74; (with_reducible refine (tables_ParseSimpleGlyph.calls k _ _ l1 (wrap64 a0) q1 q2 q3 q4 q5 _ HR1.out HC1.out HT.out).mono ?_); rintro e w1 ⟨v0, A1_, n1_, c1_, v2, e4, rfl, z0, z1, z2, z3⟩; have Z0 := Aside0.mk z0; have Z1 := Aside0.mk z1; have Z2 := Aside0.mk z2; have Z3 := Aside0.mk z3; have HG1 := Aside0.mk (blk_below HG.out z3); clear z0 z1 z2 z3; have hcz_5 : w1.cell? ⟨g, 5, none⟩ = some u5 := (blk_cell HG1.out 5).trans rfl; have hfz_5 := blk_frozen HG1.out 5)
  go_ret
  exact ⟨_, _, _, _, _, _, _, rfl, rfl, Z0.out, Z1.out, Z2.out, Z3.out⟩

/-! ### tables_ParseGlyph: function 39 -/
def tables_ParseGlyph.f (k : Nat) (l0 : List Int) : Option (Int × Int × Int × Int × Int × List Int × Unit × (List (S123)) × Int × Option Int) := if 10 ≤ l0.length then ((binary_bigEndian_Uint16.f (l0.drop 0)).bind fun t0 => (binary_bigEndian_Uint16.f (l0.drop 2)).bind fun t1 => (binary_bigEndian_Uint16.f (l0.drop 4)).bind fun t2 => (binary_bigEndian_Uint16.f (l0.drop 6)).bind fun t3 => (binary_bigEndian_Uint16.f (l0.drop 8)).bind fun t4 => (tables_Glyph_parseData.f k (IntKind.i16.wrap t0) (l0.drop 10)).bind fun b => if b.1.isNone = true then some ((IntKind.i16.wrap t0), (IntKind.i16.wrap t1), (IntKind.i16.wrap t2), (IntKind.i16.wrap t3), (IntKind.i16.wrap t4), b.2.1, (), b.2.2.2, 10, none) else none) else none
theorem tables_ParseGlyph.mono : ∀ a0 k, LeO (tables_ParseGlyph.f k a0) (tables_ParseGlyph.f (k + 1) a0) := by
  intro a0 k
  unfold tables_ParseGlyph.f
  refine LeO.ite ?_ (LeO.none _)
  iterate 5 refine LeO.bind (LeO.refl _) (fun _ => ?_)
  exact LeO.bind (tables_Glyph_parseData.mono _ _ _) (fun _ => LeO.refl _)
theorem tables_ParseGlyph.ok {k : Nat} {l0 : List Int} {r1 r2 r3 r4 r5 : Int} {r6 : List Int} {r7 : Unit} {r8 : List (S123)} {r9 : Int} {r10 : Option Int} (h : tables_ParseGlyph.f k l0 = some (r1, r2, r3, r4, r5, r6, r7, r8, r9, r10)) : r10 = none := by
  unfold tables_ParseGlyph.f at h
  split at h
  case isFalse => cases h
  iterate 5 (obtain ⟨_, _, h⟩ := Option.bind_eq_some_iff.mp h)
  obtain ⟨_, _, h⟩ := Option.bind_eq_some_iff.mp h
  split at h
  case isFalse => cases h
  simp only [Option.some.injEq, Prod.mk.injEq] at h
  exact h.2.2.2.2.2.2.2.2.2.symm
set_option maxHeartbeats 4000000 in
set_option maxRecDepth 100000 in
theorem tables_ParseGlyph.calls (k : Nat) (A0 : Option Addr) (c0 : Nat) (l0 : List Int) (r1 r2 r3 r4 r5 : Int) (r6 : List Int) (r7 : Unit) (r8 : List (S123)) (r9 : Int) (r10 : Option Int) (w : World) (hr0 : Kd.C (Kd.int .u8) w A0 l0.length l0) (hc0 : l0.length ≤ c0) (h : tables_ParseGlyph.f k l0 = some (r1, r2, r3, r4, r5, r6, r7, r8, r9, r10)) :
    Calls Try.prog 39 #[.slice A0 l0.length c0] w fun e w' => ∃ (v5_ : Value) (A6_ : Option Addr) (n6_ c6_ : Nat) (v7_ : Value), ∃ e9_ : Value, e = .returned (.tuple #[.agg #[.int .i16 r1, .int .i16 r2, .int .i16 r3, .int .i16 r4, .int .i16 r5, .iface 120 (.agg #[v5_, .slice A6_ n6_ c6_, v7_])], .int .i64 r9, e9_]) ∧ Kd.R (Kd.int .u16) 35 w' w.heap.size (fun _ => True) v5_ r6 ∧ Kd.R k123 123 w' w.heap.size (fun _ => True) v7_ r8 ∧ EV e9_ r10 ∧ Below w.heap.size w w' := by
  have hu113 := Try.underlying113
  have hu111 := Try.underlying111
  have hu115 := Try.underlying115
  have HR0 := Aside0.mk hr0
  have HC0 := Aside0.mk hc0
  clear hr0 hc0
  have HB := Aside0.mk (Below.refl w.heap.size w)
  unfold tables_ParseGlyph.f at h
  by_cases hlen : 10 ≤ l0.length
  case neg => rw [if_neg hlen] at h; cases h
  rw [if_pos hlen] at h
  obtain ⟨t0, a0, h⟩ := Option.bind_eq_some_iff.mp h
  have A0_ := Aside0.mk a0
  clear a0
  obtain ⟨t1, a1, h⟩ := Option.bind_eq_some_iff.mp h
  have A1_ := Aside0.mk a1
  clear a1
  obtain ⟨t2, a2, h⟩ := Option.bind_eq_some_iff.mp h
  have A2_ := Aside0.mk a2
  clear a2
  obtain ⟨t3, a3, h⟩ := Option.bind_eq_some_iff.mp h
  have A3_ := Aside0.mk a3
  clear a3
  obtain ⟨t4, a4, h⟩ := Option.bind_eq_some_iff.mp h
  have A4_ := Aside0.mk a4
  clear a4
  obtain ⟨⟨b1, b2, b3, b4⟩, ab, h⟩ := Option.bind_eq_some_iff.mp h
  have AB := Aside0.mk ab
  clear ab
  cases b1 with
  | some q => cases h
  | none =>
    have h1 := h
    simp only [Option.isNone_none, if_true, Option.some.injEq, Prod.mk.injEq] at h1
    obtain ⟨rfl, rfl, rfl, rfl, rfl, rfl, -, rfl, rfl, rfl⟩ := h1
    clear h
    have HLEN := Aside0.mk hlen
    have q10 : (10 : Int) ≤ (l0.length : Int) := by omega
    have hd10 : decide ((l0.length : Int) < 10) = false := decide_eq_false (by omega)
    have hd10n : decide (l0.length < 10) = false := decide_eq_false (by omega)
    obtain ⟨ad9, e9, hx9⟩ := Kd.at_int HR0.out 9 (by omega) (by omega)
    cases e9
    have p9 := eq_true (show (9 : Int) < (l0.length : Int) by omega)
    have p9n := eq_true (show 9 < l0.length by omega)
    obtain ⟨i0_, hi0_, _, hsz_, _⟩ := info_parts info5
    obtain ⟨D0, hcut0, hD0, hDc0⟩ := print_drop_of (P := Try.prog) (Value.int .u8) 0 22 5 .i64 Try.underlying22 hi0_ hsz_ (some ad9) c0 l0 0 (by omega) (by omega) HC0.out
    have HD0 := Aside0.mk (Kd.C_of_reads (h1 := fun _ => rfl) (hD0 _ (Kd.reads_of_C HR0.out)))
    have HDC0 := Aside0.mk hDc0
    clear hD0 hDc0
    obtain ⟨d0, hd0_⟩ : ∃ l : List Int, l = l0.drop (0 : Int).toNat := ⟨_, rfl⟩
    rw [← hd0_] at hcut0 HD0 HDC0
    replace A0_ : Aside0 (binary_bigEndian_Uint16.f d0 = some t0) := ⟨by rw [hd0_]; exact A0_.out⟩
    clear hd0_
    obtain ⟨cd0, hcd0⟩ : ∃ n : Nat, n = c0 - (0 : Int).toNat := ⟨_, rfl⟩
    rw [← hcd0] at hcut0 HDC0
    clear hcd0
    obtain ⟨D1, hcut1, hD1, hDc1⟩ := print_drop_of (P := Try.prog) (Value.int .u8) 0 22 5 .i64 Try.underlying22 hi0_ hsz_ (some ad9) c0 l0 2 (by omega) (by omega) HC0.out
    have HD1 := Aside0.mk (Kd.C_of_reads (h1 := fun _ => rfl) (hD1 _ (Kd.reads_of_C HR0.out)))
    have HDC1 := Aside0.mk hDc1
    clear hD1 hDc1
    obtain ⟨d1, hd1_⟩ : ∃ l : List Int, l = l0.drop (2 : Int).toNat := ⟨_, rfl⟩
    rw [← hd1_] at hcut1 HD1 HDC1
    replace A1_ : Aside0 (binary_bigEndian_Uint16.f d1 = some t1) := ⟨by rw [hd1_]; exact A1_.out⟩
    clear hd1_
    obtain ⟨cd1, hcd1⟩ : ∃ n : Nat, n = c0 - (2 : Int).toNat := ⟨_, rfl⟩
    rw [← hcd1] at hcut1 HDC1
    clear hcd1
    obtain ⟨D2, hcut2, hD2, hDc2⟩ := print_drop_of (P := Try.prog) (Value.int .u8) 0 22 5 .i64 Try.underlying22 hi0_ hsz_ (some ad9) c0 l0 4 (by omega) (by omega) HC0.out
    have HD2 := Aside0.mk (Kd.C_of_reads (h1 := fun _ => rfl) (hD2 _ (Kd.reads_of_C HR0.out)))
    have HDC2 := Aside0.mk hDc2
    clear hD2 hDc2
    obtain ⟨d2, hd2_⟩ : ∃ l : List Int, l = l0.drop (4 : Int).toNat := ⟨_, rfl⟩
    rw [← hd2_] at hcut2 HD2 HDC2
    replace A2_ : Aside0 (binary_bigEndian_Uint16.f d2 = some t2) := ⟨by rw [hd2_]; exact A2_.out⟩
    clear hd2_
    obtain ⟨cd2, hcd2⟩ : ∃ n : Nat, n = c0 - (4 : Int).toNat := ⟨_, rfl⟩
    rw [← hcd2] at hcut2 HDC2
    clear hcd2
    obtain ⟨D3, hcut3, hD3, hDc3⟩ := print_drop_of (P := Try.prog) (Value.int .u8) 0 22 5 .i64 Try.underlying22 hi0_ hsz_ (some ad9) c0 l0 6 (by omega) (by omega) HC0.out
    have HD3 := Aside0.mk (Kd.C_of_reads (h1 := fun _ => rfl) (hD3 _ (Kd.reads_of_C HR0.out)))
    have HDC3 := Aside0.mk hDc3
    clear hD3 hDc3
    obtain ⟨d3, hd3_⟩ : ∃ l : List Int, l = l0.drop (6 : Int).toNat := ⟨_, rfl⟩
    rw [← hd3_] at hcut3 HD3 HDC3
    replace A3_ : Aside0 (binary_bigEndian_Uint16.f d3 = some t3) := ⟨by rw [hd3_]; exact A3_.out⟩
    clear hd3_
    obtain ⟨cd3, hcd3⟩ : ∃ n : Nat, n = c0 - (6 : Int).toNat := ⟨_, rfl⟩
    rw [← hcd3] at hcut3 HDC3
    clear hcd3
    obtain ⟨D4, hcut4, hD4, hDc4⟩ := print_drop_of (P := Try.prog) (Value.int .u8) 0 22 5 .i64 Try.underlying22 hi0_ hsz_ (some ad9) c0 l0 8 (by omega) (by omega) HC0.out
    have HD4 := Aside0.mk (Kd.C_of_reads (h1 := fun _ => rfl) (hD4 _ (Kd.reads_of_C HR0.out)))
    have HDC4 := Aside0.mk hDc4
    clear hD4 hDc4
    obtain ⟨d4, hd4_⟩ : ∃ l : List Int, l = l0.drop (8 : Int).toNat := ⟨_, rfl⟩
    rw [← hd4_] at hcut4 HD4 HDC4
    replace A4_ : Aside0 (binary_bigEndian_Uint16.f d4 = some t4) := ⟨by rw [hd4_]; exact A4_.out⟩
    clear hd4_
    obtain ⟨cd4, hcd4⟩ : ∃ n : Nat, n = c0 - (8 : Int).toNat := ⟨_, rfl⟩
    rw [← hcd4] at hcut4 HDC4
    clear hcd4
    obtain ⟨D5, hcut5, hD5, hDc5⟩ := print_drop_of (P := Try.prog) (Value.int .u8) 0 22 5 .i64 Try.underlying22 hi0_ hsz_ (some ad9) c0 l0 10 (by omega) (by omega) HC0.out
    have HD5 := Aside0.mk (Kd.C_of_reads (h1 := fun _ => rfl) (hD5 _ (Kd.reads_of_C HR0.out)))
    have HDC5 := Aside0.mk hDc5
    clear hD5 hDc5
    obtain ⟨d5, hd5_⟩ : ∃ l : List Int, l = l0.drop (10 : Int).toNat := ⟨_, rfl⟩
    rw [← hd5_] at hcut5 HD5 HDC5
    replace AB : Aside0 (tables_Glyph_parseData.f k (IntKind.i16.wrap t0) d5 = some (none, b2, b3, b4)) := ⟨by rw [hd5_]; exact AB.out⟩
    clear hd5_
    obtain ⟨cd5, hcd5⟩ : ∃ n : Nat, n = c0 - (10 : Int).toNat := ⟨_, rfl⟩
    rw [← hcd5] at hcut5 HDC5
    clear hcd5
    clear hi0_ hsz_ q10 hlen
    go_enter Try.func39, Try.ntmps39
    go_wp2_with (first | ((with_reducible refine gate_dst (N := 2) rfl ?_); refine box_event ?hg (N := 2) ?hd (cs := #[.int .i16 0, .int .i16 0, .int .i16 0, .int .i16 0, .int .i16 0, .nilIface]) (t := 113) ?hr ?_; (case hd => rfl); (case hg => rfl); (case hr => first | (go_simp; done) | (go_simp; rfl)); intro gr hg wa hbox hb; have n0_ := Aside0.mk (below_step HB.out hb); have BR := Aside0.mk hbox; have GR := Aside0.mk (show w.heap.size ≤ gr by rw [hg]; exact HB.out.size); clear HB; have HB := n0_; clear n0_; clear hg hbox hb) | ((with_reducible refine gate_dst (N := 5) rfl ?_); refine box_event ?hg (N := 5) ?hd (cs := #[.int .i16 0, .int .i16 0, .int .i16 0, .int .i16 0, .int .i16 0, .nilIface]) (t := 113) ?hr ?_; (case hd => rfl); (case hg => rfl); (case hr => first | (go_simp; done) | (go_simp; rfl)); intro gi hg wb hbox hb; have n0_ := Aside0.mk (below_step HB.out hb); have n1_ := Aside0.mk (blk_below BR.out hb); have BI := Aside0.mk hbox; have GI := Aside0.mk (show w.heap.size ≤ gi by rw [hg]; exact HB.out.size); have NRI := Aside0.mk (show gr ≠ gi by rw [hg]; exact Nat.ne_of_lt (blk_lt BR.out)); have NIR := Aside0.mk (Ne.symm NRI.out); clear HB BR; have HB := n0_; have BR := n1_; clear n0_ n1_; have hx9b : wb.cell? { block := ad9.block, off := ad9.off + 9 } = some (.int .u8 (rd l0 9)) := pw_cell_below HB.out hx9; clear hg hbox hb))
    have hcz : wb.cell? ⟨gi, 0, none⟩ = some (.int .i16 0) := (blk_cell BI.out 0).trans rfl
    have hfz := blk_frozen BI.out 0
    go_region_with (go_at_call 57; refine (binary_bigEndian_Uint16.calls _ _ d0 t0 _ ?s1 ?s2 A0_.out).mono ?_; (case s1 => exact Kd.C_below HD0.out (below_drew1 HB.out)); (case s2 => exact HDC0.out); rintro e w0 ⟨rfl, hb⟩; have n0_ := Aside0.mk (below_step (below_drew1 HB.out) hb); have n1_ := Aside0.mk (blk_below (b2_ BR.out) hb); have n2_ := Aside0.mk (blk_below (b2_ BI.out) hb); clear HB BR BI hcz hfz hb; have HB := n0_; have BR := n1_; have BI := n2_; clear n0_ n1_ n2_; have hcz : w0.cell? ⟨gi, 0, none⟩ = some (.int .i16 0) := (blk_cell BI.out 0).trans rfl; have hfz := blk_frozen BI.out 0)
    have n0_ : Aside0 (Below w.heap.size w (w0.setCell ⟨gi, 0, none⟩ (.int .i16 (IntKind.i16.wrap t0)))) := ⟨below_set HB.out GI.out⟩
    have n1_ := Aside0.mk (blk_far BR.out (p := ⟨gi, 0, none⟩) NRI.out (.int .i16 (IntKind.i16.wrap t0)))
    have n2_ : Aside0 ((w0.setCell ⟨gi, 0, none⟩ (.int .i16 (IntKind.i16.wrap t0))).heap[gi]? = some (.cells #[.int .i16 (IntKind.i16.wrap t0), .int .i16 0, .int .i16 0, .int .i16 0, .int .i16 0, .nilIface] 113 (0, 0))) := ⟨blk_put BI.out 0 _ rfl⟩
    generalize (w0.setCell ⟨gi, 0, none⟩ (.int .i16 (IntKind.i16.wrap t0))) = v0 at n0_ n1_ n2_ ⊢
    clear HB BR BI hcz hfz
    have HB := n0_
    have BR := n1_
    have BI := n2_
    clear n0_ n1_ n2_
    go_wp2
    have hcz : v0.cell? ⟨gi, 1, none⟩ = some (.int .i16 0) := (blk_cell BI.out 1).trans rfl
    have hfz := blk_frozen BI.out 1
    go_region_with (go_at_call 57; refine (binary_bigEndian_Uint16.calls _ _ d1 t1 _ ?s1 ?s2 A1_.out).mono ?_; (case s1 => exact Kd.C_below HD1.out (below_drew1 HB.out)); (case s2 => exact HDC1.out); rintro e w1 ⟨rfl, hb⟩; have n0_ := Aside0.mk (below_step (below_drew1 HB.out) hb); have n1_ := Aside0.mk (blk_below (b2_ BR.out) hb); have n2_ := Aside0.mk (blk_below (b2_ BI.out) hb); clear HB BR BI hcz hfz hb; have HB := n0_; have BR := n1_; have BI := n2_; clear n0_ n1_ n2_; have hcz : w1.cell? ⟨gi, 1, none⟩ = some (.int .i16 0) := (blk_cell BI.out 1).trans rfl; have hfz := blk_frozen BI.out 1)
    have n0_ : Aside0 (Below w.heap.size w (w1.setCell ⟨gi, 1, none⟩ (.int .i16 (IntKind.i16.wrap t1)))) := ⟨below_set HB.out GI.out⟩
    have n1_ := Aside0.mk (blk_far BR.out (p := ⟨gi, 1, none⟩) NRI.out (.int .i16 (IntKind.i16.wrap t1)))
    have n2_ : Aside0 ((w1.setCell ⟨gi, 1, none⟩ (.int .i16 (IntKind.i16.wrap t1))).heap[gi]? = some (.cells #[.int .i16 (IntKind.i16.wrap t0), .int .i16 (IntKind.i16.wrap t1), .int .i16 0, .int .i16 0, .int .i16 0, .nilIface] 113 (0, 0))) := ⟨blk_put BI.out 1 _ rfl⟩
    generalize (w1.setCell ⟨gi, 1, none⟩ (.int .i16 (IntKind.i16.wrap t1))) = v1 at n0_ n1_ n2_ ⊢
    clear HB BR BI hcz hfz
    have HB := n0_
    have BR := n1_
    have BI := n2_
    clear n0_ n1_ n2_
    go_wp2
    have hcz : v1.cell? ⟨gi, 2, none⟩ = some (.int .i16 0) := (blk_cell BI.out 2).trans rfl
    have hfz := blk_frozen BI.out 2
    go_region_with (go_at_call 57; refine (binary_bigEndian_Uint16.calls _ _ d2 t2 _ ?s1 ?s2 A2_.out).mono ?_; (case s1 => exact Kd.C_below HD2.out (below_drew1 HB.out)); (case s2 => exact HDC2.out); rintro e w2 ⟨rfl, hb⟩; have n0_ := Aside0.mk (below_step (below_drew1 HB.out) hb); have n1_ := Aside0.mk (blk_below (b2_ BR.out) hb); have n2_ := Aside0.mk (blk_below (b2_ BI.out) hb); clear HB BR BI hcz hfz hb; have HB := n0_; have BR := n1_; have BI := n2_; clear n0_ n1_ n2_; have hcz : w2.cell? ⟨gi, 2, none⟩ = some (.int .i16 0) := (blk_cell BI.out 2).trans rfl; have hfz := blk_frozen BI.out 2)
    have n0_ : Aside0 (Below w.heap.size w (w2.setCell ⟨gi, 2, none⟩ (.int .i16 (IntKind.i16.wrap t2)))) := ⟨below_set HB.out GI.out⟩
    have n1_ := Aside0.mk (blk_far BR.out (p := ⟨gi, 2, none⟩) NRI.out (.int .i16 (IntKind.i16.wrap t2)))
    have n2_ : Aside0 ((w2.setCell ⟨gi, 2, none⟩ (.int .i16 (IntKind.i16.wrap t2))).heap[gi]? = some (.cells #[.int .i16 (IntKind.i16.wrap t0), .int .i16 (IntKind.i16.wrap t1), .int .i16 (IntKind.i16.wrap t2), .int .i16 0, .int .i16 0, .nilIface] 113 (0, 0))) := ⟨blk_put BI.out 2 _ rfl⟩
    generalize (w2.setCell ⟨gi, 2, none⟩ (.int .i16 (IntKind.i16.wrap t2))) = v2 at n0_ n1_ n2_ ⊢
    clear HB BR BI hcz hfz
    have HB := n0_
    have BR := n1_
    have BI := n2_
    clear n0_ n1_ n2_
    go_wp2
    have hcz : v2.cell? ⟨gi, 3, none⟩ = some (.int .i16 0) := (blk_cell BI.out 3).trans rfl
    have hfz := blk_frozen BI.out 3
    go_region_with (go_at_call 57; refine (binary_bigEndian_Uint16.calls _ _ d3 t3 _ ?s1 ?s2 A3_.out).mono ?_; (case s1 => exact Kd.C_below HD3.out (below_drew1 HB.out)); (case s2 => exact HDC3.out); rintro e w3 ⟨rfl, hb⟩; have n0_ := Aside0.mk (below_step (below_drew1 HB.out) hb); have n1_ := Aside0.mk (blk_below (b2_ BR.out) hb); have n2_ := Aside0.mk (blk_below (b2_ BI.out) hb); clear HB BR BI hcz hfz hb; have HB := n0_; have BR := n1_; have BI := n2_; clear n0_ n1_ n2_; have hcz : w3.cell? ⟨gi, 3, none⟩ = some (.int .i16 0) := (blk_cell BI.out 3).trans rfl; have hfz := blk_frozen BI.out 3)
    have n0_ : Aside0 (Below w.heap.size w (w3.setCell ⟨gi, 3, none⟩ (.int .i16 (IntKind.i16.wrap t3)))) := ⟨below_set HB.out GI.out⟩
    have n1_ := Aside0.mk (blk_far BR.out (p := ⟨gi, 3, none⟩) NRI.out (.int .i16 (IntKind.i16.wrap t3)))
    have n2_ : Aside0 ((w3.setCell ⟨gi, 3, none⟩ (.int .i16 (IntKind.i16.wrap t3))).heap[gi]? = some (.cells #[.int .i16 (IntKind.i16.wrap t0), .int .i16 (IntKind.i16.wrap t1), .int .i16 (IntKind.i16.wrap t2), .int .i16 (IntKind.i16.wrap t3), .int .i16 0, .nilIface] 113 (0, 0))) := ⟨blk_put BI.out 3 _ rfl⟩
    generalize (w3.setCell ⟨gi, 3, none⟩ (.int .i16 (IntKind.i16.wrap t3))) = v3 at n0_ n1_ n2_ ⊢
    clear HB BR BI hcz hfz
    have HB := n0_
    have BR := n1_
    have BI := n2_
    clear n0_ n1_ n2_
    go_wp2
    have hcz : v3.cell? ⟨gi, 4, none⟩ = some (.int .i16 0) := (blk_cell BI.out 4).trans rfl
    have hfz := blk_frozen BI.out 4
    go_region_with (go_at_call 57; refine (binary_bigEndian_Uint16.calls _ _ d4 t4 _ ?s1 ?s2 A4_.out).mono ?_; (case s1 => exact Kd.C_below HD4.out (below_drew1 HB.out)); (case s2 => exact HDC4.out); rintro e w4 ⟨rfl, hb⟩; have n0_ := Aside0.mk (below_step (below_drew1 HB.out) hb); have n1_ := Aside0.mk (blk_below (b2_ BR.out) hb); have n2_ := Aside0.mk (blk_below (b2_ BI.out) hb); clear HB BR BI hcz hfz hb; have HB := n0_; have BR := n1_; have BI := n2_; clear n0_ n1_ n2_; have hcz : w4.cell? ⟨gi, 4, none⟩ = some (.int .i16 0) := (blk_cell BI.out 4).trans rfl; have hfz := blk_frozen BI.out 4)
    have n0_ : Aside0 (Below w.heap.size w (w4.setCell ⟨gi, 4, none⟩ (.int .i16 (IntKind.i16.wrap t4)))) := ⟨below_set HB.out GI.out⟩
    have n1_ := Aside0.mk (blk_far BR.out (p := ⟨gi, 4, none⟩) NRI.out (.int .i16 (IntKind.i16.wrap t4)))
    have n2_ : Aside0 ((w4.setCell ⟨gi, 4, none⟩ (.int .i16 (IntKind.i16.wrap t4))).heap[gi]? = some (.cells #[.int .i16 (IntKind.i16.wrap t0), .int .i16 (IntKind.i16.wrap t1), .int .i16 (IntKind.i16.wrap t2), .int .i16 (IntKind.i16.wrap t3), .int .i16 (IntKind.i16.wrap t4), .nilIface] 113 (0, 0))) := ⟨blk_put BI.out 4 _ rfl⟩
    generalize (w4.setCell ⟨gi, 4, none⟩ (.int .i16 (IntKind.i16.wrap t4))) = v4 at n0_ n1_ n2_ ⊢
    clear HB BR BI hcz hfz
    have HB := n0_
    have BR := n1_
    have BI := n2_
    clear n0_ n1_ n2_
    go_wp2_with (go_at_call 58; (with_reducible refine (tables_Glyph_parseData.calls k (IntKind.i16.wrap t0) _ _ d5 none b2 b3 b4 _ gi _ _ _ _ _ BI.out ?s1 ?s2 AB.out).mono ?_); (case s1 => exact Kd.C_below HD5.out HB.out); (case s2 => exact HDC5.out); rintro e w_ ⟨u5_, A6_, n6_, c6_, u7_, e0_, w6, rfl, rfl, ho0, ho1, he, hb⟩; obtain rfl := EV_none he; have O5 := Aside0.mk (Kd.R_lower (Kd.R_mono (Kd.R_far (p := ⟨gi, 5, none⟩) (Kd.R_types ho0 (blk_below BI.out hb) (by decide)) (fun _ hk => hk.2) (.iface 120 (.agg #[u5_, .slice A6_ n6_ c6_, u7_]))) (fun _ _ => trivial)) HB.out.size); have O7 := Aside0.mk (Kd.R_lower (Kd.R_mono (Kd.R_far (p := ⟨gi, 5, none⟩) (Kd.R_types ho1 (blk_below BI.out hb) (by decide)) (fun _ hk => hk.2) (.iface 120 (.agg #[u5_, .slice A6_ n6_ c6_, u7_]))) (fun _ _ => trivial)) HB.out.size); have n0_ := Aside0.mk (show Below w.heap.size w (w6.setCell ⟨gi, 5, none⟩ (.iface 120 (.agg #[u5_, .slice A6_ n6_ c6_, u7_]))) from below_set (below_step HB.out hb) GI.out); have n1_ := Aside0.mk (blk_far (blk_below BR.out hb) (p := ⟨gi, 5, none⟩) NRI.out (.iface 120 (.agg #[u5_, .slice A6_ n6_ c6_, u7_]))); have n2_ := Aside0.mk (show (w6.setCell ⟨gi, 5, none⟩ (.iface 120 (.agg #[u5_, .slice A6_ n6_ c6_, u7_]))).heap[gi]? = some (.cells #[.int .i16 (IntKind.i16.wrap t0), .int .i16 (IntKind.i16.wrap t1), .int .i16 (IntKind.i16.wrap t2), .int .i16 (IntKind.i16.wrap t3), .int .i16 (IntKind.i16.wrap t4), .iface 120 (.agg #[u5_, .slice A6_ n6_ c6_, u7_])] 113 (0, 0)) from blk_put (blk_below BI.out hb) 5 _ rfl); clear HB BR BI ho0 ho1 hb he; generalize (w6.setCell ⟨gi, 5, none⟩ (.iface 120 (.agg #[u5_, .slice A6_ n6_ c6_, u7_]))) = w7 at n0_ n1_ n2_ O5 O7 ⊢; have HB := n0_; have BR := n1_; have BI := n2_; clear n0_ n1_ n2_; have hz0 : w7.cell? ⟨gi, 0, none⟩ = some (.int .i16 (IntKind.i16.wrap t0)) := (blk_cell BI.out 0).trans rfl; have hz1 : w7.cell? ⟨gi, 1, none⟩ = some (.int .i16 (IntKind.i16.wrap t1)) := (blk_cell BI.out 1).trans rfl; have hz2 : w7.cell? ⟨gi, 2, none⟩ = some (.int .i16 (IntKind.i16.wrap t2)) := (blk_cell BI.out 2).trans rfl; have hz3 : w7.cell? ⟨gi, 3, none⟩ = some (.int .i16 (IntKind.i16.wrap t3)) := (blk_cell BI.out 3).trans rfl; have hz4 : w7.cell? ⟨gi, 4, none⟩ = some (.int .i16 (IntKind.i16.wrap t4)) := (blk_cell BI.out 4).trans rfl; have hz5 : w7.cell? ⟨gi, 5, none⟩ = some (.iface 120 (.agg #[u5_, .slice A6_ n6_ c6_, u7_])) := (blk_cell BI.out 5).trans rfl; have hy0 : w7.cell? ⟨gr, 0, none⟩ = some (.int .i16 0) := (blk_cell BR.out 0).trans rfl; have hf0 := blk_frozen BR.out 0; have hy1 : w7.cell? ⟨gr, 1, none⟩ = some (.int .i16 0) := (blk_cell BR.out 1).trans rfl; have hf1 := blk_frozen BR.out 1; have hy2 : w7.cell? ⟨gr, 2, none⟩ = some (.int .i16 0) := (blk_cell BR.out 2).trans rfl; have hf2 := blk_frozen BR.out 2; have hy3 : w7.cell? ⟨gr, 3, none⟩ = some (.int .i16 0) := (blk_cell BR.out 3).trans rfl; have hf3 := blk_frozen BR.out 3; have hy4 : w7.cell? ⟨gr, 4, none⟩ = some (.int .i16 0) := (blk_cell BR.out 4).trans rfl; have hf4 := blk_frozen BR.out 4; have hy5 : w7.cell? ⟨gr, 5, none⟩ = some (.nilIface) := (blk_cell BR.out 5).trans rfl; have hf5 := blk_frozen BR.out 5)
    have BR0 := blk_put (cs' := #[.int .i16 (IntKind.i16.wrap t0), .int .i16 0, .int .i16 0, .int .i16 0, .int .i16 0, .nilIface]) BR.out 0 (.int .i16 (IntKind.i16.wrap t0)) rfl
    have BR1 := blk_put (cs' := #[.int .i16 (IntKind.i16.wrap t0), .int .i16 (IntKind.i16.wrap t1), .int .i16 0, .int .i16 0, .int .i16 0, .nilIface]) BR0 1 (.int .i16 (IntKind.i16.wrap t1)) rfl
    have BR2 := blk_put (cs' := #[.int .i16 (IntKind.i16.wrap t0), .int .i16 (IntKind.i16.wrap t1), .int .i16 (IntKind.i16.wrap t2), .int .i16 0, .int .i16 0, .nilIface]) BR1 2 (.int .i16 (IntKind.i16.wrap t2)) rfl
    have BR3 := blk_put (cs' := #[.int .i16 (IntKind.i16.wrap t0), .int .i16 (IntKind.i16.wrap t1), .int .i16 (IntKind.i16.wrap t2), .int .i16 (IntKind.i16.wrap t3), .int .i16 0, .nilIface]) BR2 3 (.int .i16 (IntKind.i16.wrap t3)) rfl
    have BR4 := blk_put (cs' := #[.int .i16 (IntKind.i16.wrap t0), .int .i16 (IntKind.i16.wrap t1), .int .i16 (IntKind.i16.wrap t2), .int .i16 (IntKind.i16.wrap t3), .int .i16 (IntKind.i16.wrap t4), .nilIface]) BR3 4 (.int .i16 (IntKind.i16.wrap t4)) rfl
    have BR5 := blk_put (cs' := #[.int .i16 (IntKind.i16.wrap t0), .int .i16 (IntKind.i16.wrap t1), .int .i16 (IntKind.i16.wrap t2), .int .i16 (IntKind.i16.wrap t3), .int .i16 (IntKind.i16.wrap t4), .iface 120 (.agg #[u5_, .slice A6_ n6_ c6_, u7_])]) BR4 5 (.iface 120 (.agg #[u5_, .slice A6_ n6_ c6_, u7_])) rfl
    have O5f := Kd.R_mono (ok' := fun _ => True) (Kd.R_far (p := ⟨gr, 5, none⟩) (Kd.R_far (p := ⟨gr, 4, none⟩) (Kd.R_far (p := ⟨gr, 3, none⟩) (Kd.R_far (p := ⟨gr, 2, none⟩) (Kd.R_far (p := ⟨gr, 1, none⟩) (Kd.R_far (p := ⟨gr, 0, none⟩) (Kd.R_types O5.out BR.out (by decide)) (fun _ hk => hk.2) (.int .i16 (IntKind.i16.wrap t0))) (fun _ hk => hk.2) (.int .i16 (IntKind.i16.wrap t1))) (fun _ hk => hk.2) (.int .i16 (IntKind.i16.wrap t2))) (fun _ hk => hk.2) (.int .i16 (IntKind.i16.wrap t3))) (fun _ hk => hk.2) (.int .i16 (IntKind.i16.wrap t4))) (fun _ hk => hk.2) (.iface 120 (.agg #[u5_, .slice A6_ n6_ c6_, u7_]))) (fun _ _ => trivial)
    have O7f := Kd.R_mono (ok' := fun _ => True) (Kd.R_far (p := ⟨gr, 5, none⟩) (Kd.R_far (p := ⟨gr, 4, none⟩) (Kd.R_far (p := ⟨gr, 3, none⟩) (Kd.R_far (p := ⟨gr, 2, none⟩) (Kd.R_far (p := ⟨gr, 1, none⟩) (Kd.R_far (p := ⟨gr, 0, none⟩) (Kd.R_types O7.out BR.out (by decide)) (fun _ hk => hk.2) (.int .i16 (IntKind.i16.wrap t0))) (fun _ hk => hk.2) (.int .i16 (IntKind.i16.wrap t1))) (fun _ hk => hk.2) (.int .i16 (IntKind.i16.wrap t2))) (fun _ hk => hk.2) (.int .i16 (IntKind.i16.wrap t3))) (fun _ hk => hk.2) (.int .i16 (IntKind.i16.wrap t4))) (fun _ hk => hk.2) (.iface 120 (.agg #[u5_, .slice A6_ n6_ c6_, u7_]))) (fun _ _ => trivial)
    have HBf := (below_set (j := 5) (v := .iface 120 (.agg #[u5_, .slice A6_ n6_ c6_, u7_])) (below_set (j := 4) (v := .int .i16 (IntKind.i16.wrap t4)) (below_set (j := 3) (v := .int .i16 (IntKind.i16.wrap t3)) (below_set (j := 2) (v := .int .i16 (IntKind.i16.wrap t2)) (below_set (j := 1) (v := .int .i16 (IntKind.i16.wrap t1)) (below_set (j := 0) (v := .int .i16 (IntKind.i16.wrap t0)) HB.out GR.out) GR.out) GR.out) GR.out) GR.out) GR.out)
    refine bodyPost_ret (results_ctt rfl _ _ gr 113 #[.int .i16 (IntKind.i16.wrap t0), .int .i16 (IntKind.i16.wrap t1), .int .i16 (IntKind.i16.wrap t2), .int .i16 (IntKind.i16.wrap t3), .int .i16 (IntKind.i16.wrap t4), .iface 120 (.agg #[u5_, .slice A6_ n6_ c6_, u7_])] (0, 0) _ rfl BR5 Try.underlying113 rfl (by kernel_rfl)) rfl ?_
    exact ⟨_, _, _, _, _, _, rfl, O5f, O7f, rfl, HBf⟩

end Go.Proofs.Ytchkmmbedgolbaa.PFnGlyphSpots
