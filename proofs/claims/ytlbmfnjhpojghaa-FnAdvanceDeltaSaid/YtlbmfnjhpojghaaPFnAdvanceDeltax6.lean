-- Written by a program of this session (xprint) out of the translation; Lean checks it.
import Derived.Test.YtlbmfnjhpojghaaPFnAdvanceDeltax0
import Derived.Test.YtlbmfnjhpojghaaPFnAdvanceDeltax4
import Derived.Test.YtlbmfnjhpojghaaPFnAdvanceDeltax5
namespace Go.Proofs.Ytlbmfnjhpojghaa.PFnAdvanceDelta
open Go.RowKit Go.Proofs.YtlbmfnjhpojghaaW.PrintWords Go.Proofs.YtlbmfnjhpojghaaW.PrintLast Go.Proofs.YtlbmfnjhpojghaaW.PrintMore
attribute [local go_sem] max2_int min2_int max_two min_two max_three min_three max_four min_four   -- for this text's walks alone
set_option linter.unusedVariables false
set_option linter.unusedSimpArgs false

attribute [local go_sem] f_add f_sub f_mul f_quo f_conv f_same f_int f_max
theorem keep_cell0 {w W : World} {g : Nat} {p : Addr} {v : Value} (hk : KeepBut w W g none) (hg : p.block ≠ g) (h : w.cell? p = some v) : W.cell? p = some v := by
  have h6 := World.block_lt_of_cell? w _ h
  have hb := hk.2 p.block h6 hg (by simp)
  simpa [World.cell?, hb] using h
theorem foot_row {α : Type} {d : Kd α} {e g n : Nat} {w W : World} {P : Nat → Prop} {ad : Addr} {A : Option Addr} {m c : Nat} {l : List (List α)} (hF : Kd.F (Kd.slice e d) w (fun k => P k ∧ k ≠ g) (some ad) n l) (hk : KeepBut w W g none) (i : Int) (h0 : 0 ≤ i) (h1 : i < n) (hx : W.cell? (ad.add i.toNat) = some (.slice A m c)) : Kd.F d w (fun k => P k ∧ k ≠ g) A (l.getD i.toNat []).length (l.getD i.toNat []) := by
  obtain ⟨ad', cs, he, hcl, hK, hcc, hin⟩ := Kd.F_get hF [] i h0 h1
  injection he with he
  subst he
  obtain ⟨A', c', rfl, hl, hf⟩ := Kd.FK_slice_open hK
  have h5 := hcc 0 _ rfl
  rw [Nat.add_zero, show (Kd.slice e d).sz = 1 from rfl, Nat.mul_one] at h5
  have h6 := keep_cell0 hk (p := ad.add i.toNat) (by rw [add_block]; exact (hin (by show 0 < 1; decide)).2) h5
  have h7 := Option.some.inj (h6.symm.trans hx)
  injection h7 with ha _ _
  rw [← ha]
  exact hf
theorem foot_41 {g n : Nat} {w W : World} {P : Nat → Prop} {ad : Addr} {A B : Option Addr} {m c m' c' : Nat} {l : List S41} (hF : Kd.F k41 w (fun k => P k ∧ k ≠ g) (some ad) n l) (hk : KeepBut w W g none) (i : Int) (h0 : 0 ≤ i) (h1 : i < n) (hx : W.cell? (ad.add (i.toNat * 2)) = some (.slice A m c)) (hy : W.cell? ⟨(ad.add (i.toNat * 2)).block, (ad.add (i.toNat * 2)).off + 1, none⟩ = some (.slice B m' c')) : Kd.F (Kd.int .i64) w (fun k => P k ∧ k ≠ g) A ((rd_T41 l i).f0).length ((rd_T41 l i).f0) ∧ Kd.F (Kd.slice 3 (Kd.int .i64)) w (fun k => P k ∧ k ≠ g) B ((rd_T41 l i).f1).length ((rd_T41 l i).f1) := by
  obtain ⟨ad', cs, he, hcl, hK, hcc, hin⟩ := Kd.F_get hF z41 i h0 h1
  injection he with he
  subst he
  obtain ⟨A0, c0, A1, c1, rfl, l0, g0, l1, g1⟩ := k41_openF hK
  have hne : ad.block ≠ g := (hin (by show 0 < 2; decide)).2
  have h5 := hcc 0 _ rfl
  have h5' := hcc 1 _ rfl
  rw [show k41.sz = 2 from rfl] at h5 h5'
  rw [Nat.add_zero] at h5
  rw [add_field _ _ 1 (by omega)] at h5'
  have h6 := keep_cell0 hk (by rw [add_block]; exact hne) h5
  have h6' := keep_cell0 hk (by show (ad.add _).block ≠ g; rw [add_block]; exact hne) h5'
  have h7 := Option.some.inj (h6.symm.trans hx)
  have h7' := Option.some.inj (h6'.symm.trans hy)
  injection h7 with ha _ _
  injection h7' with hb _ _
  rw [← ha, ← hb]
  exact ⟨g0, g1⟩
/-! ### impl_builder_store: function 33 -/
def impl_builder_store.T9 : Bool × List (List Nat × List Nat) := (true, [([], []), ([0], [0]), ([], []), ([], []), ([3], [3]), ([2, 4], [2, 4]), ([], []), ([], []), ([7], [7]), ([6, 8, 5], [6, 8]), ([], []), ([], []), ([11], [11]), ([10, 12, 9], [10, 12]), ([5, 9, 13], [5, 9, 13]), ([14], [14]), ([1, 15, 13], [1, 15]), ([0, 1, 2, 3, 4, 5, 6, 7, 8, 9, 10, 11, 12, 13, 14, 15, 16], []), ([17, 16, 16, 0, 1, 2, 3, 4, 5, 6, 7, 8, 9, 10, 11, 12, 13, 14, 15, 16], [16, 17])])
def impl_builder_store.B9 : List Nat := [0, 1, 0, 0, 8, 28, 0, 0, 128, 508, 0, 0, 2048, 8188, 16380, 32764, 65535, 131071, 262143]
theorem impl_builder_store.tab9 : rtab .any (opsOf Try.f33 9) = impl_builder_store.T9 := by kernel_rfl
theorem impl_builder_store.bits9 : waitsOk impl_builder_store.T9.2 impl_builder_store.B9 = true := by kernel_rfl
def impl_builder_store.T21 : Bool × List (List Nat × List Nat) := (true, [([], []), ([0], [0]), ([], []), ([], []), ([2, 3], [2, 3]), ([4], [4]), ([1, 5, 4], [1, 5]), ([0, 1, 2, 3, 4, 5, 6], []), ([7, 6, 6, 0, 1, 2, 3, 4, 5, 6], [6, 7])])
def impl_builder_store.B21 : List Nat := [0, 1, 0, 0, 12, 28, 63, 127, 255]
theorem impl_builder_store.tab21 : rtab .any (opsOf Try.f33 21) = impl_builder_store.T21 := by kernel_rfl
theorem impl_builder_store.bits21 : waitsOk impl_builder_store.T21.2 impl_builder_store.B21 = true := by kernel_rfl
set_option maxHeartbeats 8000000 in
set_option maxRecDepth 100000 in
theorem impl_builder_store.calls (k : Nat) (g : Nat) (s0_0 : Int) (s0_1 : Int) (s0_2 : Bool) (P1_ : Nat → Prop) (A1 : Option Addr) (c1 : Nat) (l1 : List (List (S36))) (P2_ : Nat → Prop) (A2 : Option Addr) (c2 : Nat) (l2 : List (S41)) (a3 : Int) (r1 : Int) (r2 : Int) (r3 : List (S182)) (r4 : List (S186)) (r5 : Int) (r6 : Int) (r7 : Bool) (w0 w : World) (hI : IsS102 w0 w g s0_0 s0_1 s0_2) (hB : Below w0.heap.size w0 w) (hs1 : Kd.V (Kd.slice 36 k36) 38 w w.heap.size (fun k_ => P1_ k_ ∧ k_ ≠ g) (.slice A1 l1.length c1) l1) (hs2 : Kd.V k41 41 w w.heap.size (fun k_ => P2_ k_ ∧ k_ ≠ g) (.slice A2 l2.length c2) l2) (h : impl_builder_store.f k s0_0 s0_1 s0_2 l1 l2 a3 = some (r1, r2, r3, r4, r5, r6, r7)) :
  Calls Try.prog 33 #[.pointer (some ⟨g, 0, none⟩), .slice A1 l1.length c1, .slice A2 l2.length c2, .int .i64 a3] w fun e w' => ∃ v2_ v3_ : Value, e = .returned (.agg #[.int .u16 r1, .int .u16 r2, v2_, v3_]) ∧ Kd.S k182 182 w' w.heap.size (fun k_ => (w.heap.size ≤ k_)) v2_ r3 ∧ Kd.R k186 186 w' w.heap.size (fun k_ => (w.heap.size ≤ k_)) v3_ r4 ∧ IsS102 w0 w' g r5 r6 r7 ∧ Below w0.heap.size w0 w' ∧ KeepBut w w' g none := by
 have hu109 := Try.underlying109
 have hu182 := Try.underlying182
 have hu36 := Try.underlying36
 have hu184 := Try.underlying184
 have hu41 := Try.underlying41
 have hu186 := Try.underlying186
 have HO1 := Aside0.mk (show Kd.V (Kd.slice 36 k36) 38 w w.heap.size (fun k_ => ((P1_ k_ ∨ P2_ k_) ∨ w.heap.size ≤ k_) ∧ k_ ≠ g) (.slice A1 l1.length c1) l1 from Kd.V_mono hs1 (fun k_ hk => ⟨.inl (.inl hk.1), hk.2⟩))
 have HO2 := Aside0.mk (show Kd.V k41 41 w w.heap.size (fun k_ => ((P1_ k_ ∨ P2_ k_) ∨ w.heap.size ≤ k_) ∧ k_ ≠ g) (.slice A2 l2.length c2) l2 from Kd.V_mono hs2 (fun k_ hk => ⟨.inl (.inr hk.1), hk.2⟩))
 have HI0 := Aside0.mk hI
 have HK := Aside0.mk (KeepBut.refl w g none)
 have HL := Aside0.mk hB.size
 clear hI
 have HW0 := Aside0.mk hB.size
 have HB := Aside0.mk hB
 clear hB
 have H : (impl_builder_store.l0 k l1 l2 a3 l1 (l1.length : Int) 0 s0_0 s0_1 s0_2 0 0 ([] : List (S182))) = some (r1, r2, r3, r4, r5, r6, r7) := h
 clear h
 have H' := Aside0.mk H
 clear H
 go_enter Try.func33, Try.ntmps33
 go_wp2_with (first | ((with_reducible refine gate_dst (N := 8) rfl ?_); (try (refine gate_guard (by rfl) ?_; dsimp only)); refine box_event ?hg (N := 8) ?hd (cs := #[.int .u16 0, .int .u16 0, .slice none 0 0, .slice none 0 0]) (t := 109) ?hr ?_; (case hd => rfl); (case hg => rfl); (case hr => first | (go_simp; done) | (go_simp; rfl)); intro gb166 hg w5 hbox hb; have n0_ := Aside0.mk (Kd.V_below (Kd.V_elderB (by (with_reducible repeat (first | apply Kd.V_alloc | apply Kd.V_drewN | apply Kd.V_drew)); exact HO1.out) gb166 (Nat.le_of_eq hg.symm)) hb); have n1_ := Aside0.mk (Kd.V_below (Kd.V_elderB (by (with_reducible repeat (first | apply Kd.V_alloc | apply Kd.V_drewN | apply Kd.V_drew)); exact HO2.out) gb166 (Nat.le_of_eq hg.symm)) hb); have n2_ := Aside0.mk (IsS102.below (by repeat (first | (with_reducible first | exact HI0.out | apply IsS102.alloc | apply IsS102.drewN | apply IsS102.drew | apply IsS102.set_0 | apply IsS102.set_1 | apply IsS102.set_2) | exact HI0.out)) hb); have n3_ := Aside0.mk (KeepBut.trans (by repeat (first | (with_reducible first | exact HK.out | apply KeepBut.set_ | apply keep_drewN | apply keep_drew | apply keep_alloc) | exact HK.out)) (KeepBut.of_below hb g none) (.inl rfl)); have n4_ := Aside0.mk (below_step (by repeat (first | (with_reducible first | exact HB.out | apply below_alloc | apply pw_below_drewN | apply below_drew1 | refine below_set ?_ (IsS102.ge HI0.out)) | exact HB.out)) hb); have n5_ := Aside0.mk (hbox); have n6_ := Aside0.mk ((by rw [hg]; exact (keep_size (w := w) (g := g) (row := none) (by repeat (first | (with_reducible first | exact HK.out | apply KeepBut.set_ | apply keep_drewN | apply keep_drew | apply keep_alloc) | exact HK.out))) : w.heap.size ≤ gb166)); have n7_ := Aside0.mk ((Nat.le_trans HW0.out (by rw [hg]; exact (keep_size (w := w) (g := g) (row := none) (by repeat (first | (with_reducible first | exact HK.out | apply KeepBut.set_ | apply keep_drewN | apply keep_drew | apply keep_alloc) | exact HK.out))) : w.heap.size ≤ gb166) : w0.heap.size ≤ gb166)); have n8_ := Aside0.mk ((by rw [hg]; exact Nat.ne_of_lt (IsS102.lt (show IsS102 w0 _ g s0_0 s0_1 s0_2 from by repeat (first | (with_reducible first | exact HI0.out | apply IsS102.alloc | apply IsS102.drewN | apply IsS102.drew | apply IsS102.set_0 | apply IsS102.set_1 | apply IsS102.set_2) | exact HI0.out))) : g ≠ gb166)); have n9_ := Aside0.mk ((by rw [hg]; exact Nat.ne_of_gt (IsS102.lt (show IsS102 w0 _ g s0_0 s0_1 s0_2 from by repeat (first | (with_reducible first | exact HI0.out | apply IsS102.alloc | apply IsS102.drewN | apply IsS102.drew | apply IsS102.set_0 | apply IsS102.set_1 | apply IsS102.set_2) | exact HI0.out))) : gb166 ≠ g)); clear HO1; clear HO2; clear HI0; clear HK; clear HB; have HO1 := n0_; have HO2 := n1_; have HI0 := n2_; have HK := n3_; have HB := n4_; have BK166 := n5_; have GW166 := n6_; have GE166 := n7_; have NB0_166 := n8_; have NB166_0 := n9_; clear n0_ n1_ n2_ n3_ n4_ n5_ n6_ n7_ n8_ n9_; clear hb hbox hg))
 go_loopg [26] k (fun kq v26 w' => ∃ (x26_1 : Int) (x1000_1 : Int) (x1001_1 : Int) (x1002_1 : Bool) (x167002_1 : List (S182)) (u167002 : Value), v26 = .int .i64 x26_1 ∧ Aside0 (impl_builder_store.l0 kq l1 l2 a3 l1 (l1.length : Int) x26_1 x1000_1 x1001_1 x1002_1 0 0 x167002_1 = some (r1, r2, r3, r4, r5, r6, r7)) ∧ Aside0 (kq ≤ k) ∧ Aside0 (Kd.V (Kd.slice 36 k36) 38 w' w.heap.size (fun k_ => ((P1_ k_ ∨ P2_ k_) ∨ w.heap.size ≤ k_) ∧ some k_ ≠ (u167002 : Value).ownBlock ∧ k_ ≠ gb166 ∧ k_ ≠ g) (.slice A1 l1.length c1) l1) ∧ Aside0 (Kd.V k41 41 w' w.heap.size (fun k_ => ((P1_ k_ ∨ P2_ k_) ∨ w.heap.size ≤ k_) ∧ some k_ ≠ (u167002 : Value).ownBlock ∧ k_ ≠ gb166 ∧ k_ ≠ g) (.slice A2 l2.length c2) l2) ∧ Aside0 (Kd.V (Kd.slice 36 k36) 38 w' w.heap.size (fun k_ => ((P1_ k_ ∨ P2_ k_) ∨ w.heap.size ≤ k_) ∧ some k_ ≠ (u167002 : Value).ownBlock ∧ k_ ≠ gb166 ∧ k_ ≠ g) (.slice A1 l1.length c1) l1) ∧ Aside0 (Kd.S k182 182 w' w.heap.size (fun k_ => (w.heap.size ≤ k_)) u167002 x167002_1) ∧ Aside0 (w'.heap[gb166]? = some (.cells #[.int .u16 0, .int .u16 0, u167002, (.slice none 0 0)] 109 (0, 0))) ∧ Aside0 (IsS102 w0 w' g x1000_1 x1001_1 x1002_1) ∧ Aside0 (KeepBut w w' g none) ∧ Aside0 (Below w0.heap.size w0 w'))
 case atStart => exact ⟨(0), (s0_0), (s0_1), (s0_2), (([] : List (S182))), (.slice none 0 0), (by first | rfl | (simp; done) | (simp [*]; done)), H', ⟨Nat.le_refl _⟩, ⟨by (with_reducible repeat (first | apply Kd.V_alloc | apply Kd.V_drewN | apply Kd.V_drew)); exact Kd.V_mono HO1.out (fun _ hk => ⟨hk.1.1, ⟨(by simp [Value.ownBlock]), ⟨hk.2, hk.1.2⟩⟩⟩)⟩, ⟨by (with_reducible repeat (first | apply Kd.V_alloc | apply Kd.V_drewN | apply Kd.V_drew)); exact Kd.V_mono HO2.out (fun _ hk => ⟨hk.1.1, ⟨(by simp [Value.ownBlock]), ⟨hk.2, hk.1.2⟩⟩⟩)⟩, ⟨by (with_reducible repeat (first | apply Kd.V_alloc | apply Kd.V_drewN | apply Kd.V_drew)); exact Kd.V_mono HO1.out (fun _ hk => ⟨hk.1.1, ⟨(by simp [Value.ownBlock]), ⟨hk.2, hk.1.2⟩⟩⟩)⟩, ⟨by first | exact Kd.S_nil _ _ _ _ _ | exact Kd.N_nil _ _ _ _ _ | exact Kd.V_nil _ _ _ _ _ | exact Kd.Q_nil _ _ _ _ _ | exact Kd.R_nil _ _ _ _ _⟩, ⟨by (with_reducible repeat (first | refine b1_ ?_ _ | refine b2_ ?_ | refine b3_ ?_ _)); exact BK166.out⟩, ⟨by repeat (first | (with_reducible first | exact HI0.out | apply IsS102.alloc | apply IsS102.drewN | apply IsS102.drew | apply IsS102.set_0 | apply IsS102.set_1 | apply IsS102.set_2 | refine IsS102.far ?_ NB0_166.out _) | exact HI0.out)⟩, ⟨by repeat (first | (with_reducible first | exact HK.out | apply KeepBut.set_ | apply keep_drewN | apply keep_drew | apply keep_alloc | refine keep_far ?_ GW166.out _) | exact HK.out)⟩, ⟨by repeat (first | (with_reducible first | exact HB.out | apply below_alloc | apply pw_below_drewN | apply below_drew1 | refine below_set ?_ (IsS102.ge HI0.out) | refine below_set ?_ GE166.out) | exact HB.out)⟩⟩
 case round =>
  clear H'
  try clear c1
  try clear c2
  try clear p2
  try clear c3
  obtain ⟨x26_1, x1000_1, x1001_1, x1002_1, x167002_1, u167002, rfl, HA, HK1, HO_1, HO_2, HO_24, HO_167002, BK166, HI0, HK, HB⟩ := hrel
  cases gk with
  | zero => exact absurd HA.out (by simp [impl_builder_store.l0])
  | succ k1 =>
   have H := HA.out
   clear HA
   simp only [impl_builder_store.l0] at H
   by_cases c6 : x26_1 < (l1.length : Int)
   ·rw [if_pos c6] at H
    have c6b0 : decide (x26_1 < (l1.length : Int)) = true := decide_eq_true c6
    clear c6
    by_cases c7 : 0 ≤ x26_1
    ·rw [if_pos c7] at H
     have c7b0 : decide (0 ≤ x26_1) = true := decide_eq_true c7
     clear c7
     by_cases c8 : x26_1 < (l1.length : Int)
     ·rw [if_pos c8] at H
      have c8b0 : decide (x26_1 < (l1.length : Int)) = true := decide_eq_true c8
      clear c8
      replace H := Option.bind_eq_some_iff.mp H
      obtain ⟨⟨t168, t169, t170⟩, A90, H⟩ := H
      replace H : (impl_builder_store.l1 k1 l1 l2 a3 l1 (l1.length : Int) x26_1 (rd_L8 l1 x26_1) ((rd_L8 l1 x26_1).length : Int) 0 t168 t169 t170 0 0 x167002_1 ([] : List (S184))) = some (r1, r2, r3, r4, r5, r6, r7) := H
      have A9 := Aside0.mk A90
      clear A90
      have H' := Aside0.mk H
      clear H
      have p167 : 0 ≤ (x26_1 : Int) := of_decide_eq_true (by first | (with_reducible assumption) | assumption)
      have q167 : x26_1 < (l1.length : Int) := of_decide_eq_true (by first | (with_reducible assumption) | assumption)
      obtain ⟨ad167, A167_0, c167_0, e167, hx167_0, hl167_0, hi167_0⟩ := at_L8 (Kd.V_reads' HO_24.out).2.2 x26_1 p167 q167
      cases e167
      obtain ⟨ce167, hce167, hMe167, hcc167⟩ := Kd.V_get HO_24.out [] x26_1 p167 (by first | exact q167 | exact of_decide_eq_true (by first | (with_reducible assumption) | assumption) | (have e_ := (Kd.V_reads' HO_24.out).1; omega))
      obtain ⟨ua167_0, uc167_0, rfl, ul167_0, ge167_0⟩ := Kd.FK_slice_open hMe167
      have hv167_0 := hcc167 0 _ rfl
      rw [Nat.add_zero, show ((Kd.slice 36 k36)).sz = 1 from rfl, Nat.mul_one] at hv167_0
      replace hv167_0 := Option.some.inj (hv167_0.symm.trans hx167_0)
      injection hv167_0 with hva_ hvn_ hvc_
      rw [hva_] at ge167_0
      rw [hvc_] at ul167_0
      have HL167_0 := Aside0.mk (show Kd.V k36 36 _ w.heap.size _ _ (rd_L8 l1 x26_1) from Kd.V_mk ul167_0 ge167_0)
      clear hva_ hvn_ hvc_ ge167_0 ul167_0
      clear hcc167 hce167
      have HF167_0 := Aside0.mk (show Kd.F k36 w (fun k_ => P1_ k_ ∧ k_ ≠ g) A167_0 (rd_L8 l1 x26_1).length (rd_L8 l1 x26_1) from foot_row (Kd.V_F hs1) HK.out x26_1 p167 q167 hx167_0)
      have HR167_0 := Aside0.mk hi167_0
      have HC167_0 := Aside0.mk hl167_0
      clear hi167_0 hl167_0
      replace p167 := eq_true p167
      replace q167 := eq_true q167
      go_wp2_with (first | ((with_reducible refine gate_callee (f := 50) rfl ?_); refine goesL_ (some 35) rfl rfl Try.func50 (by kernel_rfl) rfl #[.pointer (some ⟨g, 0, none⟩), .bool (((rd_L8 l1 x26_1).length : Int) == a3)] rfl (by (try simp only [List.map_toArray, List.map_cons, List.map_nil]); first | done | rfl | (simp only [List.length_drop, List.length_take]; rfl)) ?_; (with_reducible refine (impl_builder_must.calls g x1000_1 x1001_1 x1002_1 (((rd_L8 l1 x26_1).length : Int) == a3) t168 t169 t170 w0 _ ?side1 ?side2 A9.out).mono ?_); (case side1 => repeat (first | (with_reducible first | exact HI0.out | apply IsS102.alloc | apply IsS102.drewN | apply IsS102.drew | apply IsS102.set_0 | apply IsS102.set_1 | apply IsS102.set_2 | refine IsS102.far ?_ NB0_166.out _) | exact HI0.out)); (case side2 => repeat (first | (with_reducible first | exact HB.out | apply below_alloc | apply pw_below_drewN | apply below_drew1 | refine below_set ?_ (IsS102.ge HI0.out) | refine below_set ?_ GE166.out) | exact HB.out)); rintro e w10 ⟨rfl, hi, hb, hk⟩; refine ⟨_, rfl, ?_⟩; have n0_ := Aside0.mk (Kd.V_mono (Kd.V_keep (Kd.V_mono (ok := fun k_ => ((((P1_ k_ ∨ P2_ k_) ∨ w.heap.size ≤ k_)) ∧ (some k_ ≠ (u167002 : Value).ownBlock ∧ (k_ ≠ gb166 ∧ k_ ≠ g)))) (by (with_reducible repeat (first | apply Kd.V_alloc | apply Kd.V_drewN | apply Kd.V_drew)); exact HO_1.out) (fun k_ hk_ => (⟨hk_, hk_.2.2.2⟩ : _ ∧ k_ ≠ g))) hk (fun _ h => h.2)) (fun _ h => h.1)); have n1_ := Aside0.mk (Kd.V_mono (Kd.V_keep (Kd.V_mono (ok := fun k_ => ((((P1_ k_ ∨ P2_ k_) ∨ w.heap.size ≤ k_)) ∧ (some k_ ≠ (u167002 : Value).ownBlock ∧ (k_ ≠ gb166 ∧ k_ ≠ g)))) (by (with_reducible repeat (first | apply Kd.V_alloc | apply Kd.V_drewN | apply Kd.V_drew)); exact HO_2.out) (fun k_ hk_ => (⟨hk_, hk_.2.2.2⟩ : _ ∧ k_ ≠ g))) hk (fun _ h => h.2)) (fun _ h => h.1)); have n2_ := Aside0.mk (Kd.V_mono (Kd.V_keep (Kd.V_mono (ok := fun k_ => ((((P1_ k_ ∨ P2_ k_) ∨ w.heap.size ≤ k_)) ∧ (some k_ ≠ (u167002 : Value).ownBlock ∧ (k_ ≠ gb166 ∧ k_ ≠ g)))) (by (with_reducible repeat (first | apply Kd.V_alloc | apply Kd.V_drewN | apply Kd.V_drew)); exact HO_24.out) (fun k_ hk_ => (⟨hk_, hk_.2.2.2⟩ : _ ∧ k_ ≠ g))) hk (fun _ h => h.2)) (fun _ h => h.1)); have n3_ := Aside0.mk (Kd.S_mono (Kd.S_keep (IsS102.apartS (show IsS102 w0 _ g x1000_1 x1001_1 x1002_1 from by repeat (first | (with_reducible first | exact HI0.out | apply IsS102.alloc | apply IsS102.drewN | apply IsS102.drew | apply IsS102.set_0 | apply IsS102.set_1 | apply IsS102.set_2 | refine IsS102.far ?_ NB0_166.out _) | exact HI0.out)) (by (with_reducible repeat (first | apply Kd.S_alloc | apply Kd.S_drewN | apply Kd.S_drew)); exact HO_167002.out) (by decide)) hk (fun _ h => h.2)) (fun _ h => h.1)); have n4_ := Aside0.mk (KeepBut.blk hk (g' := gb166) (o := .cells #[.int .u16 0, .int .u16 0, u167002, .slice none 0 0] 109 (0, 0)) (by (with_reducible repeat (first | refine b1_ ?_ _ | refine b2_ ?_ | refine b3_ ?_ _)); exact BK166.out) NB166_0.out (by simp)); have n5_ := Aside0.mk (Kd.V_mono (Kd.V_keep (Kd.V_mono (ok := fun k_ => ((((P1_ k_ ∨ P2_ k_) ∨ w.heap.size ≤ k_)) ∧ (some k_ ≠ (u167002 : Value).ownBlock ∧ (k_ ≠ gb166 ∧ k_ ≠ g)))) (by (with_reducible repeat (first | apply Kd.V_alloc | apply Kd.V_drewN | apply Kd.V_drew)); exact HL167_0.out) (fun k_ hk_ => (⟨hk_, hk_.2.2.2⟩ : _ ∧ k_ ≠ g))) hk (fun _ h => h.2)) (fun _ h => h.1)); have n6_ := Aside0.mk (KeepBut.trans (by repeat (first | (with_reducible first | exact HK.out | apply KeepBut.set_ | apply keep_drewN | apply keep_drew | apply keep_alloc | refine keep_far ?_ GW166.out _) | exact HK.out)) hk (.inl rfl)); have n7_ := Aside0.mk (hb); have n8_ := Aside0.mk (hi); clear HO_1; clear HO_2; clear HO_24; clear HO_167002; clear BK166; clear HL167_0; clear HK; clear HB; clear HI0; have HO_1 := n0_; have HO_2 := n1_; have HO_24 := n2_; have HO_167002 := n3_; have BK166 := n4_; have HL167_0 := n5_; have HK := n6_; have HB := n7_; have HI0 := n8_; clear n0_ n1_ n2_ n3_ n4_ n5_ n6_ n7_ n8_; (try clear hb); (try clear hb2); (try clear hk); (try clear hi)) | ((with_reducible refine gate_dst (N := 11) rfl ?_); (try (refine gate_guard (by rfl) ?_; dsimp only)); refine box_event ?hg (N := 11) ?hd (cs := #[.slice none 0 0]) (t := 182) ?hr ?_; (case hd => rfl); (case hg => rfl); (case hr => first | (go_simp; done) | (go_simp; rfl)); intro gb171 hg w11 hbox hb; have n0_ := Aside0.mk (Kd.V_below (Kd.V_elderB (by (with_reducible repeat (first | apply Kd.V_alloc | apply Kd.V_drewN | apply Kd.V_drew)); exact HO_1.out) gb171 (Nat.le_of_eq hg.symm)) hb); have n1_ := Aside0.mk (Kd.V_below (Kd.V_elderB (by (with_reducible repeat (first | apply Kd.V_alloc | apply Kd.V_drewN | apply Kd.V_drew)); exact HO_2.out) gb171 (Nat.le_of_eq hg.symm)) hb); have n2_ := Aside0.mk (Kd.V_below (Kd.V_elderB (by (with_reducible repeat (first | apply Kd.V_alloc | apply Kd.V_drewN | apply Kd.V_drew)); exact HO_24.out) gb171 (Nat.le_of_eq hg.symm)) hb); have n3_ := Aside0.mk (Kd.S_below (Kd.S_elderB (by (with_reducible repeat (first | apply Kd.S_alloc | apply Kd.S_drewN | apply Kd.S_drew)); exact HO_167002.out) gb171 (Nat.le_of_eq hg.symm)) hb); have n4_ := Aside0.mk (Kd.V_below (Kd.V_elderB (by (with_reducible repeat (first | apply Kd.V_alloc | apply Kd.V_drewN | apply Kd.V_drew)); exact HL167_0.out) gb171 (Nat.le_of_eq hg.symm)) hb); have n5_ := Aside0.mk (blk_below (g := gb166) (o := .cells #[.int .u16 0, .int .u16 0, u167002, .slice none 0 0] 109 (0, 0)) (by (with_reducible repeat (first | refine b1_ ?_ _ | refine b2_ ?_ | refine b3_ ?_ _)); exact BK166.out) hb); have n6_ := Aside0.mk (IsS102.below (by repeat (first | (with_reducible first | exact HI0.out | apply IsS102.alloc | apply IsS102.drewN | apply IsS102.drew | apply IsS102.set_0 | apply IsS102.set_1 | apply IsS102.set_2 | refine IsS102.far ?_ NB0_166.out _) | exact HI0.out)) hb); have n7_ := Aside0.mk (KeepBut.trans (by repeat (first | (with_reducible first | exact HK.out | apply KeepBut.set_ | apply keep_drewN | apply keep_drew | apply keep_alloc | refine keep_far ?_ GW166.out _) | exact HK.out)) (KeepBut.of_below hb g none) (.inl rfl)); have n8_ := Aside0.mk (below_step (by repeat (first | (with_reducible first | exact HB.out | apply below_alloc | apply pw_below_drewN | apply below_drew1 | refine below_set ?_ (IsS102.ge HI0.out) | refine below_set ?_ GE166.out) | exact HB.out)) hb); have n9_ := Aside0.mk (hbox); have n10_ := Aside0.mk ((by rw [hg]; exact (keep_size (w := w) (g := g) (row := none) (by repeat (first | (with_reducible first | exact HK.out | apply KeepBut.set_ | apply keep_drewN | apply keep_drew | apply keep_alloc | refine keep_far ?_ GW166.out _) | exact HK.out))) : w.heap.size ≤ gb171)); have n11_ := Aside0.mk ((Nat.le_trans HW0.out (by rw [hg]; exact (keep_size (w := w) (g := g) (row := none) (by repeat (first | (with_reducible first | exact HK.out | apply KeepBut.set_ | apply keep_drewN | apply keep_drew | apply keep_alloc | refine keep_far ?_ GW166.out _) | exact HK.out))) : w.heap.size ≤ gb171) : w0.heap.size ≤ gb171)); have n12_ := Aside0.mk ((by rw [hg]; exact Nat.ne_of_lt (blk_lt (g := gb166) (o := .cells #[.int .u16 0, .int .u16 0, u167002, .slice none 0 0] 109 (0, 0)) (by (with_reducible repeat (first | refine b1_ ?_ _ | refine b2_ ?_ | refine b3_ ?_ _)); exact BK166.out)) : gb166 ≠ gb171)); have n13_ := Aside0.mk ((by rw [hg]; exact Nat.ne_of_gt (blk_lt (g := gb166) (o := .cells #[.int .u16 0, .int .u16 0, u167002, .slice none 0 0] 109 (0, 0)) (by (with_reducible repeat (first | refine b1_ ?_ _ | refine b2_ ?_ | refine b3_ ?_ _)); exact BK166.out)) : gb171 ≠ gb166)); have n14_ := Aside0.mk ((by rw [hg]; exact Nat.ne_of_lt (IsS102.lt (show IsS102 w0 _ g t168 t169 t170 from by repeat (first | (with_reducible first | exact HI0.out | apply IsS102.alloc | apply IsS102.drewN | apply IsS102.drew | apply IsS102.set_0 | apply IsS102.set_1 | apply IsS102.set_2 | refine IsS102.far ?_ NB0_166.out _) | exact HI0.out))) : g ≠ gb171)); have n15_ := Aside0.mk ((by rw [hg]; exact Nat.ne_of_gt (IsS102.lt (show IsS102 w0 _ g t168 t169 t170 from by repeat (first | (with_reducible first | exact HI0.out | apply IsS102.alloc | apply IsS102.drewN | apply IsS102.drew | apply IsS102.set_0 | apply IsS102.set_1 | apply IsS102.set_2 | refine IsS102.far ?_ NB0_166.out _) | exact HI0.out))) : gb171 ≠ g)); clear HO_1; clear HO_2; clear HO_24; clear HO_167002; clear HL167_0; clear BK166; clear HI0; clear HK; clear HB; have HO_1 := n0_; have HO_2 := n1_; have HO_24 := n2_; have HO_167002 := n3_; have HL167_0 := n4_; have BK166 := n5_; have HI0 := n6_; have HK := n7_; have HB := n8_; have BK171 := n9_; have GW171 := n10_; have GE171 := n11_; have NB166_171 := n12_; have NB171_166 := n13_; have NB0_171 := n14_; have NB171_0 := n15_; clear n0_ n1_ n2_ n3_ n4_ n5_ n6_ n7_ n8_ n9_ n10_ n11_ n12_ n13_ n14_ n15_; clear hb hbox hg))
      go_loopg [38] k1 (fun kq v38 w' => ∃ (x38_2 : Int) (x1000_2 : Int) (x1001_2 : Int) (x1002_2 : Bool) (x172000_2 : List (S184)) (u172000 : Value), v38 = .int .i64 x38_2 ∧ Aside0 (impl_builder_store.l1 kq l1 l2 a3 l1 (l1.length : Int) x26_1 (rd_L8 l1 x26_1) ((rd_L8 l1 x26_1).length : Int) x38_2 x1000_2 x1001_2 x1002_2 0 0 x167002_1 x172000_2 = some (r1, r2, r3, r4, r5, r6, r7)) ∧ Aside0 (kq ≤ k1) ∧ Aside0 (Kd.V (Kd.slice 36 k36) 38 w' w.heap.size (fun k_ => ((P1_ k_ ∨ P2_ k_) ∨ w.heap.size ≤ k_) ∧ some k_ ≠ (u167002 : Value).ownBlock ∧ some k_ ≠ (u172000 : Value).ownBlock ∧ k_ ≠ gb166 ∧ k_ ≠ gb171 ∧ k_ ≠ g) (.slice (some ad167) l1.length c1) l1) ∧ Aside0 (Kd.V k41 41 w' w.heap.size (fun k_ => ((P1_ k_ ∨ P2_ k_) ∨ w.heap.size ≤ k_) ∧ some k_ ≠ (u167002 : Value).ownBlock ∧ some k_ ≠ (u172000 : Value).ownBlock ∧ k_ ≠ gb166 ∧ k_ ≠ gb171 ∧ k_ ≠ g) (.slice A2 l2.length c2) l2) ∧ Aside0 (Kd.V (Kd.slice 36 k36) 38 w' w.heap.size (fun k_ => ((P1_ k_ ∨ P2_ k_) ∨ w.heap.size ≤ k_) ∧ some k_ ≠ (u167002 : Value).ownBlock ∧ some k_ ≠ (u172000 : Value).ownBlock ∧ k_ ≠ gb166 ∧ k_ ≠ gb171 ∧ k_ ≠ g) (.slice (some ad167) l1.length c1) l1) ∧ Aside0 (Kd.S k182 182 w' w.heap.size (fun k_ => (w.heap.size ≤ k_) ∧ some k_ ≠ (u172000 : Value).ownBlock ∧ k_ ≠ gb171) u167002 x167002_1) ∧ Aside0 (Kd.R k184 184 w' w.heap.size (fun k_ => (w.heap.size ≤ k_)) u172000 x172000_2) ∧ Aside0 (w'.heap[gb166]? = some (.cells #[.int .u16 0, .int .u16 0, u167002, (.slice none 0 0)] 109 (0, 0))) ∧ Aside0 (w'.heap[gb171]? = some (.cells #[u172000] 182 (0, 0))) ∧ Aside0 (IsS102 w0 w' g x1000_2 x1001_2 x1002_2) ∧ Aside0 (KeepBut w w' g none) ∧ Aside0 (Below w0.heap.size w0 w'))
      case atStart => exact ⟨(0), (t168), (t169), (t170), (([] : List (S184))), (.slice none 0 0), (by first | rfl | (simp; done) | (simp [*]; done)), H', ⟨Nat.le_refl _⟩, ⟨by (with_reducible repeat (first | apply Kd.V_alloc | apply Kd.V_drewN | apply Kd.V_drew)); exact Kd.V_mono HO_1.out (fun _ hk => ⟨hk.1.1, ⟨hk.1.2.1, ⟨(by simp [Value.ownBlock]), ⟨hk.1.2.2.1, ⟨hk.2, hk.1.2.2.2⟩⟩⟩⟩⟩)⟩, ⟨by (with_reducible repeat (first | apply Kd.V_alloc | apply Kd.V_drewN | apply Kd.V_drew)); exact Kd.V_mono HO_2.out (fun _ hk => ⟨hk.1.1, ⟨hk.1.2.1, ⟨(by simp [Value.ownBlock]), ⟨hk.1.2.2.1, ⟨hk.2, hk.1.2.2.2⟩⟩⟩⟩⟩)⟩, ⟨by (with_reducible repeat (first | apply Kd.V_alloc | apply Kd.V_drewN | apply Kd.V_drew)); exact Kd.V_mono HO_24.out (fun _ hk => ⟨hk.1.1, ⟨hk.1.2.1, ⟨(by simp [Value.ownBlock]), ⟨hk.1.2.2.1, ⟨hk.2, hk.1.2.2.2⟩⟩⟩⟩⟩)⟩, ⟨by (with_reducible repeat (first | apply Kd.S_alloc | apply Kd.S_drewN | apply Kd.S_drew)); exact Kd.S_mono HO_167002.out (fun _ hk => ⟨hk.1, ⟨(by simp [Value.ownBlock]), hk.2⟩⟩)⟩, ⟨by first | exact Kd.R_nil _ _ _ _ _ | exact Kd.N_nil _ _ _ _ _ | exact Kd.V_nil _ _ _ _ _ | exact Kd.Q_nil _ _ _ _ _ | exact Kd.S_nil _ _ _ _ _⟩, ⟨by (with_reducible repeat (first | refine b1_ ?_ _ | refine b2_ ?_ | refine b3_ ?_ _)); exact BK166.out⟩, ⟨by (with_reducible repeat (first | refine b1_ ?_ _ | refine b2_ ?_ | refine b3_ ?_ _)); exact BK171.out⟩, ⟨by repeat (first | (with_reducible first | exact HI0.out | apply IsS102.alloc | apply IsS102.drewN | apply IsS102.drew | apply IsS102.set_0 | apply IsS102.set_1 | apply IsS102.set_2 | refine IsS102.far ?_ NB0_166.out _ | refine IsS102.far ?_ NB0_171.out _) | exact HI0.out)⟩, ⟨by repeat (first | (with_reducible first | exact HK.out | apply KeepBut.set_ | apply keep_drewN | apply keep_drew | apply keep_alloc | refine keep_far ?_ GW166.out _ | refine keep_far ?_ GW171.out _) | exact HK.out)⟩, ⟨by repeat (first | (with_reducible first | exact HB.out | apply below_alloc | apply pw_below_drewN | apply below_drew1 | refine below_set ?_ (IsS102.ge HI0.out) | refine below_set ?_ GE166.out | refine below_set ?_ GE171.out) | exact HB.out)⟩⟩
      case round =>
       clear H'
       try clear c1
       try clear p1
       try clear q1
       try clear hx1
       try clear c2
       try clear p2
       try clear c3
       try clear c5
       try clear c6
       try clear c6b0
       try clear c7
       try clear c7b0
       try clear c8
       try clear c8b0
       try clear hx167_0
       try clear p167
       try clear p2
       try clear q167
       obtain ⟨x38_2, x1000_2, x1001_2, x1002_2, x172000_2, u172000, rfl, HA, HK2, HO_1, HO_2, HO_24, HO_167002, HO_172000, BK166, BK171, HI0, HK, HB⟩ := hrel
       cases gk with
       | zero => exact absurd HA.out (by simp [impl_builder_store.l1])
       | succ k2 =>
        have H := HA.out
        clear HA
        simp only [impl_builder_store.l1] at H
        by_cases c12 : x38_2 < ((rd_L8 l1 x26_1).length : Int)
        ·rw [if_pos c12] at H
         have c12b0 : decide (x38_2 < ((rd_L8 l1 x26_1).length : Int)) = true := decide_eq_true c12
         clear c12
         by_cases c13 : 0 ≤ x38_2
         ·rw [if_pos c13] at H
          have c13b0 : decide (0 ≤ x38_2) = true := decide_eq_true c13
          clear c13
          by_cases c14 : x38_2 < ((rd_L8 l1 x26_1).length : Int)
          ·rw [if_pos c14] at H
           have c14b0 : decide (x38_2 < ((rd_L8 l1 x26_1).length : Int)) = true := decide_eq_true c14
           clear c14
           replace H := Option.bind_eq_some_iff.mp H
           obtain ⟨⟨t174, t175, t176, t177⟩, A150, H⟩ := H
           replace H : ((impl_builder_signed.f t175 t176 t177 ((rd_T36 (rd_L8 l1 x26_1) x38_2).f1)).bind fun bt178 => ((impl_builder_signed.f bt178.2.1 bt178.2.2.1 bt178.2.2.2 ((rd_T36 (rd_L8 l1 x26_1) x38_2).f2)).bind fun bt182 => (if x172000_2.length < 23456248059221 then (impl_builder_store.l1 k2 l1 l2 a3 l1 (l1.length : Int) x26_1 (rd_L8 l1 x26_1) ((rd_L8 l1 x26_1).length : Int) (wrap64 (x38_2 + 1)) bt182.2.1 bt182.2.2.1 bt182.2.2.2 0 0 x167002_1 (x172000_2 ++ [(⟨t174, bt178.1, bt182.1⟩ : S184)])) else (none)))) = some (r1, r2, r3, r4, r5, r6, r7) := H
           have A15 := Aside0.mk A150
           clear A150
           replace H := Option.bind_eq_some_iff.mp H
           obtain ⟨⟨t178, t179, t180, t181⟩, A160, H⟩ := H
           replace H : ((impl_builder_signed.f t179 t180 t181 ((rd_T36 (rd_L8 l1 x26_1) x38_2).f2)).bind fun bt182 => (if x172000_2.length < 23456248059221 then (impl_builder_store.l1 k2 l1 l2 a3 l1 (l1.length : Int) x26_1 (rd_L8 l1 x26_1) ((rd_L8 l1 x26_1).length : Int) (wrap64 (x38_2 + 1)) bt182.2.1 bt182.2.2.1 bt182.2.2.2 0 0 x167002_1 (x172000_2 ++ [(⟨t174, t178, bt182.1⟩ : S184)])) else (none))) = some (r1, r2, r3, r4, r5, r6, r7) := H
           have A16 := Aside0.mk A160
           clear A160
           replace H := Option.bind_eq_some_iff.mp H
           obtain ⟨⟨t182, t183, t184, t185⟩, A170, H⟩ := H
           replace H : (if x172000_2.length < 23456248059221 then (impl_builder_store.l1 k2 l1 l2 a3 l1 (l1.length : Int) x26_1 (rd_L8 l1 x26_1) ((rd_L8 l1 x26_1).length : Int) (wrap64 (x38_2 + 1)) t183 t184 t185 0 0 x167002_1 (x172000_2 ++ [(⟨t174, t178, t182⟩ : S184)])) else (none)) = some (r1, r2, r3, r4, r5, r6, r7) := H
           have A17 := Aside0.mk A170
           clear A170
           by_cases c18 : x172000_2.length < 23456248059221
           ·rw [if_pos c18] at H
            have LMc18 := Aside0.mk c18
            clear c18
            obtain ⟨y186, hy186⟩ : ∃ y_ : List (S184), y_ = (x172000_2 ++ [(⟨t174, t178, t182⟩ : S184)]) := ⟨_, rfl⟩
            replace H : (impl_builder_store.l1 k2 l1 l2 a3 l1 (l1.length : Int) x26_1 (rd_L8 l1 x26_1) ((rd_L8 l1 x26_1).length : Int) (wrap64 (x38_2 + 1)) t183 t184 t185 0 0 x167002_1 y186) = some (r1, r2, r3, r4, r5, r6, r7) := by first | (rw [hy186]; with_reducible exact H) | (have H2_ := (Option.bind_some _ _).symm.trans H; rw [hy186]; with_reducible exact H2_) | (have H2_ := (Option.bind_some _ _).symm.trans H; with_reducible exact H2_) | with_reducible exact H | (rw [hy186]; exact H) | exact H
            have Ny186 := Aside0.mk hy186
            clear hy186
            have H' := Aside0.mk H
            clear H
            have p172 : 0 ≤ (x38_2 : Int) := of_decide_eq_true (by first | (with_reducible assumption) | assumption)
            have q172 : x38_2 < ((rd_L8 l1 x26_1).length : Int) := of_decide_eq_true (by first | (with_reducible assumption) | assumption)
            have HR167_0 := Aside0.mk (Kd.F_now (Kd.F_keep HF167_0.out HK.out (fun _ h_ => h_.2)))
            obtain ⟨ad172, e172, hx172_0, hx172_1, hx172_2⟩ := at_T36 HR167_0.out x38_2 p172 q172
            cases e172
            replace p172 := eq_true p172
            replace q172 := eq_true q172
            try go_wp2_with (first | ((with_reducible refine gate_dst (N := 13) rfl ?_); (try (refine gate_guard (by rfl) ?_; dsimp only)); refine box_event ?hg (N := 13) ?hd (cs := #[.int .i64 0, .int .i64 0, .int .i64 0]) (t := 36) ?hr ?_; (case hd => rfl); (case hg => rfl); (case hr => first | (go_simp; done) | (go_simp; rfl)); intro gb173 hg w19 hbox hb; have n0_ := Aside0.mk (Kd.V_below (Kd.V_elderB (by (with_reducible repeat (first | apply Kd.V_alloc | apply Kd.V_drewN | apply Kd.V_drew)); exact HO_1.out) gb173 (Nat.le_of_eq hg.symm)) hb); have n1_ := Aside0.mk (Kd.V_below (Kd.V_elderB (by (with_reducible repeat (first | apply Kd.V_alloc | apply Kd.V_drewN | apply Kd.V_drew)); exact HO_2.out) gb173 (Nat.le_of_eq hg.symm)) hb); have n2_ := Aside0.mk (Kd.V_below (Kd.V_elderB (by (with_reducible repeat (first | apply Kd.V_alloc | apply Kd.V_drewN | apply Kd.V_drew)); exact HO_24.out) gb173 (Nat.le_of_eq hg.symm)) hb); have n3_ := Aside0.mk (Kd.S_below (by (with_reducible repeat (first | apply Kd.S_alloc | apply Kd.S_drewN | apply Kd.S_drew)); exact HO_167002.out) hb); have n4_ := Aside0.mk (Kd.R_below (by (with_reducible repeat (first | apply Kd.R_alloc | apply Kd.R_drewN | apply Kd.R_drew)); exact HO_172000.out) hb); have n5_ := Aside0.mk (blk_below (g := gb166) (o := .cells #[.int .u16 0, .int .u16 0, u167002, .slice none 0 0] 109 (0, 0)) (by (with_reducible repeat (first | refine b1_ ?_ _ | refine b2_ ?_ | refine b3_ ?_ _)); exact BK166.out) hb); have n6_ := Aside0.mk (blk_below (g := gb171) (o := .cells #[u172000] 182 (0, 0)) (by (with_reducible repeat (first | refine b1_ ?_ _ | refine b2_ ?_ | refine b3_ ?_ _)); exact BK171.out) hb); have n7_ := Aside0.mk (IsS102.below (by repeat (first | (with_reducible first | exact HI0.out | apply IsS102.alloc | apply IsS102.drewN | apply IsS102.drew | apply IsS102.set_0 | apply IsS102.set_1 | apply IsS102.set_2 | refine IsS102.far ?_ NB0_166.out _ | refine IsS102.far ?_ NB0_171.out _) | exact HI0.out)) hb); have n8_ := Aside0.mk (KeepBut.trans (by repeat (first | (with_reducible first | exact HK.out | apply KeepBut.set_ | apply keep_drewN | apply keep_drew | apply keep_alloc | refine keep_far ?_ GW166.out _ | refine keep_far ?_ GW171.out _) | exact HK.out)) (KeepBut.of_below hb g none) (.inl rfl)); have n9_ := Aside0.mk (below_step (by repeat (first | (with_reducible first | exact HB.out | apply below_alloc | apply pw_below_drewN | apply below_drew1 | refine below_set ?_ (IsS102.ge HI0.out) | refine below_set ?_ GE166.out | refine below_set ?_ GE171.out) | exact HB.out)) hb); have n10_ := Aside0.mk (hbox); have n11_ := Aside0.mk ((by rw [hg]; exact (keep_size (w := w) (g := g) (row := none) (by repeat (first | (with_reducible first | exact HK.out | apply KeepBut.set_ | apply keep_drewN | apply keep_drew | apply keep_alloc | refine keep_far ?_ GW166.out _ | refine keep_far ?_ GW171.out _) | exact HK.out))) : w.heap.size ≤ gb173)); have n12_ := Aside0.mk ((Nat.le_trans HW0.out (by rw [hg]; exact (keep_size (w := w) (g := g) (row := none) (by repeat (first | (with_reducible first | exact HK.out | apply KeepBut.set_ | apply keep_drewN | apply keep_drew | apply keep_alloc | refine keep_far ?_ GW166.out _ | refine keep_far ?_ GW171.out _) | exact HK.out))) : w.heap.size ≤ gb173) : w0.heap.size ≤ gb173)); have n13_ := Aside0.mk ((by rw [hg]; exact Nat.ne_of_lt (blk_lt (g := gb166) (o := .cells #[.int .u16 0, .int .u16 0, u167002, .slice none 0 0] 109 (0, 0)) (by (with_reducible repeat (first | refine b1_ ?_ _ | refine b2_ ?_ | refine b3_ ?_ _)); exact BK166.out)) : gb166 ≠ gb173)); have n14_ := Aside0.mk ((by rw [hg]; exact Nat.ne_of_gt (blk_lt (g := gb166) (o := .cells #[.int .u16 0, .int .u16 0, u167002, .slice none 0 0] 109 (0, 0)) (by (with_reducible repeat (first | refine b1_ ?_ _ | refine b2_ ?_ | refine b3_ ?_ _)); exact BK166.out)) : gb173 ≠ gb166)); have n15_ := Aside0.mk ((by rw [hg]; exact Nat.ne_of_lt (blk_lt (g := gb171) (o := .cells #[u172000] 182 (0, 0)) (by (with_reducible repeat (first | refine b1_ ?_ _ | refine b2_ ?_ | refine b3_ ?_ _)); exact BK171.out)) : gb171 ≠ gb173)); have n16_ := Aside0.mk ((by rw [hg]; exact Nat.ne_of_gt (blk_lt (g := gb171) (o := .cells #[u172000] 182 (0, 0)) (by (with_reducible repeat (first | refine b1_ ?_ _ | refine b2_ ?_ | refine b3_ ?_ _)); exact BK171.out)) : gb173 ≠ gb171)); have n17_ := Aside0.mk ((by rw [hg]; exact Nat.ne_of_lt (IsS102.lt (show IsS102 w0 _ g x1000_2 x1001_2 x1002_2 from by repeat (first | (with_reducible first | exact HI0.out | apply IsS102.alloc | apply IsS102.drewN | apply IsS102.drew | apply IsS102.set_0 | apply IsS102.set_1 | apply IsS102.set_2 | refine IsS102.far ?_ NB0_166.out _ | refine IsS102.far ?_ NB0_171.out _) | exact HI0.out))) : g ≠ gb173)); have n18_ := Aside0.mk ((by rw [hg]; exact Nat.ne_of_gt (IsS102.lt (show IsS102 w0 _ g x1000_2 x1001_2 x1002_2 from by repeat (first | (with_reducible first | exact HI0.out | apply IsS102.alloc | apply IsS102.drewN | apply IsS102.drew | apply IsS102.set_0 | apply IsS102.set_1 | apply IsS102.set_2 | refine IsS102.far ?_ NB0_166.out _ | refine IsS102.far ?_ NB0_171.out _) | exact HI0.out))) : gb173 ≠ g)); clear HO_1; clear HO_2; clear HO_24; clear HO_167002; clear HO_172000; clear BK166; clear BK171; clear HI0; clear HK; clear HB; have HO_1 := n0_; have HO_2 := n1_; have HO_24 := n2_; have HO_167002 := n3_; have HO_172000 := n4_; have BK166 := n5_; have BK171 := n6_; have HI0 := n7_; have HK := n8_; have HB := n9_; have BK173 := n10_; have GW173 := n11_; have GE173 := n12_; have NB166_173 := n13_; have NB173_166 := n14_; have NB171_173 := n15_; have NB173_171 := n16_; have NB0_173 := n17_; have NB173_0 := n18_; clear n0_ n1_ n2_ n3_ n4_ n5_ n6_ n7_ n8_ n9_ n10_ n11_ n12_ n13_ n14_ n15_ n16_ n17_ n18_; clear hb hbox hg; have hnb20 := NB173_166.out; have hnc20 := NB166_173.out; have hnb21 := NB173_171.out; have hnc21 := NB171_173.out; have hnb22 := NB173_0.out; have hnc22 := NB0_173.out; have hcz23_0 : w19.cell? ⟨gb173, 0, none⟩ = some (.int .i64 0) := (blk_cell BK173.out 0).trans rfl; have hcz23_1 : w19.cell? ⟨gb173, 1, none⟩ = some (.int .i64 0) := (blk_cell BK173.out 1).trans rfl; have hcz23_2 : w19.cell? ⟨gb173, 2, none⟩ = some (.int .i64 0) := (blk_cell BK173.out 2).trans rfl; have hfz23_0 := blk_frozen BK173.out 0; have hfz23_1 := blk_frozen BK173.out 1; have hfz23_2 := blk_frozen BK173.out 2))
            have n0_ : Aside0 (Kd.V (Kd.slice 36 k36) 38 (((w19.setCell ⟨gb173, 0, none⟩ (.int .i64 ((rd_T36 (rd_L8 l1 x26_1) x38_2).f0))).setCell ⟨gb173, 1, none⟩ (.int .i64 ((rd_T36 (rd_L8 l1 x26_1) x38_2).f1))).setCell ⟨gb173, 2, none⟩ (.int .i64 ((rd_T36 (rd_L8 l1 x26_1) x38_2).f2))) w.heap.size (fun k_ => ((P1_ k_ ∨ P2_ k_) ∨ w.heap.size ≤ k_) ∧ some k_ ≠ (u167002 : Value).ownBlock ∧ some k_ ≠ (u172000 : Value).ownBlock ∧ k_ ≠ gb166 ∧ k_ ≠ gb171 ∧ k_ ≠ g ∧ k_ ≠ gb173) (.slice (some ad167) l1.length c1) l1) := ⟨by (with_reducible repeat (first | apply Kd.V_alloc | apply Kd.V_drewN | apply Kd.V_drew)); exact Kd.V_mono (Kd.V_far (p := ⟨gb173, 2, none⟩) (Kd.V_far (p := ⟨gb173, 1, none⟩) (Kd.V_far (p := ⟨gb173, 0, none⟩) (Kd.V_mono HO_1.out (fun k_ hk => (⟨hk, hk.2⟩ : _ ∧ k_ ≠ gb173))) (fun _ hk => hk.2) (.int .i64 ((rd_T36 (rd_L8 l1 x26_1) x38_2).f0))) (fun _ hk => hk.2) (.int .i64 ((rd_T36 (rd_L8 l1 x26_1) x38_2).f1))) (fun _ hk => hk.2) (.int .i64 ((rd_T36 (rd_L8 l1 x26_1) x38_2).f2))) (fun _ hk => ⟨hk.1.1.1, ⟨hk.1.1.2.1, ⟨hk.1.1.2.2.1, ⟨hk.1.1.2.2.2.1, ⟨hk.1.1.2.2.2.2.1, ⟨hk.1.1.2.2.2.2.2, hk.1.2⟩⟩⟩⟩⟩⟩)⟩
            have n1_ : Aside0 (Kd.V k41 41 (((w19.setCell ⟨gb173, 0, none⟩ (.int .i64 ((rd_T36 (rd_L8 l1 x26_1) x38_2).f0))).setCell ⟨gb173, 1, none⟩ (.int .i64 ((rd_T36 (rd_L8 l1 x26_1) x38_2).f1))).setCell ⟨gb173, 2, none⟩ (.int .i64 ((rd_T36 (rd_L8 l1 x26_1) x38_2).f2))) w.heap.size (fun k_ => ((P1_ k_ ∨ P2_ k_) ∨ w.heap.size ≤ k_) ∧ some k_ ≠ (u167002 : Value).ownBlock ∧ some k_ ≠ (u172000 : Value).ownBlock ∧ k_ ≠ gb166 ∧ k_ ≠ gb171 ∧ k_ ≠ g ∧ k_ ≠ gb173) (.slice A2 l2.length c2) l2) := ⟨by (with_reducible repeat (first | apply Kd.V_alloc | apply Kd.V_drewN | apply Kd.V_drew)); exact Kd.V_mono (Kd.V_far (p := ⟨gb173, 2, none⟩) (Kd.V_far (p := ⟨gb173, 1, none⟩) (Kd.V_far (p := ⟨gb173, 0, none⟩) (Kd.V_mono HO_2.out (fun k_ hk => (⟨hk, hk.2⟩ : _ ∧ k_ ≠ gb173))) (fun _ hk => hk.2) (.int .i64 ((rd_T36 (rd_L8 l1 x26_1) x38_2).f0))) (fun _ hk => hk.2) (.int .i64 ((rd_T36 (rd_L8 l1 x26_1) x38_2).f1))) (fun _ hk => hk.2) (.int .i64 ((rd_T36 (rd_L8 l1 x26_1) x38_2).f2))) (fun _ hk => ⟨hk.1.1.1, ⟨hk.1.1.2.1, ⟨hk.1.1.2.2.1, ⟨hk.1.1.2.2.2.1, ⟨hk.1.1.2.2.2.2.1, ⟨hk.1.1.2.2.2.2.2, hk.1.2⟩⟩⟩⟩⟩⟩)⟩
            have n2_ : Aside0 (Kd.V (Kd.slice 36 k36) 38 (((w19.setCell ⟨gb173, 0, none⟩ (.int .i64 ((rd_T36 (rd_L8 l1 x26_1) x38_2).f0))).setCell ⟨gb173, 1, none⟩ (.int .i64 ((rd_T36 (rd_L8 l1 x26_1) x38_2).f1))).setCell ⟨gb173, 2, none⟩ (.int .i64 ((rd_T36 (rd_L8 l1 x26_1) x38_2).f2))) w.heap.size (fun k_ => ((P1_ k_ ∨ P2_ k_) ∨ w.heap.size ≤ k_) ∧ some k_ ≠ (u167002 : Value).ownBlock ∧ some k_ ≠ (u172000 : Value).ownBlock ∧ k_ ≠ gb166 ∧ k_ ≠ gb171 ∧ k_ ≠ g ∧ k_ ≠ gb173) (.slice (some ad167) l1.length c1) l1) := ⟨by (with_reducible repeat (first | apply Kd.V_alloc | apply Kd.V_drewN | apply Kd.V_drew)); exact Kd.V_mono (Kd.V_far (p := ⟨gb173, 2, none⟩) (Kd.V_far (p := ⟨gb173, 1, none⟩) (Kd.V_far (p := ⟨gb173, 0, none⟩) (Kd.V_mono HO_24.out (fun k_ hk => (⟨hk, hk.2⟩ : _ ∧ k_ ≠ gb173))) (fun _ hk => hk.2) (.int .i64 ((rd_T36 (rd_L8 l1 x26_1) x38_2).f0))) (fun _ hk => hk.2) (.int .i64 ((rd_T36 (rd_L8 l1 x26_1) x38_2).f1))) (fun _ hk => hk.2) (.int .i64 ((rd_T36 (rd_L8 l1 x26_1) x38_2).f2))) (fun _ hk => ⟨hk.1.1.1, ⟨hk.1.1.2.1, ⟨hk.1.1.2.2.1, ⟨hk.1.1.2.2.2.1, ⟨hk.1.1.2.2.2.2.1, ⟨hk.1.1.2.2.2.2.2, hk.1.2⟩⟩⟩⟩⟩⟩)⟩
            have n3_ : Aside0 (Kd.S k182 182 (((w19.setCell ⟨gb173, 0, none⟩ (.int .i64 ((rd_T36 (rd_L8 l1 x26_1) x38_2).f0))).setCell ⟨gb173, 1, none⟩ (.int .i64 ((rd_T36 (rd_L8 l1 x26_1) x38_2).f1))).setCell ⟨gb173, 2, none⟩ (.int .i64 ((rd_T36 (rd_L8 l1 x26_1) x38_2).f2))) w.heap.size (fun k_ => (w.heap.size ≤ k_) ∧ some k_ ≠ (u172000 : Value).ownBlock ∧ k_ ≠ gb171) u167002 x167002_1) := ⟨by (with_reducible repeat (first | apply Kd.S_alloc | apply Kd.S_drewN | apply Kd.S_drew)); exact Kd.S_mono (Kd.S_far (p := ⟨gb173, 2, none⟩) (Kd.S_far (p := ⟨gb173, 1, none⟩) (Kd.S_far (p := ⟨gb173, 0, none⟩) (Kd.S_types HO_167002.out BK173.out (by decide)) (fun _ hk => hk.2) (.int .i64 ((rd_T36 (rd_L8 l1 x26_1) x38_2).f0))) (fun _ hk => hk.2) (.int .i64 ((rd_T36 (rd_L8 l1 x26_1) x38_2).f1))) (fun _ hk => hk.2) (.int .i64 ((rd_T36 (rd_L8 l1 x26_1) x38_2).f2))) (fun _ hk => ⟨hk.1.1, ⟨hk.1.2.1, hk.1.2.2⟩⟩)⟩
            have n4_ : Aside0 (Kd.R k184 184 (((w19.setCell ⟨gb173, 0, none⟩ (.int .i64 ((rd_T36 (rd_L8 l1 x26_1) x38_2).f0))).setCell ⟨gb173, 1, none⟩ (.int .i64 ((rd_T36 (rd_L8 l1 x26_1) x38_2).f1))).setCell ⟨gb173, 2, none⟩ (.int .i64 ((rd_T36 (rd_L8 l1 x26_1) x38_2).f2))) w.heap.size (fun k_ => (w.heap.size ≤ k_)) u172000 x172000_2) := ⟨by (with_reducible repeat (first | apply Kd.R_alloc | apply Kd.R_drewN | apply Kd.R_drew)); exact Kd.R_mono (Kd.R_far (p := ⟨gb173, 2, none⟩) (Kd.R_far (p := ⟨gb173, 1, none⟩) (Kd.R_far (p := ⟨gb173, 0, none⟩) (Kd.R_types HO_172000.out BK173.out (by decide)) (fun _ hk => hk.2) (.int .i64 ((rd_T36 (rd_L8 l1 x26_1) x38_2).f0))) (fun _ hk => hk.2) (.int .i64 ((rd_T36 (rd_L8 l1 x26_1) x38_2).f1))) (fun _ hk => hk.2) (.int .i64 ((rd_T36 (rd_L8 l1 x26_1) x38_2).f2))) (fun _ hk => hk.1)⟩
            have n5_ : Aside0 ((((w19.setCell ⟨gb173, 0, none⟩ (.int .i64 ((rd_T36 (rd_L8 l1 x26_1) x38_2).f0))).setCell ⟨gb173, 1, none⟩ (.int .i64 ((rd_T36 (rd_L8 l1 x26_1) x38_2).f1))).setCell ⟨gb173, 2, none⟩ (.int .i64 ((rd_T36 (rd_L8 l1 x26_1) x38_2).f2))).heap[gb166]? = some (.cells #[.int .u16 0, .int .u16 0, u167002, .slice none 0 0] 109 (0, 0))) := ⟨by (with_reducible repeat (first | refine b1_ ?_ _ | refine b2_ ?_ | refine b3_ ?_ _)); refine blk_far ?_ NB166_173.out _; (with_reducible repeat (first | refine b1_ ?_ _ | refine b2_ ?_ | refine b3_ ?_ _)); refine blk_far ?_ NB166_173.out _; (with_reducible repeat (first | refine b1_ ?_ _ | refine b2_ ?_ | refine b3_ ?_ _)); refine blk_far ?_ NB166_173.out _; (with_reducible repeat (first | refine b1_ ?_ _ | refine b2_ ?_ | refine b3_ ?_ _)); exact BK166.out⟩
            have n6_ : Aside0 ((((w19.setCell ⟨gb173, 0, none⟩ (.int .i64 ((rd_T36 (rd_L8 l1 x26_1) x38_2).f0))).setCell ⟨gb173, 1, none⟩ (.int .i64 ((rd_T36 (rd_L8 l1 x26_1) x38_2).f1))).setCell ⟨gb173, 2, none⟩ (.int .i64 ((rd_T36 (rd_L8 l1 x26_1) x38_2).f2))).heap[gb171]? = some (.cells #[u172000] 182 (0, 0))) := ⟨by (with_reducible repeat (first | refine b1_ ?_ _ | refine b2_ ?_ | refine b3_ ?_ _)); refine blk_far ?_ NB171_173.out _; (with_reducible repeat (first | refine b1_ ?_ _ | refine b2_ ?_ | refine b3_ ?_ _)); refine blk_far ?_ NB171_173.out _; (with_reducible repeat (first | refine b1_ ?_ _ | refine b2_ ?_ | refine b3_ ?_ _)); refine blk_far ?_ NB171_173.out _; (with_reducible repeat (first | refine b1_ ?_ _ | refine b2_ ?_ | refine b3_ ?_ _)); exact BK171.out⟩
            have n7_ : Aside0 ((((w19.setCell ⟨gb173, 0, none⟩ (.int .i64 ((rd_T36 (rd_L8 l1 x26_1) x38_2).f0))).setCell ⟨gb173, 1, none⟩ (.int .i64 ((rd_T36 (rd_L8 l1 x26_1) x38_2).f1))).setCell ⟨gb173, 2, none⟩ (.int .i64 ((rd_T36 (rd_L8 l1 x26_1) x38_2).f2))).heap[gb173]? = some (.cells #[.int .i64 ((rd_T36 (rd_L8 l1 x26_1) x38_2).f0), .int .i64 ((rd_T36 (rd_L8 l1 x26_1) x38_2).f1), .int .i64 ((rd_T36 (rd_L8 l1 x26_1) x38_2).f2)] 36 (0, 0))) := ⟨by (with_reducible repeat (first | refine b1_ ?_ _ | refine b2_ ?_ | refine b3_ ?_ _)); refine blk_put (cs := #[.int .i64 ((rd_T36 (rd_L8 l1 x26_1) x38_2).f0), .int .i64 ((rd_T36 (rd_L8 l1 x26_1) x38_2).f1), .int .i64 0]) ?_ 2 _ rfl; (with_reducible repeat (first | refine b1_ ?_ _ | refine b2_ ?_ | refine b3_ ?_ _)); refine blk_put (cs := #[.int .i64 ((rd_T36 (rd_L8 l1 x26_1) x38_2).f0), .int .i64 0, .int .i64 0]) ?_ 1 _ rfl; (with_reducible repeat (first | refine b1_ ?_ _ | refine b2_ ?_ | refine b3_ ?_ _)); refine blk_put (cs := #[.int .i64 0, .int .i64 0, .int .i64 0]) ?_ 0 _ rfl; (with_reducible repeat (first | refine b1_ ?_ _ | refine b2_ ?_ | refine b3_ ?_ _)); exact BK173.out⟩
            have n8_ : Aside0 (IsS102 w0 (((w19.setCell ⟨gb173, 0, none⟩ (.int .i64 ((rd_T36 (rd_L8 l1 x26_1) x38_2).f0))).setCell ⟨gb173, 1, none⟩ (.int .i64 ((rd_T36 (rd_L8 l1 x26_1) x38_2).f1))).setCell ⟨gb173, 2, none⟩ (.int .i64 ((rd_T36 (rd_L8 l1 x26_1) x38_2).f2))) g x1000_2 x1001_2 x1002_2) := ⟨by repeat (first | (with_reducible first | exact HI0.out | apply IsS102.alloc | apply IsS102.drewN | apply IsS102.drew | apply IsS102.set_0 | apply IsS102.set_1 | apply IsS102.set_2 | refine IsS102.far ?_ NB0_166.out _ | refine IsS102.far ?_ NB0_171.out _ | refine IsS102.far ?_ NB0_173.out _) | exact HI0.out)⟩
            have n9_ : Aside0 (KeepBut w (((w19.setCell ⟨gb173, 0, none⟩ (.int .i64 ((rd_T36 (rd_L8 l1 x26_1) x38_2).f0))).setCell ⟨gb173, 1, none⟩ (.int .i64 ((rd_T36 (rd_L8 l1 x26_1) x38_2).f1))).setCell ⟨gb173, 2, none⟩ (.int .i64 ((rd_T36 (rd_L8 l1 x26_1) x38_2).f2))) g none) := ⟨by repeat (first | (with_reducible first | exact HK.out | apply KeepBut.set_ | apply keep_drewN | apply keep_drew | apply keep_alloc | refine keep_far ?_ GW166.out _ | refine keep_far ?_ GW171.out _ | refine keep_far ?_ GW173.out _) | exact HK.out)⟩
            have n10_ : Aside0 (Below w0.heap.size w0 (((w19.setCell ⟨gb173, 0, none⟩ (.int .i64 ((rd_T36 (rd_L8 l1 x26_1) x38_2).f0))).setCell ⟨gb173, 1, none⟩ (.int .i64 ((rd_T36 (rd_L8 l1 x26_1) x38_2).f1))).setCell ⟨gb173, 2, none⟩ (.int .i64 ((rd_T36 (rd_L8 l1 x26_1) x38_2).f2)))) := ⟨by repeat (first | (with_reducible first | exact HB.out | apply below_alloc | apply pw_below_drewN | apply below_drew1 | refine below_set ?_ (IsS102.ge HI0.out) | refine below_set ?_ GE166.out | refine below_set ?_ GE171.out | refine below_set ?_ GE173.out) | exact HB.out)⟩
            (try clear HO_1)
            (try clear HO_2)
            (try clear HO_24)
            (try clear HO_167002)
            (try clear HO_172000)
            (try clear BK166)
            (try clear BK171)
            (try clear BK173)
            (try clear HI0)
            (try clear HK)
            (try clear HB)
            generalize (((w19.setCell ⟨gb173, 0, none⟩ (.int .i64 ((rd_T36 (rd_L8 l1 x26_1) x38_2).f0))).setCell ⟨gb173, 1, none⟩ (.int .i64 ((rd_T36 (rd_L8 l1 x26_1) x38_2).f1))).setCell ⟨gb173, 2, none⟩ (.int .i64 ((rd_T36 (rd_L8 l1 x26_1) x38_2).f2))) = w24 at n0_ n1_ n2_ n3_ n4_ n5_ n6_ n7_ n8_ n9_ n10_ ⊢
            have HO_1 := n0_
            have HO_2 := n1_
            have HO_24 := n2_
            have HO_167002 := n3_
            have HO_172000 := n4_
            have BK166 := n5_
            have BK171 := n6_
            have BK173 := n7_
            have HI0 := n8_
            have HK := n9_
            have HB := n10_
            clear n0_ n1_ n2_ n3_ n4_ n5_ n6_ n7_ n8_ n9_ n10_
            have n0_ := Aside0.mk (Kd.V_drew HO_1.out)
            have n1_ := Aside0.mk (Kd.V_drew HO_2.out)
            have n2_ := Aside0.mk (Kd.V_drew HO_24.out)
            have n3_ := Aside0.mk (Kd.S_drew HO_167002.out)
            have n4_ := Aside0.mk (Kd.R_drew HO_172000.out)
            have n5_ := Aside0.mk (blk_drew BK166.out)
            have n6_ := Aside0.mk (blk_drew BK171.out)
            have n7_ := Aside0.mk (blk_drew BK173.out)
            have n8_ := Aside0.mk (IsS102.drew HI0.out)
            have n9_ := Aside0.mk (keep_drew HK.out)
            have n10_ := Aside0.mk (below_drew1 HB.out)
            clear HO_1
            clear HO_2
            clear HO_24
            clear HO_167002
            clear HO_172000
            clear BK166
            clear BK171
            clear BK173
            clear HI0
            clear HK
            clear HB
            have HO_1 := n0_
            have HO_2 := n1_
            have HO_24 := n2_
            have HO_167002 := n3_
            have HO_172000 := n4_
            have BK166 := n5_
            have BK171 := n6_
            have BK173 := n7_
            have HI0 := n8_
            have HK := n9_
            have HB := n10_
            clear n0_ n1_ n2_ n3_ n4_ n5_ n6_ n7_ n8_ n9_ n10_
            refine start_ (n := 19) (S := fun w' => w'.cell? ⟨gb171, 0, none⟩ = some (u172000) ∧ w'.cell? ⟨gb173, 0, none⟩ = some (.int .i64 ((rd_T36 (rd_L8 l1 x26_1) x38_2).f0)) ∧ w'.cell? ⟨gb173, 1, none⟩ = some (.int .i64 ((rd_T36 (rd_L8 l1 x26_1) x38_2).f1)) ∧ w'.cell? ⟨gb173, 2, none⟩ = some (.int .i64 ((rd_T36 (rd_L8 l1 x26_1) x38_2).f2))) (ds := [18]) #[ff,ff,ff,ff,ff,ff,ff,ff,ff,ff,ff,ff,ff,ff,ff,ff,ff,ff,ff] (by kernel_rfl) rfl rfl ⟨(blk_cell BK171.out 0).trans rfl, (blk_cell BK173.out 0).trans rfl, (blk_cell BK173.out 1).trans rfl, (blk_cell BK173.out 2).trans rfl⟩ (fun hHeld => ?_); refine with_tabW impl_builder_store.tab9 impl_builder_store.bits9 (fun HT_ HW_ => ?_)
            generalize w24.drew = w25 at HO_1 HO_2 HO_24 HO_167002 HO_172000 BK166 BK171 BK173 HI0 HK HB hHeld ⊢
            refine pure_ (i := 0) (N := some 42) (v := ?_) (a' := ?_) #[tt,ff,ff,ff,ff,ff,ff,ff,ff,ff,ff,ff,ff,ff,ff,ff,ff,ff,ff] rfl rfl (any_of HT_.out (by kernel_rfl)) (fun _ _ _ h => h) (Or.inl ⟨by rfl, ?_⟩) ?_ ?_
            rotate_left
            ·intro w'
             go_simp
             with_reducible rfl
            rotate_left
            ·simp only [Act.put, L1_, L2_, L3_, i64_w, i32_w]
             rfl
            refine pure_ (i := 2) (N := some 44) (v := ?_) (a' := ?_) #[tt,ff,tt,ff,ff,ff,ff,ff,ff,ff,ff,ff,ff,ff,ff,ff,ff,ff,ff] rfl rfl (any_of HT_.out (by kernel_rfl)) (fun _ _ _ h => h) (Or.inl ⟨by rfl, ?_⟩) ?_ ?_
            rotate_left
            ·intro w'
             go_simp
             with_reducible rfl
            rotate_left
            ·simp only [Act.put, L1_, L2_, L3_, i64_w, i32_w]
             rfl
            refine pure_ (i := 3) (N := some 45) (v := ?_) (a' := ?_) #[tt,ff,tt,tt,ff,ff,ff,ff,ff,ff,ff,ff,ff,ff,ff,ff,ff,ff,ff] rfl rfl (any_of HT_.out (by kernel_rfl)) (fun _ _ _ h => h) (Or.inl ⟨by rfl, ?_⟩) ?_ ?_
            rotate_left
            ·intro w'
             go_simp
             with_reducible rfl
            rotate_left
            ·simp only [Act.put, L1_, L2_, L3_, i64_w, i32_w]
             rfl
            refine pure_ (i := 6) (N := some 48) (v := ?_) (a' := ?_) #[tt,ff,tt,tt,ff,ff,tt,ff,ff,ff,ff,ff,ff,ff,ff,ff,ff,ff,ff] rfl rfl (any_of HT_.out (by kernel_rfl)) (fun _ _ _ h => h) (Or.inl ⟨by rfl, ?_⟩) ?_ ?_
            rotate_left
            ·intro w'
             go_simp
             with_reducible rfl
            rotate_left
            ·simp only [Act.put, L1_, L2_, L3_, i64_w, i32_w]
             rfl
            refine pure_ (i := 7) (N := some 49) (v := ?_) (a' := ?_) #[tt,ff,tt,tt,ff,ff,tt,tt,ff,ff,ff,ff,ff,ff,ff,ff,ff,ff,ff] rfl rfl (any_of HT_.out (by kernel_rfl)) (fun _ _ _ h => h) (Or.inl ⟨by rfl, ?_⟩) ?_ ?_
            rotate_left
            ·intro w'
             go_simp
             with_reducible rfl
            rotate_left
            ·simp only [Act.put, L1_, L2_, L3_, i64_w, i32_w]
             rfl
            refine pure_ (i := 10) (N := some 52) (v := ?_) (a' := ?_) #[tt,ff,tt,tt,ff,ff,tt,tt,ff,ff,tt,ff,ff,ff,ff,ff,ff,ff,ff] rfl rfl (any_of HT_.out (by kernel_rfl)) (fun _ _ _ h => h) (Or.inl ⟨by rfl, ?_⟩) ?_ ?_
            rotate_left
            ·intro w'
             go_simp
             with_reducible rfl
            rotate_left
            ·simp only [Act.put, L1_, L2_, L3_, i64_w, i32_w]
             rfl
            refine pure_ (i := 11) (N := some 53) (v := ?_) (a' := ?_) #[tt,ff,tt,tt,ff,ff,tt,tt,ff,ff,tt,tt,ff,ff,ff,ff,ff,ff,ff] rfl rfl (any_of HT_.out (by kernel_rfl)) (fun _ _ _ h => h) (Or.inl ⟨by rfl, ?_⟩) ?_ ?_
            rotate_left
            ·intro w'
             go_simp
             with_reducible rfl
            rotate_left
            ·simp only [Act.put, L1_, L2_, L3_, i64_w, i32_w]
             rfl
            refine take_ (i := 1) (N := some 43) (v := ?_) (a' := ?_) #[tt,tt,tt,tt,ff,ff,tt,tt,ff,ff,tt,tt,ff,ff,ff,ff,ff,ff,ff] rfl rfl (take_ofW HT_.out HW_.out (by kernel_rfl)) (fun _ _ _ h => h) (Or.inl ⟨by rfl, ?_⟩) hHeld ?_ ?_
            rotate_left
            ·rintro w' ⟨s0, s1, s2, s3⟩
             go_simp
             with_reducible rfl
            rotate_left
            ·simp only [Act.put, L1_, L2_, L3_, i64_w, i32_w]
             rfl
            refine take_ (i := 4) (N := some 46) (v := ?_) (a' := ?_) #[tt,tt,tt,tt,tt,ff,tt,tt,ff,ff,tt,tt,ff,ff,ff,ff,ff,ff,ff] rfl rfl (take_ofW HT_.out HW_.out (by kernel_rfl)) (fun _ _ _ h => h) (Or.inl ⟨by rfl, ?_⟩) hHeld ?_ ?_
            rotate_left
            ·rintro w' ⟨s0, s1, s2, s3⟩
             go_simp
             with_reducible rfl
            rotate_left
            ·simp only [Act.put, L1_, L2_, L3_, i64_w, i32_w]
             rfl
            refine take_ (i := 8) (N := some 50) (v := ?_) (a' := ?_) #[tt,tt,tt,tt,tt,ff,tt,tt,tt,ff,tt,tt,ff,ff,ff,ff,ff,ff,ff] rfl rfl (take_ofW HT_.out HW_.out (by kernel_rfl)) (fun _ _ _ h => h) (Or.inl ⟨by rfl, ?_⟩) hHeld ?_ ?_
            rotate_left
            ·rintro w' ⟨s0, s1, s2, s3⟩
             go_simp
             with_reducible rfl
            rotate_left
            ·simp only [Act.put, L1_, L2_, L3_, i64_w, i32_w]
             rfl
            refine take_ (i := 12) (N := some 54) (v := ?_) (a' := ?_) #[tt,tt,tt,tt,tt,ff,tt,tt,tt,ff,tt,tt,tt,ff,ff,ff,ff,ff,ff] rfl rfl (take_ofW HT_.out HW_.out (by kernel_rfl)) (fun _ _ _ h => h) (Or.inl ⟨by rfl, ?_⟩) hHeld ?_ ?_
            rotate_left
            ·rintro w' ⟨s0, s1, s2, s3⟩
             go_simp
             with_reducible rfl
            rotate_left
            ·simp only [Act.put, L1_, L2_, L3_, i64_w, i32_w]
             rfl
            refine one_ (i := 5) (N := some 47) #[tt,tt,tt,tt,tt,tt,tt,tt,tt,ff,tt,tt,tt,ff,ff,ff,ff,ff,ff] rfl rfl (one_of HT_.out (by kernel_rfl)) (by decide) (fun K hK => ?_)
            refine goes_ Try.func51 (by kernel_rfl) rfl #[.pointer (some ⟨g, 0, none⟩), .int .i64 ((rd_T36 (rd_L8 l1 x26_1) x38_2).f0)] (by rfl) rfl rfl (by (try simp only [List.map_toArray, List.map_cons, List.map_nil]); first | done | rfl | (simp only [List.length_drop, List.length_take]; rfl)) ?_
            with_reducible refine (impl_builder_signed.calls g x1000_2 x1001_2 x1002_2 ((rd_T36 (rd_L8 l1 x26_1) x38_2).f0) t174 t175 t176 t177 w0 _ ?side1 ?side2 A15.out).mono ?_
            (case side1 => repeat (first | (with_reducible first | exact HI0.out | apply IsS102.alloc | apply IsS102.drewN | apply IsS102.drew | apply IsS102.set_0 | apply IsS102.set_1 | apply IsS102.set_2 | refine IsS102.far ?_ NB0_166.out _ | refine IsS102.far ?_ NB0_171.out _ | refine IsS102.far ?_ NB0_173.out _) | exact HI0.out))
            (case side2 => repeat (first | (with_reducible first | exact HB.out | apply below_alloc | apply pw_below_drewN | apply below_drew1 | refine below_set ?_ (IsS102.ge HI0.out) | refine below_set ?_ GE166.out | refine below_set ?_ GE171.out | refine below_set ?_ GE173.out) | exact HB.out))
            rintro e w26 ⟨rfl, hi, hb, hk⟩
            refine ⟨_, rfl, ?_⟩
            have n0_ := Aside0.mk (Kd.V_mono (Kd.V_keep (Kd.V_mono (ok := fun k_ => ((((P1_ k_ ∨ P2_ k_) ∨ w.heap.size ≤ k_)) ∧ (some k_ ≠ (u167002 : Value).ownBlock ∧ (some k_ ≠ (u172000 : Value).ownBlock ∧ (k_ ≠ gb166 ∧ (k_ ≠ gb171 ∧ (k_ ≠ g ∧ k_ ≠ gb173))))))) (by (with_reducible repeat (first | apply Kd.V_alloc | apply Kd.V_drewN | apply Kd.V_drew)); exact HO_1.out) (fun k_ hk_ => (⟨hk_, hk_.2.2.2.2.2.1⟩ : _ ∧ k_ ≠ g))) hk (fun _ h => h.2)) (fun _ h => h.1))
            have n1_ := Aside0.mk (Kd.V_mono (Kd.V_keep (Kd.V_mono (ok := fun k_ => ((((P1_ k_ ∨ P2_ k_) ∨ w.heap.size ≤ k_)) ∧ (some k_ ≠ (u167002 : Value).ownBlock ∧ (some k_ ≠ (u172000 : Value).ownBlock ∧ (k_ ≠ gb166 ∧ (k_ ≠ gb171 ∧ (k_ ≠ g ∧ k_ ≠ gb173))))))) (by (with_reducible repeat (first | apply Kd.V_alloc | apply Kd.V_drewN | apply Kd.V_drew)); exact HO_2.out) (fun k_ hk_ => (⟨hk_, hk_.2.2.2.2.2.1⟩ : _ ∧ k_ ≠ g))) hk (fun _ h => h.2)) (fun _ h => h.1))
            have n2_ := Aside0.mk (Kd.V_mono (Kd.V_keep (Kd.V_mono (ok := fun k_ => ((((P1_ k_ ∨ P2_ k_) ∨ w.heap.size ≤ k_)) ∧ (some k_ ≠ (u167002 : Value).ownBlock ∧ (some k_ ≠ (u172000 : Value).ownBlock ∧ (k_ ≠ gb166 ∧ (k_ ≠ gb171 ∧ (k_ ≠ g ∧ k_ ≠ gb173))))))) (by (with_reducible repeat (first | apply Kd.V_alloc | apply Kd.V_drewN | apply Kd.V_drew)); exact HO_24.out) (fun k_ hk_ => (⟨hk_, hk_.2.2.2.2.2.1⟩ : _ ∧ k_ ≠ g))) hk (fun _ h => h.2)) (fun _ h => h.1))
            have n3_ := Aside0.mk (Kd.S_mono (Kd.S_keep (IsS102.apartS (show IsS102 w0 _ g x1000_2 x1001_2 x1002_2 from by repeat (first | (with_reducible first | exact HI0.out | apply IsS102.alloc | apply IsS102.drewN | apply IsS102.drew | apply IsS102.set_0 | apply IsS102.set_1 | apply IsS102.set_2 | refine IsS102.far ?_ NB0_166.out _ | refine IsS102.far ?_ NB0_171.out _ | refine IsS102.far ?_ NB0_173.out _) | exact HI0.out)) (by (with_reducible repeat (first | apply Kd.S_alloc | apply Kd.S_drewN | apply Kd.S_drew)); exact HO_167002.out) (by decide)) hk (fun _ h => h.2)) (fun _ h => h.1))
            have n4_ := Aside0.mk (Kd.R_mono (Kd.R_keep (IsS102.apart (show IsS102 w0 _ g x1000_2 x1001_2 x1002_2 from by repeat (first | (with_reducible first | exact HI0.out | apply IsS102.alloc | apply IsS102.drewN | apply IsS102.drew | apply IsS102.set_0 | apply IsS102.set_1 | apply IsS102.set_2 | refine IsS102.far ?_ NB0_166.out _ | refine IsS102.far ?_ NB0_171.out _ | refine IsS102.far ?_ NB0_173.out _) | exact HI0.out)) (by (with_reducible repeat (first | apply Kd.R_alloc | apply Kd.R_drewN | apply Kd.R_drew)); exact HO_172000.out) (by decide)) hk (fun _ h => h.2)) (fun _ h => h.1))
            have n5_ := Aside0.mk (KeepBut.blk hk (g' := gb166) (o := .cells #[.int .u16 0, .int .u16 0, u167002, .slice none 0 0] 109 (0, 0)) (by (with_reducible repeat (first | refine b1_ ?_ _ | refine b2_ ?_ | refine b3_ ?_ _)); exact BK166.out) NB166_0.out (by simp))
            have n6_ := Aside0.mk (KeepBut.blk hk (g' := gb171) (o := .cells #[u172000] 182 (0, 0)) (by (with_reducible repeat (first | refine b1_ ?_ _ | refine b2_ ?_ | refine b3_ ?_ _)); exact BK171.out) NB171_0.out (by simp))
            have n7_ := Aside0.mk (KeepBut.blk hk (g' := gb173) (o := .cells #[.int .i64 ((rd_T36 (rd_L8 l1 x26_1) x38_2).f0), .int .i64 ((rd_T36 (rd_L8 l1 x26_1) x38_2).f1), .int .i64 ((rd_T36 (rd_L8 l1 x26_1) x38_2).f2)] 36 (0, 0)) (by (with_reducible repeat (first | refine b1_ ?_ _ | refine b2_ ?_ | refine b3_ ?_ _)); exact BK173.out) NB173_0.out (by simp))
            have n8_ := Aside0.mk (KeepBut.trans (by repeat (first | (with_reducible first | exact HK.out | apply KeepBut.set_ | apply keep_drewN | apply keep_drew | apply keep_alloc | refine keep_far ?_ GW166.out _ | refine keep_far ?_ GW171.out _ | refine keep_far ?_ GW173.out _) | exact HK.out)) hk (.inl rfl))
            have n9_ := Aside0.mk (hb)
            have n10_ := Aside0.mk (hi)
            clear HO_1
            clear HO_2
            clear HO_24
            clear HO_167002
            clear HO_172000
            clear BK166
            clear BK171
            clear BK173
            clear HK
            clear HB
            clear HI0
            have HO_1 := n0_
            have HO_2 := n1_
            have HO_24 := n2_
            have HO_167002 := n3_
            have HO_172000 := n4_
            have BK166 := n5_
            have BK171 := n6_
            have BK173 := n7_
            have HK := n8_
            have HB := n9_
            have HI0 := n10_
            clear n0_ n1_ n2_ n3_ n4_ n5_ n6_ n7_ n8_ n9_ n10_
            (try clear hb)
            (try clear hb2)
            (try clear hk)
            (try clear hi)
            refine hK.out _ _ ⟨(blk_cell BK171.out 0).trans rfl, (blk_cell BK173.out 0).trans rfl, (blk_cell BK173.out 1).trans rfl, (blk_cell BK173.out 2).trans rfl⟩ (fun hHeld => ?_)
            clear hK K
            refine norm_ (a' := ?_) ?_ ?_
            rotate_left
            ·show Act.put _ (some 47) _ = _
             simp only [Act.put, L1_, L2_, L3_, i64_w, i32_w]
             rfl
            refine one_ (i := 9) (N := some 51) #[tt,tt,tt,tt,tt,tt,tt,tt,tt,tt,tt,tt,tt,ff,ff,ff,ff,ff,ff] rfl rfl (one_of HT_.out (by kernel_rfl)) (by decide) (fun K hK => ?_)
            refine goes_ Try.func51 (by kernel_rfl) rfl #[.pointer (some ⟨g, 0, none⟩), .int .i64 ((rd_T36 (rd_L8 l1 x26_1) x38_2).f1)] (by rfl) rfl rfl (by (try simp only [List.map_toArray, List.map_cons, List.map_nil]); first | done | rfl | (simp only [List.length_drop, List.length_take]; rfl)) ?_
            with_reducible refine (impl_builder_signed.calls g t175 t176 t177 ((rd_T36 (rd_L8 l1 x26_1) x38_2).f1) t178 t179 t180 t181 w0 _ ?side1 ?side2 A16.out).mono ?_
            (case side1 => repeat (first | (with_reducible first | exact HI0.out | apply IsS102.alloc | apply IsS102.drewN | apply IsS102.drew | apply IsS102.set_0 | apply IsS102.set_1 | apply IsS102.set_2 | refine IsS102.far ?_ NB0_166.out _ | refine IsS102.far ?_ NB0_171.out _ | refine IsS102.far ?_ NB0_173.out _) | exact HI0.out))
            (case side2 => repeat (first | (with_reducible first | exact HB.out | apply below_alloc | apply pw_below_drewN | apply below_drew1 | refine below_set ?_ (IsS102.ge HI0.out) | refine below_set ?_ GE166.out | refine below_set ?_ GE171.out | refine below_set ?_ GE173.out) | exact HB.out))
            rintro e w27 ⟨rfl, hi, hb, hk⟩
            refine ⟨_, rfl, ?_⟩
            have n0_ := Aside0.mk (Kd.V_mono (Kd.V_keep (Kd.V_mono (ok := fun k_ => ((((P1_ k_ ∨ P2_ k_) ∨ w.heap.size ≤ k_)) ∧ (some k_ ≠ (u167002 : Value).ownBlock ∧ (some k_ ≠ (u172000 : Value).ownBlock ∧ (k_ ≠ gb166 ∧ (k_ ≠ gb171 ∧ (k_ ≠ g ∧ k_ ≠ gb173))))))) (by (with_reducible repeat (first | apply Kd.V_alloc | apply Kd.V_drewN | apply Kd.V_drew)); exact HO_1.out) (fun k_ hk_ => (⟨hk_, hk_.2.2.2.2.2.1⟩ : _ ∧ k_ ≠ g))) hk (fun _ h => h.2)) (fun _ h => h.1))
            have n1_ := Aside0.mk (Kd.V_mono (Kd.V_keep (Kd.V_mono (ok := fun k_ => ((((P1_ k_ ∨ P2_ k_) ∨ w.heap.size ≤ k_)) ∧ (some k_ ≠ (u167002 : Value).ownBlock ∧ (some k_ ≠ (u172000 : Value).ownBlock ∧ (k_ ≠ gb166 ∧ (k_ ≠ gb171 ∧ (k_ ≠ g ∧ k_ ≠ gb173))))))) (by (with_reducible repeat (first | apply Kd.V_alloc | apply Kd.V_drewN | apply Kd.V_drew)); exact HO_2.out) (fun k_ hk_ => (⟨hk_, hk_.2.2.2.2.2.1⟩ : _ ∧ k_ ≠ g))) hk (fun _ h => h.2)) (fun _ h => h.1))
            have n2_ := Aside0.mk (Kd.V_mono (Kd.V_keep (Kd.V_mono (ok := fun k_ => ((((P1_ k_ ∨ P2_ k_) ∨ w.heap.size ≤ k_)) ∧ (some k_ ≠ (u167002 : Value).ownBlock ∧ (some k_ ≠ (u172000 : Value).ownBlock ∧ (k_ ≠ gb166 ∧ (k_ ≠ gb171 ∧ (k_ ≠ g ∧ k_ ≠ gb173))))))) (by (with_reducible repeat (first | apply Kd.V_alloc | apply Kd.V_drewN | apply Kd.V_drew)); exact HO_24.out) (fun k_ hk_ => (⟨hk_, hk_.2.2.2.2.2.1⟩ : _ ∧ k_ ≠ g))) hk (fun _ h => h.2)) (fun _ h => h.1))
            have n3_ := Aside0.mk (Kd.S_mono (Kd.S_keep (IsS102.apartS (show IsS102 w0 _ g t175 t176 t177 from by repeat (first | (with_reducible first | exact HI0.out | apply IsS102.alloc | apply IsS102.drewN | apply IsS102.drew | apply IsS102.set_0 | apply IsS102.set_1 | apply IsS102.set_2 | refine IsS102.far ?_ NB0_166.out _ | refine IsS102.far ?_ NB0_171.out _ | refine IsS102.far ?_ NB0_173.out _) | exact HI0.out)) (by (with_reducible repeat (first | apply Kd.S_alloc | apply Kd.S_drewN | apply Kd.S_drew)); exact HO_167002.out) (by decide)) hk (fun _ h => h.2)) (fun _ h => h.1))
            have n4_ := Aside0.mk (Kd.R_mono (Kd.R_keep (IsS102.apart (show IsS102 w0 _ g t175 t176 t177 from by repeat (first | (with_reducible first | exact HI0.out | apply IsS102.alloc | apply IsS102.drewN | apply IsS102.drew | apply IsS102.set_0 | apply IsS102.set_1 | apply IsS102.set_2 | refine IsS102.far ?_ NB0_166.out _ | refine IsS102.far ?_ NB0_171.out _ | refine IsS102.far ?_ NB0_173.out _) | exact HI0.out)) (by (with_reducible repeat (first | apply Kd.R_alloc | apply Kd.R_drewN | apply Kd.R_drew)); exact HO_172000.out) (by decide)) hk (fun _ h => h.2)) (fun _ h => h.1))
            have n5_ := Aside0.mk (KeepBut.blk hk (g' := gb166) (o := .cells #[.int .u16 0, .int .u16 0, u167002, .slice none 0 0] 109 (0, 0)) (by (with_reducible repeat (first | refine b1_ ?_ _ | refine b2_ ?_ | refine b3_ ?_ _)); exact BK166.out) NB166_0.out (by simp))
            have n6_ := Aside0.mk (KeepBut.blk hk (g' := gb171) (o := .cells #[u172000] 182 (0, 0)) (by (with_reducible repeat (first | refine b1_ ?_ _ | refine b2_ ?_ | refine b3_ ?_ _)); exact BK171.out) NB171_0.out (by simp))
            have n7_ := Aside0.mk (KeepBut.blk hk (g' := gb173) (o := .cells #[.int .i64 ((rd_T36 (rd_L8 l1 x26_1) x38_2).f0), .int .i64 ((rd_T36 (rd_L8 l1 x26_1) x38_2).f1), .int .i64 ((rd_T36 (rd_L8 l1 x26_1) x38_2).f2)] 36 (0, 0)) (by (with_reducible repeat (first | refine b1_ ?_ _ | refine b2_ ?_ | refine b3_ ?_ _)); exact BK173.out) NB173_0.out (by simp))
            have n8_ := Aside0.mk (KeepBut.trans (by repeat (first | (with_reducible first | exact HK.out | apply KeepBut.set_ | apply keep_drewN | apply keep_drew | apply keep_alloc | refine keep_far ?_ GW166.out _ | refine keep_far ?_ GW171.out _ | refine keep_far ?_ GW173.out _) | exact HK.out)) hk (.inl rfl))
            have n9_ := Aside0.mk (hb)
            have n10_ := Aside0.mk (hi)
            clear HO_1
            clear HO_2
            clear HO_24
            clear HO_167002
            clear HO_172000
            clear BK166
            clear BK171
            clear BK173
            clear HK
            clear HB
            clear HI0
            have HO_1 := n0_
            have HO_2 := n1_
            have HO_24 := n2_
            have HO_167002 := n3_
            have HO_172000 := n4_
            have BK166 := n5_
            have BK171 := n6_
            have BK173 := n7_
            have HK := n8_
            have HB := n9_
            have HI0 := n10_
            clear n0_ n1_ n2_ n3_ n4_ n5_ n6_ n7_ n8_ n9_ n10_
            (try clear hb)
            (try clear hb2)
            (try clear hk)
            (try clear hi)
            refine hK.out _ _ ⟨(blk_cell BK171.out 0).trans rfl, (blk_cell BK173.out 0).trans rfl, (blk_cell BK173.out 1).trans rfl, (blk_cell BK173.out 2).trans rfl⟩ (fun hHeld => ?_)
            clear hK K
            refine norm_ (a' := ?_) ?_ ?_
            rotate_left
            ·show Act.put _ (some 51) _ = _
             simp only [Act.put, L1_, L2_, L3_, i64_w, i32_w]
             rfl
            refine one_ (i := 13) (N := some 55) #[tt,tt,tt,tt,tt,tt,tt,tt,tt,tt,tt,tt,tt,tt,ff,ff,ff,ff,ff] rfl rfl (one_of HT_.out (by kernel_rfl)) (by decide) (fun K hK => ?_)
            refine goes_ Try.func51 (by kernel_rfl) rfl #[.pointer (some ⟨g, 0, none⟩), .int .i64 ((rd_T36 (rd_L8 l1 x26_1) x38_2).f2)] (by rfl) rfl rfl (by (try simp only [List.map_toArray, List.map_cons, List.map_nil]); first | done | rfl | (simp only [List.length_drop, List.length_take]; rfl)) ?_
            with_reducible refine (impl_builder_signed.calls g t179 t180 t181 ((rd_T36 (rd_L8 l1 x26_1) x38_2).f2) t182 t183 t184 t185 w0 _ ?side1 ?side2 A17.out).mono ?_
            (case side1 => repeat (first | (with_reducible first | exact HI0.out | apply IsS102.alloc | apply IsS102.drewN | apply IsS102.drew | apply IsS102.set_0 | apply IsS102.set_1 | apply IsS102.set_2 | refine IsS102.far ?_ NB0_166.out _ | refine IsS102.far ?_ NB0_171.out _ | refine IsS102.far ?_ NB0_173.out _) | exact HI0.out))
            (case side2 => repeat (first | (with_reducible first | exact HB.out | apply below_alloc | apply pw_below_drewN | apply below_drew1 | refine below_set ?_ (IsS102.ge HI0.out) | refine below_set ?_ GE166.out | refine below_set ?_ GE171.out | refine below_set ?_ GE173.out) | exact HB.out))
            rintro e w28 ⟨rfl, hi, hb, hk⟩
            refine ⟨_, rfl, ?_⟩
            have n0_ := Aside0.mk (Kd.V_mono (Kd.V_keep (Kd.V_mono (ok := fun k_ => ((((P1_ k_ ∨ P2_ k_) ∨ w.heap.size ≤ k_)) ∧ (some k_ ≠ (u167002 : Value).ownBlock ∧ (some k_ ≠ (u172000 : Value).ownBlock ∧ (k_ ≠ gb166 ∧ (k_ ≠ gb171 ∧ (k_ ≠ g ∧ k_ ≠ gb173))))))) (by (with_reducible repeat (first | apply Kd.V_alloc | apply Kd.V_drewN | apply Kd.V_drew)); exact HO_1.out) (fun k_ hk_ => (⟨hk_, hk_.2.2.2.2.2.1⟩ : _ ∧ k_ ≠ g))) hk (fun _ h => h.2)) (fun _ h => h.1))
            have n1_ := Aside0.mk (Kd.V_mono (Kd.V_keep (Kd.V_mono (ok := fun k_ => ((((P1_ k_ ∨ P2_ k_) ∨ w.heap.size ≤ k_)) ∧ (some k_ ≠ (u167002 : Value).ownBlock ∧ (some k_ ≠ (u172000 : Value).ownBlock ∧ (k_ ≠ gb166 ∧ (k_ ≠ gb171 ∧ (k_ ≠ g ∧ k_ ≠ gb173))))))) (by (with_reducible repeat (first | apply Kd.V_alloc | apply Kd.V_drewN | apply Kd.V_drew)); exact HO_2.out) (fun k_ hk_ => (⟨hk_, hk_.2.2.2.2.2.1⟩ : _ ∧ k_ ≠ g))) hk (fun _ h => h.2)) (fun _ h => h.1))
            have n2_ := Aside0.mk (Kd.V_mono (Kd.V_keep (Kd.V_mono (ok := fun k_ => ((((P1_ k_ ∨ P2_ k_) ∨ w.heap.size ≤ k_)) ∧ (some k_ ≠ (u167002 : Value).ownBlock ∧ (some k_ ≠ (u172000 : Value).ownBlock ∧ (k_ ≠ gb166 ∧ (k_ ≠ gb171 ∧ (k_ ≠ g ∧ k_ ≠ gb173))))))) (by (with_reducible repeat (first | apply Kd.V_alloc | apply Kd.V_drewN | apply Kd.V_drew)); exact HO_24.out) (fun k_ hk_ => (⟨hk_, hk_.2.2.2.2.2.1⟩ : _ ∧ k_ ≠ g))) hk (fun _ h => h.2)) (fun _ h => h.1))
            have n3_ := Aside0.mk (Kd.S_mono (Kd.S_keep (IsS102.apartS (show IsS102 w0 _ g t179 t180 t181 from by repeat (first | (with_reducible first | exact HI0.out | apply IsS102.alloc | apply IsS102.drewN | apply IsS102.drew | apply IsS102.set_0 | apply IsS102.set_1 | apply IsS102.set_2 | refine IsS102.far ?_ NB0_166.out _ | refine IsS102.far ?_ NB0_171.out _ | refine IsS102.far ?_ NB0_173.out _) | exact HI0.out)) (by (with_reducible repeat (first | apply Kd.S_alloc | apply Kd.S_drewN | apply Kd.S_drew)); exact HO_167002.out) (by decide)) hk (fun _ h => h.2)) (fun _ h => h.1))
            have n4_ := Aside0.mk (Kd.R_mono (Kd.R_keep (IsS102.apart (show IsS102 w0 _ g t179 t180 t181 from by repeat (first | (with_reducible first | exact HI0.out | apply IsS102.alloc | apply IsS102.drewN | apply IsS102.drew | apply IsS102.set_0 | apply IsS102.set_1 | apply IsS102.set_2 | refine IsS102.far ?_ NB0_166.out _ | refine IsS102.far ?_ NB0_171.out _ | refine IsS102.far ?_ NB0_173.out _) | exact HI0.out)) (by (with_reducible repeat (first | apply Kd.R_alloc | apply Kd.R_drewN | apply Kd.R_drew)); exact HO_172000.out) (by decide)) hk (fun _ h => h.2)) (fun _ h => h.1))
            have n5_ := Aside0.mk (KeepBut.blk hk (g' := gb166) (o := .cells #[.int .u16 0, .int .u16 0, u167002, .slice none 0 0] 109 (0, 0)) (by (with_reducible repeat (first | refine b1_ ?_ _ | refine b2_ ?_ | refine b3_ ?_ _)); exact BK166.out) NB166_0.out (by simp))
            have n6_ := Aside0.mk (KeepBut.blk hk (g' := gb171) (o := .cells #[u172000] 182 (0, 0)) (by (with_reducible repeat (first | refine b1_ ?_ _ | refine b2_ ?_ | refine b3_ ?_ _)); exact BK171.out) NB171_0.out (by simp))
            have n7_ := Aside0.mk (KeepBut.blk hk (g' := gb173) (o := .cells #[.int .i64 ((rd_T36 (rd_L8 l1 x26_1) x38_2).f0), .int .i64 ((rd_T36 (rd_L8 l1 x26_1) x38_2).f1), .int .i64 ((rd_T36 (rd_L8 l1 x26_1) x38_2).f2)] 36 (0, 0)) (by (with_reducible repeat (first | refine b1_ ?_ _ | refine b2_ ?_ | refine b3_ ?_ _)); exact BK173.out) NB173_0.out (by simp))
            have n8_ := Aside0.mk (KeepBut.trans (by repeat (first | (with_reducible first | exact HK.out | apply KeepBut.set_ | apply keep_drewN | apply keep_drew | apply keep_alloc | refine keep_far ?_ GW166.out _ | refine keep_far ?_ GW171.out _ | refine keep_far ?_ GW173.out _) | exact HK.out)) hk (.inl rfl))
            have n9_ := Aside0.mk (hb)
            have n10_ := Aside0.mk (hi)
            clear HO_1
            clear HO_2
            clear HO_24
            clear HO_167002
            clear HO_172000
            clear BK166
            clear BK171
            clear BK173
            clear HK
            clear HB
            clear HI0
            have HO_1 := n0_
            have HO_2 := n1_
            have HO_24 := n2_
            have HO_167002 := n3_
            have HO_172000 := n4_
            have BK166 := n5_
            have BK171 := n6_
            have BK173 := n7_
            have HK := n8_
            have HB := n9_
            have HI0 := n10_
            clear n0_ n1_ n2_ n3_ n4_ n5_ n6_ n7_ n8_ n9_ n10_
            (try clear hb)
            (try clear hb2)
            (try clear hk)
            (try clear hi)
            refine hK.out _ _ ⟨(blk_cell BK171.out 0).trans rfl, (blk_cell BK173.out 0).trans rfl, (blk_cell BK173.out 1).trans rfl, (blk_cell BK173.out 2).trans rfl⟩ (fun hHeld => ?_)
            clear hK K
            refine norm_ (a' := ?_) ?_ ?_
            rotate_left
            ·show Act.put _ (some 55) _ = _
             simp only [Act.put, L1_, L2_, L3_, i64_w, i32_w]
             rfl
            refine pure_ (i := 14) (N := some 56) (v := ?_) (a' := ?_) #[tt,tt,tt,tt,tt,tt,tt,tt,tt,tt,tt,tt,tt,tt,tt,ff,ff,ff,ff] rfl rfl (any_of HT_.out (by kernel_rfl)) (fun _ _ _ h => h) (Or.inl ⟨by rfl, ?_⟩) ?_ ?_
            rotate_left
            ·intro w'
             go_simp
             with_reducible rfl
            rotate_left
            ·simp only [Act.put, L1_, L2_, L3_, i64_w, i32_w]
             rfl
            refine one_ (i := 15) (N := some 57) #[tt,tt,tt,tt,tt,tt,tt,tt,tt,tt,tt,tt,tt,tt,tt,tt,ff,ff,ff] rfl rfl (one_of HT_.out (by kernel_rfl)) (by decide) (fun K hK => ?_)
            refine value_ (w1 := ?_) (v := ?_) (by rfl) rfl ?_ ?_
            rotate_left 2
            ·go_simp
             constructor
             ·rfl
             ·rfl
            refine hK.out _ _ ⟨(blk_cell (blk_alloc BK171.out _) 0).trans rfl, (blk_cell (blk_alloc BK173.out _) 0).trans rfl, (blk_cell (blk_alloc BK173.out _) 1).trans rfl, (blk_cell (blk_alloc BK173.out _) 2).trans rfl⟩ (fun hHeld => ?_)
            clear hK K
            refine norm_ (a' := ?_) ?_ ?_
            rotate_left
            ·show Act.put _ (some 57) _ = _
             simp only [Act.put, L1_, L2_, L3_, i64_w, i32_w]
             rfl
            refine one_ (i := 16) (N := some 58) #[tt,tt,tt,tt,tt,tt,tt,tt,tt,tt,tt,tt,tt,tt,tt,tt,tt,ff,ff] rfl rfl (one_of HT_.out (by kernel_rfl)) (by decide) (fun K hK => ?_)
            refine Kd.R_append_step k184 w.heap.size (by rfl) (.tmp 43) (.tmp 57) 180 184 (.agg #[(.int .i16 0), (.int .i16 0), (.int .i16 0)]) 6 rfl Try.underlying180 info184 rfl (by decide) (by omega) u172000 x172000_2 (⟨t174, t178, t182⟩ : S184) [.int .i16 t174, .int .i16 t178, .int .i16 t182] (fun k_ => (w.heap.size ≤ k_)) (fun _ => False) rfl rfl ?aP (fun _ hk => hk.elim) ?aF ?aO (Below.refl _ _) ?aS ?aL ?_
            (case aP => exact k184_mkM _ _ _ (⟨t174, t178, t182⟩ : S184))
            (case aF => exact (fun k_ hk => (Nat.le_trans (keep_size (w := w) (g := g) (row := none) (by repeat (first | (with_reducible first | exact HK.out | apply KeepBut.set_ | apply keep_drewN | apply keep_drew | apply keep_alloc | refine keep_far ?_ GW166.out _ | refine keep_far ?_ GW171.out _ | refine keep_far ?_ GW173.out _) | exact HK.out))) hk)))
            (case aO => exact (by (with_reducible repeat (first | apply Kd.R_alloc | apply Kd.R_drewN | apply Kd.R_drew)); exact HO_172000.out))
            (case aS => exact (keep_size (w := w) (g := g) (row := none) (by repeat (first | (with_reducible first | exact HK.out | apply KeepBut.set_ | apply keep_drewN | apply keep_drew | apply keep_alloc | refine keep_far ?_ GW166.out _ | refine keep_far ?_ GW171.out _ | refine keep_far ?_ GW173.out _) | exact HK.out))))
            (case aL => have := LMc18.out; omega)
            intro v187 w29 ho hb hg hat
            rw [← Ny186.out] at ho
            have n0_ := Aside0.mk (Kd.V_afterv (ok := (fun k_ => ((P1_ k_ ∨ P2_ k_) ∨ w.heap.size ≤ k_) ∧ some k_ ≠ (u167002 : Value).ownBlock ∧ k_ ≠ gb166 ∧ k_ ≠ gb171 ∧ k_ ≠ g ∧ k_ ≠ gb173)) (by (with_reducible repeat (first | apply Kd.V_alloc | apply Kd.V_drewN | apply Kd.V_drew)); exact Kd.V_mono HO_1.out (fun _ hk => ⟨⟨hk.1, ⟨hk.2.1, ⟨hk.2.2.2.1, ⟨hk.2.2.2.2.1, ⟨hk.2.2.2.2.2.1, hk.2.2.2.2.2.2⟩⟩⟩⟩⟩, hk.2.2.1⟩)) hg hat)
            have n1_ := Aside0.mk (Kd.V_afterv (ok := (fun k_ => ((P1_ k_ ∨ P2_ k_) ∨ w.heap.size ≤ k_) ∧ some k_ ≠ (u167002 : Value).ownBlock ∧ k_ ≠ gb166 ∧ k_ ≠ gb171 ∧ k_ ≠ g ∧ k_ ≠ gb173)) (by (with_reducible repeat (first | apply Kd.V_alloc | apply Kd.V_drewN | apply Kd.V_drew)); exact Kd.V_mono HO_2.out (fun _ hk => ⟨⟨hk.1, ⟨hk.2.1, ⟨hk.2.2.2.1, ⟨hk.2.2.2.2.1, ⟨hk.2.2.2.2.2.1, hk.2.2.2.2.2.2⟩⟩⟩⟩⟩, hk.2.2.1⟩)) hg hat)
            have n2_ := Aside0.mk (Kd.V_afterv (ok := (fun k_ => ((P1_ k_ ∨ P2_ k_) ∨ w.heap.size ≤ k_) ∧ some k_ ≠ (u167002 : Value).ownBlock ∧ k_ ≠ gb166 ∧ k_ ≠ gb171 ∧ k_ ≠ g ∧ k_ ≠ gb173)) (by (with_reducible repeat (first | apply Kd.V_alloc | apply Kd.V_drewN | apply Kd.V_drew)); exact Kd.V_mono HO_24.out (fun _ hk => ⟨⟨hk.1, ⟨hk.2.1, ⟨hk.2.2.2.1, ⟨hk.2.2.2.2.1, ⟨hk.2.2.2.2.2.1, hk.2.2.2.2.2.2⟩⟩⟩⟩⟩, hk.2.2.1⟩)) hg hat)
            have n3_ := Aside0.mk (Kd.S_after (ok := (fun k_ => (w.heap.size ≤ k_) ∧ k_ ≠ gb171)) (by (with_reducible repeat (first | apply Kd.S_alloc | apply Kd.S_drewN | apply Kd.S_drew)); exact Kd.S_mono HO_167002.out (fun _ hk => ⟨⟨hk.1, hk.2.2⟩, hk.2.1⟩)) hg hat)
            have n4_ := Aside0.mk (blk_grown (g := gb166) (o := .cells #[.int .u16 0, .int .u16 0, u167002, .slice none 0 0] 109 (0, 0)) (by (with_reducible repeat (first | refine b1_ ?_ _ | refine b2_ ?_ | refine b3_ ?_ _)); exact BK166.out) hg (Kd.R_ne HO_172000.out BK166.out (by decide)))
            have n5_ := Aside0.mk (blk_grown (g := gb171) (o := .cells #[u172000] 182 (0, 0)) (by (with_reducible repeat (first | refine b1_ ?_ _ | refine b2_ ?_ | refine b3_ ?_ _)); exact BK171.out) hg (Kd.R_ne HO_172000.out BK171.out (by decide)))
            have n6_ := Aside0.mk (IsS102.grown (by repeat (first | (with_reducible first | exact HI0.out | apply IsS102.alloc | apply IsS102.drewN | apply IsS102.drew | apply IsS102.set_0 | apply IsS102.set_1 | apply IsS102.set_2 | refine IsS102.far ?_ NB0_166.out _ | refine IsS102.far ?_ NB0_171.out _ | refine IsS102.far ?_ NB0_173.out _) | exact HI0.out)) hg (IsS102.own_ne HI0.out HO_172000.out (by decide)))
            have n7_ := Aside0.mk (blk_grown (g := gb173) (o := .cells #[.int .i64 ((rd_T36 (rd_L8 l1 x26_1) x38_2).f0), .int .i64 ((rd_T36 (rd_L8 l1 x26_1) x38_2).f1), .int .i64 ((rd_T36 (rd_L8 l1 x26_1) x38_2).f2)] 36 (0, 0)) (by (with_reducible repeat (first | refine b1_ ?_ _ | refine b2_ ?_ | refine b3_ ?_ _)); exact BK173.out) hg (Kd.R_ne HO_172000.out BK173.out (by decide)))
            have n8_ := Aside0.mk (below_weaken (by repeat (first | (with_reducible first | exact HB.out | apply below_alloc | apply pw_below_drewN | apply below_drew1 | refine below_set ?_ (IsS102.ge HI0.out) | refine below_set ?_ GE166.out | refine below_set ?_ GE171.out | refine below_set ?_ GE173.out) | exact HB.out)) HL.out hb)
            have n9_ := Aside0.mk (KeepBut.trans (by repeat (first | (with_reducible first | exact HK.out | apply KeepBut.set_ | apply keep_drewN | apply keep_drew | apply keep_alloc | refine keep_far ?_ GW166.out _ | refine keep_far ?_ GW171.out _ | refine keep_far ?_ GW173.out _) | exact HK.out)) (KeepBut.of_grown hg g) (Kd.R_base2 HO_172000.out))
            have n10_ := Aside0.mk (ho)
            clear HO_1
            clear HO_2
            clear HO_24
            clear HO_167002
            clear BK166
            clear BK171
            clear HI0
            clear BK173
            clear HB
            clear HK
            clear HO_172000
            have HO_1 := n0_
            have HO_2 := n1_
            have HO_24 := n2_
            have HO_167002 := n3_
            have BK166 := n4_
            have BK171 := n5_
            have HI0 := n6_
            have BK173 := n7_
            have HB := n8_
            have HK := n9_
            have HO188 := n10_
            clear n0_ n1_ n2_ n3_ n4_ n5_ n6_ n7_ n8_ n9_ n10_
            clear ho hb hg hat
            obtain ⟨Ao30, co30, eo30⟩ := Kd.R_slice HO188.out
            (first | subst eo30 | (injection eo30 with f1_ f2_ f3_; have f4_ := f1_.symm; have f5_ := f3_.symm; clear f1_ f2_ f3_; subst f4_; subst f5_))
            refine hK.out _ _ ⟨(blk_cell BK171.out 0).trans rfl, (blk_cell BK173.out 0).trans rfl, (blk_cell BK173.out 1).trans rfl, (blk_cell BK173.out 2).trans rfl⟩ (fun hHeld => ?_)
            clear hK K
            refine norm_ (a' := ?_) ?_ ?_
            rotate_left
            ·show Act.put _ (some 58) _ = _
             simp only [Act.put, L1_, L2_, L3_, i64_w, i32_w]
             rfl
            refine pure_ (i := 17) (N := some 59) (v := ?_) (a' := ?_) #[tt,tt,tt,tt,tt,tt,tt,tt,tt,tt,tt,tt,tt,tt,tt,tt,tt,tt,ff] rfl rfl (any_of HT_.out (by kernel_rfl)) (fun _ _ _ h => h) (Or.inl ⟨by rfl, ?_⟩) ?_ ?_
            rotate_left
            ·intro w'
             go_simp
             with_reducible rfl
            rotate_left
            ·simp only [Act.put, L1_, L2_, L3_, i64_w, i32_w]
             rfl
            refine last_ (i := 18) (N := none) #[tt,tt,tt,tt,tt,tt,tt,tt,tt,tt,tt,tt,tt,tt,tt,tt,tt,tt,tt] rfl rfl (one_of HT_.out (by kernel_rfl)) (by decide) (fun K hK => ?_)
            have hs31 : w29.cell? ⟨gb171, 0, none⟩ = some (u172000) := (blk_cell BK171.out 0).trans rfl
            have hfs31 := blk_frozen BK171.out 0
            have hns31_0 := NB166_171.out
            have hns31_2 := NB173_171.out
            have hms31_0 := NB171_166.out
            have hms31_2 := NB171_173.out
            refine skip_ (w1 := ?_) (by rfl) rfl ?_ ?_
            rotate_left
            ·go_simp
             rfl
            refine hK.out _ _ ?_
            clear hK K
            refine done_ (done_of HT_.out (by kernel_rfl)) ?_
            try go_wp2
            go_roundg k2
            case measure => have := HK1.out; have := HK2.out; omega
            case rel => exact ⟨(wrap64 (x38_2 + 1)), (t183), (t184), (t185), (y186), (.slice Ao30 y186.length co30), (by first | rfl | (simp; done) | (simp [*]; done)), H', ⟨by have := HK1.out; have := HK2.out; omega⟩, ⟨by (with_reducible repeat (first | apply Kd.V_alloc | apply Kd.V_drewN | apply Kd.V_drew)); exact Kd.V_mono (Kd.V_far (p := ⟨gb171, 0, none⟩) (Kd.V_mono HO_1.out (fun k_ hk => (⟨hk, hk.1.2.2.2.1⟩ : _ ∧ k_ ≠ gb171))) (fun _ hk => hk.2) (.slice Ao30 y186.length co30)) (fun _ hk => ⟨hk.1.1.1, ⟨hk.1.1.2.1, ⟨hk.1.2, ⟨hk.1.1.2.2.1, ⟨hk.1.1.2.2.2.1, hk.1.1.2.2.2.2.1⟩⟩⟩⟩⟩)⟩, ⟨by (with_reducible repeat (first | apply Kd.V_alloc | apply Kd.V_drewN | apply Kd.V_drew)); exact Kd.V_mono (Kd.V_far (p := ⟨gb171, 0, none⟩) (Kd.V_mono HO_2.out (fun k_ hk => (⟨hk, hk.1.2.2.2.1⟩ : _ ∧ k_ ≠ gb171))) (fun _ hk => hk.2) (.slice Ao30 y186.length co30)) (fun _ hk => ⟨hk.1.1.1, ⟨hk.1.1.2.1, ⟨hk.1.2, ⟨hk.1.1.2.2.1, ⟨hk.1.1.2.2.2.1, hk.1.1.2.2.2.2.1⟩⟩⟩⟩⟩)⟩, ⟨by (with_reducible repeat (first | apply Kd.V_alloc | apply Kd.V_drewN | apply Kd.V_drew)); exact Kd.V_mono (Kd.V_far (p := ⟨gb171, 0, none⟩) (Kd.V_mono HO_24.out (fun k_ hk => (⟨hk, hk.1.2.2.2.1⟩ : _ ∧ k_ ≠ gb171))) (fun _ hk => hk.2) (.slice Ao30 y186.length co30)) (fun _ hk => ⟨hk.1.1.1, ⟨hk.1.1.2.1, ⟨hk.1.2, ⟨hk.1.1.2.2.1, ⟨hk.1.1.2.2.2.1, hk.1.1.2.2.2.2.1⟩⟩⟩⟩⟩)⟩, ⟨by (with_reducible repeat (first | apply Kd.S_alloc | apply Kd.S_drewN | apply Kd.S_drew)); exact Kd.S_mono (Kd.S_far (p := ⟨gb171, 0, none⟩) (Kd.S_mono HO_167002.out (fun k_ hk => (⟨hk, hk.1.2⟩ : _ ∧ k_ ≠ gb171))) (fun _ hk => hk.2) (.slice Ao30 y186.length co30)) (fun _ hk => ⟨hk.1.1.1, ⟨hk.1.2, hk.1.1.2⟩⟩)⟩, ⟨by (with_reducible repeat (first | apply Kd.R_alloc | apply Kd.R_drewN | apply Kd.R_drew)); exact Kd.R_mono (Kd.R_far (p := ⟨gb171, 0, none⟩) (Kd.R_types HO188.out BK171.out (by decide)) (fun _ hk => hk.2) (.slice Ao30 y186.length co30)) (fun _ hk => hk.1)⟩, ⟨by (with_reducible repeat (first | refine b1_ ?_ _ | refine b2_ ?_ | refine b3_ ?_ _)); refine blk_far ?_ NB166_171.out _; (with_reducible repeat (first | refine b1_ ?_ _ | refine b2_ ?_ | refine b3_ ?_ _)); exact BK166.out⟩, ⟨by (with_reducible repeat (first | refine b1_ ?_ _ | refine b2_ ?_ | refine b3_ ?_ _)); refine blk_put (cs := #[u172000]) ?_ 0 _ rfl; (with_reducible repeat (first | refine b1_ ?_ _ | refine b2_ ?_ | refine b3_ ?_ _)); exact BK171.out⟩, ⟨by repeat (first | (with_reducible first | exact HI0.out | apply IsS102.alloc | apply IsS102.drewN | apply IsS102.drew | apply IsS102.set_0 | apply IsS102.set_1 | apply IsS102.set_2 | refine IsS102.far ?_ NB0_166.out _ | refine IsS102.far ?_ NB0_171.out _ | refine IsS102.far ?_ NB0_173.out _) | exact HI0.out)⟩, ⟨by repeat (first | (with_reducible first | exact HK.out | apply KeepBut.set_ | apply keep_drewN | apply keep_drew | apply keep_alloc | refine keep_far ?_ GW166.out _ | refine keep_far ?_ GW171.out _ | refine keep_far ?_ GW173.out _) | exact HK.out)⟩, ⟨by repeat (first | (with_reducible first | exact HB.out | apply below_alloc | apply pw_below_drewN | apply below_drew1 | refine below_set ?_ (IsS102.ge HI0.out) | refine below_set ?_ GE166.out | refine below_set ?_ GE171.out | refine below_set ?_ GE173.out) | exact HB.out)⟩⟩
           ·rw [if_neg c18] at H
            exact absurd H (by simp)
          ·rw [if_neg c14] at H
           exact absurd H (by simp)
         ·rw [if_neg c13] at H
          exact absurd H (by simp)
        ·rw [if_neg c12] at H
         have c12b0 : decide (x38_2 < ((rd_L8 l1 x26_1).length : Int)) = false := decide_eq_false c12
         clear c12
         by_cases c32 : x167002_1.length < 5864062014805
         ·rw [if_pos c32] at H
          have LMc32 := Aside0.mk c32
          clear c32
          obtain ⟨y189, hy189⟩ : ∃ y_ : List (S182), y_ = (x167002_1 ++ [(⟨x172000_2⟩ : S182)]) := ⟨_, rfl⟩
          replace H : (impl_builder_store.l0 k2 l1 l2 a3 l1 (l1.length : Int) (wrap64 (x26_1 + 1)) x1000_2 x1001_2 x1002_2 0 0 y189) = some (r1, r2, r3, r4, r5, r6, r7) := by first | (rw [hy189]; with_reducible exact H) | (have H2_ := (Option.bind_some _ _).symm.trans H; rw [hy189]; with_reducible exact H2_) | (have H2_ := (Option.bind_some _ _).symm.trans H; with_reducible exact H2_) | with_reducible exact H | (rw [hy189]; exact H) | exact H
          have Ny189 := Aside0.mk hy189
          clear hy189
          have H' := Aside0.mk H
          clear H
          have hnb33 := NB166_171.out
          have hnc33 := NB171_166.out
          have hnb34 := NB166_0.out
          have hnc34 := NB0_166.out
          have hcz35_0 : wr.cell? ⟨gb166, 0, none⟩ = some (.int .u16 0) := (blk_cell BK166.out 0).trans rfl
          have hcz35_1 : wr.cell? ⟨gb166, 1, none⟩ = some (.int .u16 0) := (blk_cell BK166.out 1).trans rfl
          have hcz35_2 : wr.cell? ⟨gb166, 2, none⟩ = some (u167002) := (blk_cell BK166.out 2).trans rfl
          have hcz35_3 : wr.cell? ⟨gb166, 3, none⟩ = some (.slice none 0 0) := (blk_cell BK166.out 3).trans rfl
          have hfz35_0 := blk_frozen BK166.out 0
          have hfz35_1 := blk_frozen BK166.out 1
          have hfz35_2 := blk_frozen BK166.out 2
          have hfz35_3 := blk_frozen BK166.out 3
          have hnb36 := NB171_0.out
          have hnc36 := NB0_171.out
          have hcz37_0 : wr.cell? ⟨gb171, 0, none⟩ = some (u172000) := (blk_cell BK171.out 0).trans rfl
          have hfz37_0 := blk_frozen BK171.out 0
          obtain ⟨Ao39, co39, eo39⟩ := Kd.R_slice HO_172000.out
          subst eo39
          go_wp2_with (first | ((with_reducible refine gate_builtin (b := .append) (xs := #[.tmp 63, .tmp 65]) rfl ?_); (try (refine gate_guard (by rfl) ?_; dsimp only)); at_builtin; refine Kd.S_append k182 w.heap.size rfl (.tmp 63) (.tmp 65) 104 182 (.agg #[(.slice none 0 0)]) 24 rfl Try.underlying104 info182 rfl (by decide) (by omega) u167002 x167002_1 (⟨x172000_2⟩ : S182) [.slice Ao39 x172000_2.length co39] (fun k_ => (w.heap.size ≤ k_) ∧ k_ ≠ gb171) (fun k_ => some k_ = (.slice Ao39 x172000_2.length co39 : Value).ownBlock) rfl rfl ?aP (fun k_ hk_ => ((Kd.R_mono (ok' := fun k_ => ((fun k_ => (w.heap.size ≤ k_) ∧ k_ ≠ gb171)) k_ ∧ some k_ ≠ (u167002 : Value).ownBlock) (Kd.R_types (Kd.R_apart' (HO_172000.out) (Kd.S_typed HO_167002.out) (by decide)) BK171.out (by decide)) (fun k_ hk => ⟨⟨hk.1.1, hk.2⟩, hk.1.2⟩))).1 k_ hk_.symm) ?aF ?aO (Below.refl _ _) ?aS ?aL ?_; (case aP => exact k182_mkM _ _ _ (⟨x172000_2⟩ : S182) (Kd.R_mono (Kd.R_tight rfl (Kd.R_mono (ok' := fun k_ => ((fun k_ => (w.heap.size ≤ k_) ∧ k_ ≠ gb171)) k_ ∧ some k_ ≠ (u167002 : Value).ownBlock) (Kd.R_types (Kd.R_apart' (HO_172000.out) (Kd.S_typed HO_167002.out) (by decide)) BK171.out (by decide)) (fun k_ hk => ⟨⟨hk.1.1, hk.2⟩, hk.1.2⟩))) (fun _ h_ => h_))); (case aF => exact (fun k_ hk => ⟨(Nat.le_trans (keep_size (w := w) (g := g) (row := none) (by repeat (first | (with_reducible first | exact HK.out | apply KeepBut.set_ | apply keep_drewN | apply keep_drew | apply keep_alloc | refine keep_far ?_ GW166.out _ | refine keep_far ?_ GW171.out _) | exact HK.out))) hk), Kd.freshB (g := gb171) (o := .cells #[.slice Ao39 x172000_2.length co39] 182 (0, 0)) (by (with_reducible repeat (first | refine b1_ ?_ _ | refine b2_ ?_ | refine b3_ ?_ _)); exact BK171.out) k_ hk⟩)); (case aO => exact (by (with_reducible repeat (first | apply Kd.S_alloc | apply Kd.S_drewN | apply Kd.S_drew)); exact Kd.S_mono HO_167002.out (fun k_ hk => ⟨⟨hk.1, hk.2.2⟩, fun e_ => hk.2.1 e_⟩))); (case aS => exact (keep_size (w := w) (g := g) (row := none) (by repeat (first | (with_reducible first | exact HK.out | apply KeepBut.set_ | apply keep_drewN | apply keep_drew | apply keep_alloc | refine keep_far ?_ GW166.out _ | refine keep_far ?_ GW171.out _) | exact HK.out)))); (case aL => have := LMc32.out; omega); intro v190 w38 ho hb hg hat; rw [← Ny189.out] at ho; have n0_ := Aside0.mk (Kd.V_afterv (ok := (fun k_ => ((P1_ k_ ∨ P2_ k_) ∨ w.heap.size ≤ k_) ∧ some k_ ≠ (.slice Ao39 x172000_2.length co39 : Value).ownBlock ∧ k_ ≠ gb166 ∧ k_ ≠ gb171 ∧ k_ ≠ g)) (by (with_reducible repeat (first | apply Kd.V_alloc | apply Kd.V_drewN | apply Kd.V_drew)); exact Kd.V_mono HO_1.out (fun _ hk => ⟨⟨hk.1, ⟨hk.2.2.1, ⟨hk.2.2.2.1, ⟨hk.2.2.2.2.1, hk.2.2.2.2.2⟩⟩⟩⟩, hk.2.1⟩)) hg hat); have n1_ := Aside0.mk (Kd.V_afterv (ok := (fun k_ => ((P1_ k_ ∨ P2_ k_) ∨ w.heap.size ≤ k_) ∧ some k_ ≠ (.slice Ao39 x172000_2.length co39 : Value).ownBlock ∧ k_ ≠ gb166 ∧ k_ ≠ gb171 ∧ k_ ≠ g)) (by (with_reducible repeat (first | apply Kd.V_alloc | apply Kd.V_drewN | apply Kd.V_drew)); exact Kd.V_mono HO_2.out (fun _ hk => ⟨⟨hk.1, ⟨hk.2.2.1, ⟨hk.2.2.2.1, ⟨hk.2.2.2.2.1, hk.2.2.2.2.2⟩⟩⟩⟩, hk.2.1⟩)) hg hat); have n2_ := Aside0.mk (Kd.V_afterv (ok := (fun k_ => ((P1_ k_ ∨ P2_ k_) ∨ w.heap.size ≤ k_) ∧ some k_ ≠ (.slice Ao39 x172000_2.length co39 : Value).ownBlock ∧ k_ ≠ gb166 ∧ k_ ≠ gb171 ∧ k_ ≠ g)) (by (with_reducible repeat (first | apply Kd.V_alloc | apply Kd.V_drewN | apply Kd.V_drew)); exact Kd.V_mono HO_24.out (fun _ hk => ⟨⟨hk.1, ⟨hk.2.2.1, ⟨hk.2.2.2.1, ⟨hk.2.2.2.2.1, hk.2.2.2.2.2⟩⟩⟩⟩, hk.2.1⟩)) hg hat); have n3_ := Aside0.mk (blk_grown (g := gb166) (o := .cells #[.int .u16 0, .int .u16 0, u167002, .slice none 0 0] 109 (0, 0)) (by (with_reducible repeat (first | refine b1_ ?_ _ | refine b2_ ?_ | refine b3_ ?_ _)); exact BK166.out) hg (Kd.S_ne HO_167002.out BK166.out (by decide))); have n4_ := Aside0.mk (blk_grown (g := gb171) (o := .cells #[.slice Ao39 x172000_2.length co39] 182 (0, 0)) (by (with_reducible repeat (first | refine b1_ ?_ _ | refine b2_ ?_ | refine b3_ ?_ _)); exact BK171.out) hg (Kd.S_away HO_167002.out (fun _ hk => hk.2.2))); have n5_ := Aside0.mk (IsS102.grown (by repeat (first | (with_reducible first | exact HI0.out | apply IsS102.alloc | apply IsS102.drewN | apply IsS102.drew | apply IsS102.set_0 | apply IsS102.set_1 | apply IsS102.set_2 | refine IsS102.far ?_ NB0_166.out _ | refine IsS102.far ?_ NB0_171.out _) | exact HI0.out)) hg (IsS102.own_neS HI0.out HO_167002.out (by decide))); have n6_ := Aside0.mk (below_weaken (by repeat (first | (with_reducible first | exact HB.out | apply below_alloc | apply pw_below_drewN | apply below_drew1 | refine below_set ?_ (IsS102.ge HI0.out) | refine below_set ?_ GE166.out | refine below_set ?_ GE171.out) | exact HB.out)) HL.out hb); have n7_ := Aside0.mk (KeepBut.trans (by repeat (first | (with_reducible first | exact HK.out | apply KeepBut.set_ | apply keep_drewN | apply keep_drew | apply keep_alloc | refine keep_far ?_ GW166.out _ | refine keep_far ?_ GW171.out _) | exact HK.out)) (KeepBut.of_grown hg g) (Kd.S_base2 HO_167002.out)); have n8_ := Aside0.mk (ho); clear HO_1; clear HO_2; clear HO_24; clear BK166; clear BK171; clear HI0; clear HB; clear HK; clear HO_167002; clear HO_172000; have HO_1 := n0_; have HO_2 := n1_; have HO_24 := n2_; have BK166 := n3_; have BK171 := n4_; have HI0 := n5_; have HB := n6_; have HK := n7_; have HO191 := n8_; clear n0_ n1_ n2_ n3_ n4_ n5_ n6_ n7_ n8_; clear ho hb hg hat; obtain ⟨Ao40, co40, eo40⟩ := Kd.S_slice HO191.out; subst eo40; have hcz41_0 : w38.cell? ⟨gb166, 0, none⟩ = some (.int .u16 0) := (blk_cell BK166.out 0).trans rfl; have hcz41_1 : w38.cell? ⟨gb166, 1, none⟩ = some (.int .u16 0) := (blk_cell BK166.out 1).trans rfl; have hcz41_2 : w38.cell? ⟨gb166, 2, none⟩ = some (u167002) := (blk_cell BK166.out 2).trans rfl; have hcz41_3 : w38.cell? ⟨gb166, 3, none⟩ = some (.slice none 0 0) := (blk_cell BK166.out 3).trans rfl; have hfz41_0 := blk_frozen BK166.out 0; have hfz41_1 := blk_frozen BK166.out 1; have hfz41_2 := blk_frozen BK166.out 2; have hfz41_3 := blk_frozen BK166.out 3))
          go_roundg k2
          case measure => have := HK1.out; have := HK2.out; omega
          case rel => exact ⟨(wrap64 (x26_1 + 1)), (x1000_2), (x1001_2), (x1002_2), (y189), (.slice Ao40 y189.length co40), (by first | rfl | (simp; done) | (simp [*]; done)), H', ⟨by have := HK1.out; have := HK2.out; omega⟩, ⟨by (with_reducible repeat (first | apply Kd.V_alloc | apply Kd.V_drewN | apply Kd.V_drew)); exact Kd.V_mono (Kd.V_far (p := ⟨gb166, 2, none⟩) (Kd.V_mono HO_1.out (fun k_ hk => (⟨hk, hk.1.2.2.1⟩ : _ ∧ k_ ≠ gb166))) (fun _ hk => hk.2) (.slice Ao40 y189.length co40)) (fun _ hk => ⟨hk.1.1.1, ⟨hk.1.2, ⟨hk.1.1.2.2.1, hk.1.1.2.2.2.2⟩⟩⟩)⟩, ⟨by (with_reducible repeat (first | apply Kd.V_alloc | apply Kd.V_drewN | apply Kd.V_drew)); exact Kd.V_mono (Kd.V_far (p := ⟨gb166, 2, none⟩) (Kd.V_mono HO_2.out (fun k_ hk => (⟨hk, hk.1.2.2.1⟩ : _ ∧ k_ ≠ gb166))) (fun _ hk => hk.2) (.slice Ao40 y189.length co40)) (fun _ hk => ⟨hk.1.1.1, ⟨hk.1.2, ⟨hk.1.1.2.2.1, hk.1.1.2.2.2.2⟩⟩⟩)⟩, ⟨by (with_reducible repeat (first | apply Kd.V_alloc | apply Kd.V_drewN | apply Kd.V_drew)); exact Kd.V_mono (Kd.V_far (p := ⟨gb166, 2, none⟩) (Kd.V_mono HO_24.out (fun k_ hk => (⟨hk, hk.1.2.2.1⟩ : _ ∧ k_ ≠ gb166))) (fun _ hk => hk.2) (.slice Ao40 y189.length co40)) (fun _ hk => ⟨hk.1.1.1, ⟨hk.1.2, ⟨hk.1.1.2.2.1, hk.1.1.2.2.2.2⟩⟩⟩)⟩, ⟨by (with_reducible repeat (first | apply Kd.S_alloc | apply Kd.S_drewN | apply Kd.S_drew)); exact Kd.S_mono (Kd.S_far (p := ⟨gb166, 2, none⟩) (Kd.S_types HO191.out BK166.out (by decide)) (fun _ hk => hk.2) (.slice Ao40 y189.length co40)) (fun _ hk => hk.1.1)⟩, ⟨by (with_reducible repeat (first | refine b1_ ?_ _ | refine b2_ ?_ | refine b3_ ?_ _)); refine blk_put (cs := #[.int .u16 0, .int .u16 0, u167002, .slice none 0 0]) ?_ 2 _ rfl; (with_reducible repeat (first | refine b1_ ?_ _ | refine b2_ ?_ | refine b3_ ?_ _)); exact BK166.out⟩, ⟨by repeat (first | (with_reducible first | exact HI0.out | apply IsS102.alloc | apply IsS102.drewN | apply IsS102.drew | apply IsS102.set_0 | apply IsS102.set_1 | apply IsS102.set_2 | refine IsS102.far ?_ NB0_166.out _ | refine IsS102.far ?_ NB0_171.out _) | exact HI0.out)⟩, ⟨by repeat (first | (with_reducible first | exact HK.out | apply KeepBut.set_ | apply keep_drewN | apply keep_drew | apply keep_alloc | refine keep_far ?_ GW166.out _ | refine keep_far ?_ GW171.out _) | exact HK.out)⟩, ⟨by repeat (first | (with_reducible first | exact HB.out | apply below_alloc | apply pw_below_drewN | apply below_drew1 | refine below_set ?_ (IsS102.ge HI0.out) | refine below_set ?_ GE166.out | refine below_set ?_ GE171.out) | exact HB.out)⟩⟩
         ·rw [if_neg c32] at H
          exact absurd H (by simp)
     ·rw [if_neg c8] at H
      exact absurd H (by simp)
    ·rw [if_neg c7] at H
     exact absurd H (by simp)
   ·rw [if_neg c6] at H
    have c6b0 : decide (x26_1 < (l1.length : Int)) = false := decide_eq_false c6
    clear c6
    have H' := Aside0.mk H
    clear H
    go_wp2
    go_loopg [72] k1 (fun kq v72 w' => ∃ (x72_2 : Int) (x1000_2 : Int) (x1001_2 : Int) (x1002_2 : Bool) (x167003_2 : List (S186)) (u167003 : Value), v72 = .int .i64 x72_2 ∧ Aside0 (impl_builder_store.l2 kq l1 l2 (l2.length : Int) x72_2 x1000_2 x1001_2 x1002_2 0 0 x167002_1 x167003_2 = some (r1, r2, r3, r4, r5, r6, r7)) ∧ Aside0 (kq ≤ k1) ∧ Aside0 (Kd.V (Kd.slice 36 k36) 38 w' w.heap.size (fun k_ => ((P1_ k_ ∨ P2_ k_) ∨ w.heap.size ≤ k_) ∧ some k_ ≠ (u167002 : Value).ownBlock ∧ some k_ ≠ (u167003 : Value).ownBlock ∧ k_ ≠ gb166 ∧ k_ ≠ g) (.slice A1 l1.length c1) l1) ∧ Aside0 (Kd.V k41 41 w' w.heap.size (fun k_ => ((P1_ k_ ∨ P2_ k_) ∨ w.heap.size ≤ k_) ∧ some k_ ≠ (u167002 : Value).ownBlock ∧ some k_ ≠ (u167003 : Value).ownBlock ∧ k_ ≠ gb166 ∧ k_ ≠ g) (.slice A2 l2.length c2) l2) ∧ Aside0 (Kd.S k182 182 w' w.heap.size (fun k_ => (w.heap.size ≤ k_)) u167002 x167002_1) ∧ Aside0 (Kd.R k186 186 w' w.heap.size (fun k_ => (w.heap.size ≤ k_)) u167003 x167003_2) ∧ Aside0 (w'.heap[gb166]? = some (.cells #[.int .u16 0, .int .u16 0, u167002, u167003] 109 (0, 0))) ∧ Aside0 (IsS102 w0 w' g x1000_2 x1001_2 x1002_2) ∧ Aside0 (KeepBut w w' g none) ∧ Aside0 (Below w0.heap.size w0 w'))
    case atStart => exact ⟨(0), (x1000_1), (x1001_1), (x1002_1), (([] : List (S186))), (.slice none 0 0), (by first | rfl | (simp; done) | (simp [*]; done)), H', ⟨Nat.le_refl _⟩, ⟨by (with_reducible repeat (first | apply Kd.V_alloc | apply Kd.V_drewN | apply Kd.V_drew)); exact Kd.V_mono HO_1.out (fun _ hk => ⟨hk.1, ⟨hk.2.1, ⟨(by simp [Value.ownBlock]), ⟨hk.2.2.1, hk.2.2.2⟩⟩⟩⟩)⟩, ⟨by (with_reducible repeat (first | apply Kd.V_alloc | apply Kd.V_drewN | apply Kd.V_drew)); exact Kd.V_mono HO_2.out (fun _ hk => ⟨hk.1, ⟨hk.2.1, ⟨(by simp [Value.ownBlock]), ⟨hk.2.2.1, hk.2.2.2⟩⟩⟩⟩)⟩, ⟨by (with_reducible repeat (first | apply Kd.S_alloc | apply Kd.S_drewN | apply Kd.S_drew)); exact HO_167002.out⟩, ⟨by first | exact Kd.R_nil _ _ _ _ _ | exact Kd.N_nil _ _ _ _ _ | exact Kd.V_nil _ _ _ _ _ | exact Kd.Q_nil _ _ _ _ _ | exact Kd.S_nil _ _ _ _ _⟩, ⟨by (with_reducible repeat (first | refine b1_ ?_ _ | refine b2_ ?_ | refine b3_ ?_ _)); exact BK166.out⟩, ⟨by repeat (first | (with_reducible first | exact HI0.out | apply IsS102.alloc | apply IsS102.drewN | apply IsS102.drew | apply IsS102.set_0 | apply IsS102.set_1 | apply IsS102.set_2 | refine IsS102.far ?_ NB0_166.out _) | exact HI0.out)⟩, ⟨by repeat (first | (with_reducible first | exact HK.out | apply KeepBut.set_ | apply keep_drewN | apply keep_drew | apply keep_alloc | refine keep_far ?_ GW166.out _) | exact HK.out)⟩, ⟨by repeat (first | (with_reducible first | exact HB.out | apply below_alloc | apply pw_below_drewN | apply below_drew1 | refine below_set ?_ (IsS102.ge HI0.out) | refine below_set ?_ GE166.out) | exact HB.out)⟩⟩
    case round =>
     clear H'
     try clear c1
     try clear p1
     try clear q1
     try clear hx1
     try clear c2
     try clear p2
     try clear c3
     try clear c5
     try clear c6
     try clear c6b0
     try clear p6
     try clear c7
     try clear c7b0
     try clear c8
     try clear c8b0
     try clear c12
     try clear c12b0
     try clear c13
     try clear c13b0
     try clear c14
     try clear c14b0
     try clear c16
     try clear p16
     try clear q16
     try clear hx16
     try clear hf16
     try clear p17
     try clear q17
     try clear hx17
     try clear c18
     try clear c20
     try clear c21
     try clear c22
     try clear c32
     try clear c33
     try clear c34
     try clear c36
     try clear hcz23_0
     try clear hcz23_1
     try clear hcz23_2
     try clear hcz35_0
     try clear hcz35_1
     try clear hcz35_2
     try clear hcz35_3
     try clear hcz37_0
     try clear hcz41_0
     try clear hcz41_1
     try clear hcz41_2
     try clear hcz41_3
     try clear hfz23_0
     try clear hfz23_1
     try clear hfz23_2
     try clear hfz35_0
     try clear hfz35_1
     try clear hfz35_2
     try clear hfz35_3
     try clear hfz37_0
     try clear hfz41_0
     try clear hfz41_1
     try clear hfz41_2
     try clear hfz41_3
     try clear hx167_0
     try clear hx172_0
     try clear hx172_1
     try clear hx172_2
     try clear p1
     try clear p167
     try clear p172
     try clear p2
     try clear q1
     try clear q167
     try clear q172
     obtain ⟨x72_2, x1000_2, x1001_2, x1002_2, x167003_2, u167003, rfl, HA, HK2, HO_1, HO_70, HO_167002, HO_167003, BK166, HI0, HK, HB⟩ := hrel
     cases gk with
     | zero => exact absurd HA.out (by simp [impl_builder_store.l2])
     | succ k2 =>
      have H := HA.out
      clear HA
      simp only [impl_builder_store.l2] at H
      by_cases c42 : x72_2 < (l2.length : Int)
      ·rw [if_pos c42] at H
       have c42b0 : decide (x72_2 < (l2.length : Int)) = true := decide_eq_true c42
       clear c42
       by_cases c43 : 0 ≤ x72_2
       ·rw [if_pos c43] at H
        have c43b0 : decide (0 ≤ x72_2) = true := decide_eq_true c43
        clear c43
        by_cases c44 : x72_2 < (l2.length : Int)
        ·rw [if_pos c44] at H
         have c44b0 : decide (x72_2 < (l2.length : Int)) = true := decide_eq_true c44
         clear c44
         have H' := Aside0.mk H
         clear H
         have p192 : 0 ≤ (x72_2 : Int) := of_decide_eq_true (by first | (with_reducible assumption) | assumption)
         have q192 : x72_2 < (l2.length : Int) := of_decide_eq_true (by first | (with_reducible assumption) | assumption)
         obtain ⟨ad192, A192_0, c192_0, A192_1, c192_1, e192, hx192_0, hx192_1, hl192_0, hi192_0, hl192_1, hi192_1⟩ := at_T41 (Kd.V_reads' HO_70.out).2.2 x72_2 p192 q192
         cases e192
         obtain ⟨ce192, hce192, hMe192, hcc192⟩ := Kd.V_get HO_70.out z41 x72_2 p192 (by first | exact q192 | exact of_decide_eq_true (by first | (with_reducible assumption) | assumption) | (have e_ := (Kd.V_reads' HO_70.out).1; omega))
         obtain ⟨ua192_0, uc192_0, ua192_1, uc192_1, rfl, ul192_0, ge192_0, ul192_1, ge192_1⟩ := k41_openF hMe192
         have hv192_0 := hcc192 0 _ rfl
         rw [Nat.add_zero] at hv192_0
         replace hv192_0 := Option.some.inj (hv192_0.symm.trans hx192_0)
         injection hv192_0 with hva_ hvn_ hvc_
         rw [hva_] at ge192_0
         rw [hvc_] at ul192_0
         have HL192_0 := Aside0.mk (show Kd.V (Kd.int .i64) 3 _ w.heap.size _ _ ((rd_T41 l2 x72_2).f0) from Kd.V_mk ul192_0 ge192_0)
         clear hva_ hvn_ hvc_ ge192_0 ul192_0
         have hv192_1 := hcc192 1 _ rfl
         rw [add_field _ _ 1 (by omega)] at hv192_1
         replace hv192_1 := Option.some.inj (hv192_1.symm.trans hx192_1)
         injection hv192_1 with hva_ hvn_ hvc_
         rw [hva_] at ge192_1
         rw [hvc_] at ul192_1
         have HL192_1 := Aside0.mk (show Kd.V (Kd.slice 3 (Kd.int .i64)) 31 _ w.heap.size _ _ ((rd_T41 l2 x72_2).f1) from Kd.V_mk ul192_1 ge192_1)
         clear hva_ hvn_ hvc_ ge192_1 ul192_1
         clear hcc192 hce192
         have HF192 := Aside0.mk (foot_41 (Kd.V_F hs2) HK.out x72_2 p192 q192 hx192_0 hx192_1)
         have HR192_0 := Aside0.mk hi192_0
         have HC192_0 := Aside0.mk hl192_0
         clear hi192_0 hl192_0
         have HR192_1 := Aside0.mk hi192_1
         have HC192_1 := Aside0.mk hl192_1
         clear hi192_1 hl192_1
         replace p192 := eq_true p192
         replace q192 := eq_true q192
         go_wp2_with (first | ((with_reducible refine gate_dst (N := 15) rfl ?_); (try (refine gate_guard (by rfl) ?_; dsimp only)); refine box_event ?hg (N := 15) ?hd (cs := #[.slice none 0 0, .slice none 0 0]) (t := 41) ?hr ?_; (case hd => rfl); (case hg => rfl); (case hr => first | (go_simp; done) | (go_simp; rfl)); intro gb193 hg w45 hbox hb; have n0_ := Aside0.mk (Kd.V_below (Kd.V_elderB (by (with_reducible repeat (first | apply Kd.V_alloc | apply Kd.V_drewN | apply Kd.V_drew)); exact HO_1.out) gb193 (Nat.le_of_eq hg.symm)) hb); have n1_ := Aside0.mk (Kd.V_below (Kd.V_elderB (by (with_reducible repeat (first | apply Kd.V_alloc | apply Kd.V_drewN | apply Kd.V_drew)); exact HO_70.out) gb193 (Nat.le_of_eq hg.symm)) hb); have n2_ := Aside0.mk (Kd.S_below (by (with_reducible repeat (first | apply Kd.S_alloc | apply Kd.S_drewN | apply Kd.S_drew)); exact HO_167002.out) hb); have n3_ := Aside0.mk (Kd.R_below (by (with_reducible repeat (first | apply Kd.R_alloc | apply Kd.R_drewN | apply Kd.R_drew)); exact HO_167003.out) hb); have n4_ := Aside0.mk (Kd.V_below (Kd.V_elderB (by (with_reducible repeat (first | apply Kd.V_alloc | apply Kd.V_drewN | apply Kd.V_drew)); exact HL192_0.out) gb193 (Nat.le_of_eq hg.symm)) hb); have n5_ := Aside0.mk (Kd.V_below (Kd.V_elderB (by (with_reducible repeat (first | apply Kd.V_alloc | apply Kd.V_drewN | apply Kd.V_drew)); exact HL192_1.out) gb193 (Nat.le_of_eq hg.symm)) hb); have n6_ := Aside0.mk (blk_below (g := gb166) (o := .cells #[.int .u16 0, .int .u16 0, u167002, u167003] 109 (0, 0)) (by (with_reducible repeat (first | refine b1_ ?_ _ | refine b2_ ?_ | refine b3_ ?_ _)); exact BK166.out) hb); have n7_ := Aside0.mk (IsS102.below (by repeat (first | (with_reducible first | exact HI0.out | apply IsS102.alloc | apply IsS102.drewN | apply IsS102.drew | apply IsS102.set_0 | apply IsS102.set_1 | apply IsS102.set_2 | refine IsS102.far ?_ NB0_166.out _) | exact HI0.out)) hb); have n8_ := Aside0.mk (Kd.C_below (by repeat (first | (with_reducible exact HR192_0.out) | (with_reducible refine Kd.C_alloc ?_ _) | (with_reducible refine Kd.C_drewN ?_ _) | (with_reducible refine Kd.C_drew ?_) | exact HR192_0.out)) hb); have n9_ := Aside0.mk (Kd.C_below (by repeat (first | (with_reducible exact HR192_1.out) | (with_reducible refine Kd.C_alloc ?_ _) | (with_reducible refine Kd.C_drewN ?_ _) | (with_reducible refine Kd.C_drew ?_) | exact HR192_1.out)) hb); have n10_ := Aside0.mk (KeepBut.trans (by repeat (first | (with_reducible first | exact HK.out | apply KeepBut.set_ | apply keep_drewN | apply keep_drew | apply keep_alloc | refine keep_far ?_ GW166.out _) | exact HK.out)) (KeepBut.of_below hb g none) (.inl rfl)); have n11_ := Aside0.mk (below_step (by repeat (first | (with_reducible first | exact HB.out | apply below_alloc | apply pw_below_drewN | apply below_drew1 | refine below_set ?_ (IsS102.ge HI0.out) | refine below_set ?_ GE166.out) | exact HB.out)) hb); have n12_ := Aside0.mk (hbox); have n13_ := Aside0.mk ((by rw [hg]; exact (keep_size (w := w) (g := g) (row := none) (by repeat (first | (with_reducible first | exact HK.out | apply KeepBut.set_ | apply keep_drewN | apply keep_drew | apply keep_alloc | refine keep_far ?_ GW166.out _) | exact HK.out))) : w.heap.size ≤ gb193)); have n14_ := Aside0.mk ((Nat.le_trans HW0.out (by rw [hg]; exact (keep_size (w := w) (g := g) (row := none) (by repeat (first | (with_reducible first | exact HK.out | apply KeepBut.set_ | apply keep_drewN | apply keep_drew | apply keep_alloc | refine keep_far ?_ GW166.out _) | exact HK.out))) : w.heap.size ≤ gb193) : w0.heap.size ≤ gb193)); have n15_ := Aside0.mk ((by rw [hg]; exact Nat.ne_of_lt (blk_lt (g := gb166) (o := .cells #[.int .u16 0, .int .u16 0, u167002, u167003] 109 (0, 0)) (by (with_reducible repeat (first | refine b1_ ?_ _ | refine b2_ ?_ | refine b3_ ?_ _)); exact BK166.out)) : gb166 ≠ gb193)); have n16_ := Aside0.mk ((by rw [hg]; exact Nat.ne_of_gt (blk_lt (g := gb166) (o := .cells #[.int .u16 0, .int .u16 0, u167002, u167003] 109 (0, 0)) (by (with_reducible repeat (first | refine b1_ ?_ _ | refine b2_ ?_ | refine b3_ ?_ _)); exact BK166.out)) : gb193 ≠ gb166)); have n17_ := Aside0.mk ((by rw [hg]; exact Nat.ne_of_lt (IsS102.lt (show IsS102 w0 _ g x1000_2 x1001_2 x1002_2 from by repeat (first | (with_reducible first | exact HI0.out | apply IsS102.alloc | apply IsS102.drewN | apply IsS102.drew | apply IsS102.set_0 | apply IsS102.set_1 | apply IsS102.set_2 | refine IsS102.far ?_ NB0_166.out _) | exact HI0.out))) : g ≠ gb193)); have n18_ := Aside0.mk ((by rw [hg]; exact Nat.ne_of_gt (IsS102.lt (show IsS102 w0 _ g x1000_2 x1001_2 x1002_2 from by repeat (first | (with_reducible first | exact HI0.out | apply IsS102.alloc | apply IsS102.drewN | apply IsS102.drew | apply IsS102.set_0 | apply IsS102.set_1 | apply IsS102.set_2 | refine IsS102.far ?_ NB0_166.out _) | exact HI0.out))) : gb193 ≠ g)); clear HO_1; clear HO_70; clear HO_167002; clear HO_167003; clear HL192_0; clear HL192_1; clear BK166; clear HI0; clear HR192_0; clear HR192_1; clear HK; clear HB; have HO_1 := n0_; have HO_70 := n1_; have HO_167002 := n2_; have HO_167003 := n3_; have HL192_0 := n4_; have HL192_1 := n5_; have BK166 := n6_; have HI0 := n7_; have HR192_0 := n8_; have HR192_1 := n9_; have HK := n10_; have HB := n11_; have BK193 := n12_; have GW193 := n13_; have GE193 := n14_; have NB166_193 := n15_; have NB193_166 := n16_; have NB0_193 := n17_; have NB193_0 := n18_; clear n0_ n1_ n2_ n3_ n4_ n5_ n6_ n7_ n8_ n9_ n10_ n11_ n12_ n13_ n14_ n15_ n16_ n17_ n18_; clear hb hbox hg; have hnb46 := NB193_166.out; have hnc46 := NB166_193.out; have hnb47 := NB193_0.out; have hnc47 := NB0_193.out; have hcz48_0 : w45.cell? ⟨gb193, 0, none⟩ = some (.slice none 0 0) := (blk_cell BK193.out 0).trans rfl; have hcz48_1 : w45.cell? ⟨gb193, 1, none⟩ = some (.slice none 0 0) := (blk_cell BK193.out 1).trans rfl; have hfz48_0 := blk_frozen BK193.out 0; have hfz48_1 := blk_frozen BK193.out 1) | ((with_reducible refine gate_dst (N := 16) rfl ?_); (try (refine gate_guard (by rfl) ?_; dsimp only)); refine box_event ?hg (N := 16) ?hd (cs := #[.int .u16 0, .int .u16 0, .int .u16 0, .slice none 0 0, .slice none 0 0]) (t := 186) ?hr ?_; (case hd => rfl); (case hg => rfl); (case hr => first | (go_simp; done) | (go_simp; rfl)); intro gb194 hg w49 hbox hb; have n0_ := Aside0.mk (Kd.V_below (Kd.V_elderB (by (with_reducible repeat (first | apply Kd.V_alloc | apply Kd.V_drewN | apply Kd.V_drew)); exact (Kd.V_mono (Kd.V_far (p := ⟨gb193, 1, none⟩) (Kd.V_far (p := ⟨gb193, 0, none⟩) (Kd.V_mono HO_1.out (fun k_ hk => (⟨hk, hk.2⟩ : _ ∧ k_ ≠ gb193))) (fun _ hk => hk.2) (.slice A192_0 ((rd_T41 l2 x72_2).f0).length c192_0)) (fun _ hk => hk.2) (.slice A192_1 ((rd_T41 l2 x72_2).f1).length c192_1)) (fun _ h_ => h_.1))) gb194 (Nat.le_of_eq hg.symm)) hb); have n1_ := Aside0.mk (Kd.V_below (Kd.V_elderB (by (with_reducible repeat (first | apply Kd.V_alloc | apply Kd.V_drewN | apply Kd.V_drew)); exact (Kd.V_mono (Kd.V_far (p := ⟨gb193, 1, none⟩) (Kd.V_far (p := ⟨gb193, 0, none⟩) (Kd.V_mono HO_70.out (fun k_ hk => (⟨hk, hk.2⟩ : _ ∧ k_ ≠ gb193))) (fun _ hk => hk.2) (.slice A192_0 ((rd_T41 l2 x72_2).f0).length c192_0)) (fun _ hk => hk.2) (.slice A192_1 ((rd_T41 l2 x72_2).f1).length c192_1)) (fun _ h_ => h_.1))) gb194 (Nat.le_of_eq hg.symm)) hb); have n2_ := Aside0.mk (Kd.S_below (by (with_reducible repeat (first | apply Kd.S_alloc | apply Kd.S_drewN | apply Kd.S_drew)); exact (Kd.S_mono (Kd.S_far (p := ⟨gb193, 1, none⟩) (Kd.S_far (p := ⟨gb193, 0, none⟩) (Kd.S_types HO_167002.out BK193.out (by decide)) (fun _ hk => hk.2) (.slice A192_0 ((rd_T41 l2 x72_2).f0).length c192_0)) (fun _ hk => hk.2) (.slice A192_1 ((rd_T41 l2 x72_2).f1).length c192_1)) (fun _ h_ => h_.1))) hb); have n3_ := Aside0.mk (Kd.R_below (Kd.R_elderB (by (with_reducible repeat (first | apply Kd.R_alloc | apply Kd.R_drewN | apply Kd.R_drew)); exact (Kd.R_mono (Kd.R_far (p := ⟨gb193, 1, none⟩) (Kd.R_far (p := ⟨gb193, 0, none⟩) (Kd.R_types HO_167003.out BK193.out (by decide)) (fun _ hk => hk.2) (.slice A192_0 ((rd_T41 l2 x72_2).f0).length c192_0)) (fun _ hk => hk.2) (.slice A192_1 ((rd_T41 l2 x72_2).f1).length c192_1)) (fun _ h_ => h_.1))) gb194 (Nat.le_of_eq hg.symm)) hb); have n4_ := Aside0.mk (Kd.V_below (Kd.V_elderB (by (with_reducible repeat (first | apply Kd.V_alloc | apply Kd.V_drewN | apply Kd.V_drew)); exact (Kd.V_mono (Kd.V_far (p := ⟨gb193, 1, none⟩) (Kd.V_far (p := ⟨gb193, 0, none⟩) (Kd.V_mono HL192_0.out (fun k_ hk => (⟨hk, hk.2⟩ : _ ∧ k_ ≠ gb193))) (fun _ hk => hk.2) (.slice A192_0 ((rd_T41 l2 x72_2).f0).length c192_0)) (fun _ hk => hk.2) (.slice A192_1 ((rd_T41 l2 x72_2).f1).length c192_1)) (fun _ h_ => h_.1))) gb194 (Nat.le_of_eq hg.symm)) hb); have n5_ := Aside0.mk (Kd.V_below (Kd.V_elderB (by (with_reducible repeat (first | apply Kd.V_alloc | apply Kd.V_drewN | apply Kd.V_drew)); exact (Kd.V_mono (Kd.V_far (p := ⟨gb193, 1, none⟩) (Kd.V_far (p := ⟨gb193, 0, none⟩) (Kd.V_mono HL192_1.out (fun k_ hk => (⟨hk, hk.2⟩ : _ ∧ k_ ≠ gb193))) (fun _ hk => hk.2) (.slice A192_0 ((rd_T41 l2 x72_2).f0).length c192_0)) (fun _ hk => hk.2) (.slice A192_1 ((rd_T41 l2 x72_2).f1).length c192_1)) (fun _ h_ => h_.1))) gb194 (Nat.le_of_eq hg.symm)) hb); have n6_ := Aside0.mk (blk_below (g := gb166) (o := .cells #[.int .u16 0, .int .u16 0, u167002, u167003] 109 (0, 0)) (by (with_reducible repeat (first | refine b1_ ?_ _ | refine b2_ ?_ | refine b3_ ?_ _)); refine blk_far ?_ NB166_193.out _; (with_reducible repeat (first | refine b1_ ?_ _ | refine b2_ ?_ | refine b3_ ?_ _)); refine blk_far ?_ NB166_193.out _; (with_reducible repeat (first | refine b1_ ?_ _ | refine b2_ ?_ | refine b3_ ?_ _)); exact BK166.out) hb); have n7_ := Aside0.mk (IsS102.below (show IsS102 w0 ((w45.setCell ⟨gb193, 0, none⟩ (.slice A192_0 ((rd_T41 l2 x72_2).f0).length c192_0)).setCell ⟨gb193, 1, none⟩ (.slice A192_1 ((rd_T41 l2 x72_2).f1).length c192_1)) g x1000_2 x1001_2 x1002_2 from by repeat (first | (with_reducible first | exact HI0.out | apply IsS102.alloc | apply IsS102.drewN | apply IsS102.drew | apply IsS102.set_0 | apply IsS102.set_1 | apply IsS102.set_2 | refine IsS102.far ?_ NB0_166.out _ | refine IsS102.far ?_ NB0_193.out _) | exact HI0.out)) hb); have n8_ := Aside0.mk (Kd.C_below ((Kd.V_reads' (by (with_reducible repeat (first | apply Kd.V_alloc | apply Kd.V_drewN | apply Kd.V_drew)); exact (Kd.V_mono (Kd.V_far (p := ⟨gb193, 1, none⟩) (Kd.V_far (p := ⟨gb193, 0, none⟩) (Kd.V_mono HL192_0.out (fun k_ hk => (⟨hk, hk.2⟩ : _ ∧ k_ ≠ gb193))) (fun _ hk => hk.2) (.slice A192_0 ((rd_T41 l2 x72_2).f0).length c192_0)) (fun _ hk => hk.2) (.slice A192_1 ((rd_T41 l2 x72_2).f1).length c192_1)) (fun _ h_ => h_.1)))).2.2) hb); have n9_ := Aside0.mk (Kd.C_below ((Kd.V_reads' (by (with_reducible repeat (first | apply Kd.V_alloc | apply Kd.V_drewN | apply Kd.V_drew)); exact (Kd.V_mono (Kd.V_far (p := ⟨gb193, 1, none⟩) (Kd.V_far (p := ⟨gb193, 0, none⟩) (Kd.V_mono HL192_1.out (fun k_ hk => (⟨hk, hk.2⟩ : _ ∧ k_ ≠ gb193))) (fun _ hk => hk.2) (.slice A192_0 ((rd_T41 l2 x72_2).f0).length c192_0)) (fun _ hk => hk.2) (.slice A192_1 ((rd_T41 l2 x72_2).f1).length c192_1)) (fun _ h_ => h_.1)))).2.2) hb); have n10_ := Aside0.mk (blk_below (g := gb193) (o := .cells #[.slice A192_0 ((rd_T41 l2 x72_2).f0).length c192_0, .slice A192_1 ((rd_T41 l2 x72_2).f1).length c192_1] 41 (0, 0)) (by (with_reducible repeat (first | refine b1_ ?_ _ | refine b2_ ?_ | refine b3_ ?_ _)); refine blk_put (cs := #[.slice A192_0 ((rd_T41 l2 x72_2).f0).length c192_0, .slice none 0 0]) ?_ 1 _ rfl; (with_reducible repeat (first | refine b1_ ?_ _ | refine b2_ ?_ | refine b3_ ?_ _)); refine blk_put (cs := #[.slice none 0 0, .slice none 0 0]) ?_ 0 _ rfl; (with_reducible repeat (first | refine b1_ ?_ _ | refine b2_ ?_ | refine b3_ ?_ _)); exact BK193.out) hb); have n11_ := Aside0.mk (KeepBut.trans (by repeat (first | (with_reducible first | exact HK.out | apply KeepBut.set_ | apply keep_drewN | apply keep_drew | apply keep_alloc | refine keep_far ?_ GW166.out _ | refine keep_far ?_ GW193.out _) | exact HK.out)) (KeepBut.of_below hb g none) (.inl rfl)); have n12_ := Aside0.mk (below_step (by repeat (first | (with_reducible first | exact HB.out | apply below_alloc | apply pw_below_drewN | apply below_drew1 | refine below_set ?_ (IsS102.ge HI0.out) | refine below_set ?_ GE166.out | refine below_set ?_ GE193.out) | exact HB.out)) hb); have n13_ := Aside0.mk (hbox); have n14_ := Aside0.mk ((by rw [hg]; exact (keep_size (w := w) (g := g) (row := none) (by repeat (first | (with_reducible first | exact HK.out | apply KeepBut.set_ | apply keep_drewN | apply keep_drew | apply keep_alloc | refine keep_far ?_ GW166.out _ | refine keep_far ?_ GW193.out _) | exact HK.out))) : w.heap.size ≤ gb194)); have n15_ := Aside0.mk ((Nat.le_trans HW0.out (by rw [hg]; exact (keep_size (w := w) (g := g) (row := none) (by repeat (first | (with_reducible first | exact HK.out | apply KeepBut.set_ | apply keep_drewN | apply keep_drew | apply keep_alloc | refine keep_far ?_ GW166.out _ | refine keep_far ?_ GW193.out _) | exact HK.out))) : w.heap.size ≤ gb194) : w0.heap.size ≤ gb194)); have n16_ := Aside0.mk ((by rw [hg]; exact Nat.ne_of_lt (blk_lt (g := gb166) (o := .cells #[.int .u16 0, .int .u16 0, u167002, u167003] 109 (0, 0)) (by (with_reducible repeat (first | refine b1_ ?_ _ | refine b2_ ?_ | refine b3_ ?_ _)); refine blk_far ?_ NB166_193.out _; (with_reducible repeat (first | refine b1_ ?_ _ | refine b2_ ?_ | refine b3_ ?_ _)); refine blk_far ?_ NB166_193.out _; (with_reducible repeat (first | refine b1_ ?_ _ | refine b2_ ?_ | refine b3_ ?_ _)); exact BK166.out)) : gb166 ≠ gb194)); have n17_ := Aside0.mk ((by rw [hg]; exact Nat.ne_of_gt (blk_lt (g := gb166) (o := .cells #[.int .u16 0, .int .u16 0, u167002, u167003] 109 (0, 0)) (by (with_reducible repeat (first | refine b1_ ?_ _ | refine b2_ ?_ | refine b3_ ?_ _)); refine blk_far ?_ NB166_193.out _; (with_reducible repeat (first | refine b1_ ?_ _ | refine b2_ ?_ | refine b3_ ?_ _)); refine blk_far ?_ NB166_193.out _; (with_reducible repeat (first | refine b1_ ?_ _ | refine b2_ ?_ | refine b3_ ?_ _)); exact BK166.out)) : gb194 ≠ gb166)); have n18_ := Aside0.mk ((by rw [hg]; exact Nat.ne_of_lt (blk_lt (g := gb193) (o := .cells #[.slice A192_0 ((rd_T41 l2 x72_2).f0).length c192_0, .slice A192_1 ((rd_T41 l2 x72_2).f1).length c192_1] 41 (0, 0)) (by (with_reducible repeat (first | refine b1_ ?_ _ | refine b2_ ?_ | refine b3_ ?_ _)); refine blk_put (cs := #[.slice A192_0 ((rd_T41 l2 x72_2).f0).length c192_0, .slice none 0 0]) ?_ 1 _ rfl; (with_reducible repeat (first | refine b1_ ?_ _ | refine b2_ ?_ | refine b3_ ?_ _)); refine blk_put (cs := #[.slice none 0 0, .slice none 0 0]) ?_ 0 _ rfl; (with_reducible repeat (first | refine b1_ ?_ _ | refine b2_ ?_ | refine b3_ ?_ _)); exact BK193.out)) : gb193 ≠ gb194)); have n19_ := Aside0.mk ((by rw [hg]; exact Nat.ne_of_gt (blk_lt (g := gb193) (o := .cells #[.slice A192_0 ((rd_T41 l2 x72_2).f0).length c192_0, .slice A192_1 ((rd_T41 l2 x72_2).f1).length c192_1] 41 (0, 0)) (by (with_reducible repeat (first | refine b1_ ?_ _ | refine b2_ ?_ | refine b3_ ?_ _)); refine blk_put (cs := #[.slice A192_0 ((rd_T41 l2 x72_2).f0).length c192_0, .slice none 0 0]) ?_ 1 _ rfl; (with_reducible repeat (first | refine b1_ ?_ _ | refine b2_ ?_ | refine b3_ ?_ _)); refine blk_put (cs := #[.slice none 0 0, .slice none 0 0]) ?_ 0 _ rfl; (with_reducible repeat (first | refine b1_ ?_ _ | refine b2_ ?_ | refine b3_ ?_ _)); exact BK193.out)) : gb194 ≠ gb193)); have n20_ := Aside0.mk ((by rw [hg]; exact Nat.ne_of_lt (IsS102.lt (show IsS102 w0 _ g x1000_2 x1001_2 x1002_2 from by repeat (first | (with_reducible first | exact HI0.out | apply IsS102.alloc | apply IsS102.drewN | apply IsS102.drew | apply IsS102.set_0 | apply IsS102.set_1 | apply IsS102.set_2 | refine IsS102.far ?_ NB0_166.out _ | refine IsS102.far ?_ NB0_193.out _) | exact HI0.out))) : g ≠ gb194)); have n21_ := Aside0.mk ((by rw [hg]; exact Nat.ne_of_gt (IsS102.lt (show IsS102 w0 _ g x1000_2 x1001_2 x1002_2 from by repeat (first | (with_reducible first | exact HI0.out | apply IsS102.alloc | apply IsS102.drewN | apply IsS102.drew | apply IsS102.set_0 | apply IsS102.set_1 | apply IsS102.set_2 | refine IsS102.far ?_ NB0_166.out _ | refine IsS102.far ?_ NB0_193.out _) | exact HI0.out))) : gb194 ≠ g)); clear HO_1; clear HO_70; clear HO_167002; clear HO_167003; clear HL192_0; clear HL192_1; clear BK166; clear HI0; clear HR192_0; clear HR192_1; clear BK193; clear HK; clear HB; have HO_1 := n0_; have HO_70 := n1_; have HO_167002 := n2_; have HO_167003 := n3_; have HL192_0 := n4_; have HL192_1 := n5_; have BK166 := n6_; have HI0 := n7_; have HR192_0 := n8_; have HR192_1 := n9_; have BK193 := n10_; have HK := n11_; have HB := n12_; have BK194 := n13_; have GW194 := n14_; have GE194 := n15_; have NB166_194 := n16_; have NB194_166 := n17_; have NB193_194 := n18_; have NB194_193 := n19_; have NB0_194 := n20_; have NB194_0 := n21_; clear n0_ n1_ n2_ n3_ n4_ n5_ n6_ n7_ n8_ n9_ n10_ n11_ n12_ n13_ n14_ n15_ n16_ n17_ n18_ n19_ n20_ n21_; clear hb hbox hg; have hnb50 := NB193_194.out; have hnc50 := NB194_193.out; have hcz51_0 : w49.cell? ⟨gb193, 0, none⟩ = some (.slice A192_0 ((rd_T41 l2 x72_2).f0).length c192_0) := (blk_cell BK193.out 0).trans rfl; have hcz51_1 : w49.cell? ⟨gb193, 1, none⟩ = some (.slice A192_1 ((rd_T41 l2 x72_2).f1).length c192_1) := (blk_cell BK193.out 1).trans rfl; have hfz51_0 := blk_frozen BK193.out 0; have hfz51_1 := blk_frozen BK193.out 1))
         go_loopg [79] k2 (fun kq v79 w' => ∃ (x79_3 : Int) (x1000_3 : Int) (x1001_3 : Int) (x1002_3 : Bool) (x195003_3 : List Int) (u195003 : Value), v79 = .int .i64 x79_3 ∧ Aside0 (impl_builder_store.l3 kq l1 l2 (l2.length : Int) x72_2 ((rd_T41 l2 x72_2).f0) (((rd_T41 l2 x72_2).f0).length : Int) x79_3 x1000_3 x1001_3 x1002_3 0 0 x167002_1 x167003_2 ((rd_T41 l2 x72_2).f0) ((rd_T41 l2 x72_2).f1) 0 0 0 x195003_3 = some (r1, r2, r3, r4, r5, r6, r7)) ∧ Aside0 (kq ≤ k2) ∧ Aside0 (Kd.V (Kd.slice 36 k36) 38 w' w.heap.size (fun k_ => ((P1_ k_ ∨ P2_ k_) ∨ w.heap.size ≤ k_) ∧ some k_ ≠ (u167002 : Value).ownBlock ∧ some k_ ≠ (u167003 : Value).ownBlock ∧ some k_ ≠ (u195003 : Value).ownBlock ∧ k_ ≠ gb166 ∧ k_ ≠ gb193 ∧ k_ ≠ gb194 ∧ k_ ≠ g) (.slice A1 l1.length c1) l1) ∧ Aside0 (Kd.V k41 41 w' w.heap.size (fun k_ => ((P1_ k_ ∨ P2_ k_) ∨ w.heap.size ≤ k_) ∧ some k_ ≠ (u167002 : Value).ownBlock ∧ some k_ ≠ (u167003 : Value).ownBlock ∧ some k_ ≠ (u195003 : Value).ownBlock ∧ k_ ≠ gb166 ∧ k_ ≠ gb193 ∧ k_ ≠ gb194 ∧ k_ ≠ g) (.slice (some ad192) l2.length c2) l2) ∧ Aside0 (Kd.S k182 182 w' w.heap.size (fun k_ => (w.heap.size ≤ k_)) u167002 x167002_1) ∧ Aside0 (Kd.R k186 186 w' w.heap.size (fun k_ => (w.heap.size ≤ k_) ∧ some k_ ≠ (u195003 : Value).ownBlock ∧ k_ ≠ gb194) u167003 x167003_2) ∧ Aside0 (Kd.R (Kd.int .u16) 103 w' w.heap.size (fun k_ => (w.heap.size ≤ k_)) u195003 x195003_3) ∧ Aside0 (w'.heap[gb166]? = some (.cells #[.int .u16 0, .int .u16 0, u167002, u167003] 109 (0, 0))) ∧ Aside0 (w'.heap[gb193]? = some (.cells #[(.slice A192_0 ((rd_T41 l2 x72_2).f0).length c192_0), (.slice A192_1 ((rd_T41 l2 x72_2).f1).length c192_1)] 41 (0, 0))) ∧ Aside0 (w'.heap[gb194]? = some (.cells #[.int .u16 0, .int .u16 0, .int .u16 0, u195003, (.slice none 0 0)] 186 (0, 0))) ∧ Aside0 (IsS102 w0 w' g x1000_3 x1001_3 x1002_3) ∧ Aside0 (KeepBut w w' g none) ∧ Aside0 (Below w0.heap.size w0 w'))
         case atStart => exact ⟨(0), (x1000_2), (x1001_2), (x1002_2), (([] : List Int)), (.slice none 0 0), (by first | rfl | (simp; done) | (simp [*]; done)), H', ⟨Nat.le_refl _⟩, ⟨by (with_reducible repeat (first | apply Kd.V_alloc | apply Kd.V_drewN | apply Kd.V_drew)); exact Kd.V_mono HO_1.out (fun _ hk => ⟨hk.1.1.1, ⟨hk.1.1.2.1, ⟨hk.1.1.2.2.1, ⟨(by simp [Value.ownBlock]), ⟨hk.1.1.2.2.2.1, ⟨hk.1.2, ⟨hk.2, hk.1.1.2.2.2.2⟩⟩⟩⟩⟩⟩⟩)⟩, ⟨by (with_reducible repeat (first | apply Kd.V_alloc | apply Kd.V_drewN | apply Kd.V_drew)); exact Kd.V_mono HO_70.out (fun _ hk => ⟨hk.1.1.1, ⟨hk.1.1.2.1, ⟨hk.1.1.2.2.1, ⟨(by simp [Value.ownBlock]), ⟨hk.1.1.2.2.2.1, ⟨hk.1.2, ⟨hk.2, hk.1.1.2.2.2.2⟩⟩⟩⟩⟩⟩⟩)⟩, ⟨by (with_reducible repeat (first | apply Kd.S_alloc | apply Kd.S_drewN | apply Kd.S_drew)); exact HO_167002.out⟩, ⟨by (with_reducible repeat (first | apply Kd.R_alloc | apply Kd.R_drewN | apply Kd.R_drew)); exact Kd.R_mono HO_167003.out (fun _ hk => ⟨hk.1, ⟨(by simp [Value.ownBlock]), hk.2⟩⟩)⟩, ⟨by first | exact Kd.R_nil _ _ _ _ _ | exact Kd.N_nil _ _ _ _ _ | exact Kd.V_nil _ _ _ _ _ | exact Kd.Q_nil _ _ _ _ _ | exact Kd.S_nil _ _ _ _ _⟩, ⟨by (with_reducible repeat (first | refine b1_ ?_ _ | refine b2_ ?_ | refine b3_ ?_ _)); exact BK166.out⟩, ⟨by (with_reducible repeat (first | refine b1_ ?_ _ | refine b2_ ?_ | refine b3_ ?_ _)); exact BK193.out⟩, ⟨by (with_reducible repeat (first | refine b1_ ?_ _ | refine b2_ ?_ | refine b3_ ?_ _)); exact BK194.out⟩, ⟨by repeat (first | (with_reducible first | exact HI0.out | apply IsS102.alloc | apply IsS102.drewN | apply IsS102.drew | apply IsS102.set_0 | apply IsS102.set_1 | apply IsS102.set_2 | refine IsS102.far ?_ NB0_166.out _ | refine IsS102.far ?_ NB0_193.out _ | refine IsS102.far ?_ NB0_194.out _) | exact HI0.out)⟩, ⟨by repeat (first | (with_reducible first | exact HK.out | apply KeepBut.set_ | apply keep_drewN | apply keep_drew | apply keep_alloc | refine keep_far ?_ GW166.out _ | refine keep_far ?_ GW193.out _ | refine keep_far ?_ GW194.out _) | exact HK.out)⟩, ⟨by repeat (first | (with_reducible first | exact HB.out | apply below_alloc | apply pw_below_drewN | apply below_drew1 | refine below_set ?_ (IsS102.ge HI0.out) | refine below_set ?_ GE166.out | refine below_set ?_ GE193.out | refine below_set ?_ GE194.out) | exact HB.out)⟩⟩
         case round =>
          clear H'
          try clear c1
          try clear p1
          try clear q1
          try clear hx1
          try clear c2
          try clear p2
          try clear c3
          try clear c4
          try clear c5
          try clear c6
          try clear c6b0
          try clear p6
          try clear c7
          try clear c7b0
          try clear c8
          try clear c8b0
          try clear c12
          try clear c12b0
          try clear c13
          try clear c13b0
          try clear c14
          try clear c14b0
          try clear c16
          try clear p16
          try clear q16
          try clear hx16
          try clear hf16
          try clear p17
          try clear q17
          try clear hx17
          try clear c18
          try clear c19
          try clear p19
          try clear q19
          try clear hx19
          try clear c20
          try clear c21
          try clear c22
          try clear c32
          try clear c33
          try clear c34
          try clear c36
          try clear c42
          try clear c42b0
          try clear c43
          try clear c43b0
          try clear c44
          try clear c44b0
          try clear c46
          try clear c47
          try clear c50
          try clear c51
          try clear hcz23_0
          try clear hcz23_1
          try clear hcz23_2
          try clear hcz35_0
          try clear hcz35_1
          try clear hcz35_2
          try clear hcz35_3
          try clear hcz37_0
          try clear hcz41_0
          try clear hcz41_1
          try clear hcz41_2
          try clear hcz41_3
          try clear hcz48_0
          try clear hcz48_1
          try clear hcz51_0
          try clear hcz51_1
          try clear hfz23_0
          try clear hfz23_1
          try clear hfz23_2
          try clear hfz35_0
          try clear hfz35_1
          try clear hfz35_2
          try clear hfz35_3
          try clear hfz37_0
          try clear hfz41_0
          try clear hfz41_1
          try clear hfz41_2
          try clear hfz41_3
          try clear hfz48_0
          try clear hfz48_1
          try clear hfz51_0
          try clear hfz51_1
          try clear hx167_0
          try clear hx172_0
          try clear hx172_1
          try clear hx172_2
          try clear hx192_0
          try clear hx192_1
          try clear p1
          try clear p16
          try clear p167
          try clear p17
          try clear p172
          try clear p192
          try clear p2
          try clear p6
          try clear q1
          try clear q16
          try clear q167
          try clear q17
          try clear q172
          try clear q192
          obtain ⟨x79_3, x1000_3, x1001_3, x1002_3, x195003_3, u195003, rfl, HA, HK3, HO_1, HO_70, HO_167002, HO_167003, HO_195003, BK166, BK193, BK194, HI0, HK, HB⟩ := hrel
          cases gk with
          | zero => exact absurd HA.out (by simp [impl_builder_store.l3])
          | succ k3 =>
           have H := HA.out
           clear HA
           simp only [impl_builder_store.l3] at H
           by_cases c52 : x79_3 < (((rd_T41 l2 x72_2).f0).length : Int)
           ·rw [if_pos c52] at H
            have c52b0 : decide (x79_3 < (((rd_T41 l2 x72_2).f0).length : Int)) = true := decide_eq_true c52
            clear c52
            by_cases c53 : 0 ≤ x79_3
            ·rw [if_pos c53] at H
             have c53b0 : decide (0 ≤ x79_3) = true := decide_eq_true c53
             clear c53
             by_cases c54 : x79_3 < (((rd_T41 l2 x72_2).f0).length : Int)
             ·rw [if_pos c54] at H
              have c54b0 : decide (x79_3 < (((rd_T41 l2 x72_2).f0).length : Int)) = true := decide_eq_true c54
              clear c54
              by_cases c55 : (rd ((rd_T41 l2 x72_2).f0) x79_3) ≥ 0
              ·rw [if_pos c55] at H
               have c55b0 : decide (0 ≤ (rd ((rd_T41 l2 x72_2).f0) x79_3)) = true := decide_eq_true c55
               clear c55
               replace H := Option.bind_eq_some_iff.mp H
               obtain ⟨⟨t196, t197, t198⟩, A560, H⟩ := H
               replace H : ((impl_builder_small.f t196 t197 t198 (rd ((rd_T41 l2 x72_2).f0) x79_3)).bind fun bt199 => (if x195003_3.length < 70368744177664 then (impl_builder_store.l3 k3 l1 l2 (l2.length : Int) x72_2 ((rd_T41 l2 x72_2).f0) (((rd_T41 l2 x72_2).f0).length : Int) (wrap64 (x79_3 + 1)) bt199.2.1 bt199.2.2.1 bt199.2.2.2 0 0 x167002_1 x167003_2 ((rd_T41 l2 x72_2).f0) ((rd_T41 l2 x72_2).f1) 0 0 0 (x195003_3 ++ [bt199.1])) else (none))) = some (r1, r2, r3, r4, r5, r6, r7) := H
               have A56 := Aside0.mk A560
               clear A560
               replace H := Option.bind_eq_some_iff.mp H
               obtain ⟨⟨t199, t200, t201, t202⟩, A570, H⟩ := H
               replace H : (if x195003_3.length < 70368744177664 then (impl_builder_store.l3 k3 l1 l2 (l2.length : Int) x72_2 ((rd_T41 l2 x72_2).f0) (((rd_T41 l2 x72_2).f0).length : Int) (wrap64 (x79_3 + 1)) t200 t201 t202 0 0 x167002_1 x167003_2 ((rd_T41 l2 x72_2).f0) ((rd_T41 l2 x72_2).f1) 0 0 0 (x195003_3 ++ [t199])) else (none)) = some (r1, r2, r3, r4, r5, r6, r7) := H
               have A57 := Aside0.mk A570
               clear A570
               by_cases c58 : x195003_3.length < 70368744177664
               ·rw [if_pos c58] at H
                have LMc58 := Aside0.mk c58
                clear c58
                obtain ⟨y203, hy203⟩ : ∃ y_ : List Int, y_ = (x195003_3 ++ [t199]) := ⟨_, rfl⟩
                replace H : (impl_builder_store.l3 k3 l1 l2 (l2.length : Int) x72_2 ((rd_T41 l2 x72_2).f0) (((rd_T41 l2 x72_2).f0).length : Int) (wrap64 (x79_3 + 1)) t200 t201 t202 0 0 x167002_1 x167003_2 ((rd_T41 l2 x72_2).f0) ((rd_T41 l2 x72_2).f1) 0 0 0 y203) = some (r1, r2, r3, r4, r5, r6, r7) := by first | (rw [hy203]; with_reducible exact H) | (have H2_ := (Option.bind_some _ _).symm.trans H; rw [hy203]; with_reducible exact H2_) | (have H2_ := (Option.bind_some _ _).symm.trans H; with_reducible exact H2_) | with_reducible exact H | (rw [hy203]; exact H) | exact H
                have Ny203 := Aside0.mk hy203
                clear hy203
                have H' := Aside0.mk H
                clear H
                have p195 : 0 ≤ (x79_3 : Int) := of_decide_eq_true (by first | (with_reducible assumption) | assumption)
                have q195 : x79_3 < (((rd_T41 l2 x72_2).f0).length : Int) := of_decide_eq_true (by first | (with_reducible assumption) | assumption)
                have HR192_0 := Aside0.mk (Kd.F_now (Kd.F_keep HF192.out.1 HK.out (fun _ h_ => h_.2)))
                obtain ⟨ad195, e195, hx195_0⟩ := Kd.at_int HR192_0.out x79_3 p195 q195
                cases e195
                replace p195 := eq_true p195
                replace q195 := eq_true q195
                try go_wp2_with (first | ((with_reducible refine gate_callee (f := 50) rfl ?_); refine goesL_ (some 92) rfl rfl Try.func50 (by kernel_rfl) rfl #[.pointer (some ⟨g, 0, none⟩), .bool (decide ((rd ((rd_T41 l2 x72_2).f0) x79_3) < (l1.length : Int)))] rfl (by (try simp only [List.map_toArray, List.map_cons, List.map_nil]); first | done | rfl | (simp only [List.length_drop, List.length_take]; rfl)) ?_; (with_reducible refine (impl_builder_must.calls g x1000_3 x1001_3 x1002_3 (decide ((rd ((rd_T41 l2 x72_2).f0) x79_3) < (l1.length : Int))) t196 t197 t198 w0 _ ?side1 ?side2 A56.out).mono ?_); (case side1 => repeat (first | (with_reducible first | exact HI0.out | apply IsS102.alloc | apply IsS102.drewN | apply IsS102.drew | apply IsS102.set_0 | apply IsS102.set_1 | apply IsS102.set_2 | refine IsS102.far ?_ NB0_166.out _ | refine IsS102.far ?_ NB0_193.out _ | refine IsS102.far ?_ NB0_194.out _) | exact HI0.out)); (case side2 => repeat (first | (with_reducible first | exact HB.out | apply below_alloc | apply pw_below_drewN | apply below_drew1 | refine below_set ?_ (IsS102.ge HI0.out) | refine below_set ?_ GE166.out | refine below_set ?_ GE193.out | refine below_set ?_ GE194.out) | exact HB.out)); rintro e w59 ⟨rfl, hi, hb, hk⟩; refine ⟨_, rfl, ?_⟩; have n0_ := Aside0.mk (Kd.V_mono (Kd.V_keep (Kd.V_mono (ok := fun k_ => ((((P1_ k_ ∨ P2_ k_) ∨ w.heap.size ≤ k_)) ∧ (some k_ ≠ (u167002 : Value).ownBlock ∧ (some k_ ≠ (u167003 : Value).ownBlock ∧ (some k_ ≠ (u195003 : Value).ownBlock ∧ (k_ ≠ gb166 ∧ (k_ ≠ gb193 ∧ (k_ ≠ gb194 ∧ k_ ≠ g)))))))) (by (with_reducible repeat (first | apply Kd.V_alloc | apply Kd.V_drewN | apply Kd.V_drew)); exact HO_1.out) (fun k_ hk_ => (⟨hk_, hk_.2.2.2.2.2.2.2⟩ : _ ∧ k_ ≠ g))) hk (fun _ h => h.2)) (fun _ h => h.1)); have n1_ := Aside0.mk (Kd.V_mono (Kd.V_keep (Kd.V_mono (ok := fun k_ => ((((P1_ k_ ∨ P2_ k_) ∨ w.heap.size ≤ k_)) ∧ (some k_ ≠ (u167002 : Value).ownBlock ∧ (some k_ ≠ (u167003 : Value).ownBlock ∧ (some k_ ≠ (u195003 : Value).ownBlock ∧ (k_ ≠ gb166 ∧ (k_ ≠ gb193 ∧ (k_ ≠ gb194 ∧ k_ ≠ g)))))))) (by (with_reducible repeat (first | apply Kd.V_alloc | apply Kd.V_drewN | apply Kd.V_drew)); exact HO_70.out) (fun k_ hk_ => (⟨hk_, hk_.2.2.2.2.2.2.2⟩ : _ ∧ k_ ≠ g))) hk (fun _ h => h.2)) (fun _ h => h.1)); have n2_ := Aside0.mk (Kd.S_mono (Kd.S_keep (IsS102.apartS (show IsS102 w0 _ g x1000_3 x1001_3 x1002_3 from by repeat (first | (with_reducible first | exact HI0.out | apply IsS102.alloc | apply IsS102.drewN | apply IsS102.drew | apply IsS102.set_0 | apply IsS102.set_1 | apply IsS102.set_2 | refine IsS102.far ?_ NB0_166.out _ | refine IsS102.far ?_ NB0_193.out _ | refine IsS102.far ?_ NB0_194.out _) | exact HI0.out)) (by (with_reducible repeat (first | apply Kd.S_alloc | apply Kd.S_drewN | apply Kd.S_drew)); exact HO_167002.out) (by decide)) hk (fun _ h => h.2)) (fun _ h => h.1)); have n3_ := Aside0.mk (Kd.R_mono (Kd.R_keep (IsS102.apart (show IsS102 w0 _ g x1000_3 x1001_3 x1002_3 from by repeat (first | (with_reducible first | exact HI0.out | apply IsS102.alloc | apply IsS102.drewN | apply IsS102.drew | apply IsS102.set_0 | apply IsS102.set_1 | apply IsS102.set_2 | refine IsS102.far ?_ NB0_166.out _ | refine IsS102.far ?_ NB0_193.out _ | refine IsS102.far ?_ NB0_194.out _) | exact HI0.out)) (by (with_reducible repeat (first | apply Kd.R_alloc | apply Kd.R_drewN | apply Kd.R_drew)); exact HO_167003.out) (by decide)) hk (fun _ h => h.2)) (fun _ h => h.1)); have n4_ := Aside0.mk (Kd.R_mono (Kd.R_keep (IsS102.apart (show IsS102 w0 _ g x1000_3 x1001_3 x1002_3 from by repeat (first | (with_reducible first | exact HI0.out | apply IsS102.alloc | apply IsS102.drewN | apply IsS102.drew | apply IsS102.set_0 | apply IsS102.set_1 | apply IsS102.set_2 | refine IsS102.far ?_ NB0_166.out _ | refine IsS102.far ?_ NB0_193.out _ | refine IsS102.far ?_ NB0_194.out _) | exact HI0.out)) (by (with_reducible repeat (first | apply Kd.R_alloc | apply Kd.R_drewN | apply Kd.R_drew)); exact HO_195003.out) (by decide)) hk (fun _ h => h.2)) (fun _ h => h.1)); have n5_ := Aside0.mk (KeepBut.blk hk (g' := gb166) (o := .cells #[.int .u16 0, .int .u16 0, u167002, u167003] 109 (0, 0)) (by (with_reducible repeat (first | refine b1_ ?_ _ | refine b2_ ?_ | refine b3_ ?_ _)); exact BK166.out) NB166_0.out (by simp)); have n6_ := Aside0.mk (KeepBut.blk hk (g' := gb193) (o := .cells #[.slice (some ad195) ((rd_T41 l2 x72_2).f0).length c192_0, .slice A192_1 ((rd_T41 l2 x72_2).f1).length c192_1] 41 (0, 0)) (by (with_reducible repeat (first | refine b1_ ?_ _ | refine b2_ ?_ | refine b3_ ?_ _)); exact BK193.out) NB193_0.out (by simp)); have n7_ := Aside0.mk (KeepBut.blk hk (g' := gb194) (o := .cells #[.int .u16 0, .int .u16 0, .int .u16 0, u195003, .slice none 0 0] 186 (0, 0)) (by (with_reducible repeat (first | refine b1_ ?_ _ | refine b2_ ?_ | refine b3_ ?_ _)); exact BK194.out) NB194_0.out (by simp)); have n8_ := Aside0.mk (KeepBut.trans (by repeat (first | (with_reducible first | exact HK.out | apply KeepBut.set_ | apply keep_drewN | apply keep_drew | apply keep_alloc | refine keep_far ?_ GW166.out _ | refine keep_far ?_ GW193.out _ | refine keep_far ?_ GW194.out _) | exact HK.out)) hk (.inl rfl)); have n9_ := Aside0.mk (hb); have n10_ := Aside0.mk (hi); clear HO_1; clear HO_70; clear HO_167002; clear HO_167003; clear HO_195003; clear BK166; clear BK193; clear BK194; clear HK; clear HB; clear HI0; have HO_1 := n0_; have HO_70 := n1_; have HO_167002 := n2_; have HO_167003 := n3_; have HO_195003 := n4_; have BK166 := n5_; have BK193 := n6_; have BK194 := n7_; have HK := n8_; have HB := n9_; have HI0 := n10_; clear n0_ n1_ n2_ n3_ n4_ n5_ n6_ n7_ n8_ n9_ n10_; (try clear hb); (try clear hb2); (try clear hk); (try clear hi)))
                have n0_ := Aside0.mk (Kd.V_drew HO_1.out)
                have n1_ := Aside0.mk (Kd.V_drew HO_70.out)
                have n2_ := Aside0.mk (Kd.S_drew HO_167002.out)
                have n3_ := Aside0.mk (Kd.R_drew HO_167003.out)
                have n4_ := Aside0.mk (Kd.R_drew HO_195003.out)
                have n5_ := Aside0.mk (blk_drew BK166.out)
                have n6_ := Aside0.mk (blk_drew BK193.out)
                have n7_ := Aside0.mk (blk_drew BK194.out)
                have n8_ := Aside0.mk (IsS102.drew HI0.out)
                have n9_ := Aside0.mk (keep_drew HK.out)
                have n10_ := Aside0.mk (below_drew1 HB.out)
                clear HO_1
                clear HO_70
                clear HO_167002
                clear HO_167003
                clear HO_195003
                clear BK166
                clear BK193
                clear BK194
                clear HI0
                clear HK
                clear HB
                have HO_1 := n0_
                have HO_70 := n1_
                have HO_167002 := n2_
                have HO_167003 := n3_
                have HO_195003 := n4_
                have BK166 := n5_
                have BK193 := n6_
                have BK194 := n7_
                have HI0 := n8_
                have HK := n9_
                have HB := n10_
                clear n0_ n1_ n2_ n3_ n4_ n5_ n6_ n7_ n8_ n9_ n10_
                refine start_ (n := 9) (S := fun w' => w'.cell? ⟨gb194, 0, none⟩ = some (.int .u16 0) ∧ w'.cell? ⟨gb194, 1, none⟩ = some (.int .u16 0) ∧ w'.cell? ⟨gb194, 2, none⟩ = some (.int .u16 0) ∧ w'.cell? ⟨gb194, 3, none⟩ = some (u195003) ∧ w'.cell? ⟨gb194, 4, none⟩ = some (.slice none 0 0)) (ds := [8]) #[ff,ff,ff,ff,ff,ff,ff,ff,ff] (by kernel_rfl) rfl rfl ⟨(blk_cell BK194.out 0).trans rfl, (blk_cell BK194.out 1).trans rfl, (blk_cell BK194.out 2).trans rfl, (blk_cell BK194.out 3).trans rfl, (blk_cell BK194.out 4).trans rfl⟩ (fun hHeld => ?_); refine with_tabW impl_builder_store.tab21 impl_builder_store.bits21 (fun HT_ HW_ => ?_)
                generalize w59.drew = w60 at HO_1 HO_70 HO_167002 HO_167003 HO_195003 BK166 BK193 BK194 HI0 HK HB hHeld ⊢
                refine pure_ (i := 0) (N := some 93) (v := ?_) (a' := ?_) #[true, false, false, false, false, false, false, false, false] rfl rfl (any_of HT_.out (by kernel_rfl)) (fun _ _ _ h => h) (Or.inl ⟨by rfl, ?_⟩) ?_ ?_
                rotate_left
                ·intro w'
                 go_simp
                 with_reducible rfl
                rotate_left
                ·simp only [Act.put, L1_, L2_, L3_, i64_w, i32_w]
                 rfl
                refine pure_ (i := 2) (N := some 95) (v := ?_) (a' := ?_) #[true, false, true, false, false, false, false, false, false] rfl rfl (any_of HT_.out (by kernel_rfl)) (fun _ _ _ h => h) (Or.inl ⟨by rfl, ?_⟩) ?_ ?_
                rotate_left
                ·intro w'
                 go_simp
                 with_reducible rfl
                rotate_left
                ·simp only [Act.put, L1_, L2_, L3_, i64_w, i32_w]
                 rfl
                refine pure_ (i := 3) (N := some 96) (v := ?_) (a' := ?_) #[true, false, true, true, false, false, false, false, false] rfl rfl (any_of HT_.out (by kernel_rfl)) (fun _ _ _ h => h) (Or.inl ⟨by rfl, ?_⟩) ?_ ?_
                rotate_left
                ·intro w'
                 go_simp
                 with_reducible rfl
                rotate_left
                ·simp only [Act.put, L1_, L2_, L3_, i64_w, i32_w]
                 rfl
                refine take_ (i := 1) (N := some 94) (v := ?_) (a' := ?_) #[true, true, true, true, false, false, false, false, false] rfl rfl (take_ofW HT_.out HW_.out (by kernel_rfl)) (fun _ _ _ h => h) (Or.inl ⟨by rfl, ?_⟩) hHeld ?_ ?_
                rotate_left
                ·rintro w' ⟨s0, s1, s2, s3, s4⟩
                 go_simp
                 with_reducible rfl
                rotate_left
                ·simp only [Act.put, L1_, L2_, L3_, i64_w, i32_w]
                 rfl
                refine one_ (i := 4) (N := some 97) #[true, true, true, true, true, false, false, false, false] rfl rfl (one_of HT_.out (by kernel_rfl)) (by decide) (fun K hK => ?_)
                refine goes_ Try.func35 (by kernel_rfl) rfl #[.pointer (some ⟨g, 0, none⟩), .int .i64 (rd ((rd_T41 l2 x72_2).f0) x79_3)] (by rfl) rfl rfl (by (try simp only [List.map_toArray, List.map_cons, List.map_nil]); first | done | rfl | (simp only [List.length_drop, List.length_take]; rfl)) ?_
                with_reducible refine (impl_builder_small.calls g t196 t197 t198 (rd ((rd_T41 l2 x72_2).f0) x79_3) t199 t200 t201 t202 w0 _ ?side1 ?side2 A57.out).mono ?_
                (case side1 => repeat (first | (with_reducible first | exact HI0.out | apply IsS102.alloc | apply IsS102.drewN | apply IsS102.drew | apply IsS102.set_0 | apply IsS102.set_1 | apply IsS102.set_2 | refine IsS102.far ?_ NB0_166.out _ | refine IsS102.far ?_ NB0_193.out _ | refine IsS102.far ?_ NB0_194.out _) | exact HI0.out))
                (case side2 => repeat (first | (with_reducible first | exact HB.out | apply below_alloc | apply pw_below_drewN | apply below_drew1 | refine below_set ?_ (IsS102.ge HI0.out) | refine below_set ?_ GE166.out | refine below_set ?_ GE193.out | refine below_set ?_ GE194.out) | exact HB.out))
                rintro e w61 ⟨rfl, hi, hb, hk⟩
                refine ⟨_, rfl, ?_⟩
                have n0_ := Aside0.mk (Kd.V_mono (Kd.V_keep (Kd.V_mono (ok := fun k_ => ((((P1_ k_ ∨ P2_ k_) ∨ w.heap.size ≤ k_)) ∧ (some k_ ≠ (u167002 : Value).ownBlock ∧ (some k_ ≠ (u167003 : Value).ownBlock ∧ (some k_ ≠ (u195003 : Value).ownBlock ∧ (k_ ≠ gb166 ∧ (k_ ≠ gb193 ∧ (k_ ≠ gb194 ∧ k_ ≠ g)))))))) (by (with_reducible repeat (first | apply Kd.V_alloc | apply Kd.V_drewN | apply Kd.V_drew)); exact HO_1.out) (fun k_ hk_ => (⟨hk_, hk_.2.2.2.2.2.2.2⟩ : _ ∧ k_ ≠ g))) hk (fun _ h => h.2)) (fun _ h => h.1))
                have n1_ := Aside0.mk (Kd.V_mono (Kd.V_keep (Kd.V_mono (ok := fun k_ => ((((P1_ k_ ∨ P2_ k_) ∨ w.heap.size ≤ k_)) ∧ (some k_ ≠ (u167002 : Value).ownBlock ∧ (some k_ ≠ (u167003 : Value).ownBlock ∧ (some k_ ≠ (u195003 : Value).ownBlock ∧ (k_ ≠ gb166 ∧ (k_ ≠ gb193 ∧ (k_ ≠ gb194 ∧ k_ ≠ g)))))))) (by (with_reducible repeat (first | apply Kd.V_alloc | apply Kd.V_drewN | apply Kd.V_drew)); exact HO_70.out) (fun k_ hk_ => (⟨hk_, hk_.2.2.2.2.2.2.2⟩ : _ ∧ k_ ≠ g))) hk (fun _ h => h.2)) (fun _ h => h.1))
                have n2_ := Aside0.mk (Kd.S_mono (Kd.S_keep (IsS102.apartS (show IsS102 w0 _ g t196 t197 t198 from by repeat (first | (with_reducible first | exact HI0.out | apply IsS102.alloc | apply IsS102.drewN | apply IsS102.drew | apply IsS102.set_0 | apply IsS102.set_1 | apply IsS102.set_2 | refine IsS102.far ?_ NB0_166.out _ | refine IsS102.far ?_ NB0_193.out _ | refine IsS102.far ?_ NB0_194.out _) | exact HI0.out)) (by (with_reducible repeat (first | apply Kd.S_alloc | apply Kd.S_drewN | apply Kd.S_drew)); exact HO_167002.out) (by decide)) hk (fun _ h => h.2)) (fun _ h => h.1))
                have n3_ := Aside0.mk (Kd.R_mono (Kd.R_keep (IsS102.apart (show IsS102 w0 _ g t196 t197 t198 from by repeat (first | (with_reducible first | exact HI0.out | apply IsS102.alloc | apply IsS102.drewN | apply IsS102.drew | apply IsS102.set_0 | apply IsS102.set_1 | apply IsS102.set_2 | refine IsS102.far ?_ NB0_166.out _ | refine IsS102.far ?_ NB0_193.out _ | refine IsS102.far ?_ NB0_194.out _) | exact HI0.out)) (by (with_reducible repeat (first | apply Kd.R_alloc | apply Kd.R_drewN | apply Kd.R_drew)); exact HO_167003.out) (by decide)) hk (fun _ h => h.2)) (fun _ h => h.1))
                have n4_ := Aside0.mk (Kd.R_mono (Kd.R_keep (IsS102.apart (show IsS102 w0 _ g t196 t197 t198 from by repeat (first | (with_reducible first | exact HI0.out | apply IsS102.alloc | apply IsS102.drewN | apply IsS102.drew | apply IsS102.set_0 | apply IsS102.set_1 | apply IsS102.set_2 | refine IsS102.far ?_ NB0_166.out _ | refine IsS102.far ?_ NB0_193.out _ | refine IsS102.far ?_ NB0_194.out _) | exact HI0.out)) (by (with_reducible repeat (first | apply Kd.R_alloc | apply Kd.R_drewN | apply Kd.R_drew)); exact HO_195003.out) (by decide)) hk (fun _ h => h.2)) (fun _ h => h.1))
                have n5_ := Aside0.mk (KeepBut.blk hk (g' := gb166) (o := .cells #[.int .u16 0, .int .u16 0, u167002, u167003] 109 (0, 0)) (by (with_reducible repeat (first | refine b1_ ?_ _ | refine b2_ ?_ | refine b3_ ?_ _)); exact BK166.out) NB166_0.out (by simp))
                have n6_ := Aside0.mk (KeepBut.blk hk (g' := gb193) (o := .cells #[.slice (some ad195) ((rd_T41 l2 x72_2).f0).length c192_0, .slice A192_1 ((rd_T41 l2 x72_2).f1).length c192_1] 41 (0, 0)) (by (with_reducible repeat (first | refine b1_ ?_ _ | refine b2_ ?_ | refine b3_ ?_ _)); exact BK193.out) NB193_0.out (by simp))
                have n7_ := Aside0.mk (KeepBut.blk hk (g' := gb194) (o := .cells #[.int .u16 0, .int .u16 0, .int .u16 0, u195003, .slice none 0 0] 186 (0, 0)) (by (with_reducible repeat (first | refine b1_ ?_ _ | refine b2_ ?_ | refine b3_ ?_ _)); exact BK194.out) NB194_0.out (by simp))
                have n8_ := Aside0.mk (KeepBut.trans (by repeat (first | (with_reducible first | exact HK.out | apply KeepBut.set_ | apply keep_drewN | apply keep_drew | apply keep_alloc | refine keep_far ?_ GW166.out _ | refine keep_far ?_ GW193.out _ | refine keep_far ?_ GW194.out _) | exact HK.out)) hk (.inl rfl))
                have n9_ := Aside0.mk (hb)
                have n10_ := Aside0.mk (hi)
                clear HO_1
                clear HO_70
                clear HO_167002
                clear HO_167003
                clear HO_195003
                clear BK166
                clear BK193
                clear BK194
                clear HK
                clear HB
                clear HI0
                have HO_1 := n0_
                have HO_70 := n1_
                have HO_167002 := n2_
                have HO_167003 := n3_
                have HO_195003 := n4_
                have BK166 := n5_
                have BK193 := n6_
                have BK194 := n7_
                have HK := n8_
                have HB := n9_
                have HI0 := n10_
                clear n0_ n1_ n2_ n3_ n4_ n5_ n6_ n7_ n8_ n9_ n10_
                (try clear hb)
                (try clear hb2)
                (try clear hk)
                (try clear hi)
                refine hK.out _ _ ⟨(blk_cell BK194.out 0).trans rfl, (blk_cell BK194.out 1).trans rfl, (blk_cell BK194.out 2).trans rfl, (blk_cell BK194.out 3).trans rfl, (blk_cell BK194.out 4).trans rfl⟩ (fun hHeld => ?_)
                clear hK K
                refine norm_ (a' := ?_) ?_ ?_
                rotate_left
                ·show Act.put _ (some 97) _ = _
                 simp only [Act.put, L1_, L2_, L3_, i64_w, i32_w]
                 rfl
                refine one_ (i := 5) (N := some 98) #[true, true, true, true, true, true, false, false, false] rfl rfl (one_of HT_.out (by kernel_rfl)) (by decide) (fun K hK => ?_)
                refine value_ (w1 := ?_) (v := ?_) (by rfl) rfl ?_ ?_
                rotate_left 2
                ·go_simp
                 constructor
                 ·rfl
                 ·rfl
                refine hK.out _ _ ⟨(blk_cell (blk_alloc BK194.out _) 0).trans rfl, (blk_cell (blk_alloc BK194.out _) 1).trans rfl, (blk_cell (blk_alloc BK194.out _) 2).trans rfl, (blk_cell (blk_alloc BK194.out _) 3).trans rfl, (blk_cell (blk_alloc BK194.out _) 4).trans rfl⟩ (fun hHeld => ?_)
                clear hK K
                refine norm_ (a' := ?_) ?_ ?_
                rotate_left
                ·show Act.put _ (some 98) _ = _
                 simp only [Act.put, L1_, L2_, L3_, i64_w, i32_w]
                 rfl
                refine one_ (i := 6) (N := some 99) #[true, true, true, true, true, true, true, false, false] rfl rfl (one_of HT_.out (by kernel_rfl)) (by decide) (fun K hK => ?_)
                refine Kd.R_append_step (Kd.int .u16) w.heap.size (by rfl) (.tmp 94) (.tmp 98) 155 103 (.int .u16 0) 2 rfl Try.underlying155 info103 rfl (by decide) (by omega) u195003 x195003_3 t199 [.int .u16 t199] (fun k_ => (w.heap.size ≤ k_)) (fun _ => False) rfl rfl ?aP (fun _ hk => hk.elim) ?aF ?aO (Below.refl _ _) ?aS ?aL ?_
                (case aP => exact rfl)
                (case aF => exact (fun k_ hk => (Nat.le_trans (keep_size (w := w) (g := g) (row := none) (by repeat (first | (with_reducible first | exact HK.out | apply KeepBut.set_ | apply keep_drewN | apply keep_drew | apply keep_alloc | refine keep_far ?_ GW166.out _ | refine keep_far ?_ GW193.out _ | refine keep_far ?_ GW194.out _) | exact HK.out))) hk)))
                (case aO => exact (by (with_reducible repeat (first | apply Kd.R_alloc | apply Kd.R_drewN | apply Kd.R_drew)); exact HO_195003.out))
                (case aS => exact (keep_size (w := w) (g := g) (row := none) (by repeat (first | (with_reducible first | exact HK.out | apply KeepBut.set_ | apply keep_drewN | apply keep_drew | apply keep_alloc | refine keep_far ?_ GW166.out _ | refine keep_far ?_ GW193.out _ | refine keep_far ?_ GW194.out _) | exact HK.out))))
                (case aL => have := LMc58.out; omega)
                intro v204 w62 ho hb hg hat
                rw [← Ny203.out] at ho
                have n0_ := Aside0.mk (Kd.V_afterv (ok := (fun k_ => ((P1_ k_ ∨ P2_ k_) ∨ w.heap.size ≤ k_) ∧ some k_ ≠ (u167002 : Value).ownBlock ∧ some k_ ≠ (u167003 : Value).ownBlock ∧ k_ ≠ gb166 ∧ k_ ≠ gb193 ∧ k_ ≠ gb194 ∧ k_ ≠ g)) (by (with_reducible repeat (first | apply Kd.V_alloc | apply Kd.V_drewN | apply Kd.V_drew)); exact Kd.V_mono HO_1.out (fun _ hk => ⟨⟨hk.1, ⟨hk.2.1, ⟨hk.2.2.1, ⟨hk.2.2.2.2.1, ⟨hk.2.2.2.2.2.1, ⟨hk.2.2.2.2.2.2.1, hk.2.2.2.2.2.2.2⟩⟩⟩⟩⟩⟩, hk.2.2.2.1⟩)) hg hat)
                have n1_ := Aside0.mk (Kd.V_afterv (ok := (fun k_ => ((P1_ k_ ∨ P2_ k_) ∨ w.heap.size ≤ k_) ∧ some k_ ≠ (u167002 : Value).ownBlock ∧ some k_ ≠ (u167003 : Value).ownBlock ∧ k_ ≠ gb166 ∧ k_ ≠ gb193 ∧ k_ ≠ gb194 ∧ k_ ≠ g)) (by (with_reducible repeat (first | apply Kd.V_alloc | apply Kd.V_drewN | apply Kd.V_drew)); exact Kd.V_mono HO_70.out (fun _ hk => ⟨⟨hk.1, ⟨hk.2.1, ⟨hk.2.2.1, ⟨hk.2.2.2.2.1, ⟨hk.2.2.2.2.2.1, ⟨hk.2.2.2.2.2.2.1, hk.2.2.2.2.2.2.2⟩⟩⟩⟩⟩⟩, hk.2.2.2.1⟩)) hg hat)
                have n2_ := Aside0.mk (Kd.S_over' (by (with_reducible repeat (first | apply Kd.S_alloc | apply Kd.S_drewN | apply Kd.S_drew)); exact HO_167002.out) (Kd.R_typed (by (with_reducible repeat (first | apply Kd.R_alloc | apply Kd.R_drewN | apply Kd.R_drew)); exact HO_195003.out)) (by decide) hg)
                have n3_ := Aside0.mk (Kd.R_after (ok := (fun k_ => (w.heap.size ≤ k_) ∧ k_ ≠ gb194)) (by (with_reducible repeat (first | apply Kd.R_alloc | apply Kd.R_drewN | apply Kd.R_drew)); exact Kd.R_mono HO_167003.out (fun _ hk => ⟨⟨hk.1, hk.2.2⟩, hk.2.1⟩)) hg hat)
                have n4_ := Aside0.mk (blk_grown (g := gb166) (o := .cells #[.int .u16 0, .int .u16 0, u167002, u167003] 109 (0, 0)) (by (with_reducible repeat (first | refine b1_ ?_ _ | refine b2_ ?_ | refine b3_ ?_ _)); exact BK166.out) hg (Kd.R_ne HO_195003.out BK166.out (by decide)))
                have n5_ := Aside0.mk (blk_grown (g := gb193) (o := .cells #[.slice (some ad195) ((rd_T41 l2 x72_2).f0).length c192_0, .slice A192_1 ((rd_T41 l2 x72_2).f1).length c192_1] 41 (0, 0)) (by (with_reducible repeat (first | refine b1_ ?_ _ | refine b2_ ?_ | refine b3_ ?_ _)); exact BK193.out) hg (Kd.R_ne HO_195003.out BK193.out (by decide)))
                have n6_ := Aside0.mk (blk_grown (g := gb194) (o := .cells #[.int .u16 0, .int .u16 0, .int .u16 0, u195003, .slice none 0 0] 186 (0, 0)) (by (with_reducible repeat (first | refine b1_ ?_ _ | refine b2_ ?_ | refine b3_ ?_ _)); exact BK194.out) hg (Kd.R_ne HO_195003.out BK194.out (by decide)))
                have n7_ := Aside0.mk (IsS102.grown (by repeat (first | (with_reducible first | exact HI0.out | apply IsS102.alloc | apply IsS102.drewN | apply IsS102.drew | apply IsS102.set_0 | apply IsS102.set_1 | apply IsS102.set_2 | refine IsS102.far ?_ NB0_166.out _ | refine IsS102.far ?_ NB0_193.out _ | refine IsS102.far ?_ NB0_194.out _) | exact HI0.out)) hg (IsS102.own_ne HI0.out HO_195003.out (by decide)))
                have n8_ := Aside0.mk (below_weaken (by repeat (first | (with_reducible first | exact HB.out | apply below_alloc | apply pw_below_drewN | apply below_drew1 | refine below_set ?_ (IsS102.ge HI0.out) | refine below_set ?_ GE166.out | refine below_set ?_ GE193.out | refine below_set ?_ GE194.out) | exact HB.out)) HL.out hb)
                have n9_ := Aside0.mk (KeepBut.trans (by repeat (first | (with_reducible first | exact HK.out | apply KeepBut.set_ | apply keep_drewN | apply keep_drew | apply keep_alloc | refine keep_far ?_ GW166.out _ | refine keep_far ?_ GW193.out _ | refine keep_far ?_ GW194.out _) | exact HK.out)) (KeepBut.of_grown hg g) (Kd.R_base2 HO_195003.out))
                have n10_ := Aside0.mk (ho)
                clear HO_1
                clear HO_70
                clear HO_167002
                clear HO_167003
                clear BK166
                clear BK193
                clear BK194
                clear HI0
                clear HB
                clear HK
                clear HO_195003
                have HO_1 := n0_
                have HO_70 := n1_
                have HO_167002 := n2_
                have HO_167003 := n3_
                have BK166 := n4_
                have BK193 := n5_
                have BK194 := n6_
                have HI0 := n7_
                have HB := n8_
                have HK := n9_
                have HO205 := n10_
                clear n0_ n1_ n2_ n3_ n4_ n5_ n6_ n7_ n8_ n9_ n10_
                clear ho hb hg hat
                obtain ⟨Ao63, co63, eo63⟩ := Kd.R_slice HO205.out
                (first | subst eo63 | (injection eo63 with f1_ f2_ f3_; have f4_ := f1_.symm; have f5_ := f3_.symm; clear f1_ f2_ f3_; subst f4_; subst f5_))
                refine hK.out _ _ ⟨(blk_cell BK194.out 0).trans rfl, (blk_cell BK194.out 1).trans rfl, (blk_cell BK194.out 2).trans rfl, (blk_cell BK194.out 3).trans rfl, (blk_cell BK194.out 4).trans rfl⟩ (fun hHeld => ?_)
                clear hK K
                refine norm_ (a' := ?_) ?_ ?_
                rotate_left
                ·show Act.put _ (some 99) _ = _
                 simp only [Act.put, L1_, L2_, L3_, i64_w, i32_w]
                 rfl
                refine pure_ (i := 7) (N := some 100) (v := ?_) (a' := ?_) #[true, true, true, true, true, true, true, true, false] rfl rfl (any_of HT_.out (by kernel_rfl)) (fun _ _ _ h => h) (Or.inl ⟨by rfl, ?_⟩) ?_ ?_
                rotate_left
                ·intro w'
                 go_simp
                 with_reducible rfl
                rotate_left
                ·simp only [Act.put, L1_, L2_, L3_, i64_w, i32_w]
                 rfl
                refine last_ (i := 8) (N := none) #[true, true, true, true, true, true, true, true, true] rfl rfl (one_of HT_.out (by kernel_rfl)) (by decide) (fun K hK => ?_)
                have hs64 : w62.cell? ⟨gb194, 3, none⟩ = some (u195003) := (blk_cell BK194.out 3).trans rfl
                have hfs64 := blk_frozen BK194.out 3
                have hns64_0 := NB166_194.out
                have hns64_1 := NB193_194.out
                have hms64_0 := NB194_166.out
                have hms64_1 := NB194_193.out
                refine skip_ (w1 := ?_) (by rfl) rfl ?_ ?_
                rotate_left
                ·go_simp
                 rfl
                refine hK.out _ _ ?_
                clear hK K
                refine done_ (done_of HT_.out (by kernel_rfl)) ?_
                try go_wp2
                go_roundg k3
                case measure => have := HK1.out; have := HK2.out; have := HK3.out; omega
                case rel => exact ⟨(wrap64 (x79_3 + 1)), (t200), (t201), (t202), (y203), (.slice Ao63 y203.length co63), (by first | rfl | (simp; done) | (simp [*]; done)), H', ⟨by have := HK1.out; have := HK2.out; have := HK3.out; omega⟩, ⟨by (with_reducible repeat (first | apply Kd.V_alloc | apply Kd.V_drewN | apply Kd.V_drew)); exact Kd.V_mono (Kd.V_far (p := ⟨gb194, 3, none⟩) (Kd.V_mono HO_1.out (fun k_ hk => (⟨hk, hk.1.2.2.2.2.2.1⟩ : _ ∧ k_ ≠ gb194))) (fun _ hk => hk.2) (.slice Ao63 y203.length co63)) (fun _ hk => ⟨hk.1.1.1, ⟨hk.1.1.2.1, ⟨hk.1.1.2.2.1, ⟨hk.1.2, ⟨hk.1.1.2.2.2.1, ⟨hk.1.1.2.2.2.2.1, ⟨hk.1.1.2.2.2.2.2.1, hk.1.1.2.2.2.2.2.2⟩⟩⟩⟩⟩⟩⟩)⟩, ⟨by (with_reducible repeat (first | apply Kd.V_alloc | apply Kd.V_drewN | apply Kd.V_drew)); exact Kd.V_mono (Kd.V_far (p := ⟨gb194, 3, none⟩) (Kd.V_mono HO_70.out (fun k_ hk => (⟨hk, hk.1.2.2.2.2.2.1⟩ : _ ∧ k_ ≠ gb194))) (fun _ hk => hk.2) (.slice Ao63 y203.length co63)) (fun _ hk => ⟨hk.1.1.1, ⟨hk.1.1.2.1, ⟨hk.1.1.2.2.1, ⟨hk.1.2, ⟨hk.1.1.2.2.2.1, ⟨hk.1.1.2.2.2.2.1, ⟨hk.1.1.2.2.2.2.2.1, hk.1.1.2.2.2.2.2.2⟩⟩⟩⟩⟩⟩⟩)⟩, ⟨by (with_reducible repeat (first | apply Kd.S_alloc | apply Kd.S_drewN | apply Kd.S_drew)); exact Kd.S_mono (Kd.S_far (p := ⟨gb194, 3, none⟩) (Kd.S_types HO_167002.out BK194.out (by decide)) (fun _ hk => hk.2) (.slice Ao63 y203.length co63)) (fun _ hk => hk.1)⟩, ⟨by (with_reducible repeat (first | apply Kd.R_alloc | apply Kd.R_drewN | apply Kd.R_drew)); exact Kd.R_mono (Kd.R_far (p := ⟨gb194, 3, none⟩) (Kd.R_mono HO_167003.out (fun k_ hk => (⟨hk, hk.1.2⟩ : _ ∧ k_ ≠ gb194))) (fun _ hk => hk.2) (.slice Ao63 y203.length co63)) (fun _ hk => ⟨hk.1.1.1, ⟨hk.1.2, hk.1.1.2⟩⟩)⟩, ⟨by (with_reducible repeat (first | apply Kd.R_alloc | apply Kd.R_drewN | apply Kd.R_drew)); exact Kd.R_mono (Kd.R_far (p := ⟨gb194, 3, none⟩) (Kd.R_types HO205.out BK194.out (by decide)) (fun _ hk => hk.2) (.slice Ao63 y203.length co63)) (fun _ hk => hk.1)⟩, ⟨by (with_reducible repeat (first | refine b1_ ?_ _ | refine b2_ ?_ | refine b3_ ?_ _)); refine blk_far ?_ NB166_194.out _; (with_reducible repeat (first | refine b1_ ?_ _ | refine b2_ ?_ | refine b3_ ?_ _)); exact BK166.out⟩, ⟨by (with_reducible repeat (first | refine b1_ ?_ _ | refine b2_ ?_ | refine b3_ ?_ _)); refine blk_far ?_ NB193_194.out _; (with_reducible repeat (first | refine b1_ ?_ _ | refine b2_ ?_ | refine b3_ ?_ _)); exact BK193.out⟩, ⟨by (with_reducible repeat (first | refine b1_ ?_ _ | refine b2_ ?_ | refine b3_ ?_ _)); refine blk_put (cs := #[.int .u16 0, .int .u16 0, .int .u16 0, u195003, .slice none 0 0]) ?_ 3 _ rfl; (with_reducible repeat (first | refine b1_ ?_ _ | refine b2_ ?_ | refine b3_ ?_ _)); exact BK194.out⟩, ⟨by repeat (first | (with_reducible first | exact HI0.out | apply IsS102.alloc | apply IsS102.drewN | apply IsS102.drew | apply IsS102.set_0 | apply IsS102.set_1 | apply IsS102.set_2 | refine IsS102.far ?_ NB0_166.out _ | refine IsS102.far ?_ NB0_193.out _ | refine IsS102.far ?_ NB0_194.out _) | exact HI0.out)⟩, ⟨by repeat (first | (with_reducible first | exact HK.out | apply KeepBut.set_ | apply keep_drewN | apply keep_drew | apply keep_alloc | refine keep_far ?_ GW166.out _ | refine keep_far ?_ GW193.out _ | refine keep_far ?_ GW194.out _) | exact HK.out)⟩, ⟨by repeat (first | (with_reducible first | exact HB.out | apply below_alloc | apply pw_below_drewN | apply below_drew1 | refine below_set ?_ (IsS102.ge HI0.out) | refine below_set ?_ GE166.out | refine below_set ?_ GE193.out | refine below_set ?_ GE194.out) | exact HB.out)⟩⟩
               ·rw [if_neg c58] at H
                exact absurd H (by simp)
              ·rw [if_neg c55] at H
               have c55b0 : decide (0 ≤ (rd ((rd_T41 l2 x72_2).f0) x79_3)) = false := decide_eq_false c55
               clear c55
               replace H := Option.bind_eq_some_iff.mp H
               obtain ⟨⟨t206, t207, t208⟩, A650, H⟩ := H
               replace H : ((impl_builder_small.f t206 t207 t208 (rd ((rd_T41 l2 x72_2).f0) x79_3)).bind fun bt209 => (if x195003_3.length < 70368744177664 then (impl_builder_store.l3 k3 l1 l2 (l2.length : Int) x72_2 ((rd_T41 l2 x72_2).f0) (((rd_T41 l2 x72_2).f0).length : Int) (wrap64 (x79_3 + 1)) bt209.2.1 bt209.2.2.1 bt209.2.2.2 0 0 x167002_1 x167003_2 ((rd_T41 l2 x72_2).f0) ((rd_T41 l2 x72_2).f1) 0 0 0 (x195003_3 ++ [bt209.1])) else (none))) = some (r1, r2, r3, r4, r5, r6, r7) := H
               have A65 := Aside0.mk A650
               clear A650
               replace H := Option.bind_eq_some_iff.mp H
               obtain ⟨⟨t209, t210, t211, t212⟩, A660, H⟩ := H
               replace H : (if x195003_3.length < 70368744177664 then (impl_builder_store.l3 k3 l1 l2 (l2.length : Int) x72_2 ((rd_T41 l2 x72_2).f0) (((rd_T41 l2 x72_2).f0).length : Int) (wrap64 (x79_3 + 1)) t210 t211 t212 0 0 x167002_1 x167003_2 ((rd_T41 l2 x72_2).f0) ((rd_T41 l2 x72_2).f1) 0 0 0 (x195003_3 ++ [t209])) else (none)) = some (r1, r2, r3, r4, r5, r6, r7) := H
               have A66 := Aside0.mk A660
               clear A660
               by_cases c67 : x195003_3.length < 70368744177664
               ·rw [if_pos c67] at H
                have LMc67 := Aside0.mk c67
                clear c67
                obtain ⟨y213, hy213⟩ : ∃ y_ : List Int, y_ = (x195003_3 ++ [t209]) := ⟨_, rfl⟩
                replace H : (impl_builder_store.l3 k3 l1 l2 (l2.length : Int) x72_2 ((rd_T41 l2 x72_2).f0) (((rd_T41 l2 x72_2).f0).length : Int) (wrap64 (x79_3 + 1)) t210 t211 t212 0 0 x167002_1 x167003_2 ((rd_T41 l2 x72_2).f0) ((rd_T41 l2 x72_2).f1) 0 0 0 y213) = some (r1, r2, r3, r4, r5, r6, r7) := by first | (rw [hy213]; with_reducible exact H) | (have H2_ := (Option.bind_some _ _).symm.trans H; rw [hy213]; with_reducible exact H2_) | (have H2_ := (Option.bind_some _ _).symm.trans H; with_reducible exact H2_) | with_reducible exact H | (rw [hy213]; exact H) | exact H
                have Ny213 := Aside0.mk hy213
                clear hy213
                have H' := Aside0.mk H
                clear H
                have p195 : 0 ≤ (x79_3 : Int) := of_decide_eq_true (by first | (with_reducible assumption) | assumption)
                have q195 : x79_3 < (((rd_T41 l2 x72_2).f0).length : Int) := of_decide_eq_true (by first | (with_reducible assumption) | assumption)
                have HR192_0 := Aside0.mk (Kd.F_now (Kd.F_keep HF192.out.1 HK.out (fun _ h_ => h_.2)))
                obtain ⟨ad195, e195, hx195_0⟩ := Kd.at_int HR192_0.out x79_3 p195 q195
                cases e195
                replace p195 := eq_true p195
                replace q195 := eq_true q195
                try go_wp2_with (first | ((with_reducible refine gate_callee (f := 50) rfl ?_); refine goesL_ (some 92) rfl rfl Try.func50 (by kernel_rfl) rfl #[.pointer (some ⟨g, 0, none⟩), .bool false] rfl (by (try simp only [List.map_toArray, List.map_cons, List.map_nil]); first | done | rfl | (simp only [List.length_drop, List.length_take]; rfl)) ?_; (with_reducible refine (impl_builder_must.calls g x1000_3 x1001_3 x1002_3 false t206 t207 t208 w0 _ ?side1 ?side2 A65.out).mono ?_); (case side1 => repeat (first | (with_reducible first | exact HI0.out | apply IsS102.alloc | apply IsS102.drewN | apply IsS102.drew | apply IsS102.set_0 | apply IsS102.set_1 | apply IsS102.set_2 | refine IsS102.far ?_ NB0_166.out _ | refine IsS102.far ?_ NB0_193.out _ | refine IsS102.far ?_ NB0_194.out _) | exact HI0.out)); (case side2 => repeat (first | (with_reducible first | exact HB.out | apply below_alloc | apply pw_below_drewN | apply below_drew1 | refine below_set ?_ (IsS102.ge HI0.out) | refine below_set ?_ GE166.out | refine below_set ?_ GE193.out | refine below_set ?_ GE194.out) | exact HB.out)); rintro e w68 ⟨rfl, hi, hb, hk⟩; refine ⟨_, rfl, ?_⟩; have n0_ := Aside0.mk (Kd.V_mono (Kd.V_keep (Kd.V_mono (ok := fun k_ => ((((P1_ k_ ∨ P2_ k_) ∨ w.heap.size ≤ k_)) ∧ (some k_ ≠ (u167002 : Value).ownBlock ∧ (some k_ ≠ (u167003 : Value).ownBlock ∧ (some k_ ≠ (u195003 : Value).ownBlock ∧ (k_ ≠ gb166 ∧ (k_ ≠ gb193 ∧ (k_ ≠ gb194 ∧ k_ ≠ g)))))))) (by (with_reducible repeat (first | apply Kd.V_alloc | apply Kd.V_drewN | apply Kd.V_drew)); exact HO_1.out) (fun k_ hk_ => (⟨hk_, hk_.2.2.2.2.2.2.2⟩ : _ ∧ k_ ≠ g))) hk (fun _ h => h.2)) (fun _ h => h.1)); have n1_ := Aside0.mk (Kd.V_mono (Kd.V_keep (Kd.V_mono (ok := fun k_ => ((((P1_ k_ ∨ P2_ k_) ∨ w.heap.size ≤ k_)) ∧ (some k_ ≠ (u167002 : Value).ownBlock ∧ (some k_ ≠ (u167003 : Value).ownBlock ∧ (some k_ ≠ (u195003 : Value).ownBlock ∧ (k_ ≠ gb166 ∧ (k_ ≠ gb193 ∧ (k_ ≠ gb194 ∧ k_ ≠ g)))))))) (by (with_reducible repeat (first | apply Kd.V_alloc | apply Kd.V_drewN | apply Kd.V_drew)); exact HO_70.out) (fun k_ hk_ => (⟨hk_, hk_.2.2.2.2.2.2.2⟩ : _ ∧ k_ ≠ g))) hk (fun _ h => h.2)) (fun _ h => h.1)); have n2_ := Aside0.mk (Kd.S_mono (Kd.S_keep (IsS102.apartS (show IsS102 w0 _ g x1000_3 x1001_3 x1002_3 from by repeat (first | (with_reducible first | exact HI0.out | apply IsS102.alloc | apply IsS102.drewN | apply IsS102.drew | apply IsS102.set_0 | apply IsS102.set_1 | apply IsS102.set_2 | refine IsS102.far ?_ NB0_166.out _ | refine IsS102.far ?_ NB0_193.out _ | refine IsS102.far ?_ NB0_194.out _) | exact HI0.out)) (by (with_reducible repeat (first | apply Kd.S_alloc | apply Kd.S_drewN | apply Kd.S_drew)); exact HO_167002.out) (by decide)) hk (fun _ h => h.2)) (fun _ h => h.1)); have n3_ := Aside0.mk (Kd.R_mono (Kd.R_keep (IsS102.apart (show IsS102 w0 _ g x1000_3 x1001_3 x1002_3 from by repeat (first | (with_reducible first | exact HI0.out | apply IsS102.alloc | apply IsS102.drewN | apply IsS102.drew | apply IsS102.set_0 | apply IsS102.set_1 | apply IsS102.set_2 | refine IsS102.far ?_ NB0_166.out _ | refine IsS102.far ?_ NB0_193.out _ | refine IsS102.far ?_ NB0_194.out _) | exact HI0.out)) (by (with_reducible repeat (first | apply Kd.R_alloc | apply Kd.R_drewN | apply Kd.R_drew)); exact HO_167003.out) (by decide)) hk (fun _ h => h.2)) (fun _ h => h.1)); have n4_ := Aside0.mk (Kd.R_mono (Kd.R_keep (IsS102.apart (show IsS102 w0 _ g x1000_3 x1001_3 x1002_3 from by repeat (first | (with_reducible first | exact HI0.out | apply IsS102.alloc | apply IsS102.drewN | apply IsS102.drew | apply IsS102.set_0 | apply IsS102.set_1 | apply IsS102.set_2 | refine IsS102.far ?_ NB0_166.out _ | refine IsS102.far ?_ NB0_193.out _ | refine IsS102.far ?_ NB0_194.out _) | exact HI0.out)) (by (with_reducible repeat (first | apply Kd.R_alloc | apply Kd.R_drewN | apply Kd.R_drew)); exact HO_195003.out) (by decide)) hk (fun _ h => h.2)) (fun _ h => h.1)); have n5_ := Aside0.mk (KeepBut.blk hk (g' := gb166) (o := .cells #[.int .u16 0, .int .u16 0, u167002, u167003] 109 (0, 0)) (by (with_reducible repeat (first | refine b1_ ?_ _ | refine b2_ ?_ | refine b3_ ?_ _)); exact BK166.out) NB166_0.out (by simp)); have n6_ := Aside0.mk (KeepBut.blk hk (g' := gb193) (o := .cells #[.slice (some ad195) ((rd_T41 l2 x72_2).f0).length c192_0, .slice A192_1 ((rd_T41 l2 x72_2).f1).length c192_1] 41 (0, 0)) (by (with_reducible repeat (first | refine b1_ ?_ _ | refine b2_ ?_ | refine b3_ ?_ _)); exact BK193.out) NB193_0.out (by simp)); have n7_ := Aside0.mk (KeepBut.blk hk (g' := gb194) (o := .cells #[.int .u16 0, .int .u16 0, .int .u16 0, u195003, .slice none 0 0] 186 (0, 0)) (by (with_reducible repeat (first | refine b1_ ?_ _ | refine b2_ ?_ | refine b3_ ?_ _)); exact BK194.out) NB194_0.out (by simp)); have n8_ := Aside0.mk (KeepBut.trans (by repeat (first | (with_reducible first | exact HK.out | apply KeepBut.set_ | apply keep_drewN | apply keep_drew | apply keep_alloc | refine keep_far ?_ GW166.out _ | refine keep_far ?_ GW193.out _ | refine keep_far ?_ GW194.out _) | exact HK.out)) hk (.inl rfl)); have n9_ := Aside0.mk (hb); have n10_ := Aside0.mk (hi); clear HO_1; clear HO_70; clear HO_167002; clear HO_167003; clear HO_195003; clear BK166; clear BK193; clear BK194; clear HK; clear HB; clear HI0; have HO_1 := n0_; have HO_70 := n1_; have HO_167002 := n2_; have HO_167003 := n3_; have HO_195003 := n4_; have BK166 := n5_; have BK193 := n6_; have BK194 := n7_; have HK := n8_; have HB := n9_; have HI0 := n10_; clear n0_ n1_ n2_ n3_ n4_ n5_ n6_ n7_ n8_ n9_ n10_; (try clear hb); (try clear hb2); (try clear hk); (try clear hi)))
                have n0_ := Aside0.mk (Kd.V_drew HO_1.out)
                have n1_ := Aside0.mk (Kd.V_drew HO_70.out)
                have n2_ := Aside0.mk (Kd.S_drew HO_167002.out)
                have n3_ := Aside0.mk (Kd.R_drew HO_167003.out)
                have n4_ := Aside0.mk (Kd.R_drew HO_195003.out)
                have n5_ := Aside0.mk (blk_drew BK166.out)
                have n6_ := Aside0.mk (blk_drew BK193.out)
                have n7_ := Aside0.mk (blk_drew BK194.out)
                have n8_ := Aside0.mk (IsS102.drew HI0.out)
                have n9_ := Aside0.mk (keep_drew HK.out)
                have n10_ := Aside0.mk (below_drew1 HB.out)
                clear HO_1
                clear HO_70
                clear HO_167002
                clear HO_167003
                clear HO_195003
                clear BK166
                clear BK193
                clear BK194
                clear HI0
                clear HK
                clear HB
                have HO_1 := n0_
                have HO_70 := n1_
                have HO_167002 := n2_
                have HO_167003 := n3_
                have HO_195003 := n4_
                have BK166 := n5_
                have BK193 := n6_
                have BK194 := n7_
                have HI0 := n8_
                have HK := n9_
                have HB := n10_
                clear n0_ n1_ n2_ n3_ n4_ n5_ n6_ n7_ n8_ n9_ n10_
                refine start_ (n := 9) (S := fun w' => w'.cell? ⟨gb194, 0, none⟩ = some (.int .u16 0) ∧ w'.cell? ⟨gb194, 1, none⟩ = some (.int .u16 0) ∧ w'.cell? ⟨gb194, 2, none⟩ = some (.int .u16 0) ∧ w'.cell? ⟨gb194, 3, none⟩ = some (u195003) ∧ w'.cell? ⟨gb194, 4, none⟩ = some (.slice none 0 0)) (ds := [8]) #[ff,ff,ff,ff,ff,ff,ff,ff,ff] (by kernel_rfl) rfl rfl ⟨(blk_cell BK194.out 0).trans rfl, (blk_cell BK194.out 1).trans rfl, (blk_cell BK194.out 2).trans rfl, (blk_cell BK194.out 3).trans rfl, (blk_cell BK194.out 4).trans rfl⟩ (fun hHeld => ?_); refine with_tabW impl_builder_store.tab21 impl_builder_store.bits21 (fun HT_ HW_ => ?_)
                generalize w68.drew = w69 at HO_1 HO_70 HO_167002 HO_167003 HO_195003 BK166 BK193 BK194 HI0 HK HB hHeld ⊢
                refine pure_ (i := 0) (N := some 93) (v := ?_) (a' := ?_) #[true, false, false, false, false, false, false, false, false] rfl rfl (any_of HT_.out (by kernel_rfl)) (fun _ _ _ h => h) (Or.inl ⟨by rfl, ?_⟩) ?_ ?_
                rotate_left
                ·intro w'
                 go_simp
                 with_reducible rfl
                rotate_left
                ·simp only [Act.put, L1_, L2_, L3_, i64_w, i32_w]
                 rfl
                refine pure_ (i := 2) (N := some 95) (v := ?_) (a' := ?_) #[true, false, true, false, false, false, false, false, false] rfl rfl (any_of HT_.out (by kernel_rfl)) (fun _ _ _ h => h) (Or.inl ⟨by rfl, ?_⟩) ?_ ?_
                rotate_left
                ·intro w'
                 go_simp
                 with_reducible rfl
                rotate_left
                ·simp only [Act.put, L1_, L2_, L3_, i64_w, i32_w]
                 rfl
                refine pure_ (i := 3) (N := some 96) (v := ?_) (a' := ?_) #[true, false, true, true, false, false, false, false, false] rfl rfl (any_of HT_.out (by kernel_rfl)) (fun _ _ _ h => h) (Or.inl ⟨by rfl, ?_⟩) ?_ ?_
                rotate_left
                ·intro w'
                 go_simp
                 with_reducible rfl
                rotate_left
                ·simp only [Act.put, L1_, L2_, L3_, i64_w, i32_w]
                 rfl
                refine take_ (i := 1) (N := some 94) (v := ?_) (a' := ?_) #[true, true, true, true, false, false, false, false, false] rfl rfl (take_ofW HT_.out HW_.out (by kernel_rfl)) (fun _ _ _ h => h) (Or.inl ⟨by rfl, ?_⟩) hHeld ?_ ?_
                rotate_left
                ·rintro w' ⟨s0, s1, s2, s3, s4⟩
                 go_simp
                 with_reducible rfl
                rotate_left
                ·simp only [Act.put, L1_, L2_, L3_, i64_w, i32_w]
                 rfl
                refine one_ (i := 4) (N := some 97) #[true, true, true, true, true, false, false, false, false] rfl rfl (one_of HT_.out (by kernel_rfl)) (by decide) (fun K hK => ?_)
                refine goes_ Try.func35 (by kernel_rfl) rfl #[.pointer (some ⟨g, 0, none⟩), .int .i64 (rd ((rd_T41 l2 x72_2).f0) x79_3)] (by rfl) rfl rfl (by (try simp only [List.map_toArray, List.map_cons, List.map_nil]); first | done | rfl | (simp only [List.length_drop, List.length_take]; rfl)) ?_
                with_reducible refine (impl_builder_small.calls g t206 t207 t208 (rd ((rd_T41 l2 x72_2).f0) x79_3) t209 t210 t211 t212 w0 _ ?side1 ?side2 A66.out).mono ?_
                (case side1 => repeat (first | (with_reducible first | exact HI0.out | apply IsS102.alloc | apply IsS102.drewN | apply IsS102.drew | apply IsS102.set_0 | apply IsS102.set_1 | apply IsS102.set_2 | refine IsS102.far ?_ NB0_166.out _ | refine IsS102.far ?_ NB0_193.out _ | refine IsS102.far ?_ NB0_194.out _) | exact HI0.out))
                (case side2 => repeat (first | (with_reducible first | exact HB.out | apply below_alloc | apply pw_below_drewN | apply below_drew1 | refine below_set ?_ (IsS102.ge HI0.out) | refine below_set ?_ GE166.out | refine below_set ?_ GE193.out | refine below_set ?_ GE194.out) | exact HB.out))
                rintro e w70 ⟨rfl, hi, hb, hk⟩
                refine ⟨_, rfl, ?_⟩
                have n0_ := Aside0.mk (Kd.V_mono (Kd.V_keep (Kd.V_mono (ok := fun k_ => ((((P1_ k_ ∨ P2_ k_) ∨ w.heap.size ≤ k_)) ∧ (some k_ ≠ (u167002 : Value).ownBlock ∧ (some k_ ≠ (u167003 : Value).ownBlock ∧ (some k_ ≠ (u195003 : Value).ownBlock ∧ (k_ ≠ gb166 ∧ (k_ ≠ gb193 ∧ (k_ ≠ gb194 ∧ k_ ≠ g)))))))) (by (with_reducible repeat (first | apply Kd.V_alloc | apply Kd.V_drewN | apply Kd.V_drew)); exact HO_1.out) (fun k_ hk_ => (⟨hk_, hk_.2.2.2.2.2.2.2⟩ : _ ∧ k_ ≠ g))) hk (fun _ h => h.2)) (fun _ h => h.1))
                have n1_ := Aside0.mk (Kd.V_mono (Kd.V_keep (Kd.V_mono (ok := fun k_ => ((((P1_ k_ ∨ P2_ k_) ∨ w.heap.size ≤ k_)) ∧ (some k_ ≠ (u167002 : Value).ownBlock ∧ (some k_ ≠ (u167003 : Value).ownBlock ∧ (some k_ ≠ (u195003 : Value).ownBlock ∧ (k_ ≠ gb166 ∧ (k_ ≠ gb193 ∧ (k_ ≠ gb194 ∧ k_ ≠ g)))))))) (by (with_reducible repeat (first | apply Kd.V_alloc | apply Kd.V_drewN | apply Kd.V_drew)); exact HO_70.out) (fun k_ hk_ => (⟨hk_, hk_.2.2.2.2.2.2.2⟩ : _ ∧ k_ ≠ g))) hk (fun _ h => h.2)) (fun _ h => h.1))
                have n2_ := Aside0.mk (Kd.S_mono (Kd.S_keep (IsS102.apartS (show IsS102 w0 _ g t206 t207 t208 from by repeat (first | (with_reducible first | exact HI0.out | apply IsS102.alloc | apply IsS102.drewN | apply IsS102.drew | apply IsS102.set_0 | apply IsS102.set_1 | apply IsS102.set_2 | refine IsS102.far ?_ NB0_166.out _ | refine IsS102.far ?_ NB0_193.out _ | refine IsS102.far ?_ NB0_194.out _) | exact HI0.out)) (by (with_reducible repeat (first | apply Kd.S_alloc | apply Kd.S_drewN | apply Kd.S_drew)); exact HO_167002.out) (by decide)) hk (fun _ h => h.2)) (fun _ h => h.1))
                have n3_ := Aside0.mk (Kd.R_mono (Kd.R_keep (IsS102.apart (show IsS102 w0 _ g t206 t207 t208 from by repeat (first | (with_reducible first | exact HI0.out | apply IsS102.alloc | apply IsS102.drewN | apply IsS102.drew | apply IsS102.set_0 | apply IsS102.set_1 | apply IsS102.set_2 | refine IsS102.far ?_ NB0_166.out _ | refine IsS102.far ?_ NB0_193.out _ | refine IsS102.far ?_ NB0_194.out _) | exact HI0.out)) (by (with_reducible repeat (first | apply Kd.R_alloc | apply Kd.R_drewN | apply Kd.R_drew)); exact HO_167003.out) (by decide)) hk (fun _ h => h.2)) (fun _ h => h.1))
                have n4_ := Aside0.mk (Kd.R_mono (Kd.R_keep (IsS102.apart (show IsS102 w0 _ g t206 t207 t208 from by repeat (first | (with_reducible first | exact HI0.out | apply IsS102.alloc | apply IsS102.drewN | apply IsS102.drew | apply IsS102.set_0 | apply IsS102.set_1 | apply IsS102.set_2 | refine IsS102.far ?_ NB0_166.out _ | refine IsS102.far ?_ NB0_193.out _ | refine IsS102.far ?_ NB0_194.out _) | exact HI0.out)) (by (with_reducible repeat (first | apply Kd.R_alloc | apply Kd.R_drewN | apply Kd.R_drew)); exact HO_195003.out) (by decide)) hk (fun _ h => h.2)) (fun _ h => h.1))
                have n5_ := Aside0.mk (KeepBut.blk hk (g' := gb166) (o := .cells #[.int .u16 0, .int .u16 0, u167002, u167003] 109 (0, 0)) (by (with_reducible repeat (first | refine b1_ ?_ _ | refine b2_ ?_ | refine b3_ ?_ _)); exact BK166.out) NB166_0.out (by simp))
                have n6_ := Aside0.mk (KeepBut.blk hk (g' := gb193) (o := .cells #[.slice (some ad195) ((rd_T41 l2 x72_2).f0).length c192_0, .slice A192_1 ((rd_T41 l2 x72_2).f1).length c192_1] 41 (0, 0)) (by (with_reducible repeat (first | refine b1_ ?_ _ | refine b2_ ?_ | refine b3_ ?_ _)); exact BK193.out) NB193_0.out (by simp))
                have n7_ := Aside0.mk (KeepBut.blk hk (g' := gb194) (o := .cells #[.int .u16 0, .int .u16 0, .int .u16 0, u195003, .slice none 0 0] 186 (0, 0)) (by (with_reducible repeat (first | refine b1_ ?_ _ | refine b2_ ?_ | refine b3_ ?_ _)); exact BK194.out) NB194_0.out (by simp))
                have n8_ := Aside0.mk (KeepBut.trans (by repeat (first | (with_reducible first | exact HK.out | apply KeepBut.set_ | apply keep_drewN | apply keep_drew | apply keep_alloc | refine keep_far ?_ GW166.out _ | refine keep_far ?_ GW193.out _ | refine keep_far ?_ GW194.out _) | exact HK.out)) hk (.inl rfl))
                have n9_ := Aside0.mk (hb)
                have n10_ := Aside0.mk (hi)
                clear HO_1
                clear HO_70
                clear HO_167002
                clear HO_167003
                clear HO_195003
                clear BK166
                clear BK193
                clear BK194
                clear HK
                clear HB
                clear HI0
                have HO_1 := n0_
                have HO_70 := n1_
                have HO_167002 := n2_
                have HO_167003 := n3_
                have HO_195003 := n4_
                have BK166 := n5_
                have BK193 := n6_
                have BK194 := n7_
                have HK := n8_
                have HB := n9_
                have HI0 := n10_
                clear n0_ n1_ n2_ n3_ n4_ n5_ n6_ n7_ n8_ n9_ n10_
                (try clear hb)
                (try clear hb2)
                (try clear hk)
                (try clear hi)
                refine hK.out _ _ ⟨(blk_cell BK194.out 0).trans rfl, (blk_cell BK194.out 1).trans rfl, (blk_cell BK194.out 2).trans rfl, (blk_cell BK194.out 3).trans rfl, (blk_cell BK194.out 4).trans rfl⟩ (fun hHeld => ?_)
                clear hK K
                refine norm_ (a' := ?_) ?_ ?_
                rotate_left
                ·show Act.put _ (some 97) _ = _
                 simp only [Act.put, L1_, L2_, L3_, i64_w, i32_w]
                 rfl
                refine one_ (i := 5) (N := some 98) #[true, true, true, true, true, true, false, false, false] rfl rfl (one_of HT_.out (by kernel_rfl)) (by decide) (fun K hK => ?_)
                refine value_ (w1 := ?_) (v := ?_) (by rfl) rfl ?_ ?_
                rotate_left 2
                ·go_simp
                 constructor
                 ·rfl
                 ·rfl
                refine hK.out _ _ ⟨(blk_cell (blk_alloc BK194.out _) 0).trans rfl, (blk_cell (blk_alloc BK194.out _) 1).trans rfl, (blk_cell (blk_alloc BK194.out _) 2).trans rfl, (blk_cell (blk_alloc BK194.out _) 3).trans rfl, (blk_cell (blk_alloc BK194.out _) 4).trans rfl⟩ (fun hHeld => ?_)
                clear hK K
                refine norm_ (a' := ?_) ?_ ?_
                rotate_left
                ·show Act.put _ (some 98) _ = _
                 simp only [Act.put, L1_, L2_, L3_, i64_w, i32_w]
                 rfl
                refine one_ (i := 6) (N := some 99) #[true, true, true, true, true, true, true, false, false] rfl rfl (one_of HT_.out (by kernel_rfl)) (by decide) (fun K hK => ?_)
                refine Kd.R_append_step (Kd.int .u16) w.heap.size (by rfl) (.tmp 94) (.tmp 98) 155 103 (.int .u16 0) 2 rfl Try.underlying155 info103 rfl (by decide) (by omega) u195003 x195003_3 t209 [.int .u16 t209] (fun k_ => (w.heap.size ≤ k_)) (fun _ => False) rfl rfl ?aP (fun _ hk => hk.elim) ?aF ?aO (Below.refl _ _) ?aS ?aL ?_
                (case aP => exact rfl)
                (case aF => exact (fun k_ hk => (Nat.le_trans (keep_size (w := w) (g := g) (row := none) (by repeat (first | (with_reducible first | exact HK.out | apply KeepBut.set_ | apply keep_drewN | apply keep_drew | apply keep_alloc | refine keep_far ?_ GW166.out _ | refine keep_far ?_ GW193.out _ | refine keep_far ?_ GW194.out _) | exact HK.out))) hk)))
                (case aO => exact (by (with_reducible repeat (first | apply Kd.R_alloc | apply Kd.R_drewN | apply Kd.R_drew)); exact HO_195003.out))
                (case aS => exact (keep_size (w := w) (g := g) (row := none) (by repeat (first | (with_reducible first | exact HK.out | apply KeepBut.set_ | apply keep_drewN | apply keep_drew | apply keep_alloc | refine keep_far ?_ GW166.out _ | refine keep_far ?_ GW193.out _ | refine keep_far ?_ GW194.out _) | exact HK.out))))
                (case aL => have := LMc67.out; omega)
                intro v214 w71 ho hb hg hat
                rw [← Ny213.out] at ho
                have n0_ := Aside0.mk (Kd.V_afterv (ok := (fun k_ => ((P1_ k_ ∨ P2_ k_) ∨ w.heap.size ≤ k_) ∧ some k_ ≠ (u167002 : Value).ownBlock ∧ some k_ ≠ (u167003 : Value).ownBlock ∧ k_ ≠ gb166 ∧ k_ ≠ gb193 ∧ k_ ≠ gb194 ∧ k_ ≠ g)) (by (with_reducible repeat (first | apply Kd.V_alloc | apply Kd.V_drewN | apply Kd.V_drew)); exact Kd.V_mono HO_1.out (fun _ hk => ⟨⟨hk.1, ⟨hk.2.1, ⟨hk.2.2.1, ⟨hk.2.2.2.2.1, ⟨hk.2.2.2.2.2.1, ⟨hk.2.2.2.2.2.2.1, hk.2.2.2.2.2.2.2⟩⟩⟩⟩⟩⟩, hk.2.2.2.1⟩)) hg hat)
                have n1_ := Aside0.mk (Kd.V_afterv (ok := (fun k_ => ((P1_ k_ ∨ P2_ k_) ∨ w.heap.size ≤ k_) ∧ some k_ ≠ (u167002 : Value).ownBlock ∧ some k_ ≠ (u167003 : Value).ownBlock ∧ k_ ≠ gb166 ∧ k_ ≠ gb193 ∧ k_ ≠ gb194 ∧ k_ ≠ g)) (by (with_reducible repeat (first | apply Kd.V_alloc | apply Kd.V_drewN | apply Kd.V_drew)); exact Kd.V_mono HO_70.out (fun _ hk => ⟨⟨hk.1, ⟨hk.2.1, ⟨hk.2.2.1, ⟨hk.2.2.2.2.1, ⟨hk.2.2.2.2.2.1, ⟨hk.2.2.2.2.2.2.1, hk.2.2.2.2.2.2.2⟩⟩⟩⟩⟩⟩, hk.2.2.2.1⟩)) hg hat)
                have n2_ := Aside0.mk (Kd.S_over' (by (with_reducible repeat (first | apply Kd.S_alloc | apply Kd.S_drewN | apply Kd.S_drew)); exact HO_167002.out) (Kd.R_typed (by (with_reducible repeat (first | apply Kd.R_alloc | apply Kd.R_drewN | apply Kd.R_drew)); exact HO_195003.out)) (by decide) hg)
                have n3_ := Aside0.mk (Kd.R_after (ok := (fun k_ => (w.heap.size ≤ k_) ∧ k_ ≠ gb194)) (by (with_reducible repeat (first | apply Kd.R_alloc | apply Kd.R_drewN | apply Kd.R_drew)); exact Kd.R_mono HO_167003.out (fun _ hk => ⟨⟨hk.1, hk.2.2⟩, hk.2.1⟩)) hg hat)
                have n4_ := Aside0.mk (blk_grown (g := gb166) (o := .cells #[.int .u16 0, .int .u16 0, u167002, u167003] 109 (0, 0)) (by (with_reducible repeat (first | refine b1_ ?_ _ | refine b2_ ?_ | refine b3_ ?_ _)); exact BK166.out) hg (Kd.R_ne HO_195003.out BK166.out (by decide)))
                have n5_ := Aside0.mk (blk_grown (g := gb193) (o := .cells #[.slice (some ad195) ((rd_T41 l2 x72_2).f0).length c192_0, .slice A192_1 ((rd_T41 l2 x72_2).f1).length c192_1] 41 (0, 0)) (by (with_reducible repeat (first | refine b1_ ?_ _ | refine b2_ ?_ | refine b3_ ?_ _)); exact BK193.out) hg (Kd.R_ne HO_195003.out BK193.out (by decide)))
                have n6_ := Aside0.mk (blk_grown (g := gb194) (o := .cells #[.int .u16 0, .int .u16 0, .int .u16 0, u195003, .slice none 0 0] 186 (0, 0)) (by (with_reducible repeat (first | refine b1_ ?_ _ | refine b2_ ?_ | refine b3_ ?_ _)); exact BK194.out) hg (Kd.R_ne HO_195003.out BK194.out (by decide)))
                have n7_ := Aside0.mk (IsS102.grown (by repeat (first | (with_reducible first | exact HI0.out | apply IsS102.alloc | apply IsS102.drewN | apply IsS102.drew | apply IsS102.set_0 | apply IsS102.set_1 | apply IsS102.set_2 | refine IsS102.far ?_ NB0_166.out _ | refine IsS102.far ?_ NB0_193.out _ | refine IsS102.far ?_ NB0_194.out _) | exact HI0.out)) hg (IsS102.own_ne HI0.out HO_195003.out (by decide)))
                have n8_ := Aside0.mk (below_weaken (by repeat (first | (with_reducible first | exact HB.out | apply below_alloc | apply pw_below_drewN | apply below_drew1 | refine below_set ?_ (IsS102.ge HI0.out) | refine below_set ?_ GE166.out | refine below_set ?_ GE193.out | refine below_set ?_ GE194.out) | exact HB.out)) HL.out hb)
                have n9_ := Aside0.mk (KeepBut.trans (by repeat (first | (with_reducible first | exact HK.out | apply KeepBut.set_ | apply keep_drewN | apply keep_drew | apply keep_alloc | refine keep_far ?_ GW166.out _ | refine keep_far ?_ GW193.out _ | refine keep_far ?_ GW194.out _) | exact HK.out)) (KeepBut.of_grown hg g) (Kd.R_base2 HO_195003.out))
                have n10_ := Aside0.mk (ho)
                clear HO_1
                clear HO_70
                clear HO_167002
                clear HO_167003
                clear BK166
                clear BK193
                clear BK194
                clear HI0
                clear HB
                clear HK
                clear HO_195003
                have HO_1 := n0_
                have HO_70 := n1_
                have HO_167002 := n2_
                have HO_167003 := n3_
                have BK166 := n4_
                have BK193 := n5_
                have BK194 := n6_
                have HI0 := n7_
                have HB := n8_
                have HK := n9_
                have HO215 := n10_
                clear n0_ n1_ n2_ n3_ n4_ n5_ n6_ n7_ n8_ n9_ n10_
                clear ho hb hg hat
                obtain ⟨Ao72, co72, eo72⟩ := Kd.R_slice HO215.out
                (first | subst eo72 | (injection eo72 with f1_ f2_ f3_; have f4_ := f1_.symm; have f5_ := f3_.symm; clear f1_ f2_ f3_; subst f4_; subst f5_))
                refine hK.out _ _ ⟨(blk_cell BK194.out 0).trans rfl, (blk_cell BK194.out 1).trans rfl, (blk_cell BK194.out 2).trans rfl, (blk_cell BK194.out 3).trans rfl, (blk_cell BK194.out 4).trans rfl⟩ (fun hHeld => ?_)
                clear hK K
                refine norm_ (a' := ?_) ?_ ?_
                rotate_left
                ·show Act.put _ (some 99) _ = _
                 simp only [Act.put, L1_, L2_, L3_, i64_w, i32_w]
                 rfl
                refine pure_ (i := 7) (N := some 100) (v := ?_) (a' := ?_) #[true, true, true, true, true, true, true, true, false] rfl rfl (any_of HT_.out (by kernel_rfl)) (fun _ _ _ h => h) (Or.inl ⟨by rfl, ?_⟩) ?_ ?_
                rotate_left
                ·intro w'
                 go_simp
                 with_reducible rfl
                rotate_left
                ·simp only [Act.put, L1_, L2_, L3_, i64_w, i32_w]
                 rfl
                refine last_ (i := 8) (N := none) #[true, true, true, true, true, true, true, true, true] rfl rfl (one_of HT_.out (by kernel_rfl)) (by decide) (fun K hK => ?_)
                have hs73 : w71.cell? ⟨gb194, 3, none⟩ = some (u195003) := (blk_cell BK194.out 3).trans rfl
                have hfs73 := blk_frozen BK194.out 3
                have hns73_0 := NB166_194.out
                have hns73_1 := NB193_194.out
                have hms73_0 := NB194_166.out
                have hms73_1 := NB194_193.out
                refine skip_ (w1 := ?_) (by rfl) rfl ?_ ?_
                rotate_left
                ·go_simp
                 rfl
                refine hK.out _ _ ?_
                clear hK K
                refine done_ (done_of HT_.out (by kernel_rfl)) ?_
                try go_wp2
                go_roundg k3
                case measure => have := HK1.out; have := HK2.out; have := HK3.out; omega
                case rel => exact ⟨(wrap64 (x79_3 + 1)), (t210), (t211), (t212), (y213), (.slice Ao72 y213.length co72), (by first | rfl | (simp; done) | (simp [*]; done)), H', ⟨by have := HK1.out; have := HK2.out; have := HK3.out; omega⟩, ⟨by (with_reducible repeat (first | apply Kd.V_alloc | apply Kd.V_drewN | apply Kd.V_drew)); exact Kd.V_mono (Kd.V_far (p := ⟨gb194, 3, none⟩) (Kd.V_mono HO_1.out (fun k_ hk => (⟨hk, hk.1.2.2.2.2.2.1⟩ : _ ∧ k_ ≠ gb194))) (fun _ hk => hk.2) (.slice Ao72 y213.length co72)) (fun _ hk => ⟨hk.1.1.1, ⟨hk.1.1.2.1, ⟨hk.1.1.2.2.1, ⟨hk.1.2, ⟨hk.1.1.2.2.2.1, ⟨hk.1.1.2.2.2.2.1, ⟨hk.1.1.2.2.2.2.2.1, hk.1.1.2.2.2.2.2.2⟩⟩⟩⟩⟩⟩⟩)⟩, ⟨by (with_reducible repeat (first | apply Kd.V_alloc | apply Kd.V_drewN | apply Kd.V_drew)); exact Kd.V_mono (Kd.V_far (p := ⟨gb194, 3, none⟩) (Kd.V_mono HO_70.out (fun k_ hk => (⟨hk, hk.1.2.2.2.2.2.1⟩ : _ ∧ k_ ≠ gb194))) (fun _ hk => hk.2) (.slice Ao72 y213.length co72)) (fun _ hk => ⟨hk.1.1.1, ⟨hk.1.1.2.1, ⟨hk.1.1.2.2.1, ⟨hk.1.2, ⟨hk.1.1.2.2.2.1, ⟨hk.1.1.2.2.2.2.1, ⟨hk.1.1.2.2.2.2.2.1, hk.1.1.2.2.2.2.2.2⟩⟩⟩⟩⟩⟩⟩)⟩, ⟨by (with_reducible repeat (first | apply Kd.S_alloc | apply Kd.S_drewN | apply Kd.S_drew)); exact Kd.S_mono (Kd.S_far (p := ⟨gb194, 3, none⟩) (Kd.S_types HO_167002.out BK194.out (by decide)) (fun _ hk => hk.2) (.slice Ao72 y213.length co72)) (fun _ hk => hk.1)⟩, ⟨by (with_reducible repeat (first | apply Kd.R_alloc | apply Kd.R_drewN | apply Kd.R_drew)); exact Kd.R_mono (Kd.R_far (p := ⟨gb194, 3, none⟩) (Kd.R_mono HO_167003.out (fun k_ hk => (⟨hk, hk.1.2⟩ : _ ∧ k_ ≠ gb194))) (fun _ hk => hk.2) (.slice Ao72 y213.length co72)) (fun _ hk => ⟨hk.1.1.1, ⟨hk.1.2, hk.1.1.2⟩⟩)⟩, ⟨by (with_reducible repeat (first | apply Kd.R_alloc | apply Kd.R_drewN | apply Kd.R_drew)); exact Kd.R_mono (Kd.R_far (p := ⟨gb194, 3, none⟩) (Kd.R_types HO215.out BK194.out (by decide)) (fun _ hk => hk.2) (.slice Ao72 y213.length co72)) (fun _ hk => hk.1)⟩, ⟨by (with_reducible repeat (first | refine b1_ ?_ _ | refine b2_ ?_ | refine b3_ ?_ _)); refine blk_far ?_ NB166_194.out _; (with_reducible repeat (first | refine b1_ ?_ _ | refine b2_ ?_ | refine b3_ ?_ _)); exact BK166.out⟩, ⟨by (with_reducible repeat (first | refine b1_ ?_ _ | refine b2_ ?_ | refine b3_ ?_ _)); refine blk_far ?_ NB193_194.out _; (with_reducible repeat (first | refine b1_ ?_ _ | refine b2_ ?_ | refine b3_ ?_ _)); exact BK193.out⟩, ⟨by (with_reducible repeat (first | refine b1_ ?_ _ | refine b2_ ?_ | refine b3_ ?_ _)); refine blk_put (cs := #[.int .u16 0, .int .u16 0, .int .u16 0, u195003, .slice none 0 0]) ?_ 3 _ rfl; (with_reducible repeat (first | refine b1_ ?_ _ | refine b2_ ?_ | refine b3_ ?_ _)); exact BK194.out⟩, ⟨by repeat (first | (with_reducible first | exact HI0.out | apply IsS102.alloc | apply IsS102.drewN | apply IsS102.drew | apply IsS102.set_0 | apply IsS102.set_1 | apply IsS102.set_2 | refine IsS102.far ?_ NB0_166.out _ | refine IsS102.far ?_ NB0_193.out _ | refine IsS102.far ?_ NB0_194.out _) | exact HI0.out)⟩, ⟨by repeat (first | (with_reducible first | exact HK.out | apply KeepBut.set_ | apply keep_drewN | apply keep_drew | apply keep_alloc | refine keep_far ?_ GW166.out _ | refine keep_far ?_ GW193.out _ | refine keep_far ?_ GW194.out _) | exact HK.out)⟩, ⟨by repeat (first | (with_reducible first | exact HB.out | apply below_alloc | apply pw_below_drewN | apply below_drew1 | refine below_set ?_ (IsS102.ge HI0.out) | refine below_set ?_ GE166.out | refine below_set ?_ GE193.out | refine below_set ?_ GE194.out) | exact HB.out)⟩⟩
               ·rw [if_neg c67] at H
                exact absurd H (by simp)
             ·rw [if_neg c54] at H
              exact absurd H (by simp)
            ·rw [if_neg c53] at H
             exact absurd H (by simp)
           ·rw [if_neg c52] at H
            have c52b0 : decide (x79_3 < (((rd_T41 l2 x72_2).f0).length : Int)) = false := decide_eq_false c52
            clear c52
            have H' := Aside0.mk H
            clear H
            have hnb74 := NB193_166.out
            have hnc74 := NB166_193.out
            have hnb75 := NB193_194.out
            have hnc75 := NB194_193.out
            have hnb76 := NB193_0.out
            have hnc76 := NB0_193.out
            have hcz77_0 : wr.cell? ⟨gb193, 0, none⟩ = some (.slice A192_0 ((rd_T41 l2 x72_2).f0).length c192_0) := (blk_cell BK193.out 0).trans rfl
            have hcz77_1 : wr.cell? ⟨gb193, 1, none⟩ = some (.slice A192_1 ((rd_T41 l2 x72_2).f1).length c192_1) := (blk_cell BK193.out 1).trans rfl
            have hfz77_0 := blk_frozen BK193.out 0
            have hfz77_1 := blk_frozen BK193.out 1
            go_wp2
            go_loopg [105] k3 (fun kq v105 w' => ∃ (x105_4 : Int) (x1000_4 : Int) (x1001_4 : Int) (x1002_4 : Bool) (x195004_4 : List (List Int)) (u195004 : Value), v105 = .int .i64 x105_4 ∧ Aside0 (impl_builder_store.l4 kq l1 l2 (l2.length : Int) x72_2 ((rd_T41 l2 x72_2).f1) (((rd_T41 l2 x72_2).f1).length : Int) x105_4 x1000_4 x1001_4 x1002_4 0 0 x167002_1 x167003_2 ((rd_T41 l2 x72_2).f0) ((rd_T41 l2 x72_2).f1) 0 0 0 x195003_3 x195004_4 = some (r1, r2, r3, r4, r5, r6, r7)) ∧ Aside0 (kq ≤ k3) ∧ Aside0 (Kd.V (Kd.slice 36 k36) 38 w' w.heap.size (fun k_ => ((P1_ k_ ∨ P2_ k_) ∨ w.heap.size ≤ k_) ∧ some k_ ≠ (u167002 : Value).ownBlock ∧ some k_ ≠ (u167003 : Value).ownBlock ∧ some k_ ≠ (u195003 : Value).ownBlock ∧ some k_ ≠ (u195004 : Value).ownBlock ∧ k_ ≠ gb166 ∧ k_ ≠ gb193 ∧ k_ ≠ gb194 ∧ k_ ≠ g) (.slice A1 l1.length c1) l1) ∧ Aside0 (Kd.V k41 41 w' w.heap.size (fun k_ => ((P1_ k_ ∨ P2_ k_) ∨ w.heap.size ≤ k_) ∧ some k_ ≠ (u167002 : Value).ownBlock ∧ some k_ ≠ (u167003 : Value).ownBlock ∧ some k_ ≠ (u195003 : Value).ownBlock ∧ some k_ ≠ (u195004 : Value).ownBlock ∧ k_ ≠ gb166 ∧ k_ ≠ gb193 ∧ k_ ≠ gb194 ∧ k_ ≠ g) (.slice (some ad192) l2.length c2) l2) ∧ Aside0 (Kd.S k182 182 w' w.heap.size (fun k_ => (w.heap.size ≤ k_)) u167002 x167002_1) ∧ Aside0 (Kd.R k186 186 w' w.heap.size (fun k_ => (w.heap.size ≤ k_) ∧ some k_ ≠ (u195003 : Value).ownBlock ∧ some k_ ≠ (u195004 : Value).ownBlock ∧ k_ ≠ gb194) u167003 x167003_2) ∧ Aside0 (Kd.R (Kd.int .u16) 103 w' w.heap.size (fun k_ => (w.heap.size ≤ k_)) u195003 x195003_3) ∧ Aside0 (Kd.S (Kd.slice 98 (Kd.int .i16)) 25 w' w.heap.size (fun k_ => (w.heap.size ≤ k_)) u195004 x195004_4) ∧ Aside0 (w'.heap[gb166]? = some (.cells #[.int .u16 0, .int .u16 0, u167002, u167003] 109 (0, 0))) ∧ Aside0 (w'.heap[gb193]? = some (.cells #[(.slice A192_0 ((rd_T41 l2 x72_2).f0).length c192_0), (.slice A192_1 ((rd_T41 l2 x72_2).f1).length c192_1)] 41 (0, 0))) ∧ Aside0 (w'.heap[gb194]? = some (.cells #[.int .u16 0, .int .u16 0, .int .u16 0, u195003, u195004] 186 (0, 0))) ∧ Aside0 (IsS102 w0 w' g x1000_4 x1001_4 x1002_4) ∧ Aside0 (KeepBut w w' g none) ∧ Aside0 (Below w0.heap.size w0 w'))
            case atStart => exact ⟨(0), (x1000_3), (x1001_3), (x1002_3), (([] : List (List Int))), (.slice none 0 0), (by first | rfl | (simp; done) | (simp [*]; done)), H', ⟨Nat.le_refl _⟩, ⟨by (with_reducible repeat (first | apply Kd.V_alloc | apply Kd.V_drewN | apply Kd.V_drew)); exact Kd.V_mono HO_1.out (fun _ hk => ⟨hk.1, ⟨hk.2.1, ⟨hk.2.2.1, ⟨hk.2.2.2.1, ⟨(by simp [Value.ownBlock]), ⟨hk.2.2.2.2.1, ⟨hk.2.2.2.2.2.1, ⟨hk.2.2.2.2.2.2.1, hk.2.2.2.2.2.2.2⟩⟩⟩⟩⟩⟩⟩⟩)⟩, ⟨by (with_reducible repeat (first | apply Kd.V_alloc | apply Kd.V_drewN | apply Kd.V_drew)); exact Kd.V_mono HO_70.out (fun _ hk => ⟨hk.1, ⟨hk.2.1, ⟨hk.2.2.1, ⟨hk.2.2.2.1, ⟨(by simp [Value.ownBlock]), ⟨hk.2.2.2.2.1, ⟨hk.2.2.2.2.2.1, ⟨hk.2.2.2.2.2.2.1, hk.2.2.2.2.2.2.2⟩⟩⟩⟩⟩⟩⟩⟩)⟩, ⟨by (with_reducible repeat (first | apply Kd.S_alloc | apply Kd.S_drewN | apply Kd.S_drew)); exact HO_167002.out⟩, ⟨by (with_reducible repeat (first | apply Kd.R_alloc | apply Kd.R_drewN | apply Kd.R_drew)); exact Kd.R_mono HO_167003.out (fun _ hk => ⟨hk.1, ⟨hk.2.1, ⟨(by simp [Value.ownBlock]), hk.2.2⟩⟩⟩)⟩, ⟨by (with_reducible repeat (first | apply Kd.R_alloc | apply Kd.R_drewN | apply Kd.R_drew)); exact HO_195003.out⟩, ⟨by first | exact Kd.S_nil _ _ _ _ _ | exact Kd.N_nil _ _ _ _ _ | exact Kd.V_nil _ _ _ _ _ | exact Kd.Q_nil _ _ _ _ _ | exact Kd.R_nil _ _ _ _ _⟩, ⟨by (with_reducible repeat (first | refine b1_ ?_ _ | refine b2_ ?_ | refine b3_ ?_ _)); exact BK166.out⟩, ⟨by (with_reducible repeat (first | refine b1_ ?_ _ | refine b2_ ?_ | refine b3_ ?_ _)); exact BK193.out⟩, ⟨by (with_reducible repeat (first | refine b1_ ?_ _ | refine b2_ ?_ | refine b3_ ?_ _)); exact BK194.out⟩, ⟨by repeat (first | (with_reducible first | exact HI0.out | apply IsS102.alloc | apply IsS102.drewN | apply IsS102.drew | apply IsS102.set_0 | apply IsS102.set_1 | apply IsS102.set_2 | refine IsS102.far ?_ NB0_166.out _ | refine IsS102.far ?_ NB0_193.out _ | refine IsS102.far ?_ NB0_194.out _) | exact HI0.out)⟩, ⟨by repeat (first | (with_reducible first | exact HK.out | apply KeepBut.set_ | apply keep_drewN | apply keep_drew | apply keep_alloc | refine keep_far ?_ GW166.out _ | refine keep_far ?_ GW193.out _ | refine keep_far ?_ GW194.out _) | exact HK.out)⟩, ⟨by repeat (first | (with_reducible first | exact HB.out | apply below_alloc | apply pw_below_drewN | apply below_drew1 | refine below_set ?_ (IsS102.ge HI0.out) | refine below_set ?_ GE166.out | refine below_set ?_ GE193.out | refine below_set ?_ GE194.out) | exact HB.out)⟩⟩
            case round =>
             clear H'
             try clear c1
             try clear p1
             try clear q1
             try clear hx1
             try clear c2
             try clear p2
             try clear c3
             try clear c4
             try clear c5
             try clear c6
             try clear p6
             try clear c7
             try clear p16
             try clear q16
             try clear hx16
             try clear p17
             try clear q17
             try clear hx17
             try clear c19
             try clear p19
             try clear q19
             try clear hx19
             try clear hf19
             try clear c34
             try clear c35
             try clear c36
             try clear c42
             try clear c42b0
             try clear c43
             try clear c43b0
             try clear c44
             try clear c44b0
             try clear c46
             try clear c47
             try clear c50
             try clear c51
             try clear c52
             try clear c52b0
             try clear c53
             try clear c53b0
             try clear c54
             try clear c54b0
             try clear c55
             try clear c55b0
             try clear c58
             try clear p64
             try clear c67
             try clear c74
             try clear c75
             try clear c76
             try clear hcz23_0
             try clear hcz23_1
             try clear hcz23_2
             try clear hcz35_0
             try clear hcz35_1
             try clear hcz35_2
             try clear hcz35_3
             try clear hcz37_0
             try clear hcz41_0
             try clear hcz41_1
             try clear hcz41_2
             try clear hcz41_3
             try clear hcz48_0
             try clear hcz48_1
             try clear hcz51_0
             try clear hcz51_1
             try clear hcz77_0
             try clear hcz77_1
             try clear hfz23_0
             try clear hfz23_1
             try clear hfz23_2
             try clear hfz35_0
             try clear hfz35_1
             try clear hfz35_2
             try clear hfz35_3
             try clear hfz37_0
             try clear hfz41_0
             try clear hfz41_1
             try clear hfz41_2
             try clear hfz41_3
             try clear hfz48_0
             try clear hfz48_1
             try clear hfz51_0
             try clear hfz51_1
             try clear hfz77_0
             try clear hfz77_1
             try clear hx167_0
             try clear hx172_0
             try clear hx172_1
             try clear hx172_2
             try clear hx192_0
             try clear hx192_1
             try clear hx195_0
             try clear p1
             try clear p16
             try clear p167
             try clear p17
             try clear p172
             try clear p192
             try clear p195
             try clear p2
             try clear p6
             try clear q1
             try clear q16
             try clear q167
             try clear q17
             try clear q172
             try clear q192
             try clear q195
             obtain ⟨x105_4, x1000_4, x1001_4, x1002_4, x195004_4, u195004, rfl, HA, HK4, HO_1, HO_70, HO_167002, HO_167003, HO_195003, HO_195004, BK166, BK193, BK194, HI0, HK, HB⟩ := hrel
             cases gk with
             | zero => exact absurd HA.out (by simp [impl_builder_store.l4])
             | succ k4 =>
              have H := HA.out
              clear HA
              simp only [impl_builder_store.l4] at H
              by_cases c78 : x105_4 < (((rd_T41 l2 x72_2).f1).length : Int)
              ·rw [if_pos c78] at H
               have c78b0 : decide (x105_4 < (((rd_T41 l2 x72_2).f1).length : Int)) = true := decide_eq_true c78
               clear c78
               by_cases c79 : 0 ≤ x105_4
               ·rw [if_pos c79] at H
                have c79b0 : decide (0 ≤ x105_4) = true := decide_eq_true c79
                clear c79
                by_cases c80 : x105_4 < (((rd_T41 l2 x72_2).f1).length : Int)
                ·rw [if_pos c80] at H
                 have c80b0 : decide (x105_4 < (((rd_T41 l2 x72_2).f1).length : Int)) = true := decide_eq_true c80
                 clear c80
                 replace H := Option.bind_eq_some_iff.mp H
                 obtain ⟨⟨t220, t221, t222⟩, A810, H⟩ := H
                 replace H : (impl_builder_store.l5 k4 l1 ([] : List Int) l2 (l2.length : Int) x72_2 ((rd_T41 l2 x72_2).f1) (((rd_T41 l2 x72_2).f1).length : Int) x105_4 (rd_L9 ((rd_T41 l2 x72_2).f1) x105_4) ((rd_L9 ((rd_T41 l2 x72_2).f1) x105_4).length : Int) 0 t220 t221 t222 0 0 x167002_1 x167003_2 ((rd_T41 l2 x72_2).f0) ((rd_T41 l2 x72_2).f1) 0 0 0 x195003_3 x195004_4) = some (r1, r2, r3, r4, r5, r6, r7) := H
                 have A81 := Aside0.mk A810
                 clear A810
                 have H' := Aside0.mk H
                 clear H
                 have p219 : 0 ≤ (x105_4 : Int) := of_decide_eq_true (by first | (with_reducible assumption) | assumption)
                 have q219 : x105_4 < (((rd_T41 l2 x72_2).f1).length : Int) := of_decide_eq_true (by first | (with_reducible assumption) | assumption)
                 have HR192_1 := Aside0.mk (Kd.F_now (Kd.F_keep HF192.out.2 HK.out (fun _ h_ => h_.2)))
                 obtain ⟨ad219, A219_0, c219_0, e219, hx219_0, hl219_0, hi219_0⟩ := at_L9 HR192_1.out x105_4 p219 q219
                 cases e219
                 have HF219_0 := Aside0.mk (show Kd.F (Kd.int .i64) w (fun k_ => P2_ k_ ∧ k_ ≠ g) A219_0 (rd_L9 ((rd_T41 l2 x72_2).f1) x105_4).length (rd_L9 ((rd_T41 l2 x72_2).f1) x105_4) from foot_row HF192.out.2 HK.out x105_4 p219 q219 hx219_0)
                 have HR219_0 := Aside0.mk hi219_0
                 have HC219_0 := Aside0.mk hl219_0
                 clear hi219_0 hl219_0
                 replace p219 := eq_true p219
                 replace q219 := eq_true q219
                 have hnb82 := NB193_166.out
                 have hnc82 := NB166_193.out
                 have hnb83 := NB193_194.out
                 have hnc83 := NB194_193.out
                 have hnb84 := NB193_0.out
                 have hnc84 := NB0_193.out
                 have hcz85_0 : wr.cell? ⟨gb193, 0, none⟩ = some (.slice A192_0 ((rd_T41 l2 x72_2).f0).length c192_0) := (blk_cell BK193.out 0).trans rfl
                 have hcz85_1 : wr.cell? ⟨gb193, 1, none⟩ = some (.slice (some ad219) ((rd_T41 l2 x72_2).f1).length c192_1) := (blk_cell BK193.out 1).trans rfl
                 have hfz85_0 := blk_frozen BK193.out 0
                 have hfz85_1 := blk_frozen BK193.out 1
                 go_wp2_with (first | ((with_reducible refine gate_callee (f := 50) rfl ?_); refine goesL_ (some 116) rfl rfl Try.func50 (by kernel_rfl) rfl #[.pointer (some ⟨g, 0, none⟩), .bool (((rd_L9 ((rd_T41 l2 x72_2).f1) x105_4).length : Int) == (((rd_T41 l2 x72_2).f0).length : Int))] rfl (by (try simp only [List.map_toArray, List.map_cons, List.map_nil]); first | done | rfl | (simp only [List.length_drop, List.length_take]; rfl)) ?_; (with_reducible refine (impl_builder_must.calls g x1000_4 x1001_4 x1002_4 (((rd_L9 ((rd_T41 l2 x72_2).f1) x105_4).length : Int) == (((rd_T41 l2 x72_2).f0).length : Int)) t220 t221 t222 w0 _ ?side1 ?side2 A81.out).mono ?_); (case side1 => repeat (first | (with_reducible first | exact HI0.out | apply IsS102.alloc | apply IsS102.drewN | apply IsS102.drew | apply IsS102.set_0 | apply IsS102.set_1 | apply IsS102.set_2 | refine IsS102.far ?_ NB0_166.out _ | refine IsS102.far ?_ NB0_193.out _ | refine IsS102.far ?_ NB0_194.out _) | exact HI0.out)); (case side2 => repeat (first | (with_reducible first | exact HB.out | apply below_alloc | apply pw_below_drewN | apply below_drew1 | refine below_set ?_ (IsS102.ge HI0.out) | refine below_set ?_ GE166.out | refine below_set ?_ GE193.out | refine below_set ?_ GE194.out) | exact HB.out)); rintro e w86 ⟨rfl, hi, hb, hk⟩; refine ⟨_, rfl, ?_⟩; have n0_ := Aside0.mk (Kd.V_mono (Kd.V_keep (Kd.V_mono (ok := fun k_ => ((((P1_ k_ ∨ P2_ k_) ∨ w.heap.size ≤ k_)) ∧ (some k_ ≠ (u167002 : Value).ownBlock ∧ (some k_ ≠ (u167003 : Value).ownBlock ∧ (some k_ ≠ (u195003 : Value).ownBlock ∧ (some k_ ≠ (u195004 : Value).ownBlock ∧ (k_ ≠ gb166 ∧ (k_ ≠ gb193 ∧ (k_ ≠ gb194 ∧ k_ ≠ g))))))))) (by (with_reducible repeat (first | apply Kd.V_alloc | apply Kd.V_drewN | apply Kd.V_drew)); exact HO_1.out) (fun k_ hk_ => (⟨hk_, hk_.2.2.2.2.2.2.2.2⟩ : _ ∧ k_ ≠ g))) hk (fun _ h => h.2)) (fun _ h => h.1)); have n1_ := Aside0.mk (Kd.V_mono (Kd.V_keep (Kd.V_mono (ok := fun k_ => ((((P1_ k_ ∨ P2_ k_) ∨ w.heap.size ≤ k_)) ∧ (some k_ ≠ (u167002 : Value).ownBlock ∧ (some k_ ≠ (u167003 : Value).ownBlock ∧ (some k_ ≠ (u195003 : Value).ownBlock ∧ (some k_ ≠ (u195004 : Value).ownBlock ∧ (k_ ≠ gb166 ∧ (k_ ≠ gb193 ∧ (k_ ≠ gb194 ∧ k_ ≠ g))))))))) (by (with_reducible repeat (first | apply Kd.V_alloc | apply Kd.V_drewN | apply Kd.V_drew)); exact HO_70.out) (fun k_ hk_ => (⟨hk_, hk_.2.2.2.2.2.2.2.2⟩ : _ ∧ k_ ≠ g))) hk (fun _ h => h.2)) (fun _ h => h.1)); have n2_ := Aside0.mk (Kd.S_mono (Kd.S_keep (IsS102.apartS (show IsS102 w0 _ g x1000_4 x1001_4 x1002_4 from by repeat (first | (with_reducible first | exact HI0.out | apply IsS102.alloc | apply IsS102.drewN | apply IsS102.drew | apply IsS102.set_0 | apply IsS102.set_1 | apply IsS102.set_2 | refine IsS102.far ?_ NB0_166.out _ | refine IsS102.far ?_ NB0_193.out _ | refine IsS102.far ?_ NB0_194.out _) | exact HI0.out)) (by (with_reducible repeat (first | apply Kd.S_alloc | apply Kd.S_drewN | apply Kd.S_drew)); exact HO_167002.out) (by decide)) hk (fun _ h => h.2)) (fun _ h => h.1)); have n3_ := Aside0.mk (Kd.R_mono (Kd.R_keep (IsS102.apart (show IsS102 w0 _ g x1000_4 x1001_4 x1002_4 from by repeat (first | (with_reducible first | exact HI0.out | apply IsS102.alloc | apply IsS102.drewN | apply IsS102.drew | apply IsS102.set_0 | apply IsS102.set_1 | apply IsS102.set_2 | refine IsS102.far ?_ NB0_166.out _ | refine IsS102.far ?_ NB0_193.out _ | refine IsS102.far ?_ NB0_194.out _) | exact HI0.out)) (by (with_reducible repeat (first | apply Kd.R_alloc | apply Kd.R_drewN | apply Kd.R_drew)); exact HO_167003.out) (by decide)) hk (fun _ h => h.2)) (fun _ h => h.1)); have n4_ := Aside0.mk (Kd.R_mono (Kd.R_keep (IsS102.apart (show IsS102 w0 _ g x1000_4 x1001_4 x1002_4 from by repeat (first | (with_reducible first | exact HI0.out | apply IsS102.alloc | apply IsS102.drewN | apply IsS102.drew | apply IsS102.set_0 | apply IsS102.set_1 | apply IsS102.set_2 | refine IsS102.far ?_ NB0_166.out _ | refine IsS102.far ?_ NB0_193.out _ | refine IsS102.far ?_ NB0_194.out _) | exact HI0.out)) (by (with_reducible repeat (first | apply Kd.R_alloc | apply Kd.R_drewN | apply Kd.R_drew)); exact HO_195003.out) (by decide)) hk (fun _ h => h.2)) (fun _ h => h.1)); have n5_ := Aside0.mk (Kd.S_mono (Kd.S_keep (IsS102.apartS (show IsS102 w0 _ g x1000_4 x1001_4 x1002_4 from by repeat (first | (with_reducible first | exact HI0.out | apply IsS102.alloc | apply IsS102.drewN | apply IsS102.drew | apply IsS102.set_0 | apply IsS102.set_1 | apply IsS102.set_2 | refine IsS102.far ?_ NB0_166.out _ | refine IsS102.far ?_ NB0_193.out _ | refine IsS102.far ?_ NB0_194.out _) | exact HI0.out)) (by (with_reducible repeat (first | apply Kd.S_alloc | apply Kd.S_drewN | apply Kd.S_drew)); exact HO_195004.out) (by decide)) hk (fun _ h => h.2)) (fun _ h => h.1)); have n6_ := Aside0.mk (KeepBut.blk hk (g' := gb166) (o := .cells #[.int .u16 0, .int .u16 0, u167002, u167003] 109 (0, 0)) (by (with_reducible repeat (first | refine b1_ ?_ _ | refine b2_ ?_ | refine b3_ ?_ _)); exact BK166.out) NB166_0.out (by simp)); have n7_ := Aside0.mk (KeepBut.blk hk (g' := gb193) (o := .cells #[.slice A192_0 ((rd_T41 l2 x72_2).f0).length c192_0, .slice (some ad219) ((rd_T41 l2 x72_2).f1).length c192_1] 41 (0, 0)) (by (with_reducible repeat (first | refine b1_ ?_ _ | refine b2_ ?_ | refine b3_ ?_ _)); exact BK193.out) NB193_0.out (by simp)); have n8_ := Aside0.mk (KeepBut.blk hk (g' := gb194) (o := .cells #[.int .u16 0, .int .u16 0, .int .u16 0, u195003, u195004] 186 (0, 0)) (by (with_reducible repeat (first | refine b1_ ?_ _ | refine b2_ ?_ | refine b3_ ?_ _)); exact BK194.out) NB194_0.out (by simp)); have n9_ := Aside0.mk (KeepBut.trans (by repeat (first | (with_reducible first | exact HK.out | apply KeepBut.set_ | apply keep_drewN | apply keep_drew | apply keep_alloc | refine keep_far ?_ GW166.out _ | refine keep_far ?_ GW193.out _ | refine keep_far ?_ GW194.out _) | exact HK.out)) hk (.inl rfl)); have n10_ := Aside0.mk (hb); have n11_ := Aside0.mk (hi); clear HO_1; clear HO_70; clear HO_167002; clear HO_167003; clear HO_195003; clear HO_195004; clear BK166; clear BK193; clear BK194; clear HK; clear HB; clear HI0; have HO_1 := n0_; have HO_70 := n1_; have HO_167002 := n2_; have HO_167003 := n3_; have HO_195003 := n4_; have HO_195004 := n5_; have BK166 := n6_; have BK193 := n7_; have BK194 := n8_; have HK := n9_; have HB := n10_; have HI0 := n11_; clear n0_ n1_ n2_ n3_ n4_ n5_ n6_ n7_ n8_ n9_ n10_ n11_; (try clear hb); (try clear hb2); (try clear hk); (try clear hi)))
                 go_loopg [21, 119] k4 (fun kq v21 v119 w' => ∃ (x21_5 : List Int) (x119_5 : Int) (x1000_5 : Int) (x1001_5 : Int) (x1002_5 : Bool), v119 = .int .i64 x119_5 ∧ Aside0 (impl_builder_store.l5 kq l1 x21_5 l2 (l2.length : Int) x72_2 ((rd_T41 l2 x72_2).f1) (((rd_T41 l2 x72_2).f1).length : Int) x105_4 (rd_L9 ((rd_T41 l2 x72_2).f1) x105_4) ((rd_L9 ((rd_T41 l2 x72_2).f1) x105_4).length : Int) x119_5 x1000_5 x1001_5 x1002_5 0 0 x167002_1 x167003_2 ((rd_T41 l2 x72_2).f0) ((rd_T41 l2 x72_2).f1) 0 0 0 x195003_3 x195004_4 = some (r1, r2, r3, r4, r5, r6, r7)) ∧ Aside0 (kq ≤ k4) ∧ Aside0 (Kd.V (Kd.slice 36 k36) 38 w' w.heap.size (fun k_ => ((P1_ k_ ∨ P2_ k_) ∨ w.heap.size ≤ k_) ∧ some k_ ≠ (v21 : Value).ownBlock ∧ some k_ ≠ (u167002 : Value).ownBlock ∧ some k_ ≠ (u167003 : Value).ownBlock ∧ some k_ ≠ (u195003 : Value).ownBlock ∧ some k_ ≠ (u195004 : Value).ownBlock ∧ k_ ≠ gb166 ∧ k_ ≠ gb193 ∧ k_ ≠ gb194 ∧ k_ ≠ g) (.slice A1 l1.length c1) l1) ∧ Aside0 (Kd.R (Kd.int .i16) 98 w' w.heap.size (fun k_ => (w.heap.size ≤ k_)) v21 x21_5) ∧ Aside0 (Kd.V k41 41 w' w.heap.size (fun k_ => ((P1_ k_ ∨ P2_ k_) ∨ w.heap.size ≤ k_) ∧ some k_ ≠ (v21 : Value).ownBlock ∧ some k_ ≠ (u167002 : Value).ownBlock ∧ some k_ ≠ (u167003 : Value).ownBlock ∧ some k_ ≠ (u195003 : Value).ownBlock ∧ some k_ ≠ (u195004 : Value).ownBlock ∧ k_ ≠ gb166 ∧ k_ ≠ gb193 ∧ k_ ≠ gb194 ∧ k_ ≠ g) (.slice (some ad192) l2.length c2) l2) ∧ Aside0 (Kd.S k182 182 w' w.heap.size (fun k_ => (w.heap.size ≤ k_)) u167002 x167002_1) ∧ Aside0 (Kd.R k186 186 w' w.heap.size (fun k_ => (w.heap.size ≤ k_) ∧ some k_ ≠ (v21 : Value).ownBlock ∧ some k_ ≠ (u195003 : Value).ownBlock ∧ some k_ ≠ (u195004 : Value).ownBlock ∧ k_ ≠ gb194) u167003 x167003_2) ∧ Aside0 (Kd.R (Kd.int .u16) 103 w' w.heap.size (fun k_ => (w.heap.size ≤ k_)) u195003 x195003_3) ∧ Aside0 (Kd.S (Kd.slice 98 (Kd.int .i16)) 25 w' w.heap.size (fun k_ => (w.heap.size ≤ k_) ∧ some k_ ≠ (v21 : Value).ownBlock) u195004 x195004_4) ∧ Aside0 (w'.heap[gb166]? = some (.cells #[.int .u16 0, .int .u16 0, u167002, u167003] 109 (0, 0))) ∧ Aside0 (w'.heap[gb193]? = some (.cells #[(.slice A192_0 ((rd_T41 l2 x72_2).f0).length c192_0), (.slice (some ad219) ((rd_T41 l2 x72_2).f1).length c192_1)] 41 (0, 0))) ∧ Aside0 (w'.heap[gb194]? = some (.cells #[.int .u16 0, .int .u16 0, .int .u16 0, u195003, u195004] 186 (0, 0))) ∧ Aside0 (IsS102 w0 w' g x1000_5 x1001_5 x1002_5) ∧ Aside0 (KeepBut w w' g none) ∧ Aside0 (Below w0.heap.size w0 w'))
                 case atStart => exact ⟨(([] : List Int)), (0), (t220), (t221), (t222), (by first | rfl | (simp; done) | (simp [*]; done)), H', ⟨Nat.le_refl _⟩, ⟨by (with_reducible repeat (first | apply Kd.V_alloc | apply Kd.V_drewN | apply Kd.V_drew)); exact Kd.V_mono HO_1.out (fun _ hk => ⟨hk.1, ⟨(by simp [Value.ownBlock]), ⟨hk.2.1, ⟨hk.2.2.1, ⟨hk.2.2.2.1, ⟨hk.2.2.2.2.1, ⟨hk.2.2.2.2.2.1, ⟨hk.2.2.2.2.2.2.1, ⟨hk.2.2.2.2.2.2.2.1, hk.2.2.2.2.2.2.2.2⟩⟩⟩⟩⟩⟩⟩⟩⟩)⟩, ⟨by first | exact Kd.R_nil _ _ _ _ _ | exact Kd.N_nil _ _ _ _ _ | exact Kd.V_nil _ _ _ _ _ | exact Kd.Q_nil _ _ _ _ _ | exact Kd.S_nil _ _ _ _ _⟩, ⟨by (with_reducible repeat (first | apply Kd.V_alloc | apply Kd.V_drewN | apply Kd.V_drew)); exact Kd.V_mono HO_70.out (fun _ hk => ⟨hk.1, ⟨(by simp [Value.ownBlock]), ⟨hk.2.1, ⟨hk.2.2.1, ⟨hk.2.2.2.1, ⟨hk.2.2.2.2.1, ⟨hk.2.2.2.2.2.1, ⟨hk.2.2.2.2.2.2.1, ⟨hk.2.2.2.2.2.2.2.1, hk.2.2.2.2.2.2.2.2⟩⟩⟩⟩⟩⟩⟩⟩⟩)⟩, ⟨by (with_reducible repeat (first | apply Kd.S_alloc | apply Kd.S_drewN | apply Kd.S_drew)); exact HO_167002.out⟩, ⟨by (with_reducible repeat (first | apply Kd.R_alloc | apply Kd.R_drewN | apply Kd.R_drew)); exact Kd.R_mono HO_167003.out (fun _ hk => ⟨hk.1, ⟨(by simp [Value.ownBlock]), ⟨hk.2.1, ⟨hk.2.2.1, hk.2.2.2⟩⟩⟩⟩)⟩, ⟨by (with_reducible repeat (first | apply Kd.R_alloc | apply Kd.R_drewN | apply Kd.R_drew)); exact HO_195003.out⟩, ⟨by (with_reducible repeat (first | apply Kd.S_alloc | apply Kd.S_drewN | apply Kd.S_drew)); exact Kd.S_mono HO_195004.out (fun _ hk => ⟨hk, (by simp [Value.ownBlock])⟩)⟩, ⟨by (with_reducible repeat (first | refine b1_ ?_ _ | refine b2_ ?_ | refine b3_ ?_ _)); exact BK166.out⟩, ⟨by (with_reducible repeat (first | refine b1_ ?_ _ | refine b2_ ?_ | refine b3_ ?_ _)); exact BK193.out⟩, ⟨by (with_reducible repeat (first | refine b1_ ?_ _ | refine b2_ ?_ | refine b3_ ?_ _)); exact BK194.out⟩, ⟨by repeat (first | (with_reducible first | exact HI0.out | apply IsS102.alloc | apply IsS102.drewN | apply IsS102.drew | apply IsS102.set_0 | apply IsS102.set_1 | apply IsS102.set_2 | refine IsS102.far ?_ NB0_166.out _ | refine IsS102.far ?_ NB0_193.out _ | refine IsS102.far ?_ NB0_194.out _) | exact HI0.out)⟩, ⟨by repeat (first | (with_reducible first | exact HK.out | apply KeepBut.set_ | apply keep_drewN | apply keep_drew | apply keep_alloc | refine keep_far ?_ GW166.out _ | refine keep_far ?_ GW193.out _ | refine keep_far ?_ GW194.out _) | exact HK.out)⟩, ⟨by repeat (first | (with_reducible first | exact HB.out | apply below_alloc | apply pw_below_drewN | apply below_drew1 | refine below_set ?_ (IsS102.ge HI0.out) | refine below_set ?_ GE166.out | refine below_set ?_ GE193.out | refine below_set ?_ GE194.out) | exact HB.out)⟩⟩
                 case round =>
                  clear H'
                  try clear c1
                  try clear p1
                  try clear q1
                  try clear hx1
                  try clear c2
                  try clear p2
                  try clear q2
                  try clear hx2
                  try clear c3
                  try clear c4
                  try clear c5
                  try clear c6
                  try clear p6
                  try clear c7
                  try clear c8
                  try clear p16
                  try clear q16
                  try clear hx16
                  try clear p17
                  try clear q17
                  try clear hx17
                  try clear c19
                  try clear p19
                  try clear q19
                  try clear hx19
                  try clear hf19
                  try clear c21
                  try clear p21
                  try clear q21
                  try clear hx21
                  try clear c34
                  try clear c35
                  try clear c36
                  try clear c42
                  try clear c42b0
                  try clear c43
                  try clear c43b0
                  try clear c44
                  try clear c44b0
                  try clear c46
                  try clear c47
                  try clear c50
                  try clear c51
                  try clear c52
                  try clear c52b0
                  try clear c53
                  try clear c53b0
                  try clear c54
                  try clear c54b0
                  try clear c55
                  try clear c55b0
                  try clear c58
                  try clear p64
                  try clear c67
                  try clear c74
                  try clear c75
                  try clear c76
                  try clear c78
                  try clear c78b0
                  try clear c79
                  try clear c79b0
                  try clear c80
                  try clear c80b0
                  try clear c82
                  try clear c83
                  try clear c84
                  try clear hcz23_0
                  try clear hcz23_1
                  try clear hcz23_2
                  try clear hcz35_0
                  try clear hcz35_1
                  try clear hcz35_2
                  try clear hcz35_3
                  try clear hcz37_0
                  try clear hcz41_0
                  try clear hcz41_1
                  try clear hcz41_2
                  try clear hcz41_3
                  try clear hcz48_0
                  try clear hcz48_1
                  try clear hcz51_0
                  try clear hcz51_1
                  try clear hcz77_0
                  try clear hcz77_1
                  try clear hcz85_0
                  try clear hcz85_1
                  try clear hfz23_0
                  try clear hfz23_1
                  try clear hfz23_2
                  try clear hfz35_0
                  try clear hfz35_1
                  try clear hfz35_2
                  try clear hfz35_3
                  try clear hfz37_0
                  try clear hfz41_0
                  try clear hfz41_1
                  try clear hfz41_2
                  try clear hfz41_3
                  try clear hfz48_0
                  try clear hfz48_1
                  try clear hfz51_0
                  try clear hfz51_1
                  try clear hfz77_0
                  try clear hfz77_1
                  try clear hfz85_0
                  try clear hfz85_1
                  try clear hx167_0
                  try clear hx172_0
                  try clear hx172_1
                  try clear hx172_2
                  try clear hx192_0
                  try clear hx192_1
                  try clear hx195_0
                  try clear hx219_0
                  try clear p1
                  try clear p16
                  try clear p167
                  try clear p17
                  try clear p172
                  try clear p19
                  try clear p192
                  try clear p195
                  try clear p2
                  try clear p219
                  try clear p6
                  try clear p64
                  try clear q1
                  try clear q16
                  try clear q167
                  try clear q17
                  try clear q172
                  try clear q19
                  try clear q192
                  try clear q195
                  try clear q219
                  obtain ⟨x21_5, x119_5, x1000_5, x1001_5, x1002_5, rfl, HA, HK5, HO_1, HO_21, HO_70, HO_167002, HO_167003, HO_195003, HO_195004, BK166, BK193, BK194, HI0, HK, HB⟩ := hrel
                  cases gk with
                  | zero => exact absurd HA.out (by simp [impl_builder_store.l5])
                  | succ k5 =>
                   have H := HA.out
                   clear HA
                   simp only [impl_builder_store.l5] at H
                   by_cases c87 : x119_5 < ((rd_L9 ((rd_T41 l2 x72_2).f1) x105_4).length : Int)
                   ·rw [if_pos c87] at H
                    have c87b0 : decide (x119_5 < ((rd_L9 ((rd_T41 l2 x72_2).f1) x105_4).length : Int)) = true := decide_eq_true c87
                    clear c87
                    by_cases c88 : 0 ≤ x119_5
                    ·rw [if_pos c88] at H
                     have c88b0 : decide (0 ≤ x119_5) = true := decide_eq_true c88
                     clear c88
                     by_cases c89 : x119_5 < ((rd_L9 ((rd_T41 l2 x72_2).f1) x105_4).length : Int)
                     ·rw [if_pos c89] at H
                      have c89b0 : decide (x119_5 < ((rd_L9 ((rd_T41 l2 x72_2).f1) x105_4).length : Int)) = true := decide_eq_true c89
                      clear c89
                      replace H := Option.bind_eq_some_iff.mp H
                      obtain ⟨⟨t224, t225, t226, t227⟩, A900, H⟩ := H
                      replace H : (if x21_5.length < 70368744177664 then (impl_builder_store.l5 k5 l1 (x21_5 ++ [t224]) l2 (l2.length : Int) x72_2 ((rd_T41 l2 x72_2).f1) (((rd_T41 l2 x72_2).f1).length : Int) x105_4 (rd_L9 ((rd_T41 l2 x72_2).f1) x105_4) ((rd_L9 ((rd_T41 l2 x72_2).f1) x105_4).length : Int) (wrap64 (x119_5 + 1)) t225 t226 t227 0 0 x167002_1 x167003_2 ((rd_T41 l2 x72_2).f0) ((rd_T41 l2 x72_2).f1) 0 0 0 x195003_3 x195004_4) else (none)) = some (r1, r2, r3, r4, r5, r6, r7) := H
                      have A90 := Aside0.mk A900
                      clear A900
                      by_cases c91 : x21_5.length < 70368744177664
                      ·rw [if_pos c91] at H
                       have LMc91 := Aside0.mk c91
                       clear c91
                       obtain ⟨y228, hy228⟩ : ∃ y_ : List Int, y_ = (x21_5 ++ [t224]) := ⟨_, rfl⟩
                       replace H : (impl_builder_store.l5 k5 l1 y228 l2 (l2.length : Int) x72_2 ((rd_T41 l2 x72_2).f1) (((rd_T41 l2 x72_2).f1).length : Int) x105_4 (rd_L9 ((rd_T41 l2 x72_2).f1) x105_4) ((rd_L9 ((rd_T41 l2 x72_2).f1) x105_4).length : Int) (wrap64 (x119_5 + 1)) t225 t226 t227 0 0 x167002_1 x167003_2 ((rd_T41 l2 x72_2).f0) ((rd_T41 l2 x72_2).f1) 0 0 0 x195003_3 x195004_4) = some (r1, r2, r3, r4, r5, r6, r7) := by first | (rw [hy228]; with_reducible exact H) | (have H2_ := (Option.bind_some _ _).symm.trans H; rw [hy228]; with_reducible exact H2_) | (have H2_ := (Option.bind_some _ _).symm.trans H; with_reducible exact H2_) | with_reducible exact H | (rw [hy228]; exact H) | exact H
                       have Ny228 := Aside0.mk hy228
                       clear hy228
                       have H' := Aside0.mk H
                       clear H
                       have p223 : 0 ≤ (x119_5 : Int) := of_decide_eq_true (by first | (with_reducible assumption) | assumption)
                       have q223 : x119_5 < ((rd_L9 ((rd_T41 l2 x72_2).f1) x105_4).length : Int) := of_decide_eq_true (by first | (with_reducible assumption) | assumption)
                       have HR219_0 := Aside0.mk (Kd.F_now (Kd.F_keep HF219_0.out HK.out (fun _ h_ => h_.2)))
                       obtain ⟨ad223, e223, hx223_0⟩ := Kd.at_int HR219_0.out x119_5 p223 q223
                       cases e223
                       replace p223 := eq_true p223
                       replace q223 := eq_true q223
                       go_wp2_with (first | ((with_reducible refine gate_callee (f := 51) rfl ?_); refine goesL_ (some 126) rfl rfl Try.func51 (by kernel_rfl) rfl #[.pointer (some ⟨g, 0, none⟩), .int .i64 (rd (rd_L9 ((rd_T41 l2 x72_2).f1) x105_4) x119_5)] rfl (by (try simp only [List.map_toArray, List.map_cons, List.map_nil]); first | done | rfl | (simp only [List.length_drop, List.length_take]; rfl)) ?_; (with_reducible refine (impl_builder_signed.calls g x1000_5 x1001_5 x1002_5 (rd (rd_L9 ((rd_T41 l2 x72_2).f1) x105_4) x119_5) t224 t225 t226 t227 w0 _ ?side1 ?side2 A90.out).mono ?_); (case side1 => repeat (first | (with_reducible first | exact HI0.out | apply IsS102.alloc | apply IsS102.drewN | apply IsS102.drew | apply IsS102.set_0 | apply IsS102.set_1 | apply IsS102.set_2 | refine IsS102.far ?_ NB0_166.out _ | refine IsS102.far ?_ NB0_193.out _ | refine IsS102.far ?_ NB0_194.out _) | exact HI0.out)); (case side2 => repeat (first | (with_reducible first | exact HB.out | apply below_alloc | apply pw_below_drewN | apply below_drew1 | refine below_set ?_ (IsS102.ge HI0.out) | refine below_set ?_ GE166.out | refine below_set ?_ GE193.out | refine below_set ?_ GE194.out) | exact HB.out)); rintro e w92 ⟨rfl, hi, hb, hk⟩; refine ⟨_, rfl, ?_⟩; have n0_ := Aside0.mk (Kd.V_mono (Kd.V_keep (Kd.V_mono (ok := fun k_ => ((((P1_ k_ ∨ P2_ k_) ∨ w.heap.size ≤ k_)) ∧ (some k_ ≠ (u21 : Value).ownBlock ∧ (some k_ ≠ (u167002 : Value).ownBlock ∧ (some k_ ≠ (u167003 : Value).ownBlock ∧ (some k_ ≠ (u195003 : Value).ownBlock ∧ (some k_ ≠ (u195004 : Value).ownBlock ∧ (k_ ≠ gb166 ∧ (k_ ≠ gb193 ∧ (k_ ≠ gb194 ∧ k_ ≠ g)))))))))) (by (with_reducible repeat (first | apply Kd.V_alloc | apply Kd.V_drewN | apply Kd.V_drew)); exact HO_1.out) (fun k_ hk_ => (⟨hk_, hk_.2.2.2.2.2.2.2.2.2⟩ : _ ∧ k_ ≠ g))) hk (fun _ h => h.2)) (fun _ h => h.1)); have n1_ := Aside0.mk (Kd.R_mono (Kd.R_keep (IsS102.apart (show IsS102 w0 _ g x1000_5 x1001_5 x1002_5 from by repeat (first | (with_reducible first | exact HI0.out | apply IsS102.alloc | apply IsS102.drewN | apply IsS102.drew | apply IsS102.set_0 | apply IsS102.set_1 | apply IsS102.set_2 | refine IsS102.far ?_ NB0_166.out _ | refine IsS102.far ?_ NB0_193.out _ | refine IsS102.far ?_ NB0_194.out _) | exact HI0.out)) (by (with_reducible repeat (first | apply Kd.R_alloc | apply Kd.R_drewN | apply Kd.R_drew)); exact HO_21.out) (by decide)) hk (fun _ h => h.2)) (fun _ h => h.1)); have n2_ := Aside0.mk (Kd.V_mono (Kd.V_keep (Kd.V_mono (ok := fun k_ => ((((P1_ k_ ∨ P2_ k_) ∨ w.heap.size ≤ k_)) ∧ (some k_ ≠ (u21 : Value).ownBlock ∧ (some k_ ≠ (u167002 : Value).ownBlock ∧ (some k_ ≠ (u167003 : Value).ownBlock ∧ (some k_ ≠ (u195003 : Value).ownBlock ∧ (some k_ ≠ (u195004 : Value).ownBlock ∧ (k_ ≠ gb166 ∧ (k_ ≠ gb193 ∧ (k_ ≠ gb194 ∧ k_ ≠ g)))))))))) (by (with_reducible repeat (first | apply Kd.V_alloc | apply Kd.V_drewN | apply Kd.V_drew)); exact HO_70.out) (fun k_ hk_ => (⟨hk_, hk_.2.2.2.2.2.2.2.2.2⟩ : _ ∧ k_ ≠ g))) hk (fun _ h => h.2)) (fun _ h => h.1)); have n3_ := Aside0.mk (Kd.S_mono (Kd.S_keep (IsS102.apartS (show IsS102 w0 _ g x1000_5 x1001_5 x1002_5 from by repeat (first | (with_reducible first | exact HI0.out | apply IsS102.alloc | apply IsS102.drewN | apply IsS102.drew | apply IsS102.set_0 | apply IsS102.set_1 | apply IsS102.set_2 | refine IsS102.far ?_ NB0_166.out _ | refine IsS102.far ?_ NB0_193.out _ | refine IsS102.far ?_ NB0_194.out _) | exact HI0.out)) (by (with_reducible repeat (first | apply Kd.S_alloc | apply Kd.S_drewN | apply Kd.S_drew)); exact HO_167002.out) (by decide)) hk (fun _ h => h.2)) (fun _ h => h.1)); have n4_ := Aside0.mk (Kd.R_mono (Kd.R_keep (IsS102.apart (show IsS102 w0 _ g x1000_5 x1001_5 x1002_5 from by repeat (first | (with_reducible first | exact HI0.out | apply IsS102.alloc | apply IsS102.drewN | apply IsS102.drew | apply IsS102.set_0 | apply IsS102.set_1 | apply IsS102.set_2 | refine IsS102.far ?_ NB0_166.out _ | refine IsS102.far ?_ NB0_193.out _ | refine IsS102.far ?_ NB0_194.out _) | exact HI0.out)) (by (with_reducible repeat (first | apply Kd.R_alloc | apply Kd.R_drewN | apply Kd.R_drew)); exact HO_167003.out) (by decide)) hk (fun _ h => h.2)) (fun _ h => h.1)); have n5_ := Aside0.mk (Kd.R_mono (Kd.R_keep (IsS102.apart (show IsS102 w0 _ g x1000_5 x1001_5 x1002_5 from by repeat (first | (with_reducible first | exact HI0.out | apply IsS102.alloc | apply IsS102.drewN | apply IsS102.drew | apply IsS102.set_0 | apply IsS102.set_1 | apply IsS102.set_2 | refine IsS102.far ?_ NB0_166.out _ | refine IsS102.far ?_ NB0_193.out _ | refine IsS102.far ?_ NB0_194.out _) | exact HI0.out)) (by (with_reducible repeat (first | apply Kd.R_alloc | apply Kd.R_drewN | apply Kd.R_drew)); exact HO_195003.out) (by decide)) hk (fun _ h => h.2)) (fun _ h => h.1)); have n6_ := Aside0.mk (Kd.S_mono (Kd.S_keep (IsS102.apartS (show IsS102 w0 _ g x1000_5 x1001_5 x1002_5 from by repeat (first | (with_reducible first | exact HI0.out | apply IsS102.alloc | apply IsS102.drewN | apply IsS102.drew | apply IsS102.set_0 | apply IsS102.set_1 | apply IsS102.set_2 | refine IsS102.far ?_ NB0_166.out _ | refine IsS102.far ?_ NB0_193.out _ | refine IsS102.far ?_ NB0_194.out _) | exact HI0.out)) (by (with_reducible repeat (first | apply Kd.S_alloc | apply Kd.S_drewN | apply Kd.S_drew)); exact HO_195004.out) (by decide)) hk (fun _ h => h.2)) (fun _ h => h.1)); have n7_ := Aside0.mk (KeepBut.blk hk (g' := gb166) (o := .cells #[.int .u16 0, .int .u16 0, u167002, u167003] 109 (0, 0)) (by (with_reducible repeat (first | refine b1_ ?_ _ | refine b2_ ?_ | refine b3_ ?_ _)); exact BK166.out) NB166_0.out (by simp)); have n8_ := Aside0.mk (KeepBut.blk hk (g' := gb193) (o := .cells #[.slice A192_0 ((rd_T41 l2 x72_2).f0).length c192_0, .slice (some ad219) ((rd_T41 l2 x72_2).f1).length c192_1] 41 (0, 0)) (by (with_reducible repeat (first | refine b1_ ?_ _ | refine b2_ ?_ | refine b3_ ?_ _)); exact BK193.out) NB193_0.out (by simp)); have n9_ := Aside0.mk (KeepBut.blk hk (g' := gb194) (o := .cells #[.int .u16 0, .int .u16 0, .int .u16 0, u195003, u195004] 186 (0, 0)) (by (with_reducible repeat (first | refine b1_ ?_ _ | refine b2_ ?_ | refine b3_ ?_ _)); exact BK194.out) NB194_0.out (by simp)); have n10_ := Aside0.mk (KeepBut.trans (by repeat (first | (with_reducible first | exact HK.out | apply KeepBut.set_ | apply keep_drewN | apply keep_drew | apply keep_alloc | refine keep_far ?_ GW166.out _ | refine keep_far ?_ GW193.out _ | refine keep_far ?_ GW194.out _) | exact HK.out)) hk (.inl rfl)); have n11_ := Aside0.mk (hb); have n12_ := Aside0.mk (hi); clear HO_1; clear HO_21; clear HO_70; clear HO_167002; clear HO_167003; clear HO_195003; clear HO_195004; clear BK166; clear BK193; clear BK194; clear HK; clear HB; clear HI0; have HO_1 := n0_; have HO_21 := n1_; have HO_70 := n2_; have HO_167002 := n3_; have HO_167003 := n4_; have HO_195003 := n5_; have HO_195004 := n6_; have BK166 := n7_; have BK193 := n8_; have BK194 := n9_; have HK := n10_; have HB := n11_; have HI0 := n12_; clear n0_ n1_ n2_ n3_ n4_ n5_ n6_ n7_ n8_ n9_ n10_ n11_ n12_; (try clear hb); (try clear hb2); (try clear hk); (try clear hi)) | ((with_reducible refine gate_builtin (b := .append) (xs := #[.tmp 123, .tmp 127]) rfl ?_); (try (refine gate_guard (by rfl) ?_; dsimp only)); at_builtin; refine Kd.R_append (Kd.int .i16) w.heap.size rfl (.tmp 123) (.tmp 127) 25 98 (.int .i16 0) 2 rfl Try.underlying25 info98 rfl (by decide) (by omega) u21 x21_5 t224 [.int .i16 t224] (fun k_ => (w.heap.size ≤ k_)) (fun _ => False) rfl rfl ?aP (fun _ hk => hk.elim) ?aF ?aO (Below.refl _ _) ?aS ?aL ?_; (case aP => exact rfl); (case aF => exact (fun k_ hk => (Nat.le_trans (keep_size (w := w) (g := g) (row := none) (by repeat (first | (with_reducible first | exact HK.out | apply KeepBut.set_ | apply keep_drewN | apply keep_drew | apply keep_alloc | refine keep_far ?_ GW166.out _ | refine keep_far ?_ GW193.out _ | refine keep_far ?_ GW194.out _) | exact HK.out))) hk))); (case aO => exact (by (with_reducible repeat (first | apply Kd.R_alloc | apply Kd.R_drewN | apply Kd.R_drew)); exact HO_21.out)); (case aS => exact (keep_size (w := w) (g := g) (row := none) (by repeat (first | (with_reducible first | exact HK.out | apply KeepBut.set_ | apply keep_drewN | apply keep_drew | apply keep_alloc | refine keep_far ?_ GW166.out _ | refine keep_far ?_ GW193.out _ | refine keep_far ?_ GW194.out _) | exact HK.out)))); (case aL => have := LMc91.out; omega); intro v229 w93 ho hb hg hat; rw [← Ny228.out] at ho; have n0_ := Aside0.mk (Kd.V_afterv (ok := (fun k_ => ((P1_ k_ ∨ P2_ k_) ∨ w.heap.size ≤ k_) ∧ some k_ ≠ (u167002 : Value).ownBlock ∧ some k_ ≠ (u167003 : Value).ownBlock ∧ some k_ ≠ (u195003 : Value).ownBlock ∧ some k_ ≠ (u195004 : Value).ownBlock ∧ k_ ≠ gb166 ∧ k_ ≠ gb193 ∧ k_ ≠ gb194 ∧ k_ ≠ g)) (by (with_reducible repeat (first | apply Kd.V_alloc | apply Kd.V_drewN | apply Kd.V_drew)); exact Kd.V_mono HO_1.out (fun _ hk => ⟨⟨hk.1, ⟨hk.2.2.1, ⟨hk.2.2.2.1, ⟨hk.2.2.2.2.1, ⟨hk.2.2.2.2.2.1, ⟨hk.2.2.2.2.2.2.1, ⟨hk.2.2.2.2.2.2.2.1, ⟨hk.2.2.2.2.2.2.2.2.1, hk.2.2.2.2.2.2.2.2.2⟩⟩⟩⟩⟩⟩⟩⟩, hk.2.1⟩)) hg hat); have n1_ := Aside0.mk (Kd.V_afterv (ok := (fun k_ => ((P1_ k_ ∨ P2_ k_) ∨ w.heap.size ≤ k_) ∧ some k_ ≠ (u167002 : Value).ownBlock ∧ some k_ ≠ (u167003 : Value).ownBlock ∧ some k_ ≠ (u195003 : Value).ownBlock ∧ some k_ ≠ (u195004 : Value).ownBlock ∧ k_ ≠ gb166 ∧ k_ ≠ gb193 ∧ k_ ≠ gb194 ∧ k_ ≠ g)) (by (with_reducible repeat (first | apply Kd.V_alloc | apply Kd.V_drewN | apply Kd.V_drew)); exact Kd.V_mono HO_70.out (fun _ hk => ⟨⟨hk.1, ⟨hk.2.2.1, ⟨hk.2.2.2.1, ⟨hk.2.2.2.2.1, ⟨hk.2.2.2.2.2.1, ⟨hk.2.2.2.2.2.2.1, ⟨hk.2.2.2.2.2.2.2.1, ⟨hk.2.2.2.2.2.2.2.2.1, hk.2.2.2.2.2.2.2.2.2⟩⟩⟩⟩⟩⟩⟩⟩, hk.2.1⟩)) hg hat); have n2_ := Aside0.mk (Kd.S_over' (by (with_reducible repeat (first | apply Kd.S_alloc | apply Kd.S_drewN | apply Kd.S_drew)); exact HO_167002.out) (Kd.R_typed (by (with_reducible repeat (first | apply Kd.R_alloc | apply Kd.R_drewN | apply Kd.R_drew)); exact HO_21.out)) (by decide) hg); have n3_ := Aside0.mk (Kd.R_after (ok := (fun k_ => (w.heap.size ≤ k_) ∧ some k_ ≠ (u195003 : Value).ownBlock ∧ some k_ ≠ (u195004 : Value).ownBlock ∧ k_ ≠ gb194)) (by (with_reducible repeat (first | apply Kd.R_alloc | apply Kd.R_drewN | apply Kd.R_drew)); exact Kd.R_mono HO_167003.out (fun _ hk => ⟨⟨hk.1, ⟨hk.2.2.1, ⟨hk.2.2.2.1, hk.2.2.2.2⟩⟩⟩, hk.2.1⟩)) hg hat); have n4_ := Aside0.mk (Kd.R_over' (by (with_reducible repeat (first | apply Kd.R_alloc | apply Kd.R_drewN | apply Kd.R_drew)); exact HO_195003.out) (Kd.R_typed (by (with_reducible repeat (first | apply Kd.R_alloc | apply Kd.R_drewN | apply Kd.R_drew)); exact HO_21.out)) (by decide) hg); have n5_ := Aside0.mk (Kd.S_after (ok := (fun k_ => (w.heap.size ≤ k_))) (by (with_reducible repeat (first | apply Kd.S_alloc | apply Kd.S_drewN | apply Kd.S_drew)); exact HO_195004.out) hg hat); have n6_ := Aside0.mk (blk_grown (g := gb166) (o := .cells #[.int .u16 0, .int .u16 0, u167002, u167003] 109 (0, 0)) (by (with_reducible repeat (first | refine b1_ ?_ _ | refine b2_ ?_ | refine b3_ ?_ _)); exact BK166.out) hg (Kd.R_ne HO_21.out BK166.out (by decide))); have n7_ := Aside0.mk (blk_grown (g := gb193) (o := .cells #[.slice A192_0 ((rd_T41 l2 x72_2).f0).length c192_0, .slice (some ad219) ((rd_T41 l2 x72_2).f1).length c192_1] 41 (0, 0)) (by (with_reducible repeat (first | refine b1_ ?_ _ | refine b2_ ?_ | refine b3_ ?_ _)); exact BK193.out) hg (Kd.R_ne HO_21.out BK193.out (by decide))); have n8_ := Aside0.mk (blk_grown (g := gb194) (o := .cells #[.int .u16 0, .int .u16 0, .int .u16 0, u195003, u195004] 186 (0, 0)) (by (with_reducible repeat (first | refine b1_ ?_ _ | refine b2_ ?_ | refine b3_ ?_ _)); exact BK194.out) hg (Kd.R_ne HO_21.out BK194.out (by decide))); have n9_ := Aside0.mk (IsS102.grown (by repeat (first | (with_reducible first | exact HI0.out | apply IsS102.alloc | apply IsS102.drewN | apply IsS102.drew | apply IsS102.set_0 | apply IsS102.set_1 | apply IsS102.set_2 | refine IsS102.far ?_ NB0_166.out _ | refine IsS102.far ?_ NB0_193.out _ | refine IsS102.far ?_ NB0_194.out _) | exact HI0.out)) hg (IsS102.own_ne HI0.out HO_21.out (by decide))); have n10_ := Aside0.mk (below_weaken (by repeat (first | (with_reducible first | exact HB.out | apply below_alloc | apply pw_below_drewN | apply below_drew1 | refine below_set ?_ (IsS102.ge HI0.out) | refine below_set ?_ GE166.out | refine below_set ?_ GE193.out | refine below_set ?_ GE194.out) | exact HB.out)) HL.out hb); have n11_ := Aside0.mk (KeepBut.trans (by repeat (first | (with_reducible first | exact HK.out | apply KeepBut.set_ | apply keep_drewN | apply keep_drew | apply keep_alloc | refine keep_far ?_ GW166.out _ | refine keep_far ?_ GW193.out _ | refine keep_far ?_ GW194.out _) | exact HK.out)) (KeepBut.of_grown hg g) (Kd.R_base2 HO_21.out)); have n12_ := Aside0.mk (ho); clear HO_1; clear HO_70; clear HO_167002; clear HO_167003; clear HO_195003; clear HO_195004; clear BK166; clear BK193; clear BK194; clear HI0; clear HB; clear HK; clear HO_21; have HO_1 := n0_; have HO_70 := n1_; have HO_167002 := n2_; have HO_167003 := n3_; have HO_195003 := n4_; have HO_195004 := n5_; have BK166 := n6_; have BK193 := n7_; have BK194 := n8_; have HI0 := n9_; have HB := n10_; have HK := n11_; have HO230 := n12_; clear n0_ n1_ n2_ n3_ n4_ n5_ n6_ n7_ n8_ n9_ n10_ n11_ n12_; clear ho hb hg hat))
                       go_roundg k5
                       case measure => have := HK1.out; have := HK2.out; have := HK3.out; have := HK4.out; have := HK5.out; omega
                       case rel => exact ⟨(y228), (wrap64 (x119_5 + 1)), (t225), (t226), (t227), (by first | rfl | (simp; done) | (simp [*]; done)), H', ⟨by have := HK1.out; have := HK2.out; have := HK3.out; have := HK4.out; have := HK5.out; omega⟩, ⟨by (with_reducible repeat (first | apply Kd.V_alloc | apply Kd.V_drewN | apply Kd.V_drew)); exact Kd.V_mono HO_1.out (fun _ hk => ⟨hk.1.1, ⟨hk.2, ⟨hk.1.2.1, ⟨hk.1.2.2.1, ⟨hk.1.2.2.2.1, ⟨hk.1.2.2.2.2.1, ⟨hk.1.2.2.2.2.2.1, ⟨hk.1.2.2.2.2.2.2.1, ⟨hk.1.2.2.2.2.2.2.2.1, hk.1.2.2.2.2.2.2.2.2⟩⟩⟩⟩⟩⟩⟩⟩⟩)⟩, ⟨by (with_reducible repeat (first | apply Kd.R_alloc | apply Kd.R_drewN | apply Kd.R_drew)); exact HO230.out⟩, ⟨by (with_reducible repeat (first | apply Kd.V_alloc | apply Kd.V_drewN | apply Kd.V_drew)); exact Kd.V_mono HO_70.out (fun _ hk => ⟨hk.1.1, ⟨hk.2, ⟨hk.1.2.1, ⟨hk.1.2.2.1, ⟨hk.1.2.2.2.1, ⟨hk.1.2.2.2.2.1, ⟨hk.1.2.2.2.2.2.1, ⟨hk.1.2.2.2.2.2.2.1, ⟨hk.1.2.2.2.2.2.2.2.1, hk.1.2.2.2.2.2.2.2.2⟩⟩⟩⟩⟩⟩⟩⟩⟩)⟩, ⟨by (with_reducible repeat (first | apply Kd.S_alloc | apply Kd.S_drewN | apply Kd.S_drew)); exact HO_167002.out⟩, ⟨by (with_reducible repeat (first | apply Kd.R_alloc | apply Kd.R_drewN | apply Kd.R_drew)); exact Kd.R_mono HO_167003.out (fun _ hk => ⟨hk.1.1, ⟨hk.2, ⟨hk.1.2.1, ⟨hk.1.2.2.1, hk.1.2.2.2⟩⟩⟩⟩)⟩, ⟨by (with_reducible repeat (first | apply Kd.R_alloc | apply Kd.R_drewN | apply Kd.R_drew)); exact HO_195003.out⟩, ⟨by (with_reducible repeat (first | apply Kd.S_alloc | apply Kd.S_drewN | apply Kd.S_drew)); exact HO_195004.out⟩, ⟨by (with_reducible repeat (first | refine b1_ ?_ _ | refine b2_ ?_ | refine b3_ ?_ _)); exact BK166.out⟩, ⟨by (with_reducible repeat (first | refine b1_ ?_ _ | refine b2_ ?_ | refine b3_ ?_ _)); exact BK193.out⟩, ⟨by (with_reducible repeat (first | refine b1_ ?_ _ | refine b2_ ?_ | refine b3_ ?_ _)); exact BK194.out⟩, ⟨by repeat (first | (with_reducible first | exact HI0.out | apply IsS102.alloc | apply IsS102.drewN | apply IsS102.drew | apply IsS102.set_0 | apply IsS102.set_1 | apply IsS102.set_2 | refine IsS102.far ?_ NB0_166.out _ | refine IsS102.far ?_ NB0_193.out _ | refine IsS102.far ?_ NB0_194.out _) | exact HI0.out)⟩, ⟨by repeat (first | (with_reducible first | exact HK.out | apply KeepBut.set_ | apply keep_drewN | apply keep_drew | apply keep_alloc | refine keep_far ?_ GW166.out _ | refine keep_far ?_ GW193.out _ | refine keep_far ?_ GW194.out _) | exact HK.out)⟩, ⟨by repeat (first | (with_reducible first | exact HB.out | apply below_alloc | apply pw_below_drewN | apply below_drew1 | refine below_set ?_ (IsS102.ge HI0.out) | refine below_set ?_ GE166.out | refine below_set ?_ GE193.out | refine below_set ?_ GE194.out) | exact HB.out)⟩⟩
                      ·rw [if_neg c91] at H
                       exact absurd H (by simp)
                     ·rw [if_neg c89] at H
                      exact absurd H (by simp)
                    ·rw [if_neg c88] at H
                     exact absurd H (by simp)
                   ·rw [if_neg c87] at H
                    have c87b0 : decide (x119_5 < ((rd_L9 ((rd_T41 l2 x72_2).f1) x105_4).length : Int)) = false := decide_eq_false c87
                    clear c87
                    by_cases c94 : x195004_4.length < 5864062014805
                    ·rw [if_pos c94] at H
                     have LMc94 := Aside0.mk c94
                     clear c94
                     obtain ⟨y231, hy231⟩ : ∃ y_ : List (List Int), y_ = (x195004_4 ++ [x21_5]) := ⟨_, rfl⟩
                     replace H : (impl_builder_store.l4 k5 l1 l2 (l2.length : Int) x72_2 ((rd_T41 l2 x72_2).f1) (((rd_T41 l2 x72_2).f1).length : Int) (wrap64 (x105_4 + 1)) x1000_5 x1001_5 x1002_5 0 0 x167002_1 x167003_2 ((rd_T41 l2 x72_2).f0) ((rd_T41 l2 x72_2).f1) 0 0 0 x195003_3 y231) = some (r1, r2, r3, r4, r5, r6, r7) := by first | (rw [hy231]; with_reducible exact H) | (have H2_ := (Option.bind_some _ _).symm.trans H; rw [hy231]; with_reducible exact H2_) | (have H2_ := (Option.bind_some _ _).symm.trans H; with_reducible exact H2_) | with_reducible exact H | (rw [hy231]; exact H) | exact H
                     have Ny231 := Aside0.mk hy231
                     clear hy231
                     have H' := Aside0.mk H
                     clear H
                     have hnb95 := NB194_166.out
                     have hnc95 := NB166_194.out
                     have hnb96 := NB194_193.out
                     have hnc96 := NB193_194.out
                     have hnb97 := NB194_0.out
                     have hnc97 := NB0_194.out
                     have hcz98_0 : wr.cell? ⟨gb194, 0, none⟩ = some (.int .u16 0) := (blk_cell BK194.out 0).trans rfl
                     have hcz98_1 : wr.cell? ⟨gb194, 1, none⟩ = some (.int .u16 0) := (blk_cell BK194.out 1).trans rfl
                     have hcz98_2 : wr.cell? ⟨gb194, 2, none⟩ = some (.int .u16 0) := (blk_cell BK194.out 2).trans rfl
                     have hcz98_3 : wr.cell? ⟨gb194, 3, none⟩ = some (u195003) := (blk_cell BK194.out 3).trans rfl
                     have hcz98_4 : wr.cell? ⟨gb194, 4, none⟩ = some (u195004) := (blk_cell BK194.out 4).trans rfl
                     have hfz98_0 := blk_frozen BK194.out 0
                     have hfz98_1 := blk_frozen BK194.out 1
                     have hfz98_2 := blk_frozen BK194.out 2
                     have hfz98_3 := blk_frozen BK194.out 3
                     have hfz98_4 := blk_frozen BK194.out 4
                     obtain ⟨Ao100, co100, eo100⟩ := Kd.R_slice HO_21.out
                     subst eo100
                     go_wp2_with (first | ((with_reducible refine gate_builtin (b := .append) (xs := #[.tmp 131, .tmp 133]) rfl ?_); (try (refine gate_guard (by rfl) ?_; dsimp only)); at_builtin; refine Kd.S_append (Kd.slice 98 (Kd.int .i16)) w.heap.size rfl (.tmp 131) (.tmp 133) 24 25 (.slice none 0 0) 24 rfl Try.underlying24 info25 rfl (by decide) (by omega) u195004 x195004_4 x21_5 [.slice Ao100 x21_5.length co100] (fun k_ => (w.heap.size ≤ k_)) (fun k_ => some k_ = (.slice Ao100 x21_5.length co100 : Value).ownBlock) rfl rfl ?aP (fun k_ hk_ => ((Kd.R_mono (ok' := fun k_ => ((fun k_ => (w.heap.size ≤ k_))) k_ ∧ some k_ ≠ (u195004 : Value).ownBlock) (Kd.R_apart' (HO_21.out) (Kd.S_typed HO_195004.out) (by decide)) (fun k_ hk => ⟨hk.1, hk.2⟩))).1 k_ hk_.symm) ?aF ?aO (Below.refl _ _) ?aS ?aL ?_; (case aP => exact Kd.M_row (Kd.R_mono (Kd.R_tight rfl (Kd.R_mono (ok' := fun k_ => ((fun k_ => (w.heap.size ≤ k_))) k_ ∧ some k_ ≠ (u195004 : Value).ownBlock) (Kd.R_apart' (HO_21.out) (Kd.S_typed HO_195004.out) (by decide)) (fun k_ hk => ⟨hk.1, hk.2⟩))) (fun _ h_ => h_))); (case aF => exact (fun k_ hk => (Nat.le_trans (keep_size (w := w) (g := g) (row := none) (by repeat (first | (with_reducible first | exact HK.out | apply KeepBut.set_ | apply keep_drewN | apply keep_drew | apply keep_alloc | refine keep_far ?_ GW166.out _ | refine keep_far ?_ GW193.out _ | refine keep_far ?_ GW194.out _) | exact HK.out))) hk))); (case aO => exact (by (with_reducible repeat (first | apply Kd.S_alloc | apply Kd.S_drewN | apply Kd.S_drew)); exact Kd.S_mono HO_195004.out (fun k_ hk => ⟨hk.1, fun e_ => hk.2 e_⟩))); (case aS => exact (keep_size (w := w) (g := g) (row := none) (by repeat (first | (with_reducible first | exact HK.out | apply KeepBut.set_ | apply keep_drewN | apply keep_drew | apply keep_alloc | refine keep_far ?_ GW166.out _ | refine keep_far ?_ GW193.out _ | refine keep_far ?_ GW194.out _) | exact HK.out)))); (case aL => have := LMc94.out; omega); intro v232 w99 ho hb hg hat; rw [← Ny231.out] at ho; have n0_ := Aside0.mk (Kd.V_afterv (ok := (fun k_ => ((P1_ k_ ∨ P2_ k_) ∨ w.heap.size ≤ k_) ∧ some k_ ≠ (.slice Ao100 x21_5.length co100 : Value).ownBlock ∧ some k_ ≠ (u167002 : Value).ownBlock ∧ some k_ ≠ (u167003 : Value).ownBlock ∧ some k_ ≠ (u195003 : Value).ownBlock ∧ k_ ≠ gb166 ∧ k_ ≠ gb193 ∧ k_ ≠ gb194 ∧ k_ ≠ g)) (by (with_reducible repeat (first | apply Kd.V_alloc | apply Kd.V_drewN | apply Kd.V_drew)); exact Kd.V_mono HO_1.out (fun _ hk => ⟨⟨hk.1, ⟨hk.2.1, ⟨hk.2.2.1, ⟨hk.2.2.2.1, ⟨hk.2.2.2.2.1, ⟨hk.2.2.2.2.2.2.1, ⟨hk.2.2.2.2.2.2.2.1, ⟨hk.2.2.2.2.2.2.2.2.1, hk.2.2.2.2.2.2.2.2.2⟩⟩⟩⟩⟩⟩⟩⟩, hk.2.2.2.2.2.1⟩)) hg hat); have n1_ := Aside0.mk (Kd.V_afterv (ok := (fun k_ => ((P1_ k_ ∨ P2_ k_) ∨ w.heap.size ≤ k_) ∧ some k_ ≠ (.slice Ao100 x21_5.length co100 : Value).ownBlock ∧ some k_ ≠ (u167002 : Value).ownBlock ∧ some k_ ≠ (u167003 : Value).ownBlock ∧ some k_ ≠ (u195003 : Value).ownBlock ∧ k_ ≠ gb166 ∧ k_ ≠ gb193 ∧ k_ ≠ gb194 ∧ k_ ≠ g)) (by (with_reducible repeat (first | apply Kd.V_alloc | apply Kd.V_drewN | apply Kd.V_drew)); exact Kd.V_mono HO_70.out (fun _ hk => ⟨⟨hk.1, ⟨hk.2.1, ⟨hk.2.2.1, ⟨hk.2.2.2.1, ⟨hk.2.2.2.2.1, ⟨hk.2.2.2.2.2.2.1, ⟨hk.2.2.2.2.2.2.2.1, ⟨hk.2.2.2.2.2.2.2.2.1, hk.2.2.2.2.2.2.2.2.2⟩⟩⟩⟩⟩⟩⟩⟩, hk.2.2.2.2.2.1⟩)) hg hat); have n2_ := Aside0.mk (Kd.S_over' (by (with_reducible repeat (first | apply Kd.S_alloc | apply Kd.S_drewN | apply Kd.S_drew)); exact HO_167002.out) (Kd.S_typed (by (with_reducible repeat (first | apply Kd.S_alloc | apply Kd.S_drewN | apply Kd.S_drew)); exact HO_195004.out)) (by decide) hg); have n3_ := Aside0.mk (Kd.R_after (ok := (fun k_ => (w.heap.size ≤ k_) ∧ some k_ ≠ (.slice Ao100 x21_5.length co100 : Value).ownBlock ∧ some k_ ≠ (u195003 : Value).ownBlock ∧ k_ ≠ gb194)) (by (with_reducible repeat (first | apply Kd.R_alloc | apply Kd.R_drewN | apply Kd.R_drew)); exact Kd.R_mono HO_167003.out (fun _ hk => ⟨⟨hk.1, ⟨hk.2.1, ⟨hk.2.2.1, hk.2.2.2.2⟩⟩⟩, hk.2.2.2.1⟩)) hg hat); have n4_ := Aside0.mk (Kd.R_over' (by (with_reducible repeat (first | apply Kd.R_alloc | apply Kd.R_drewN | apply Kd.R_drew)); exact HO_195003.out) (Kd.S_typed (by (with_reducible repeat (first | apply Kd.S_alloc | apply Kd.S_drewN | apply Kd.S_drew)); exact HO_195004.out)) (by decide) hg); have n5_ := Aside0.mk (blk_grown (g := gb166) (o := .cells #[.int .u16 0, .int .u16 0, u167002, u167003] 109 (0, 0)) (by (with_reducible repeat (first | refine b1_ ?_ _ | refine b2_ ?_ | refine b3_ ?_ _)); exact BK166.out) hg (Kd.S_ne HO_195004.out BK166.out (by decide))); have n6_ := Aside0.mk (blk_grown (g := gb193) (o := .cells #[.slice A192_0 ((rd_T41 l2 x72_2).f0).length c192_0, .slice (some ad219) ((rd_T41 l2 x72_2).f1).length c192_1] 41 (0, 0)) (by (with_reducible repeat (first | refine b1_ ?_ _ | refine b2_ ?_ | refine b3_ ?_ _)); exact BK193.out) hg (Kd.S_ne HO_195004.out BK193.out (by decide))); have n7_ := Aside0.mk (blk_grown (g := gb194) (o := .cells #[.int .u16 0, .int .u16 0, .int .u16 0, u195003, u195004] 186 (0, 0)) (by (with_reducible repeat (first | refine b1_ ?_ _ | refine b2_ ?_ | refine b3_ ?_ _)); exact BK194.out) hg (Kd.S_ne HO_195004.out BK194.out (by decide))); have n8_ := Aside0.mk (IsS102.grown (by repeat (first | (with_reducible first | exact HI0.out | apply IsS102.alloc | apply IsS102.drewN | apply IsS102.drew | apply IsS102.set_0 | apply IsS102.set_1 | apply IsS102.set_2 | refine IsS102.far ?_ NB0_166.out _ | refine IsS102.far ?_ NB0_193.out _ | refine IsS102.far ?_ NB0_194.out _) | exact HI0.out)) hg (IsS102.own_neS HI0.out HO_195004.out (by decide))); have n9_ := Aside0.mk (below_weaken (by repeat (first | (with_reducible first | exact HB.out | apply below_alloc | apply pw_below_drewN | apply below_drew1 | refine below_set ?_ (IsS102.ge HI0.out) | refine below_set ?_ GE166.out | refine below_set ?_ GE193.out | refine below_set ?_ GE194.out) | exact HB.out)) HL.out hb); have n10_ := Aside0.mk (KeepBut.trans (by repeat (first | (with_reducible first | exact HK.out | apply KeepBut.set_ | apply keep_drewN | apply keep_drew | apply keep_alloc | refine keep_far ?_ GW166.out _ | refine keep_far ?_ GW193.out _ | refine keep_far ?_ GW194.out _) | exact HK.out)) (KeepBut.of_grown hg g) (Kd.S_base2 HO_195004.out)); have n11_ := Aside0.mk (ho); clear HO_1; clear HO_70; clear HO_167002; clear HO_167003; clear HO_195003; clear BK166; clear BK193; clear BK194; clear HI0; clear HB; clear HK; clear HO_195004; clear HO_21; have HO_1 := n0_; have HO_70 := n1_; have HO_167002 := n2_; have HO_167003 := n3_; have HO_195003 := n4_; have BK166 := n5_; have BK193 := n6_; have BK194 := n7_; have HI0 := n8_; have HB := n9_; have HK := n10_; have HO233 := n11_; clear n0_ n1_ n2_ n3_ n4_ n5_ n6_ n7_ n8_ n9_ n10_ n11_; clear ho hb hg hat; obtain ⟨Ao101, co101, eo101⟩ := Kd.S_slice HO233.out; subst eo101; have hcz102_0 : w99.cell? ⟨gb194, 0, none⟩ = some (.int .u16 0) := (blk_cell BK194.out 0).trans rfl; have hcz102_1 : w99.cell? ⟨gb194, 1, none⟩ = some (.int .u16 0) := (blk_cell BK194.out 1).trans rfl; have hcz102_2 : w99.cell? ⟨gb194, 2, none⟩ = some (.int .u16 0) := (blk_cell BK194.out 2).trans rfl; have hcz102_3 : w99.cell? ⟨gb194, 3, none⟩ = some (u195003) := (blk_cell BK194.out 3).trans rfl; have hcz102_4 : w99.cell? ⟨gb194, 4, none⟩ = some (u195004) := (blk_cell BK194.out 4).trans rfl; have hfz102_0 := blk_frozen BK194.out 0; have hfz102_1 := blk_frozen BK194.out 1; have hfz102_2 := blk_frozen BK194.out 2; have hfz102_3 := blk_frozen BK194.out 3; have hfz102_4 := blk_frozen BK194.out 4))
                     go_roundg k5
                     case measure => have := HK1.out; have := HK2.out; have := HK3.out; have := HK4.out; have := HK5.out; omega
                     case rel => exact ⟨(wrap64 (x105_4 + 1)), (x1000_5), (x1001_5), (x1002_5), (y231), (.slice Ao101 y231.length co101), (by first | rfl | (simp; done) | (simp [*]; done)), H', ⟨by have := HK1.out; have := HK2.out; have := HK3.out; have := HK4.out; have := HK5.out; omega⟩, ⟨by (with_reducible repeat (first | apply Kd.V_alloc | apply Kd.V_drewN | apply Kd.V_drew)); exact Kd.V_mono (Kd.V_far (p := ⟨gb194, 4, none⟩) (Kd.V_mono HO_1.out (fun k_ hk => (⟨hk, hk.1.2.2.2.2.2.2.2.1⟩ : _ ∧ k_ ≠ gb194))) (fun _ hk => hk.2) (.slice Ao101 y231.length co101)) (fun _ hk => ⟨hk.1.1.1, ⟨hk.1.1.2.2.1, ⟨hk.1.1.2.2.2.1, ⟨hk.1.1.2.2.2.2.1, ⟨hk.1.2, ⟨hk.1.1.2.2.2.2.2.1, ⟨hk.1.1.2.2.2.2.2.2.1, ⟨hk.1.1.2.2.2.2.2.2.2.1, hk.1.1.2.2.2.2.2.2.2.2⟩⟩⟩⟩⟩⟩⟩⟩)⟩, ⟨by (with_reducible repeat (first | apply Kd.V_alloc | apply Kd.V_drewN | apply Kd.V_drew)); exact Kd.V_mono (Kd.V_far (p := ⟨gb194, 4, none⟩) (Kd.V_mono HO_70.out (fun k_ hk => (⟨hk, hk.1.2.2.2.2.2.2.2.1⟩ : _ ∧ k_ ≠ gb194))) (fun _ hk => hk.2) (.slice Ao101 y231.length co101)) (fun _ hk => ⟨hk.1.1.1, ⟨hk.1.1.2.2.1, ⟨hk.1.1.2.2.2.1, ⟨hk.1.1.2.2.2.2.1, ⟨hk.1.2, ⟨hk.1.1.2.2.2.2.2.1, ⟨hk.1.1.2.2.2.2.2.2.1, ⟨hk.1.1.2.2.2.2.2.2.2.1, hk.1.1.2.2.2.2.2.2.2.2⟩⟩⟩⟩⟩⟩⟩⟩)⟩, ⟨by (with_reducible repeat (first | apply Kd.S_alloc | apply Kd.S_drewN | apply Kd.S_drew)); exact Kd.S_mono (Kd.S_far (p := ⟨gb194, 4, none⟩) (Kd.S_types HO_167002.out BK194.out (by decide)) (fun _ hk => hk.2) (.slice Ao101 y231.length co101)) (fun _ hk => hk.1)⟩, ⟨by (with_reducible repeat (first | apply Kd.R_alloc | apply Kd.R_drewN | apply Kd.R_drew)); exact Kd.R_mono (Kd.R_far (p := ⟨gb194, 4, none⟩) (Kd.R_mono HO_167003.out (fun k_ hk => (⟨hk, hk.1.2.2.2⟩ : _ ∧ k_ ≠ gb194))) (fun _ hk => hk.2) (.slice Ao101 y231.length co101)) (fun _ hk => ⟨hk.1.1.1, ⟨hk.1.1.2.2.1, ⟨hk.1.2, hk.1.1.2.2.2⟩⟩⟩)⟩, ⟨by (with_reducible repeat (first | apply Kd.R_alloc | apply Kd.R_drewN | apply Kd.R_drew)); exact Kd.R_mono (Kd.R_far (p := ⟨gb194, 4, none⟩) (Kd.R_types HO_195003.out BK194.out (by decide)) (fun _ hk => hk.2) (.slice Ao101 y231.length co101)) (fun _ hk => hk.1)⟩, ⟨by (with_reducible repeat (first | apply Kd.S_alloc | apply Kd.S_drewN | apply Kd.S_drew)); exact Kd.S_mono (Kd.S_far (p := ⟨gb194, 4, none⟩) (Kd.S_types HO233.out BK194.out (by decide)) (fun _ hk => hk.2) (.slice Ao101 y231.length co101)) (fun _ hk => hk.1)⟩, ⟨by (with_reducible repeat (first | refine b1_ ?_ _ | refine b2_ ?_ | refine b3_ ?_ _)); refine blk_far ?_ NB166_194.out _; (with_reducible repeat (first | refine b1_ ?_ _ | refine b2_ ?_ | refine b3_ ?_ _)); exact BK166.out⟩, ⟨by (with_reducible repeat (first | refine b1_ ?_ _ | refine b2_ ?_ | refine b3_ ?_ _)); refine blk_far ?_ NB193_194.out _; (with_reducible repeat (first | refine b1_ ?_ _ | refine b2_ ?_ | refine b3_ ?_ _)); exact BK193.out⟩, ⟨by (with_reducible repeat (first | refine b1_ ?_ _ | refine b2_ ?_ | refine b3_ ?_ _)); refine blk_put (cs := #[.int .u16 0, .int .u16 0, .int .u16 0, u195003, u195004]) ?_ 4 _ rfl; (with_reducible repeat (first | refine b1_ ?_ _ | refine b2_ ?_ | refine b3_ ?_ _)); exact BK194.out⟩, ⟨by repeat (first | (with_reducible first | exact HI0.out | apply IsS102.alloc | apply IsS102.drewN | apply IsS102.drew | apply IsS102.set_0 | apply IsS102.set_1 | apply IsS102.set_2 | refine IsS102.far ?_ NB0_166.out _ | refine IsS102.far ?_ NB0_193.out _ | refine IsS102.far ?_ NB0_194.out _) | exact HI0.out)⟩, ⟨by repeat (first | (with_reducible first | exact HK.out | apply KeepBut.set_ | apply keep_drewN | apply keep_drew | apply keep_alloc | refine keep_far ?_ GW166.out _ | refine keep_far ?_ GW193.out _ | refine keep_far ?_ GW194.out _) | exact HK.out)⟩, ⟨by repeat (first | (with_reducible first | exact HB.out | apply below_alloc | apply pw_below_drewN | apply below_drew1 | refine below_set ?_ (IsS102.ge HI0.out) | refine below_set ?_ GE166.out | refine below_set ?_ GE193.out | refine below_set ?_ GE194.out) | exact HB.out)⟩⟩
                    ·rw [if_neg c94] at H
                     exact absurd H (by simp)
                ·rw [if_neg c80] at H
                 exact absurd H (by simp)
               ·rw [if_neg c79] at H
                exact absurd H (by simp)
              ·rw [if_neg c78] at H
               have c78b0 : decide (x105_4 < (((rd_T41 l2 x72_2).f1).length : Int)) = false := decide_eq_false c78
               clear c78
               by_cases c103 : x167003_2.length < 2513169434916
               ·rw [if_pos c103] at H
                have LMc103 := Aside0.mk c103
                clear c103
                obtain ⟨y216, hy216⟩ : ∃ y_ : List (S186), y_ = (x167003_2 ++ [(⟨0, 0, 0, x195003_3, x195004_4⟩ : S186)]) := ⟨_, rfl⟩
                replace H : (impl_builder_store.l2 k4 l1 l2 (l2.length : Int) (wrap64 (x72_2 + 1)) x1000_4 x1001_4 x1002_4 0 0 x167002_1 y216) = some (r1, r2, r3, r4, r5, r6, r7) := by first | (rw [hy216]; with_reducible exact H) | (have H2_ := (Option.bind_some _ _).symm.trans H; rw [hy216]; with_reducible exact H2_) | (have H2_ := (Option.bind_some _ _).symm.trans H; with_reducible exact H2_) | with_reducible exact H | (rw [hy216]; exact H) | exact H
                have Ny216 := Aside0.mk hy216
                clear hy216
                have H' := Aside0.mk H
                clear H
                have hnb104 := NB166_193.out
                have hnc104 := NB193_166.out
                have hnb105 := NB166_194.out
                have hnc105 := NB194_166.out
                have hnb106 := NB166_0.out
                have hnc106 := NB0_166.out
                have hcz107_0 : wr.cell? ⟨gb166, 0, none⟩ = some (.int .u16 0) := (blk_cell BK166.out 0).trans rfl
                have hcz107_1 : wr.cell? ⟨gb166, 1, none⟩ = some (.int .u16 0) := (blk_cell BK166.out 1).trans rfl
                have hcz107_2 : wr.cell? ⟨gb166, 2, none⟩ = some (u167002) := (blk_cell BK166.out 2).trans rfl
                have hcz107_3 : wr.cell? ⟨gb166, 3, none⟩ = some (u167003) := (blk_cell BK166.out 3).trans rfl
                have hfz107_0 := blk_frozen BK166.out 0
                have hfz107_1 := blk_frozen BK166.out 1
                have hfz107_2 := blk_frozen BK166.out 2
                have hfz107_3 := blk_frozen BK166.out 3
                have hnb108 := NB194_193.out
                have hnc108 := NB193_194.out
                have hnb109 := NB194_0.out
                have hnc109 := NB0_194.out
                have hcz110_0 : wr.cell? ⟨gb194, 0, none⟩ = some (.int .u16 0) := (blk_cell BK194.out 0).trans rfl
                have hcz110_1 : wr.cell? ⟨gb194, 1, none⟩ = some (.int .u16 0) := (blk_cell BK194.out 1).trans rfl
                have hcz110_2 : wr.cell? ⟨gb194, 2, none⟩ = some (.int .u16 0) := (blk_cell BK194.out 2).trans rfl
                have hcz110_3 : wr.cell? ⟨gb194, 3, none⟩ = some (u195003) := (blk_cell BK194.out 3).trans rfl
                have hcz110_4 : wr.cell? ⟨gb194, 4, none⟩ = some (u195004) := (blk_cell BK194.out 4).trans rfl
                have hfz110_0 := blk_frozen BK194.out 0
                have hfz110_1 := blk_frozen BK194.out 1
                have hfz110_2 := blk_frozen BK194.out 2
                have hfz110_3 := blk_frozen BK194.out 3
                have hfz110_4 := blk_frozen BK194.out 4
                obtain ⟨Ao112, co112, eo112⟩ := Kd.R_slice HO_195003.out
                subst eo112
                obtain ⟨Ao113, co113, eo113⟩ := Kd.S_slice HO_195004.out
                subst eo113
                go_wp2_with (first | ((with_reducible refine gate_builtin (b := .append) (xs := #[.tmp 138, .tmp 140]) rfl ?_); (try (refine gate_guard (by rfl) ?_; dsimp only)); at_builtin; refine Kd.R_append k186 w.heap.size rfl (.tmp 138) (.tmp 140) 107 186 (.agg #[(.int .u16 0), (.int .u16 0), (.int .u16 0), (.slice none 0 0), (.slice none 0 0)]) 56 rfl Try.underlying107 info186 rfl (by decide) (by omega) u167003 x167003_2 (⟨0, 0, 0, x195003_3, x195004_4⟩ : S186) [.int .u16 0, .int .u16 0, .int .u16 0, .slice Ao112 x195003_3.length co112, .slice Ao113 x195004_4.length co113] (fun k_ => (w.heap.size ≤ k_) ∧ k_ ≠ gb194) (fun k_ => ((fun k_ => (w.heap.size ≤ k_) ∧ k_ ≠ gb194)) k_ ∧ some k_ ≠ (u167003 : Value).ownBlock) rfl rfl ?aP (fun _ hk => hk) ?aF ?aO (Below.refl _ _) ?aS ?aL ?_; (case aP => exact k186_mkM _ _ _ (⟨0, 0, 0, x195003_3, x195004_4⟩ : S186) (Kd.R_mono (Kd.R_types (Kd.R_apart' (HO_195003.out) (Kd.R_typed HO_167003.out) (by decide)) BK194.out (by decide)) (fun k_ hk => ⟨⟨hk.1.1, hk.2⟩, hk.1.2⟩)) (Kd.R_mono (Kd.R_types (Kd.R_apart' ((Kd.S_R HO_195004.out)) (Kd.R_typed HO_167003.out) (by decide)) BK194.out (by decide)) (fun k_ hk => ⟨⟨hk.1.1, hk.2⟩, hk.1.2⟩))); (case aF => exact (fun k_ hk => ⟨(Nat.le_trans (keep_size (w := w) (g := g) (row := none) (by repeat (first | (with_reducible first | exact HK.out | apply KeepBut.set_ | apply keep_drewN | apply keep_drew | apply keep_alloc | refine keep_far ?_ GW166.out _ | refine keep_far ?_ GW193.out _ | refine keep_far ?_ GW194.out _) | exact HK.out))) hk), Kd.freshB (g := gb194) (o := .cells #[.int .u16 0, .int .u16 0, .int .u16 0, .slice Ao112 x195003_3.length co112, .slice Ao113 x195004_4.length co113] 186 (0, 0)) (by (with_reducible repeat (first | refine b1_ ?_ _ | refine b2_ ?_ | refine b3_ ?_ _)); exact BK194.out) k_ hk⟩)); (case aO => exact (by (with_reducible repeat (first | apply Kd.R_alloc | apply Kd.R_drewN | apply Kd.R_drew)); exact Kd.R_mono HO_167003.out (fun _ hk => ⟨hk.1, hk.2.2.2⟩))); (case aS => exact (keep_size (w := w) (g := g) (row := none) (by repeat (first | (with_reducible first | exact HK.out | apply KeepBut.set_ | apply keep_drewN | apply keep_drew | apply keep_alloc | refine keep_far ?_ GW166.out _ | refine keep_far ?_ GW193.out _ | refine keep_far ?_ GW194.out _) | exact HK.out)))); (case aL => have := LMc103.out; omega); intro v217 w111 ho hb hg hat; rw [← Ny216.out] at ho; have n0_ := Aside0.mk (Kd.V_afterv (ok := (fun k_ => ((P1_ k_ ∨ P2_ k_) ∨ w.heap.size ≤ k_) ∧ some k_ ≠ (u167002 : Value).ownBlock ∧ some k_ ≠ (.slice Ao112 x195003_3.length co112 : Value).ownBlock ∧ some k_ ≠ (.slice Ao113 x195004_4.length co113 : Value).ownBlock ∧ k_ ≠ gb166 ∧ k_ ≠ gb193 ∧ k_ ≠ gb194 ∧ k_ ≠ g)) (by (with_reducible repeat (first | apply Kd.V_alloc | apply Kd.V_drewN | apply Kd.V_drew)); exact Kd.V_mono HO_1.out (fun _ hk => ⟨⟨hk.1, ⟨hk.2.1, ⟨hk.2.2.2.1, ⟨hk.2.2.2.2.1, ⟨hk.2.2.2.2.2.1, ⟨hk.2.2.2.2.2.2.1, ⟨hk.2.2.2.2.2.2.2.1, hk.2.2.2.2.2.2.2.2⟩⟩⟩⟩⟩⟩⟩, hk.2.2.1⟩)) hg hat); have n1_ := Aside0.mk (Kd.V_afterv (ok := (fun k_ => ((P1_ k_ ∨ P2_ k_) ∨ w.heap.size ≤ k_) ∧ some k_ ≠ (u167002 : Value).ownBlock ∧ some k_ ≠ (.slice Ao112 x195003_3.length co112 : Value).ownBlock ∧ some k_ ≠ (.slice Ao113 x195004_4.length co113 : Value).ownBlock ∧ k_ ≠ gb166 ∧ k_ ≠ gb193 ∧ k_ ≠ gb194 ∧ k_ ≠ g)) (by (with_reducible repeat (first | apply Kd.V_alloc | apply Kd.V_drewN | apply Kd.V_drew)); exact Kd.V_mono HO_70.out (fun _ hk => ⟨⟨hk.1, ⟨hk.2.1, ⟨hk.2.2.2.1, ⟨hk.2.2.2.2.1, ⟨hk.2.2.2.2.2.1, ⟨hk.2.2.2.2.2.2.1, ⟨hk.2.2.2.2.2.2.2.1, hk.2.2.2.2.2.2.2.2⟩⟩⟩⟩⟩⟩⟩, hk.2.2.1⟩)) hg hat); have n2_ := Aside0.mk (Kd.S_over' (by (with_reducible repeat (first | apply Kd.S_alloc | apply Kd.S_drewN | apply Kd.S_drew)); exact HO_167002.out) (Kd.R_typed (by (with_reducible repeat (first | apply Kd.R_alloc | apply Kd.R_drewN | apply Kd.R_drew)); exact HO_167003.out)) (by decide) hg); have n3_ := Aside0.mk (blk_grown (g := gb166) (o := .cells #[.int .u16 0, .int .u16 0, u167002, u167003] 109 (0, 0)) (by (with_reducible repeat (first | refine b1_ ?_ _ | refine b2_ ?_ | refine b3_ ?_ _)); exact BK166.out) hg (Kd.R_ne HO_167003.out BK166.out (by decide))); have n4_ := Aside0.mk (blk_grown (g := gb193) (o := .cells #[.slice A192_0 ((rd_T41 l2 x72_2).f0).length c192_0, .slice A192_1 ((rd_T41 l2 x72_2).f1).length c192_1] 41 (0, 0)) (by (with_reducible repeat (first | refine b1_ ?_ _ | refine b2_ ?_ | refine b3_ ?_ _)); exact BK193.out) hg (Kd.R_ne HO_167003.out BK193.out (by decide))); have n5_ := Aside0.mk (blk_grown (g := gb194) (o := .cells #[.int .u16 0, .int .u16 0, .int .u16 0, .slice Ao112 x195003_3.length co112, .slice Ao113 x195004_4.length co113] 186 (0, 0)) (by (with_reducible repeat (first | refine b1_ ?_ _ | refine b2_ ?_ | refine b3_ ?_ _)); exact BK194.out) hg (Kd.R_away HO_167003.out (fun _ hk => hk.2.2.2))); have n6_ := Aside0.mk (IsS102.grown (by repeat (first | (with_reducible first | exact HI0.out | apply IsS102.alloc | apply IsS102.drewN | apply IsS102.drew | apply IsS102.set_0 | apply IsS102.set_1 | apply IsS102.set_2 | refine IsS102.far ?_ NB0_166.out _ | refine IsS102.far ?_ NB0_193.out _ | refine IsS102.far ?_ NB0_194.out _) | exact HI0.out)) hg (IsS102.own_ne HI0.out HO_167003.out (by decide))); have n7_ := Aside0.mk (below_weaken (by repeat (first | (with_reducible first | exact HB.out | apply below_alloc | apply pw_below_drewN | apply below_drew1 | refine below_set ?_ (IsS102.ge HI0.out) | refine below_set ?_ GE166.out | refine below_set ?_ GE193.out | refine below_set ?_ GE194.out) | exact HB.out)) HL.out hb); have n8_ := Aside0.mk (KeepBut.trans (by repeat (first | (with_reducible first | exact HK.out | apply KeepBut.set_ | apply keep_drewN | apply keep_drew | apply keep_alloc | refine keep_far ?_ GW166.out _ | refine keep_far ?_ GW193.out _ | refine keep_far ?_ GW194.out _) | exact HK.out)) (KeepBut.of_grown hg g) (Kd.R_base2 HO_167003.out)); have n9_ := Aside0.mk (ho); clear HO_1; clear HO_70; clear HO_167002; clear BK166; clear BK193; clear BK194; clear HI0; clear HB; clear HK; clear HO_167003; clear HO_195003; clear HO_195004; have HO_1 := n0_; have HO_70 := n1_; have HO_167002 := n2_; have BK166 := n3_; have BK193 := n4_; have BK194 := n5_; have HI0 := n6_; have HB := n7_; have HK := n8_; have HO218 := n9_; clear n0_ n1_ n2_ n3_ n4_ n5_ n6_ n7_ n8_ n9_; clear ho hb hg hat; obtain ⟨Ao114, co114, eo114⟩ := Kd.R_slice HO218.out; subst eo114; have hcz115_0 : w111.cell? ⟨gb166, 0, none⟩ = some (.int .u16 0) := (blk_cell BK166.out 0).trans rfl; have hcz115_1 : w111.cell? ⟨gb166, 1, none⟩ = some (.int .u16 0) := (blk_cell BK166.out 1).trans rfl; have hcz115_2 : w111.cell? ⟨gb166, 2, none⟩ = some (u167002) := (blk_cell BK166.out 2).trans rfl; have hcz115_3 : w111.cell? ⟨gb166, 3, none⟩ = some (u167003) := (blk_cell BK166.out 3).trans rfl; have hfz115_0 := blk_frozen BK166.out 0; have hfz115_1 := blk_frozen BK166.out 1; have hfz115_2 := blk_frozen BK166.out 2; have hfz115_3 := blk_frozen BK166.out 3))
                go_roundg k4
                case measure => have := HK1.out; have := HK2.out; have := HK3.out; have := HK4.out; omega
                case rel => exact ⟨(wrap64 (x72_2 + 1)), (x1000_4), (x1001_4), (x1002_4), (y216), (.slice Ao114 y216.length co114), (by first | rfl | (simp; done) | (simp [*]; done)), H', ⟨by have := HK1.out; have := HK2.out; have := HK3.out; have := HK4.out; omega⟩, ⟨by (with_reducible repeat (first | apply Kd.V_alloc | apply Kd.V_drewN | apply Kd.V_drew)); exact Kd.V_mono (Kd.V_far (p := ⟨gb166, 3, none⟩) (Kd.V_mono HO_1.out (fun k_ hk => (⟨hk, hk.1.2.2.2.2.1⟩ : _ ∧ k_ ≠ gb166))) (fun _ hk => hk.2) (.slice Ao114 y216.length co114)) (fun _ hk => ⟨hk.1.1.1, ⟨hk.1.1.2.1, ⟨hk.1.2, ⟨hk.1.1.2.2.2.2.1, hk.1.1.2.2.2.2.2.2.2⟩⟩⟩⟩)⟩, ⟨by (with_reducible repeat (first | apply Kd.V_alloc | apply Kd.V_drewN | apply Kd.V_drew)); exact Kd.V_mono (Kd.V_far (p := ⟨gb166, 3, none⟩) (Kd.V_mono HO_70.out (fun k_ hk => (⟨hk, hk.1.2.2.2.2.1⟩ : _ ∧ k_ ≠ gb166))) (fun _ hk => hk.2) (.slice Ao114 y216.length co114)) (fun _ hk => ⟨hk.1.1.1, ⟨hk.1.1.2.1, ⟨hk.1.2, ⟨hk.1.1.2.2.2.2.1, hk.1.1.2.2.2.2.2.2.2⟩⟩⟩⟩)⟩, ⟨by (with_reducible repeat (first | apply Kd.S_alloc | apply Kd.S_drewN | apply Kd.S_drew)); exact Kd.S_mono (Kd.S_far (p := ⟨gb166, 3, none⟩) (Kd.S_types HO_167002.out BK166.out (by decide)) (fun _ hk => hk.2) (.slice Ao114 y216.length co114)) (fun _ hk => hk.1)⟩, ⟨by (with_reducible repeat (first | apply Kd.R_alloc | apply Kd.R_drewN | apply Kd.R_drew)); exact Kd.R_mono (Kd.R_far (p := ⟨gb166, 3, none⟩) (Kd.R_types HO218.out BK166.out (by decide)) (fun _ hk => hk.2) (.slice Ao114 y216.length co114)) (fun _ hk => hk.1.1)⟩, ⟨by (with_reducible repeat (first | refine b1_ ?_ _ | refine b2_ ?_ | refine b3_ ?_ _)); refine blk_put (cs := #[.int .u16 0, .int .u16 0, u167002, u167003]) ?_ 3 _ rfl; (with_reducible repeat (first | refine b1_ ?_ _ | refine b2_ ?_ | refine b3_ ?_ _)); exact BK166.out⟩, ⟨by repeat (first | (with_reducible first | exact HI0.out | apply IsS102.alloc | apply IsS102.drewN | apply IsS102.drew | apply IsS102.set_0 | apply IsS102.set_1 | apply IsS102.set_2 | refine IsS102.far ?_ NB0_166.out _ | refine IsS102.far ?_ NB0_193.out _ | refine IsS102.far ?_ NB0_194.out _) | exact HI0.out)⟩, ⟨by repeat (first | (with_reducible first | exact HK.out | apply KeepBut.set_ | apply keep_drewN | apply keep_drew | apply keep_alloc | refine keep_far ?_ GW166.out _ | refine keep_far ?_ GW193.out _ | refine keep_far ?_ GW194.out _) | exact HK.out)⟩, ⟨by repeat (first | (with_reducible first | exact HB.out | apply below_alloc | apply pw_below_drewN | apply below_drew1 | refine below_set ?_ (IsS102.ge HI0.out) | refine below_set ?_ GE166.out | refine below_set ?_ GE193.out | refine below_set ?_ GE194.out) | exact HB.out)⟩⟩
               ·rw [if_neg c103] at H
                exact absurd H (by simp)
        ·rw [if_neg c44] at H
         exact absurd H (by simp)
       ·rw [if_neg c43] at H
        exact absurd H (by simp)
      ·rw [if_neg c42] at H
       have c42b0 : decide (x72_2 < (l2.length : Int)) = false := decide_eq_false c42
       clear c42
       simp only [Option.some.injEq, Prod.mk.injEq] at H
       obtain ⟨rfl, rfl, rfl, rfl, rfl, rfl, rfl⟩ := H
       have hnb116 := NB166_0.out
       have hnc116 := NB0_166.out
       have hcz117_0 : wr.cell? ⟨gb166, 0, none⟩ = some (.int .u16 0) := (blk_cell BK166.out 0).trans rfl
       have hcz117_1 : wr.cell? ⟨gb166, 1, none⟩ = some (.int .u16 0) := (blk_cell BK166.out 1).trans rfl
       have hcz117_2 : wr.cell? ⟨gb166, 2, none⟩ = some (u167002) := (blk_cell BK166.out 2).trans rfl
       have hcz117_3 : wr.cell? ⟨gb166, 3, none⟩ = some (u167003) := (blk_cell BK166.out 3).trans rfl
       have hfz117_0 := blk_frozen BK166.out 0
       have hfz117_1 := blk_frozen BK166.out 1
       have hfz117_2 := blk_frozen BK166.out 2
       have hfz117_3 := blk_frozen BK166.out 3
       obtain ⟨Ao118, co118, eo118⟩ := Kd.S_slice HO_167002.out
       subst eo118
       obtain ⟨Ao119, co119, eo119⟩ := Kd.R_slice HO_167003.out
       subst eo119
       go_wp2
       refine bodyPost_ret (results_cell_row rfl _ _ gb166 109 #[.int .u16 0, .int .u16 0, .slice Ao118 x167002_1.length co118, .slice Ao119 x167003_2.length co119] (0, 0) _ rfl (by (with_reducible repeat (first | refine b1_ ?_ _ | refine b2_ ?_ | refine b3_ ?_ _)); refine blk_put (cs := #[.int .u16 0, .int .u16 0, .slice Ao118 x167002_1.length co118, .slice Ao119 x167003_2.length co119]) ?_ 3 _ rfl; (with_reducible repeat (first | refine b1_ ?_ _ | refine b2_ ?_ | refine b3_ ?_ _)); refine blk_put (cs := #[.int .u16 0, .int .u16 0, .slice Ao118 x167002_1.length co118, .slice Ao119 x167003_2.length co119]) ?_ 2 _ rfl; (with_reducible repeat (first | refine b1_ ?_ _ | refine b2_ ?_ | refine b3_ ?_ _)); refine blk_put (cs := #[.int .u16 0, .int .u16 0, .slice Ao118 x167002_1.length co118, .slice Ao119 x167003_2.length co119]) ?_ 1 _ rfl; (with_reducible repeat (first | refine b1_ ?_ _ | refine b2_ ?_ | refine b3_ ?_ _)); refine blk_put (cs := #[.int .u16 0, .int .u16 0, .slice Ao118 x167002_1.length co118, .slice Ao119 x167003_2.length co119]) ?_ 0 _ rfl; (with_reducible repeat (first | refine b1_ ?_ _ | refine b2_ ?_ | refine b3_ ?_ _)); exact BK166.out) Try.underlying109 rfl (by kernel_rfl)) rfl ?_
       exact ⟨_, _, by first | rfl | (simp [errW_none, errW_some] <;> rfl) | (simp [*, errW_none, errW_some] <;> rfl), by (with_reducible repeat (first | apply Kd.S_alloc | apply Kd.S_drewN | apply Kd.S_drew)); exact Kd.S_mono (Kd.S_far (p := ⟨gb166, 3, none⟩) (Kd.S_far (p := ⟨gb166, 2, none⟩) (Kd.S_far (p := ⟨gb166, 1, none⟩) (Kd.S_far (p := ⟨gb166, 0, none⟩) (Kd.S_types HO_167002.out BK166.out (by decide)) (fun _ hk => hk.2) (.int .u16 0)) (fun _ hk => hk.2) (.int .u16 0)) (fun _ hk => hk.2) (.slice Ao118 x167002_1.length co118)) (fun _ hk => hk.2) (.slice Ao119 x167003_2.length co119)) (fun _ hk => hk.1), by (with_reducible repeat (first | apply Kd.R_alloc | apply Kd.R_drewN | apply Kd.R_drew)); exact Kd.R_mono (Kd.R_far (p := ⟨gb166, 3, none⟩) (Kd.R_far (p := ⟨gb166, 2, none⟩) (Kd.R_far (p := ⟨gb166, 1, none⟩) (Kd.R_far (p := ⟨gb166, 0, none⟩) (Kd.R_types HO_167003.out BK166.out (by decide)) (fun _ hk => hk.2) (.int .u16 0)) (fun _ hk => hk.2) (.int .u16 0)) (fun _ hk => hk.2) (.slice Ao118 x167002_1.length co118)) (fun _ hk => hk.2) (.slice Ao119 x167003_2.length co119)) (fun _ hk => hk.1), by repeat (first | (with_reducible first | exact HI0.out | apply IsS102.alloc | apply IsS102.drewN | apply IsS102.drew | apply IsS102.set_0 | apply IsS102.set_1 | apply IsS102.set_2 | refine IsS102.far ?_ NB0_166.out _) | exact HI0.out), by repeat (first | (with_reducible first | exact HB.out | apply below_alloc | apply pw_below_drewN | apply below_drew1 | refine below_set ?_ (IsS102.ge HI0.out) | refine below_set ?_ GE166.out) | exact HB.out), by repeat (first | (with_reducible first | exact HK.out | apply KeepBut.set_ | apply keep_drewN | apply keep_drew | apply keep_alloc | refine keep_far ?_ GW166.out _) | exact HK.out)⟩

end Go.Proofs.Ytlbmfnjhpojghaa.PFnAdvanceDelta
