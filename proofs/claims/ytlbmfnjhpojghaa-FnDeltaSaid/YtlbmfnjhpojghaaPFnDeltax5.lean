-- Written by a program of this session (xprint) out of the translation; Lean checks it.
import Derived.Test.YtlbmfnjhpojghaaPFnDeltax0
import Derived.Test.YtlbmfnjhpojghaaPFnDeltax4
namespace Go.Proofs.Ytlbmfnjhpojghaa.PFnDelta
open Go.RowKit Go.Proofs.YtlbmfnjhpojghaaW.PrintWords Go.Proofs.YtlbmfnjhpojghaaW.PrintLast Go.Proofs.YtlbmfnjhpojghaaW.PrintMore
attribute [local go_sem] max2_int min2_int max_two min_two max_three min_three max_four min_four   -- for this text's walks alone
set_option linter.unusedVariables false
set_option linter.unusedSimpArgs false

attribute [local go_sem] f_add f_sub f_mul f_quo f_conv f_same f_int f_max
theorem keep_cell0 {w W : World} {g : Nat} {p : Addr} {v : Value} (hk : KeepBut w W g none) (hg : p.block ≠ g) (h : w.cell? p = some v) : W.cell? p = some v := by
  have h6 := World.block_lt_of_cell? w _ h
  have hb := hk.2 p.block h6 hg (by simp)
  simpa [World.cell?, hb] using h
theorem foot_row {α : Type} {d : Kd α} {e g n : Nat} {w W : World} {P : Nat → Prop} {ad : Addr} {A : Option Addr} {m c : Nat} {l : List (List α)} (hF : Kd.F (Kd.slice e d) w (fun k => P k ∧ k ≠ g) (some ad) n l) (hk : KeepBut w W g none) (i : Int) (h0 : 0 ≤ i) (h1 : i < n) (hx : W.cell? (ad.add i.toNat) = some (.slice A m c)) : Kd.F d w (fun k => P k ∧ k ≠ g) A (l.getD i.toNat []).length (l.getD i.toNat []) := by
  obtain ⟨ad', cs, he, hcl, hK, hcc, hin⟩ := Kd.F_get hF [] i h0 h1
  injection he with he
  subst he
  obtain ⟨A', c', rfl, hl, hf⟩ := Kd.FK_slice_open hK
  have h5 := hcc 0 _ rfl
  rw [Nat.add_zero, show (Kd.slice e d).sz = 1 from rfl, Nat.mul_one] at h5
  have h6 := keep_cell0 hk (p := ad.add i.toNat) (by rw [add_block]; exact (hin (by show 0 < 1; decide)).2) h5
  have h7 := Option.some.inj (h6.symm.trans hx)
  injection h7 with ha _ _
  rw [← ha]
  exact hf
theorem foot_41 {g n : Nat} {w W : World} {P : Nat → Prop} {ad : Addr} {A B : Option Addr} {m c m' c' : Nat} {l : List S41} (hF : Kd.F k41 w (fun k => P k ∧ k ≠ g) (some ad) n l) (hk : KeepBut w W g none) (i : Int) (h0 : 0 ≤ i) (h1 : i < n) (hx : W.cell? (ad.add (i.toNat * 2)) = some (.slice A m c)) (hy : W.cell? ⟨(ad.add (i.toNat * 2)).block, (ad.add (i.toNat * 2)).off + 1, none⟩ = some (.slice B m' c')) : Kd.F (Kd.int .i64) w (fun k => P k ∧ k ≠ g) A ((rd_T41 l i).f0).length ((rd_T41 l i).f0) ∧ Kd.F (Kd.slice 3 (Kd.int .i64)) w (fun k => P k ∧ k ≠ g) B ((rd_T41 l i).f1).length ((rd_T41 l i).f1) := by
  obtain ⟨ad', cs, he, hcl, hK, hcc, hin⟩ := Kd.F_get hF z41 i h0 h1
  injection he with he
  subst he
  obtain ⟨A0, c0, A1, c1, rfl, l0, g0, l1, g1⟩ := k41_openF hK
  have hne : ad.block ≠ g := (hin (by show 0 < 2; decide)).2
  have h5 := hcc 0 _ rfl
  have h5' := hcc 1 _ rfl
  rw [show k41.sz = 2 from rfl] at h5 h5'
  rw [Nat.add_zero] at h5
  rw [add_field _ _ 1 (by omega)] at h5'
  have h6 := keep_cell0 hk (by rw [add_block]; exact hne) h5
  have h6' := keep_cell0 hk (by show (ad.add _).block ≠ g; rw [add_block]; exact hne) h5'
  have h7 := Option.some.inj (h6.symm.trans hx)
  have h7' := Option.some.inj (h6'.symm.trans hy)
  injection h7 with ha _ _
  injection h7' with hb _ _
  rw [← ha, ← hb]
  exact ⟨g0, g1⟩
/-! ### impl_builder_store: function 33 -/
def impl_builder_store.T9 : Bool × List (List Nat × List Nat) := (true, [([], []), ([0], [0]), ([], []), ([], []), ([3], [3]), ([2, 4], [2, 4]), ([], []), ([], []), ([7], [7]), ([6, 8, 5], [6, 8]), ([], []), ([], []), ([11], [11]), ([10, 12, 9], [10, 12]), ([5, 9, 13], [5, 9, 13]), ([14], [14]), ([1, 15, 13], [1, 15]), ([0, 1, 2, 3, 4, 5, 6, 7, 8, 9, 10, 11, 12, 13, 14, 15, 16], []), ([17, 16, 16, 0, 1, 2, 3, 4, 5, 6, 7, 8, 9, 10, 11, 12, 13, 14, 15, 16], [16, 17])])
def impl_builder_store.B9 : List Nat := [0, 1, 0, 0, 8, 28, 0, 0, 128, 508, 0, 0, 2048, 8188, 16380, 32764, 65535, 131071, 262143]
theorem impl_builder_store.tab9 : rtab .any (opsOf Try.f33 9) = impl_builder_store.T9 := by kernel_rfl
theorem impl_builder_store.bits9 : waitsOk impl_builder_store.T9.2 impl_builder_store.B9 = true := by kernel_rfl
def impl_builder_store.T21 : Bool × List (List Nat × List Nat) := (true, [([], []), ([0], [0]), ([], []), ([], []), ([2, 3], [2, 3]), ([4], [4]), ([1, 5, 4], [1, 5]), ([0, 1, 2, 3, 4, 5, 6], []), ([7, 6, 6, 0, 1, 2, 3, 4, 5, 6], [6, 7])])
def impl_builder_store.B21 : List Nat := [0, 1, 0, 0, 12, 28, 63, 127, 255]
theorem impl_builder_store.tab21 : rtab .any (opsOf Try.f33 21) = impl_builder_store.T21 := by kernel_rfl
theorem impl_builder_store.bits21 : waitsOk impl_builder_store.T21.2 impl_builder_store.B21 = true := by kernel_rfl
set_option maxHeartbeats 8000000 in
set_option maxRecDepth 100000 in
theorem impl_builder_store.calls (k : Nat) (g : Nat) (s0_0 : Int) (s0_1 : Int) (s0_2 : Bool) (P1_ : Nat → Prop) (A1 : Option Addr) (c1 : Nat) (l1 : List (List (S36))) (P2_ : Nat → Prop) (A2 : Option Addr) (c2 : Nat) (l2 : List (S41)) (a3 : Int) (r1 : Int) (r2 : Int) (r3 : List (S182)) (r4 : List (S186)) (r5 : Int) (r6 : Int) (r7 : Bool) (w0 w : World) (hI : IsS102 w0 w g s0_0 s0_1 s0_2) (hB : Below w0.heap.size w0 w) (hs1 : Kd.V (Kd.slice 36 k36) 38 w w.heap.size (fun k_ => P1_ k_ ∧ k_ ≠ g) (.slice A1 l1.length c1) l1) (hs2 : Kd.V k41 41 w w.heap.size (fun k_ => P2_ k_ ∧ k_ ≠ g) (.slice A2 l2.length c2) l2) (h : impl_builder_store.f k s0_0 s0_1 s0_2 l1 l2 a3 = some (r1, r2, r3, r4, r5, r6, r7)) :
  Calls Try.prog 33 #[.pointer (some ⟨g, 0, none⟩), .slice A1 l1.length c1, .slice A2 l2.length c2, .int .i64 a3] w fun e w' => ∃ v2_ v3_ : Value, e = .returned (.agg #[.int .u16 r1, .int .u16 r2, v2_, v3_]) ∧ Kd.S k182 182 w' w.heap.size (fun k_ => (w.heap.size ≤ k_)) v2_ r3 ∧ Kd.R k186 186 w' w.heap.size (fun k_ => (w.heap.size ≤ k_)) v3_ r4 ∧ IsS102 w0 w' g r5 r6 r7 ∧ Below w0.heap.size w0 w' ∧ KeepBut w w' g none := by
 have hu109 := Try.underlying109
 have hu182 := Try.underlying182
 have hu36 := Try.underlying36
 have hu184 := Try.underlying184
 have hu41 := Try.underlying41
 have hu186 := Try.underlying186
 have HO1 := Aside0.mk (show Kd.V (Kd.slice 36 k36) 38 w w.heap.size (fun k_ => ((P1_ k_ ∨ P2_ k_) ∨ w.heap.size ≤ k_) ∧ k_ ≠ g) (.slice A1 l1.length c1) l1 from Kd.V_mono hs1 (fun k_ hk => ⟨.inl (.inl hk.1), hk.2⟩))
 have HO2 := Aside0.mk (show Kd.V k41 41 w w.heap.size (fun k_ => ((P1_ k_ ∨ P2_ k_) ∨ w.heap.size ≤ k_) ∧ k_ ≠ g) (.slice A2 l2.length c2) l2 from Kd.V_mono hs2 (fun k_ hk => ⟨.inl (.inr hk.1), hk.2⟩))
 have HI0 := Aside0.mk hI
 have HK := Aside0.mk (KeepBut.refl w g none)
 have HL := Aside0.mk hB.size
 clear hI
 have HW0 := Aside0.mk hB.size
 have HB := Aside0.mk hB
 clear hB
 have H : (impl_builder_store.l0 k l1 l2 a3 l1 (l1.length : Int) 0 s0_0 s0_1 s0_2 0 0 ([] : List (S182))) = some (r1, r2, r3, r4, r5, r6, r7) := h
 clear h
 have H' := Aside0.mk H
 clear H
 go_enter Try.func33, Try.ntmps33
 go_wp2_with (first | ((with_reducible refine gate_dst (N := 8) rfl ?_); (try (refine gate_guard (by rfl) ?_; dsimp only)); refine box_event ?hg (N := 8) ?hd (cs := #[.int .u16 0, .int .u16 0, .slice none 0 0, .slice none 0 0]) (t := 109) ?hr ?_; (case hd => rfl); (case hg => rfl); (case hr => first | (go_simp; done) | (go_simp; rfl)); intro gb158 hg w5 hbox hb; have n0_ := Aside0.mk (Kd.V_below (Kd.V_elderB (by (with_reducible repeat (first | apply Kd.V_alloc | apply Kd.V_drewN | apply Kd.V_drew)); exact HO1.out) gb158 (Nat.le_of_eq hg.symm)) hb); have n1_ := Aside0.mk (Kd.V_below (Kd.V_elderB (by (with_reducible repeat (first | apply Kd.V_alloc | apply Kd.V_drewN | apply Kd.V_drew)); exact HO2.out) gb158 (Nat.le_of_eq hg.symm)) hb); have n2_ := Aside0.mk (IsS102.below (by repeat (first | (with_reducible first | exact HI0.out | apply IsS102.alloc | apply IsS102.drewN | apply IsS102.drew | apply IsS102.set_0 | apply IsS102.set_1 | apply IsS102.set_2) | exact HI0.out)) hb); have n3_ := Aside0.mk (KeepBut.trans (by repeat (first | (with_reducible first | exact HK.out | apply KeepBut.set_ | apply keep_drewN | apply keep_drew | apply keep_alloc) | exact HK.out)) (KeepBut.of_below hb g none) (.inl rfl)); have n4_ := Aside0.mk (below_step (by repeat (first | (with_reducible first | exact HB.out | apply below_alloc | apply pw_below_drewN | apply below_drew1 | refine below_set ?_ (IsS102.ge HI0.out)) | exact HB.out)) hb); have n5_ := Aside0.mk (hbox); have n6_ := Aside0.mk ((by rw [hg]; exact (keep_size (w := w) (g := g) (row := none) (by repeat (first | (with_reducible first | exact HK.out | apply KeepBut.set_ | apply keep_drewN | apply keep_drew | apply keep_alloc) | exact HK.out))) : w.heap.size ≤ gb158)); have n7_ := Aside0.mk ((Nat.le_trans HW0.out (by rw [hg]; exact (keep_size (w := w) (g := g) (row := none) (by repeat (first | (with_reducible first | exact HK.out | apply KeepBut.set_ | apply keep_drewN | apply keep_drew | apply keep_alloc) | exact HK.out))) : w.heap.size ≤ gb158) : w0.heap.size ≤ gb158)); have n8_ := Aside0.mk ((by rw [hg]; exact Nat.ne_of_lt (IsS102.lt (show IsS102 w0 _ g s0_0 s0_1 s0_2 from by repeat (first | (with_reducible first | exact HI0.out | apply IsS102.alloc | apply IsS102.drewN | apply IsS102.drew | apply IsS102.set_0 | apply IsS102.set_1 | apply IsS102.set_2) | exact HI0.out))) : g ≠ gb158)); have n9_ := Aside0.mk ((by rw [hg]; exact Nat.ne_of_gt (IsS102.lt (show IsS102 w0 _ g s0_0 s0_1 s0_2 from by repeat (first | (with_reducible first | exact HI0.out | apply IsS102.alloc | apply IsS102.drewN | apply IsS102.drew | apply IsS102.set_0 | apply IsS102.set_1 | apply IsS102.set_2) | exact HI0.out))) : gb158 ≠ g)); clear HO1; clear HO2; clear HI0; clear HK; clear HB; have HO1 := n0_; have HO2 := n1_; have HI0 := n2_; have HK := n3_; have HB := n4_; have BK158 := n5_; have GW158 := n6_; have GE158 := n7_; have NB0_158 := n8_; have NB158_0 := n9_; clear n0_ n1_ n2_ n3_ n4_ n5_ n6_ n7_ n8_ n9_; clear hb hbox hg))
 go_loopg [26] k (fun kq v26 w' => ∃ (x26_1 : Int) (x1000_1 : Int) (x1001_1 : Int) (x1002_1 : Bool) (x159002_1 : List (S182)) (u159002 : Value), v26 = .int .i64 x26_1 ∧ Aside0 (impl_builder_store.l0 kq l1 l2 a3 l1 (l1.length : Int) x26_1 x1000_1 x1001_1 x1002_1 0 0 x159002_1 = some (r1, r2, r3, r4, r5, r6, r7)) ∧ Aside0 (kq ≤ k) ∧ Aside0 (Kd.V (Kd.slice 36 k36) 38 w' w.heap.size (fun k_ => ((P1_ k_ ∨ P2_ k_) ∨ w.heap.size ≤ k_) ∧ some k_ ≠ (u159002 : Value).ownBlock ∧ k_ ≠ gb158 ∧ k_ ≠ g) (.slice A1 l1.length c1) l1) ∧ Aside0 (Kd.V k41 41 w' w.heap.size (fun k_ => ((P1_ k_ ∨ P2_ k_) ∨ w.heap.size ≤ k_) ∧ some k_ ≠ (u159002 : Value).ownBlock ∧ k_ ≠ gb158 ∧ k_ ≠ g) (.slice A2 l2.length c2) l2) ∧ Aside0 (Kd.V (Kd.slice 36 k36) 38 w' w.heap.size (fun k_ => ((P1_ k_ ∨ P2_ k_) ∨ w.heap.size ≤ k_) ∧ some k_ ≠ (u159002 : Value).ownBlock ∧ k_ ≠ gb158 ∧ k_ ≠ g) (.slice A1 l1.length c1) l1) ∧ Aside0 (Kd.S k182 182 w' w.heap.size (fun k_ => (w.heap.size ≤ k_)) u159002 x159002_1) ∧ Aside0 (w'.heap[gb158]? = some (.cells #[.int .u16 0, .int .u16 0, u159002, (.slice none 0 0)] 109 (0, 0))) ∧ Aside0 (IsS102 w0 w' g x1000_1 x1001_1 x1002_1) ∧ Aside0 (KeepBut w w' g none) ∧ Aside0 (Below w0.heap.size w0 w'))
 case atStart => exact ⟨(0), (s0_0), (s0_1), (s0_2), (([] : List (S182))), (.slice none 0 0), (by first | rfl | (simp; done) | (simp [*]; done)), H', ⟨Nat.le_refl _⟩, ⟨by (with_reducible repeat (first | apply Kd.V_alloc | apply Kd.V_drewN | apply Kd.V_drew)); exact Kd.V_mono HO1.out (fun _ hk => ⟨hk.1.1, ⟨(by simp [Value.ownBlock]), ⟨hk.2, hk.1.2⟩⟩⟩)⟩, ⟨by (with_reducible repeat (first | apply Kd.V_alloc | apply Kd.V_drewN | apply Kd.V_drew)); exact Kd.V_mono HO2.out (fun _ hk => ⟨hk.1.1, ⟨(by simp [Value.ownBlock]), ⟨hk.2, hk.1.2⟩⟩⟩)⟩, ⟨by (with_reducible repeat (first | apply Kd.V_alloc | apply Kd.V_drewN | apply Kd.V_drew)); exact Kd.V_mono HO1.out (fun _ hk => ⟨hk.1.1, ⟨(by simp [Value.ownBlock]), ⟨hk.2, hk.1.2⟩⟩⟩)⟩, ⟨by first | exact Kd.S_nil _ _ _ _ _ | exact Kd.N_nil _ _ _ _ _ | exact Kd.V_nil _ _ _ _ _ | exact Kd.Q_nil _ _ _ _ _ | exact Kd.R_nil _ _ _ _ _⟩, ⟨by (with_reducible repeat (first | refine b1_ ?_ _ | refine b2_ ?_ | refine b3_ ?_ _)); exact BK158.out⟩, ⟨by repeat (first | (with_reducible first | exact HI0.out | apply IsS102.alloc | apply IsS102.drewN | apply IsS102.drew | apply IsS102.set_0 | apply IsS102.set_1 | apply IsS102.set_2 | refine IsS102.far ?_ NB0_158.out _) | exact HI0.out)⟩, ⟨by repeat (first | (with_reducible first | exact HK.out | apply KeepBut.set_ | apply keep_drewN | apply keep_drew | apply keep_alloc | refine keep_far ?_ GW158.out _) | exact HK.out)⟩, ⟨by repeat (first | (with_reducible first | exact HB.out | apply below_alloc | apply pw_below_drewN | apply below_drew1 | refine below_set ?_ (IsS102.ge HI0.out) | refine below_set ?_ GE158.out) | exact HB.out)⟩⟩
 case round =>
  clear H'
  try clear c1
  try clear c2
  try clear p2
  try clear c3
  obtain ⟨x26_1, x1000_1, x1001_1, x1002_1, x159002_1, u159002, rfl, HA, HK1, HO_1, HO_2, HO_24, HO_159002, BK158, HI0, HK, HB⟩ := hrel
  cases gk with
  | zero => exact absurd HA.out (by simp [impl_builder_store.l0])
  | succ k1 =>
   have H := HA.out
   clear HA
   simp only [impl_builder_store.l0] at H
   by_cases c6 : x26_1 < (l1.length : Int)
   ·rw [if_pos c6] at H
    have c6b0 : decide (x26_1 < (l1.length : Int)) = true := decide_eq_true c6
    clear c6
    by_cases c7 : 0 ≤ x26_1
    ·rw [if_pos c7] at H
     have c7b0 : decide (0 ≤ x26_1) = true := decide_eq_true c7
     clear c7
     by_cases c8 : x26_1 < (l1.length : Int)
     ·rw [if_pos c8] at H
      have c8b0 : decide (x26_1 < (l1.length : Int)) = true := decide_eq_true c8
      clear c8
      replace H := Option.bind_eq_some_iff.mp H
      obtain ⟨⟨t160, t161, t162⟩, A90, H⟩ := H
      replace H : (impl_builder_store.l1 k1 l1 l2 a3 l1 (l1.length : Int) x26_1 (rd_L8 l1 x26_1) ((rd_L8 l1 x26_1).length : Int) 0 t160 t161 t162 0 0 x159002_1 ([] : List (S184))) = some (r1, r2, r3, r4, r5, r6, r7) := H
      have A9 := Aside0.mk A90
      clear A90
      have H' := Aside0.mk H
      clear H
      have p159 : 0 ≤ (x26_1 : Int) := of_decide_eq_true (by first | (with_reducible assumption) | assumption)
      have q159 : x26_1 < (l1.length : Int) := of_decide_eq_true (by first | (with_reducible assumption) | assumption)
      obtain ⟨ad159, A159_0, c159_0, e159, hx159_0, hl159_0, hi159_0⟩ := at_L8 (Kd.V_reads' HO_24.out).2.2 x26_1 p159 q159
      cases e159
      obtain ⟨ce159, hce159, hMe159, hcc159⟩ := Kd.V_get HO_24.out [] x26_1 p159 (by first | exact q159 | exact of_decide_eq_true (by first | (with_reducible assumption) | assumption) | (have e_ := (Kd.V_reads' HO_24.out).1; omega))
      obtain ⟨ua159_0, uc159_0, rfl, ul159_0, ge159_0⟩ := Kd.FK_slice_open hMe159
      have hv159_0 := hcc159 0 _ rfl
      rw [Nat.add_zero, show ((Kd.slice 36 k36)).sz = 1 from rfl, Nat.mul_one] at hv159_0
      replace hv159_0 := Option.some.inj (hv159_0.symm.trans hx159_0)
      injection hv159_0 with hva_ hvn_ hvc_
      rw [hva_] at ge159_0
      rw [hvc_] at ul159_0
      have HL159_0 := Aside0.mk (show Kd.V k36 36 _ w.heap.size _ _ (rd_L8 l1 x26_1) from Kd.V_mk ul159_0 ge159_0)
      clear hva_ hvn_ hvc_ ge159_0 ul159_0
      clear hcc159 hce159
      have HF159_0 := Aside0.mk (show Kd.F k36 w (fun k_ => P1_ k_ ∧ k_ ≠ g) A159_0 (rd_L8 l1 x26_1).length (rd_L8 l1 x26_1) from foot_row (Kd.V_F hs1) HK.out x26_1 p159 q159 hx159_0)
      have HR159_0 := Aside0.mk hi159_0
      have HC159_0 := Aside0.mk hl159_0
      clear hi159_0 hl159_0
      replace p159 := eq_true p159
      replace q159 := eq_true q159
      go_wp2_with (first | ((with_reducible refine gate_callee (f := 50) rfl ?_); refine goesL_ (some 35) rfl rfl Try.func50 (by kernel_rfl) rfl #[.pointer (some ⟨g, 0, none⟩), .bool (((rd_L8 l1 x26_1).length : Int) == a3)] rfl (by (try simp only [List.map_toArray, List.map_cons, List.map_nil]); first | done | rfl | (simp only [List.length_drop, List.length_take]; rfl)) ?_; (with_reducible refine (impl_builder_must.calls g x1000_1 x1001_1 x1002_1 (((rd_L8 l1 x26_1).length : Int) == a3) t160 t161 t162 w0 _ ?side1 ?side2 A9.out).mono ?_); (case side1 => repeat (first | (with_reducible first | exact HI0.out | apply IsS102.alloc | apply IsS102.drewN | apply IsS102.drew | apply IsS102.set_0 | apply IsS102.set_1 | apply IsS102.set_2 | refine IsS102.far ?_ NB0_158.out _) | exact HI0.out)); (case side2 => repeat (first | (with_reducible first | exact HB.out | apply below_alloc | apply pw_below_drewN | apply below_drew1 | refine below_set ?_ (IsS102.ge HI0.out) | refine below_set ?_ GE158.out) | exact HB.out)); rintro e w10 ⟨rfl, hi, hb, hk⟩; refine ⟨_, rfl, ?_⟩; have n0_ := Aside0.mk (Kd.V_mono (Kd.V_keep (Kd.V_mono (ok := fun k_ => ((((P1_ k_ ∨ P2_ k_) ∨ w.heap.size ≤ k_)) ∧ (some k_ ≠ (u159002 : Value).ownBlock ∧ (k_ ≠ gb158 ∧ k_ ≠ g)))) (by (with_reducible repeat (first | apply Kd.V_alloc | apply Kd.V_drewN | apply Kd.V_drew)); exact HO_1.out) (fun k_ hk_ => (⟨hk_, hk_.2.2.2⟩ : _ ∧ k_ ≠ g))) hk (fun _ h => h.2)) (fun _ h => h.1)); have n1_ := Aside0.mk (Kd.V_mono (Kd.V_keep (Kd.V_mono (ok := fun k_ => ((((P1_ k_ ∨ P2_ k_) ∨ w.heap.size ≤ k_)) ∧ (some k_ ≠ (u159002 : Value).ownBlock ∧ (k_ ≠ gb158 ∧ k_ ≠ g)))) (by (with_reducible repeat (first | apply Kd.V_alloc | apply Kd.V_drewN | apply Kd.V_drew)); exact HO_2.out) (fun k_ hk_ => (⟨hk_, hk_.2.2.2⟩ : _ ∧ k_ ≠ g))) hk (fun _ h => h.2)) (fun _ h => h.1)); have n2_ := Aside0.mk (Kd.V_mono (Kd.V_keep (Kd.V_mono (ok := fun k_ => ((((P1_ k_ ∨ P2_ k_) ∨ w.heap.size ≤ k_)) ∧ (some k_ ≠ (u159002 : Value).ownBlock ∧ (k_ ≠ gb158 ∧ k_ ≠ g)))) (by (with_reducible repeat (first | apply Kd.V_alloc | apply Kd.V_drewN | apply Kd.V_drew)); exact HO_24.out) (fun k_ hk_ => (⟨hk_, hk_.2.2.2⟩ : _ ∧ k_ ≠ g))) hk (fun _ h => h.2)) (fun _ h => h.1)); have n3_ := Aside0.mk (Kd.S_mono (Kd.S_keep (IsS102.apartS (show IsS102 w0 _ g x1000_1 x1001_1 x1002_1 from by repeat (first | (with_reducible first | exact HI0.out | apply IsS102.alloc | apply IsS102.drewN | apply IsS102.drew | apply IsS102.set_0 | apply IsS102.set_1 | apply IsS102.set_2 | refine IsS102.far ?_ NB0_158.out _) | exact HI0.out)) (by (with_reducible repeat (first | apply Kd.S_alloc | apply Kd.S_drewN | apply Kd.S_drew)); exact HO_159002.out) (by decide)) hk (fun _ h => h.2)) (fun _ h => h.1)); have n4_ := Aside0.mk (KeepBut.blk hk (g' := gb158) (o := .cells #[.int .u16 0, .int .u16 0, u159002, .slice none 0 0] 109 (0, 0)) (by (with_reducible repeat (first | refine b1_ ?_ _ | refine b2_ ?_ | refine b3_ ?_ _)); exact BK158.out) NB158_0.out (by simp)); have n5_ := Aside0.mk (Kd.V_mono (Kd.V_keep (Kd.V_mono (ok := fun k_ => ((((P1_ k_ ∨ P2_ k_) ∨ w.heap.size ≤ k_)) ∧ (some k_ ≠ (u159002 : Value).ownBlock ∧ (k_ ≠ gb158 ∧ k_ ≠ g)))) (by (with_reducible repeat (first | apply Kd.V_alloc | apply Kd.V_drewN | apply Kd.V_drew)); exact HL159_0.out) (fun k_ hk_ => (⟨hk_, hk_.2.2.2⟩ : _ ∧ k_ ≠ g))) hk (fun _ h => h.2)) (fun _ h => h.1)); have n6_ := Aside0.mk (KeepBut.trans (by repeat (first | (with_reducible first | exact HK.out | apply KeepBut.set_ | apply keep_drewN | apply keep_drew | apply keep_alloc | refine keep_far ?_ GW158.out _) | exact HK.out)) hk (.inl rfl)); have n7_ := Aside0.mk (hb); have n8_ := Aside0.mk (hi); clear HO_1; clear HO_2; clear HO_24; clear HO_159002; clear BK158; clear HL159_0; clear HK; clear HB; clear HI0; have HO_1 := n0_; have HO_2 := n1_; have HO_24 := n2_; have HO_159002 := n3_; have BK158 := n4_; have HL159_0 := n5_; have HK := n6_; have HB := n7_; have HI0 := n8_; clear n0_ n1_ n2_ n3_ n4_ n5_ n6_ n7_ n8_; (try clear hb); (try clear hb2); (try clear hk); (try clear hi)) | ((with_reducible refine gate_dst (N := 11) rfl ?_); (try (refine gate_guard (by rfl) ?_; dsimp only)); refine box_event ?hg (N := 11) ?hd (cs := #[.slice none 0 0]) (t := 182) ?hr ?_; (case hd => rfl); (case hg => rfl); (case hr => first | (go_simp; done) | (go_simp; rfl)); intro gb163 hg w11 hbox hb; have n0_ := Aside0.mk (Kd.V_below (Kd.V_elderB (by (with_reducible repeat (first | apply Kd.V_alloc | apply Kd.V_drewN | apply Kd.V_drew)); exact HO_1.out) gb163 (Nat.le_of_eq hg.symm)) hb); have n1_ := Aside0.mk (Kd.V_below (Kd.V_elderB (by (with_reducible repeat (first | apply Kd.V_alloc | apply Kd.V_drewN | apply Kd.V_drew)); exact HO_2.out) gb163 (Nat.le_of_eq hg.symm)) hb); have n2_ := Aside0.mk (Kd.V_below (Kd.V_elderB (by (with_reducible repeat (first | apply Kd.V_alloc | apply Kd.V_drewN | apply Kd.V_drew)); exact HO_24.out) gb163 (Nat.le_of_eq hg.symm)) hb); have n3_ := Aside0.mk (Kd.S_below (Kd.S_elderB (by (with_reducible repeat (first | apply Kd.S_alloc | apply Kd.S_drewN | apply Kd.S_drew)); exact HO_159002.out) gb163 (Nat.le_of_eq hg.symm)) hb); have n4_ := Aside0.mk (Kd.V_below (Kd.V_elderB (by (with_reducible repeat (first | apply Kd.V_alloc | apply Kd.V_drewN | apply Kd.V_drew)); exact HL159_0.out) gb163 (Nat.le_of_eq hg.symm)) hb); have n5_ := Aside0.mk (blk_below (g := gb158) (o := .cells #[.int .u16 0, .int .u16 0, u159002, .slice none 0 0] 109 (0, 0)) (by (with_reducible repeat (first | refine b1_ ?_ _ | refine b2_ ?_ | refine b3_ ?_ _)); exact BK158.out) hb); have n6_ := Aside0.mk (IsS102.below (by repeat (first | (with_reducible first | exact HI0.out | apply IsS102.alloc | apply IsS102.drewN | apply IsS102.drew | apply IsS102.set_0 | apply IsS102.set_1 | apply IsS102.set_2 | refine IsS102.far ?_ NB0_158.out _) | exact HI0.out)) hb); have n7_ := Aside0.mk (KeepBut.trans (by repeat (first | (with_reducible first | exact HK.out | apply KeepBut.set_ | apply keep_drewN | apply keep_drew | apply keep_alloc | refine keep_far ?_ GW158.out _) | exact HK.out)) (KeepBut.of_below hb g none) (.inl rfl)); have n8_ := Aside0.mk (below_step (by repeat (first | (with_reducible first | exact HB.out | apply below_alloc | apply pw_below_drewN | apply below_drew1 | refine below_set ?_ (IsS102.ge HI0.out) | refine below_set ?_ GE158.out) | exact HB.out)) hb); have n9_ := Aside0.mk (hbox); have n10_ := Aside0.mk ((by rw [hg]; exact (keep_size (w := w) (g := g) (row := none) (by repeat (first | (with_reducible first | exact HK.out | apply KeepBut.set_ | apply keep_drewN | apply keep_drew | apply keep_alloc | refine keep_far ?_ GW158.out _) | exact HK.out))) : w.heap.size ≤ gb163)); have n11_ := Aside0.mk ((Nat.le_trans HW0.out (by rw [hg]; exact (keep_size (w := w) (g := g) (row := none) (by repeat (first | (with_reducible first | exact HK.out | apply KeepBut.set_ | apply keep_drewN | apply keep_drew | apply keep_alloc | refine keep_far ?_ GW158.out _) | exact HK.out))) : w.heap.size ≤ gb163) : w0.heap.size ≤ gb163)); have n12_ := Aside0.mk ((by rw [hg]; exact Nat.ne_of_lt (blk_lt (g := gb158) (o := .cells #[.int .u16 0, .int .u16 0, u159002, .slice none 0 0] 109 (0, 0)) (by (with_reducible repeat (first | refine b1_ ?_ _ | refine b2_ ?_ | refine b3_ ?_ _)); exact BK158.out)) : gb158 ≠ gb163)); have n13_ := Aside0.mk ((by rw [hg]; exact Nat.ne_of_gt (blk_lt (g := gb158) (o := .cells #[.int .u16 0, .int .u16 0, u159002, .slice none 0 0] 109 (0, 0)) (by (with_reducible repeat (first | refine b1_ ?_ _ | refine b2_ ?_ | refine b3_ ?_ _)); exact BK158.out)) : gb163 ≠ gb158)); have n14_ := Aside0.mk ((by rw [hg]; exact Nat.ne_of_lt (IsS102.lt (show IsS102 w0 _ g t160 t161 t162 from by repeat (first | (with_reducible first | exact HI0.out | apply IsS102.alloc | apply IsS102.drewN | apply IsS102.drew | apply IsS102.set_0 | apply IsS102.set_1 | apply IsS102.set_2 | refine IsS102.far ?_ NB0_158.out _) | exact HI0.out))) : g ≠ gb163)); have n15_ := Aside0.mk ((by rw [hg]; exact Nat.ne_of_gt (IsS102.lt (show IsS102 w0 _ g t160 t161 t162 from by repeat (first | (with_reducible first | exact HI0.out | apply IsS102.alloc | apply IsS102.drewN | apply IsS102.drew | apply IsS102.set_0 | apply IsS102.set_1 | apply IsS102.set_2 | refine IsS102.far ?_ NB0_158.out _) | exact HI0.out))) : gb163 ≠ g)); clear HO_1; clear HO_2; clear HO_24; clear HO_159002; clear HL159_0; clear BK158; clear HI0; clear HK; clear HB; have HO_1 := n0_; have HO_2 := n1_; have HO_24 := n2_; have HO_159002 := n3_; have HL159_0 := n4_; have BK158 := n5_; have HI0 := n6_; have HK := n7_; have HB := n8_; have BK163 := n9_; have GW163 := n10_; have GE163 := n11_; have NB158_163 := n12_; have NB163_158 := n13_; have NB0_163 := n14_; have NB163_0 := n15_; clear n0_ n1_ n2_ n3_ n4_ n5_ n6_ n7_ n8_ n9_ n10_ n11_ n12_ n13_ n14_ n15_; clear hb hbox hg))
      go_loopg [38] k1 (fun kq v38 w' => ∃ (x38_2 : Int) (x1000_2 : Int) (x1001_2 : Int) (x1002_2 : Bool) (x164000_2 : List (S184)) (u164000 : Value), v38 = .int .i64 x38_2 ∧ Aside0 (impl_builder_store.l1 kq l1 l2 a3 l1 (l1.length : Int) x26_1 (rd_L8 l1 x26_1) ((rd_L8 l1 x26_1).length : Int) x38_2 x1000_2 x1001_2 x1002_2 0 0 x159002_1 x164000_2 = some (r1, r2, r3, r4, r5, r6, r7)) ∧ Aside0 (kq ≤ k1) ∧ Aside0 (Kd.V (Kd.slice 36 k36) 38 w' w.heap.size (fun k_ => ((P1_ k_ ∨ P2_ k_) ∨ w.heap.size ≤ k_) ∧ some k_ ≠ (u159002 : Value).ownBlock ∧ some k_ ≠ (u164000 : Value).ownBlock ∧ k_ ≠ gb158 ∧ k_ ≠ gb163 ∧ k_ ≠ g) (.slice (some ad159) l1.length c1) l1) ∧ Aside0 (Kd.V k41 41 w' w.heap.size (fun k_ => ((P1_ k_ ∨ P2_ k_) ∨ w.heap.size ≤ k_) ∧ some k_ ≠ (u159002 : Value).ownBlock ∧ some k_ ≠ (u164000 : Value).ownBlock ∧ k_ ≠ gb158 ∧ k_ ≠ gb163 ∧ k_ ≠ g) (.slice A2 l2.length c2) l2) ∧ Aside0 (Kd.V (Kd.slice 36 k36) 38 w' w.heap.size (fun k_ => ((P1_ k_ ∨ P2_ k_) ∨ w.heap.size ≤ k_) ∧ some k_ ≠ (u159002 : Value).ownBlock ∧ some k_ ≠ (u164000 : Value).ownBlock ∧ k_ ≠ gb158 ∧ k_ ≠ gb163 ∧ k_ ≠ g) (.slice (some ad159) l1.length c1) l1) ∧ Aside0 (Kd.S k182 182 w' w.heap.size (fun k_ => (w.heap.size ≤ k_) ∧ some k_ ≠ (u164000 : Value).ownBlock ∧ k_ ≠ gb163) u159002 x159002_1) ∧ Aside0 (Kd.R k184 184 w' w.heap.size (fun k_ => (w.heap.size ≤ k_)) u164000 x164000_2) ∧ Aside0 (w'.heap[gb158]? = some (.cells #[.int .u16 0, .int .u16 0, u159002, (.slice none 0 0)] 109 (0, 0))) ∧ Aside0 (w'.heap[gb163]? = some (.cells #[u164000] 182 (0, 0))) ∧ Aside0 (IsS102 w0 w' g x1000_2 x1001_2 x1002_2) ∧ Aside0 (KeepBut w w' g none) ∧ Aside0 (Below w0.heap.size w0 w'))
      case atStart => exact ⟨(0), (t160), (t161), (t162), (([] : List (S184))), (.slice none 0 0), (by first | rfl | (simp; done) | (simp [*]; done)), H', ⟨Nat.le_refl _⟩, ⟨by (with_reducible repeat (first | apply Kd.V_alloc | apply Kd.V_drewN | apply Kd.V_drew)); exact Kd.V_mono HO_1.out (fun _ hk => ⟨hk.1.1, ⟨hk.1.2.1, ⟨(by simp [Value.ownBlock]), ⟨hk.1.2.2.1, ⟨hk.2, hk.1.2.2.2⟩⟩⟩⟩⟩)⟩, ⟨by (with_reducible repeat (first | apply Kd.V_alloc | apply Kd.V_drewN | apply Kd.V_drew)); exact Kd.V_mono HO_2.out (fun _ hk => ⟨hk.1.1, ⟨hk.1.2.1, ⟨(by simp [Value.ownBlock]), ⟨hk.1.2.2.1, ⟨hk.2, hk.1.2.2.2⟩⟩⟩⟩⟩)⟩, ⟨by (with_reducible repeat (first | apply Kd.V_alloc | apply Kd.V_drewN | apply Kd.V_drew)); exact Kd.V_mono HO_24.out (fun _ hk => ⟨hk.1.1, ⟨hk.1.2.1, ⟨(by simp [Value.ownBlock]), ⟨hk.1.2.2.1, ⟨hk.2, hk.1.2.2.2⟩⟩⟩⟩⟩)⟩, ⟨by (with_reducible repeat (first | apply Kd.S_alloc | apply Kd.S_drewN | apply Kd.S_drew)); exact Kd.S_mono HO_159002.out (fun _ hk => ⟨hk.1, ⟨(by simp [Value.ownBlock]), hk.2⟩⟩)⟩, ⟨by first | exact Kd.R_nil _ _ _ _ _ | exact Kd.N_nil _ _ _ _ _ | exact Kd.V_nil _ _ _ _ _ | exact Kd.Q_nil _ _ _ _ _ | exact Kd.S_nil _ _ _ _ _⟩, ⟨by (with_reducible repeat (first | refine b1_ ?_ _ | refine b2_ ?_ | refine b3_ ?_ _)); exact BK158.out⟩, ⟨by (with_reducible repeat (first | refine b1_ ?_ _ | refine b2_ ?_ | refine b3_ ?_ _)); exact BK163.out⟩, ⟨by repeat (first | (with_reducible first | exact HI0.out | apply IsS102.alloc | apply IsS102.drewN | apply IsS102.drew | apply IsS102.set_0 | apply IsS102.set_1 | apply IsS102.set_2 | refine IsS102.far ?_ NB0_158.out _ | refine IsS102.far ?_ NB0_163.out _) | exact HI0.out)⟩, ⟨by repeat (first | (with_reducible first | exact HK.out | apply KeepBut.set_ | apply keep_drewN | apply keep_drew | apply keep_alloc | refine keep_far ?_ GW158.out _ | refine keep_far ?_ GW163.out _) | exact HK.out)⟩, ⟨by repeat (first | (with_reducible first | exact HB.out | apply below_alloc | apply pw_below_drewN | apply below_drew1 | refine below_set ?_ (IsS102.ge HI0.out) | refine below_set ?_ GE158.out | refine below_set ?_ GE163.out) | exact HB.out)⟩⟩
      case round =>
       clear H'
       try clear c1
       try clear p1
       try clear q1
       try clear hx1
       try clear c2
       try clear p2
       try clear c3
       try clear c5
       try clear c6
       try clear c6b0
       try clear c7
       try clear c7b0
       try clear c8
       try clear c8b0
       try clear hx159_0
       try clear p159
       try clear p2
       try clear q159
       obtain ⟨x38_2, x1000_2, x1001_2, x1002_2, x164000_2, u164000, rfl, HA, HK2, HO_1, HO_2, HO_24, HO_159002, HO_164000, BK158, BK163, HI0, HK, HB⟩ := hrel
       cases gk with
       | zero => exact absurd HA.out (by simp [impl_builder_store.l1])
       | succ k2 =>
        have H := HA.out
        clear HA
        simp only [impl_builder_store.l1] at H
        by_cases c12 : x38_2 < ((rd_L8 l1 x26_1).length : Int)
        ·rw [if_pos c12] at H
         have c12b0 : decide (x38_2 < ((rd_L8 l1 x26_1).length : Int)) = true := decide_eq_true c12
         clear c12
         by_cases c13 : 0 ≤ x38_2
         ·rw [if_pos c13] at H
          have c13b0 : decide (0 ≤ x38_2) = true := decide_eq_true c13
          clear c13
          by_cases c14 : x38_2 < ((rd_L8 l1 x26_1).length : Int)
          ·rw [if_pos c14] at H
           have c14b0 : decide (x38_2 < ((rd_L8 l1 x26_1).length : Int)) = true := decide_eq_true c14
           clear c14
           replace H := Option.bind_eq_some_iff.mp H
           obtain ⟨⟨t166, t167, t168, t169⟩, A150, H⟩ := H
           replace H : ((impl_builder_signed.f t167 t168 t169 ((rd_T36 (rd_L8 l1 x26_1) x38_2).f1)).bind fun bt170 => ((impl_builder_signed.f bt170.2.1 bt170.2.2.1 bt170.2.2.2 ((rd_T36 (rd_L8 l1 x26_1) x38_2).f2)).bind fun bt174 => (if x164000_2.length < 23456248059221 then (impl_builder_store.l1 k2 l1 l2 a3 l1 (l1.length : Int) x26_1 (rd_L8 l1 x26_1) ((rd_L8 l1 x26_1).length : Int) (wrap64 (x38_2 + 1)) bt174.2.1 bt174.2.2.1 bt174.2.2.2 0 0 x159002_1 (x164000_2 ++ [(⟨t166, bt170.1, bt174.1⟩ : S184)])) else (none)))) = some (r1, r2, r3, r4, r5, r6, r7) := H
           have A15 := Aside0.mk A150
           clear A150
           replace H := Option.bind_eq_some_iff.mp H
           obtain ⟨⟨t170, t171, t172, t173⟩, A160, H⟩ := H
           replace H : ((impl_builder_signed.f t171 t172 t173 ((rd_T36 (rd_L8 l1 x26_1) x38_2).f2)).bind fun bt174 => (if x164000_2.length < 23456248059221 then (impl_builder_store.l1 k2 l1 l2 a3 l1 (l1.length : Int) x26_1 (rd_L8 l1 x26_1) ((rd_L8 l1 x26_1).length : Int) (wrap64 (x38_2 + 1)) bt174.2.1 bt174.2.2.1 bt174.2.2.2 0 0 x159002_1 (x164000_2 ++ [(⟨t166, t170, bt174.1⟩ : S184)])) else (none))) = some (r1, r2, r3, r4, r5, r6, r7) := H
           have A16 := Aside0.mk A160
           clear A160
           replace H := Option.bind_eq_some_iff.mp H
           obtain ⟨⟨t174, t175, t176, t177⟩, A170, H⟩ := H
           replace H : (if x164000_2.length < 23456248059221 then (impl_builder_store.l1 k2 l1 l2 a3 l1 (l1.length : Int) x26_1 (rd_L8 l1 x26_1) ((rd_L8 l1 x26_1).length : Int) (wrap64 (x38_2 + 1)) t175 t176 t177 0 0 x159002_1 (x164000_2 ++ [(⟨t166, t170, t174⟩ : S184)])) else (none)) = some (r1, r2, r3, r4, r5, r6, r7) := H
           have A17 := Aside0.mk A170
           clear A170
           by_cases c18 : x164000_2.length < 23456248059221
           ·rw [if_pos c18] at H
            have LMc18 := Aside0.mk c18
            clear c18
            obtain ⟨y178, hy178⟩ : ∃ y_ : List (S184), y_ = (x164000_2 ++ [(⟨t166, t170, t174⟩ : S184)]) := ⟨_, rfl⟩
            replace H : (impl_builder_store.l1 k2 l1 l2 a3 l1 (l1.length : Int) x26_1 (rd_L8 l1 x26_1) ((rd_L8 l1 x26_1).length : Int) (wrap64 (x38_2 + 1)) t175 t176 t177 0 0 x159002_1 y178) = some (r1, r2, r3, r4, r5, r6, r7) := by first | (rw [hy178]; with_reducible exact H) | (have H2_ := (Option.bind_some _ _).symm.trans H; rw [hy178]; with_reducible exact H2_) | (have H2_ := (Option.bind_some _ _).symm.trans H; with_reducible exact H2_) | with_reducible exact H | (rw [hy178]; exact H) | exact H
            have Ny178 := Aside0.mk hy178
            clear hy178
            have H' := Aside0.mk H
            clear H
            have p164 : 0 ≤ (x38_2 : Int) := of_decide_eq_true (by first | (with_reducible assumption) | assumption)
            have q164 : x38_2 < ((rd_L8 l1 x26_1).length : Int) := of_decide_eq_true (by first | (with_reducible assumption) | assumption)
            have HR159_0 := Aside0.mk (Kd.F_now (Kd.F_keep HF159_0.out HK.out (fun _ h_ => h_.2)))
            obtain ⟨ad164, e164, hx164_0, hx164_1, hx164_2⟩ := at_T36 HR159_0.out x38_2 p164 q164
            cases e164
            replace p164 := eq_true p164
            replace q164 := eq_true q164
            try go_wp2_with (first | ((with_reducible refine gate_dst (N := 13) rfl ?_); (try (refine gate_guard (by rfl) ?_; dsimp only)); refine box_event ?hg (N := 13) ?hd (cs := #[.int .i64 0, .int .i64 0, .int .i64 0]) (t := 36) ?hr ?_; (case hd => rfl); (case hg => rfl); (case hr => first | (go_simp; done) | (go_simp; rfl)); intro gb165 hg w19 hbox hb; have n0_ := Aside0.mk (Kd.V_below (Kd.V_elderB (by (with_reducible repeat (first | apply Kd.V_alloc | apply Kd.V_drewN | apply Kd.V_drew)); exact HO_1.out) gb165 (Nat.le_of_eq hg.symm)) hb); have n1_ := Aside0.mk (Kd.V_below (Kd.V_elderB (by (with_reducible repeat (first | apply Kd.V_alloc | apply Kd.V_drewN | apply Kd.V_drew)); exact HO_2.out) gb165 (Nat.le_of_eq hg.symm)) hb); have n2_ := Aside0.mk (Kd.V_below (Kd.V_elderB (by (with_reducible repeat (first | apply Kd.V_alloc | apply Kd.V_drewN | apply Kd.V_drew)); exact HO_24.out) gb165 (Nat.le_of_eq hg.symm)) hb); have n3_ := Aside0.mk (Kd.S_below (by (with_reducible repeat (first | apply Kd.S_alloc | apply Kd.S_drewN | apply Kd.S_drew)); exact HO_159002.out) hb); have n4_ := Aside0.mk (Kd.R_below (by (with_reducible repeat (first | apply Kd.R_alloc | apply Kd.R_drewN | apply Kd.R_drew)); exact HO_164000.out) hb); have n5_ := Aside0.mk (blk_below (g := gb158) (o := .cells #[.int .u16 0, .int .u16 0, u159002, .slice none 0 0] 109 (0, 0)) (by (with_reducible repeat (first | refine b1_ ?_ _ | refine b2_ ?_ | refine b3_ ?_ _)); exact BK158.out) hb); have n6_ := Aside0.mk (blk_below (g := gb163) (o := .cells #[u164000] 182 (0, 0)) (by (with_reducible repeat (first | refine b1_ ?_ _ | refine b2_ ?_ | refine b3_ ?_ _)); exact BK163.out) hb); have n7_ := Aside0.mk (IsS102.below (by repeat (first | (with_reducible first | exact HI0.out | apply IsS102.alloc | apply IsS102.drewN | apply IsS102.drew | apply IsS102.set_0 | apply IsS102.set_1 | apply IsS102.set_2 | refine IsS102.far ?_ NB0_158.out _ | refine IsS102.far ?_ NB0_163.out _) | exact HI0.out)) hb); have n8_ := Aside0.mk (KeepBut.trans (by repeat (first | (with_reducible first | exact HK.out | apply KeepBut.set_ | apply keep_drewN | apply keep_drew | apply keep_alloc | refine keep_far ?_ GW158.out _ | refine keep_far ?_ GW163.out _) | exact HK.out)) (KeepBut.of_below hb g none) (.inl rfl)); have n9_ := Aside0.mk (below_step (by repeat (first | (with_reducible first | exact HB.out | apply below_alloc | apply pw_below_drewN | apply below_drew1 | refine below_set ?_ (IsS102.ge HI0.out) | refine below_set ?_ GE158.out | refine below_set ?_ GE163.out) | exact HB.out)) hb); have n10_ := Aside0.mk (hbox); have n11_ := Aside0.mk ((by rw [hg]; exact (keep_size (w := w) (g := g) (row := none) (by repeat (first | (with_reducible first | exact HK.out | apply KeepBut.set_ | apply keep_drewN | apply keep_drew | apply keep_alloc | refine keep_far ?_ GW158.out _ | refine keep_far ?_ GW163.out _) | exact HK.out))) : w.heap.size ≤ gb165)); have n12_ := Aside0.mk ((Nat.le_trans HW0.out (by rw [hg]; exact (keep_size (w := w) (g := g) (row := none) (by repeat (first | (with_reducible first | exact HK.out | apply KeepBut.set_ | apply keep_drewN | apply keep_drew | apply keep_alloc | refine keep_far ?_ GW158.out _ | refine keep_far ?_ GW163.out _) | exact HK.out))) : w.heap.size ≤ gb165) : w0.heap.size ≤ gb165)); have n13_ := Aside0.mk ((by rw [hg]; exact Nat.ne_of_lt (blk_lt (g := gb158) (o := .cells #[.int .u16 0, .int .u16 0, u159002, .slice none 0 0] 109 (0, 0)) (by (with_reducible repeat (first | refine b1_ ?_ _ | refine b2_ ?_ | refine b3_ ?_ _)); exact BK158.out)) : gb158 ≠ gb165)); have n14_ := Aside0.mk ((by rw [hg]; exact Nat.ne_of_gt (blk_lt (g := gb158) (o := .cells #[.int .u16 0, .int .u16 0, u159002, .slice none 0 0] 109 (0, 0)) (by (with_reducible repeat (first | refine b1_ ?_ _ | refine b2_ ?_ | refine b3_ ?_ _)); exact BK158.out)) : gb165 ≠ gb158)); have n15_ := Aside0.mk ((by rw [hg]; exact Nat.ne_of_lt (blk_lt (g := gb163) (o := .cells #[u164000] 182 (0, 0)) (by (with_reducible repeat (first | refine b1_ ?_ _ | refine b2_ ?_ | refine b3_ ?_ _)); exact BK163.out)) : gb163 ≠ gb165)); have n16_ := Aside0.mk ((by rw [hg]; exact Nat.ne_of_gt (blk_lt (g := gb163) (o := .cells #[u164000] 182 (0, 0)) (by (with_reducible repeat (first | refine b1_ ?_ _ | refine b2_ ?_ | refine b3_ ?_ _)); exact BK163.out)) : gb165 ≠ gb163)); have n17_ := Aside0.mk ((by rw [hg]; exact Nat.ne_of_lt (IsS102.lt (show IsS102 w0 _ g x1000_2 x1001_2 x1002_2 from by repeat (first | (with_reducible first | exact HI0.out | apply IsS102.alloc | apply IsS102.drewN | apply IsS102.drew | apply IsS102.set_0 | apply IsS102.set_1 | apply IsS102.set_2 | refine IsS102.far ?_ NB0_158.out _ | refine IsS102.far ?_ NB0_163.out _) | exact HI0.out))) : g ≠ gb165)); have n18_ := Aside0.mk ((by rw [hg]; exact Nat.ne_of_gt (IsS102.lt (show IsS102 w0 _ g x1000_2 x1001_2 x1002_2 from by repeat (first | (with_reducible first | exact HI0.out | apply IsS102.alloc | apply IsS102.drewN | apply IsS102.drew | apply IsS102.set_0 | apply IsS102.set_1 | apply IsS102.set_2 | refine IsS102.far ?_ NB0_158.out _ | refine IsS102.far ?_ NB0_163.out _) | exact HI0.out))) : gb165 ≠ g)); clear HO_1; clear HO_2; clear HO_24; clear HO_159002; clear HO_164000; clear BK158; clear BK163; clear HI0; clear HK; clear HB; have HO_1 := n0_; have HO_2 := n1_; have HO_24 := n2_; have HO_159002 := n3_; have HO_164000 := n4_; have BK158 := n5_; have BK163 := n6_; have HI0 := n7_; have HK := n8_; have HB := n9_; have BK165 := n10_; have GW165 := n11_; have GE165 := n12_; have NB158_165 := n13_; have NB165_158 := n14_; have NB163_165 := n15_; have NB165_163 := n16_; have NB0_165 := n17_; have NB165_0 := n18_; clear n0_ n1_ n2_ n3_ n4_ n5_ n6_ n7_ n8_ n9_ n10_ n11_ n12_ n13_ n14_ n15_ n16_ n17_ n18_; clear hb hbox hg; have hnb20 := NB165_158.out; have hnc20 := NB158_165.out; have hnb21 := NB165_163.out; have hnc21 := NB163_165.out; have hnb22 := NB165_0.out; have hnc22 := NB0_165.out; have hcz23_0 : w19.cell? ⟨gb165, 0, none⟩ = some (.int .i64 0) := (blk_cell BK165.out 0).trans rfl; have hcz23_1 : w19.cell? ⟨gb165, 1, none⟩ = some (.int .i64 0) := (blk_cell BK165.out 1).trans rfl; have hcz23_2 : w19.cell? ⟨gb165, 2, none⟩ = some (.int .i64 0) := (blk_cell BK165.out 2).trans rfl; have hfz23_0 := blk_frozen BK165.out 0; have hfz23_1 := blk_frozen BK165.out 1; have hfz23_2 := blk_frozen BK165.out 2))
            have n0_ : Aside0 (Kd.V (Kd.slice 36 k36) 38 (((w19.setCell ⟨gb165, 0, none⟩ (.int .i64 ((rd_T36 (rd_L8 l1 x26_1) x38_2).f0))).setCell ⟨gb165, 1, none⟩ (.int .i64 ((rd_T36 (rd_L8 l1 x26_1) x38_2).f1))).setCell ⟨gb165, 2, none⟩ (.int .i64 ((rd_T36 (rd_L8 l1 x26_1) x38_2).f2))) w.heap.size (fun k_ => ((P1_ k_ ∨ P2_ k_) ∨ w.heap.size ≤ k_) ∧ some k_ ≠ (u159002 : Value).ownBlock ∧ some k_ ≠ (u164000 : Value).ownBlock ∧ k_ ≠ gb158 ∧ k_ ≠ gb163 ∧ k_ ≠ g ∧ k_ ≠ gb165) (.slice (some ad159) l1.length c1) l1) := ⟨by (with_reducible repeat (first | apply Kd.V_alloc | apply Kd.V_drewN | apply Kd.V_drew)); exact Kd.V_mono (Kd.V_far (p := ⟨gb165, 2, none⟩) (Kd.V_far (p := ⟨gb165, 1, none⟩) (Kd.V_far (p := ⟨gb165, 0, none⟩) (Kd.V_mono HO_1.out (fun k_ hk => (⟨hk, hk.2⟩ : _ ∧ k_ ≠ gb165))) (fun _ hk => hk.2) (.int .i64 ((rd_T36 (rd_L8 l1 x26_1) x38_2).f0))) (fun _ hk => hk.2) (.int .i64 ((rd_T36 (rd_L8 l1 x26_1) x38_2).f1))) (fun _ hk => hk.2) (.int .i64 ((rd_T36 (rd_L8 l1 x26_1) x38_2).f2))) (fun _ hk => ⟨hk.1.1.1, ⟨hk.1.1.2.1, ⟨hk.1.1.2.2.1, ⟨hk.1.1.2.2.2.1, ⟨hk.1.1.2.2.2.2.1, ⟨hk.1.1.2.2.2.2.2, hk.1.2⟩⟩⟩⟩⟩⟩)⟩
            have n1_ : Aside0 (Kd.V k41 41 (((w19.setCell ⟨gb165, 0, none⟩ (.int .i64 ((rd_T36 (rd_L8 l1 x26_1) x38_2).f0))).setCell ⟨gb165, 1, none⟩ (.int .i64 ((rd_T36 (rd_L8 l1 x26_1) x38_2).f1))).setCell ⟨gb165, 2, none⟩ (.int .i64 ((rd_T36 (rd_L8 l1 x26_1) x38_2).f2))) w.heap.size (fun k_ => ((P1_ k_ ∨ P2_ k_) ∨ w.heap.size ≤ k_) ∧ some k_ ≠ (u159002 : Value).ownBlock ∧ some k_ ≠ (u164000 : Value).ownBlock ∧ k_ ≠ gb158 ∧ k_ ≠ gb163 ∧ k_ ≠ g ∧ k_ ≠ gb165) (.slice A2 l2.length c2) l2) := ⟨by (with_reducible repeat (first | apply Kd.V_alloc | apply Kd.V_drewN | apply Kd.V_drew)); exact Kd.V_mono (Kd.V_far (p := ⟨gb165, 2, none⟩) (Kd.V_far (p := ⟨gb165, 1, none⟩) (Kd.V_far (p := ⟨gb165, 0, none⟩) (Kd.V_mono HO_2.out (fun k_ hk => (⟨hk, hk.2⟩ : _ ∧ k_ ≠ gb165))) (fun _ hk => hk.2) (.int .i64 ((rd_T36 (rd_L8 l1 x26_1) x38_2).f0))) (fun _ hk => hk.2) (.int .i64 ((rd_T36 (rd_L8 l1 x26_1) x38_2).f1))) (fun _ hk => hk.2) (.int .i64 ((rd_T36 (rd_L8 l1 x26_1) x38_2).f2))) (fun _ hk => ⟨hk.1.1.1, ⟨hk.1.1.2.1, ⟨hk.1.1.2.2.1, ⟨hk.1.1.2.2.2.1, ⟨hk.1.1.2.2.2.2.1, ⟨hk.1.1.2.2.2.2.2, hk.1.2⟩⟩⟩⟩⟩⟩)⟩
            have n2_ : Aside0 (Kd.V (Kd.slice 36 k36) 38 (((w19.setCell ⟨gb165, 0, none⟩ (.int .i64 ((rd_T36 (rd_L8 l1 x26_1) x38_2).f0))).setCell ⟨gb165, 1, none⟩ (.int .i64 ((rd_T36 (rd_L8 l1 x26_1) x38_2).f1))).setCell ⟨gb165, 2, none⟩ (.int .i64 ((rd_T36 (rd_L8 l1 x26_1) x38_2).f2))) w.heap.size (fun k_ => ((P1_ k_ ∨ P2_ k_) ∨ w.heap.size ≤ k_) ∧ some k_ ≠ (u159002 : Value).ownBlock ∧ some k_ ≠ (u164000 : Value).ownBlock ∧ k_ ≠ gb158 ∧ k_ ≠ gb163 ∧ k_ ≠ g ∧ k_ ≠ gb165) (.slice (some ad159) l1.length c1) l1) := ⟨by (with_reducible repeat (first | apply Kd.V_alloc | apply Kd.V_drewN | apply Kd.V_drew)); exact Kd.V_mono (Kd.V_far (p := ⟨gb165, 2, none⟩) (Kd.V_far (p := ⟨gb165, 1, none⟩) (Kd.V_far (p := ⟨gb165, 0, none⟩) (Kd.V_mono HO_24.out (fun k_ hk => (⟨hk, hk.2⟩ : _ ∧ k_ ≠ gb165))) (fun _ hk => hk.2) (.int .i64 ((rd_T36 (rd_L8 l1 x26_1) x38_2).f0))) (fun _ hk => hk.2) (.int .i64 ((rd_T36 (rd_L8 l1 x26_1) x38_2).f1))) (fun _ hk => hk.2) (.int .i64 ((rd_T36 (rd_L8 l1 x26_1) x38_2).f2))) (fun _ hk => ⟨hk.1.1.1, ⟨hk.1.1.2.1, ⟨hk.1.1.2.2.1, ⟨hk.1.1.2.2.2.1, ⟨hk.1.1.2.2.2.2.1, ⟨hk.1.1.2.2.2.2.2, hk.1.2⟩⟩⟩⟩⟩⟩)⟩
            have n3_ : Aside0 (Kd.S k182 182 (((w19.setCell ⟨gb165, 0, none⟩ (.int .i64 ((rd_T36 (rd_L8 l1 x26_1) x38_2).f0))).setCell ⟨gb165, 1, none⟩ (.int .i64 ((rd_T36 (rd_L8 l1 x26_1) x38_2).f1))).setCell ⟨gb165, 2, none⟩ (.int .i64 ((rd_T36 (rd_L8 l1 x26_1) x38_2).f2))) w.heap.size (fun k_ => (w.heap.size ≤ k_) ∧ some k_ ≠ (u164000 : Value).ownBlock ∧ k_ ≠ gb163) u159002 x159002_1) := ⟨by (with_reducible repeat (first | apply Kd.S_alloc | apply Kd.S_drewN | apply Kd.S_drew)); exact Kd.S_mono (Kd.S_far (p := ⟨gb165, 2, none⟩) (Kd.S_far (p := ⟨gb165, 1, none⟩) (Kd.S_far (p := ⟨gb165, 0, none⟩) (Kd.S_types HO_159002.out BK165.out (by decide)) (fun _ hk => hk.2) (.int .i64 ((rd_T36 (rd_L8 l1 x26_1) x38_2).f0))) (fun _ hk => hk.2) (.int .i64 ((rd_T36 (rd_L8 l1 x26_1) x38_2).f1))) (fun _ hk => hk.2) (.int .i64 ((rd_T36 (rd_L8 l1 x26_1) x38_2).f2))) (fun _ hk => ⟨hk.1.1, ⟨hk.1.2.1, hk.1.2.2⟩⟩)⟩
            have n4_ : Aside0 (Kd.R k184 184 (((w19.setCell ⟨gb165, 0, none⟩ (.int .i64 ((rd_T36 (rd_L8 l1 x26_1) x38_2).f0))).setCell ⟨gb165, 1, none⟩ (.int .i64 ((rd_T36 (rd_L8 l1 x26_1) x38_2).f1))).setCell ⟨gb165, 2, none⟩ (.int .i64 ((rd_T36 (rd_L8 l1 x26_1) x38_2).f2))) w.heap.size (fun k_ => (w.heap.size ≤ k_)) u164000 x164000_2) := ⟨by (with_reducible repeat (first | apply Kd.R_alloc | apply Kd.R_drewN | apply Kd.R_drew)); exact Kd.R_mono (Kd.R_far (p := ⟨gb165, 2, none⟩) (Kd.R_far (p := ⟨gb165, 1, none⟩) (Kd.R_far (p := ⟨gb165, 0, none⟩) (Kd.R_types HO_164000.out BK165.out (by decide)) (fun _ hk => hk.2) (.int .i64 ((rd_T36 (rd_L8 l1 x26_1) x38_2).f0))) (fun _ hk => hk.2) (.int .i64 ((rd_T36 (rd_L8 l1 x26_1) x38_2).f1))) (fun _ hk => hk.2) (.int .i64 ((rd_T36 (rd_L8 l1 x26_1) x38_2).f2))) (fun _ hk => hk.1)⟩
            have n5_ : Aside0 ((((w19.setCell ⟨gb165, 0, none⟩ (.int .i64 ((rd_T36 (rd_L8 l1 x26_1) x38_2).f0))).setCell ⟨gb165, 1, none⟩ (.int .i64 ((rd_T36 (rd_L8 l1 x26_1) x38_2).f1))).setCell ⟨gb165, 2, none⟩ (.int .i64 ((rd_T36 (rd_L8 l1 x26_1) x38_2).f2))).heap[gb158]? = some (.cells #[.int .u16 0, .int .u16 0, u159002, .slice none 0 0] 109 (0, 0))) := ⟨by (with_reducible repeat (first | refine b1_ ?_ _ | refine b2_ ?_ | refine b3_ ?_ _)); refine blk_far ?_ NB158_165.out _; (with_reducible repeat (first | refine b1_ ?_ _ | refine b2_ ?_ | refine b3_ ?_ _)); refine blk_far ?_ NB158_165.out _; (with_reducible repeat (first | refine b1_ ?_ _ | refine b2_ ?_ | refine b3_ ?_ _)); refine blk_far ?_ NB158_165.out _; (with_reducible repeat (first | refine b1_ ?_ _ | refine b2_ ?_ | refine b3_ ?_ _)); exact BK158.out⟩
            have n6_ : Aside0 ((((w19.setCell ⟨gb165, 0, none⟩ (.int .i64 ((rd_T36 (rd_L8 l1 x26_1) x38_2).f0))).setCell ⟨gb165, 1, none⟩ (.int .i64 ((rd_T36 (rd_L8 l1 x26_1) x38_2).f1))).setCell ⟨gb165, 2, none⟩ (.int .i64 ((rd_T36 (rd_L8 l1 x26_1) x38_2).f2))).heap[gb163]? = some (.cells #[u164000] 182 (0, 0))) := ⟨by (with_reducible repeat (first | refine b1_ ?_ _ | refine b2_ ?_ | refine b3_ ?_ _)); refine blk_far ?_ NB163_165.out _; (with_reducible repeat (first | refine b1_ ?_ _ | refine b2_ ?_ | refine b3_ ?_ _)); refine blk_far ?_ NB163_165.out _; (with_reducible repeat (first | refine b1_ ?_ _ | refine b2_ ?_ | refine b3_ ?_ _)); refine blk_far ?_ NB163_165.out _; (with_reducible repeat (first | refine b1_ ?_ _ | refine b2_ ?_ | refine b3_ ?_ _)); exact BK163.out⟩
            have n7_ : Aside0 ((((w19.setCell ⟨gb165, 0, none⟩ (.int .i64 ((rd_T36 (rd_L8 l1 x26_1) x38_2).f0))).setCell ⟨gb165, 1, none⟩ (.int .i64 ((rd_T36 (rd_L8 l1 x26_1) x38_2).f1))).setCell ⟨gb165, 2, none⟩ (.int .i64 ((rd_T36 (rd_L8 l1 x26_1) x38_2).f2))).heap[gb165]? = some (.cells #[.int .i64 ((rd_T36 (rd_L8 l1 x26_1) x38_2).f0), .int .i64 ((rd_T36 (rd_L8 l1 x26_1) x38_2).f1), .int .i64 ((rd_T36 (rd_L8 l1 x26_1) x38_2).f2)] 36 (0, 0))) := ⟨by (with_reducible repeat (first | refine b1_ ?_ _ | refine b2_ ?_ | refine b3_ ?_ _)); refine blk_put (cs := #[.int .i64 ((rd_T36 (rd_L8 l1 x26_1) x38_2).f0), .int .i64 ((rd_T36 (rd_L8 l1 x26_1) x38_2).f1), .int .i64 0]) ?_ 2 _ rfl; (with_reducible repeat (first | refine b1_ ?_ _ | refine b2_ ?_ | refine b3_ ?_ _)); refine blk_put (cs := #[.int .i64 ((rd_T36 (rd_L8 l1 x26_1) x38_2).f0), .int .i64 0, .int .i64 0]) ?_ 1 _ rfl; (with_reducible repeat (first | refine b1_ ?_ _ | refine b2_ ?_ | refine b3_ ?_ _)); refine blk_put (cs := #[.int .i64 0, .int .i64 0, .int .i64 0]) ?_ 0 _ rfl; (with_reducible repeat (first | refine b1_ ?_ _ | refine b2_ ?_ | refine b3_ ?_ _)); exact BK165.out⟩
            have n8_ : Aside0 (IsS102 w0 (((w19.setCell ⟨gb165, 0, none⟩ (.int .i64 ((rd_T36 (rd_L8 l1 x26_1) x38_2).f0))).setCell ⟨gb165, 1, none⟩ (.int .i64 ((rd_T36 (rd_L8 l1 x26_1) x38_2).f1))).setCell ⟨gb165, 2, none⟩ (.int .i64 ((rd_T36 (rd_L8 l1 x26_1) x38_2).f2))) g x1000_2 x1001_2 x1002_2) := ⟨by repeat (first | (with_reducible first | exact HI0.out | apply IsS102.alloc | apply IsS102.drewN | apply IsS102.drew | apply IsS102.set_0 | apply IsS102.set_1 | apply IsS102.set_2 | refine IsS102.far ?_ NB0_158.out _ | refine IsS102.far ?_ NB0_163.out _ | refine IsS102.far ?_ NB0_165.out _) | exact HI0.out)⟩
            have n9_ : Aside0 (KeepBut w (((w19.setCell ⟨gb165, 0, none⟩ (.int .i64 ((rd_T36 (rd_L8 l1 x26_1) x38_2).f0))).setCell ⟨gb165, 1, none⟩ (.int .i64 ((rd_T36 (rd_L8 l1 x26_1) x38_2).f1))).setCell ⟨gb165, 2, none⟩ (.int .i64 ((rd_T36 (rd_L8 l1 x26_1) x38_2).f2))) g none) := ⟨by repeat (first | (with_reducible first | exact HK.out | apply KeepBut.set_ | apply keep_drewN | apply keep_drew | apply keep_alloc | refine keep_far ?_ GW158.out _ | refine keep_far ?_ GW163.out _ | refine keep_far ?_ GW165.out _) | exact HK.out)⟩
            have n10_ : Aside0 (Below w0.heap.size w0 (((w19.setCell ⟨gb165, 0, none⟩ (.int .i64 ((rd_T36 (rd_L8 l1 x26_1) x38_2).f0))).setCell ⟨gb165, 1, none⟩ (.int .i64 ((rd_T36 (rd_L8 l1 x26_1) x38_2).f1))).setCell ⟨gb165, 2, none⟩ (.int .i64 ((rd_T36 (rd_L8 l1 x26_1) x38_2).f2)))) := ⟨by repeat (first | (with_reducible first | exact HB.out | apply below_alloc | apply pw_below_drewN | apply below_drew1 | refine below_set ?_ (IsS102.ge HI0.out) | refine below_set ?_ GE158.out | refine below_set ?_ GE163.out | refine below_set ?_ GE165.out) | exact HB.out)⟩
            (try clear HO_1)
            (try clear HO_2)
            (try clear HO_24)
            (try clear HO_159002)
            (try clear HO_164000)
            (try clear BK158)
            (try clear BK163)
            (try clear BK165)
            (try clear HI0)
            (try clear HK)
            (try clear HB)
            generalize (((w19.setCell ⟨gb165, 0, none⟩ (.int .i64 ((rd_T36 (rd_L8 l1 x26_1) x38_2).f0))).setCell ⟨gb165, 1, none⟩ (.int .i64 ((rd_T36 (rd_L8 l1 x26_1) x38_2).f1))).setCell ⟨gb165, 2, none⟩ (.int .i64 ((rd_T36 (rd_L8 l1 x26_1) x38_2).f2))) = w24 at n0_ n1_ n2_ n3_ n4_ n5_ n6_ n7_ n8_ n9_ n10_ ⊢
            have HO_1 := n0_
            have HO_2 := n1_
            have HO_24 := n2_
            have HO_159002 := n3_
            have HO_164000 := n4_
            have BK158 := n5_
            have BK163 := n6_
            have BK165 := n7_
            have HI0 := n8_
            have HK := n9_
            have HB := n10_
            clear n0_ n1_ n2_ n3_ n4_ n5_ n6_ n7_ n8_ n9_ n10_
            have n0_ := Aside0.mk (Kd.V_drew HO_1.out)
            have n1_ := Aside0.mk (Kd.V_drew HO_2.out)
            have n2_ := Aside0.mk (Kd.V_drew HO_24.out)
            have n3_ := Aside0.mk (Kd.S_drew HO_159002.out)
            have n4_ := Aside0.mk (Kd.R_drew HO_164000.out)
            have n5_ := Aside0.mk (blk_drew BK158.out)
            have n6_ := Aside0.mk (blk_drew BK163.out)
            have n7_ := Aside0.mk (blk_drew BK165.out)
            have n8_ := Aside0.mk (IsS102.drew HI0.out)
            have n9_ := Aside0.mk (keep_drew HK.out)
            have n10_ := Aside0.mk (below_drew1 HB.out)
            clear HO_1
            clear HO_2
            clear HO_24
            clear HO_159002
            clear HO_164000
            clear BK158
            clear BK163
            clear BK165
            clear HI0
            clear HK
            clear HB
            have HO_1 := n0_
            have HO_2 := n1_
            have HO_24 := n2_
            have HO_159002 := n3_
            have HO_164000 := n4_
            have BK158 := n5_
            have BK163 := n6_
            have BK165 := n7_
            have HI0 := n8_
            have HK := n9_
            have HB := n10_
            clear n0_ n1_ n2_ n3_ n4_ n5_ n6_ n7_ n8_ n9_ n10_
            refine start_ (n := 19) (S := fun w' => w'.cell? ⟨gb163, 0, none⟩ = some (u164000) ∧ w'.cell? ⟨gb165, 0, none⟩ = some (.int .i64 ((rd_T36 (rd_L8 l1 x26_1) x38_2).f0)) ∧ w'.cell? ⟨gb165, 1, none⟩ = some (.int .i64 ((rd_T36 (rd_L8 l1 x26_1) x38_2).f1)) ∧ w'.cell? ⟨gb165, 2, none⟩ = some (.int .i64 ((rd_T36 (rd_L8 l1 x26_1) x38_2).f2))) (ds := [18]) #[ff,ff,ff,ff,ff,ff,ff,ff,ff,ff,ff,ff,ff,ff,ff,ff,ff,ff,ff] (by kernel_rfl) rfl rfl ⟨(blk_cell BK163.out 0).trans rfl, (blk_cell BK165.out 0).trans rfl, (blk_cell BK165.out 1).trans rfl, (blk_cell BK165.out 2).trans rfl⟩ (fun hHeld => ?_); refine with_tabW impl_builder_store.tab9 impl_builder_store.bits9 (fun HT_ HW_ => ?_)
            generalize w24.drew = w25 at HO_1 HO_2 HO_24 HO_159002 HO_164000 BK158 BK163 BK165 HI0 HK HB hHeld ⊢
            refine pure_ (i := 0) (N := some 42) (v := ?_) (a' := ?_) #[tt,ff,ff,ff,ff,ff,ff,ff,ff,ff,ff,ff,ff,ff,ff,ff,ff,ff,ff] rfl rfl (any_of HT_.out (by kernel_rfl)) (fun _ _ _ h => h) (Or.inl ⟨by rfl, ?_⟩) ?_ ?_
            rotate_left
            ·intro w'
             go_simp
             with_reducible rfl
            rotate_left
            ·simp only [Act.put, L1_, L2_, L3_, i64_w, i32_w]
             rfl
            refine pure_ (i := 2) (N := some 44) (v := ?_) (a' := ?_) #[tt,ff,tt,ff,ff,ff,ff,ff,ff,ff,ff,ff,ff,ff,ff,ff,ff,ff,ff] rfl rfl (any_of HT_.out (by kernel_rfl)) (fun _ _ _ h => h) (Or.inl ⟨by rfl, ?_⟩) ?_ ?_
            rotate_left
            ·intro w'
             go_simp
             with_reducible rfl
            rotate_left
            ·simp only [Act.put, L1_, L2_, L3_, i64_w, i32_w]
             rfl
            refine pure_ (i := 3) (N := some 45) (v := ?_) (a' := ?_) #[tt,ff,tt,tt,ff,ff,ff,ff,ff,ff,ff,ff,ff,ff,ff,ff,ff,ff,ff] rfl rfl (any_of HT_.out (by kernel_rfl)) (fun _ _ _ h => h) (Or.inl ⟨by rfl, ?_⟩) ?_ ?_
            rotate_left
            ·intro w'
             go_simp
             with_reducible rfl
            rotate_left
            ·simp only [Act.put, L1_, L2_, L3_, i64_w, i32_w]
             rfl
            refine pure_ (i := 6) (N := some 48) (v := ?_) (a' := ?_) #[tt,ff,tt,tt,ff,ff,tt,ff,ff,ff,ff,ff,ff,ff,ff,ff,ff,ff,ff] rfl rfl (any_of HT_.out (by kernel_rfl)) (fun _ _ _ h => h) (Or.inl ⟨by rfl, ?_⟩) ?_ ?_
            rotate_left
            ·intro w'
             go_simp
             with_reducible rfl
            rotate_left
            ·simp only [Act.put, L1_, L2_, L3_, i64_w, i32_w]
             rfl
            refine pure_ (i := 7) (N := some 49) (v := ?_) (a' := ?_) #[tt,ff,tt,tt,ff,ff,tt,tt,ff,ff,ff,ff,ff,ff,ff,ff,ff,ff,ff] rfl rfl (any_of HT_.out (by kernel_rfl)) (fun _ _ _ h => h) (Or.inl ⟨by rfl, ?_⟩) ?_ ?_
            rotate_left
            ·intro w'
             go_simp
             with_reducible rfl
            rotate_left
            ·simp only [Act.put, L1_, L2_, L3_, i64_w, i32_w]
             rfl
            refine pure_ (i := 10) (N := some 52) (v := ?_) (a' := ?_) #[tt,ff,tt,tt,ff,ff,tt,tt,ff,ff,tt,ff,ff,ff,ff,ff,ff,ff,ff] rfl rfl (any_of HT_.out (by kernel_rfl)) (fun _ _ _ h => h) (Or.inl ⟨by rfl, ?_⟩) ?_ ?_
            rotate_left
            ·intro w'
             go_simp
             with_reducible rfl
            rotate_left
            ·simp only [Act.put, L1_, L2_, L3_, i64_w, i32_w]
             rfl
            refine pure_ (i := 11) (N := some 53) (v := ?_) (a' := ?_) #[tt,ff,tt,tt,ff,ff,tt,tt,ff,ff,tt,tt,ff,ff,ff,ff,ff,ff,ff] rfl rfl (any_of HT_.out (by kernel_rfl)) (fun _ _ _ h => h) (Or.inl ⟨by rfl, ?_⟩) ?_ ?_
            rotate_left
            ·intro w'
             go_simp
             with_reducible rfl
            rotate_left
            ·simp only [Act.put, L1_, L2_, L3_, i64_w, i32_w]
             rfl
            refine take_ (i := 1) (N := some 43) (v := ?_) (a' := ?_) #[tt,tt,tt,tt,ff,ff,tt,tt,ff,ff,tt,tt,ff,ff,ff,ff,ff,ff,ff] rfl rfl (take_ofW HT_.out HW_.out (by kernel_rfl)) (fun _ _ _ h => h) (Or.inl ⟨by rfl, ?_⟩) hHeld ?_ ?_
            rotate_left
            ·rintro w' ⟨s0, s1, s2, s3⟩
             go_simp
             with_reducible rfl
            rotate_left
            ·simp only [Act.put, L1_, L2_, L3_, i64_w, i32_w]
             rfl
            refine take_ (i := 4) (N := some 46) (v := ?_) (a' := ?_) #[tt,tt,tt,tt,tt,ff,tt,tt,ff,ff,tt,tt,ff,ff,ff,ff,ff,ff,ff] rfl rfl (take_ofW HT_.out HW_.out (by kernel_rfl)) (fun _ _ _ h => h) (Or.inl ⟨by rfl, ?_⟩) hHeld ?_ ?_
            rotate_left
            ·rintro w' ⟨s0, s1, s2, s3⟩
             go_simp
             with_reducible rfl
            rotate_left
            ·simp only [Act.put, L1_, L2_, L3_, i64_w, i32_w]
             rfl
            refine take_ (i := 8) (N := some 50) (v := ?_) (a' := ?_) #[tt,tt,tt,tt,tt,ff,tt,tt,tt,ff,tt,tt,ff,ff,ff,ff,ff,ff,ff] rfl rfl (take_ofW HT_.out HW_.out (by kernel_rfl)) (fun _ _ _ h => h) (Or.inl ⟨by rfl, ?_⟩) hHeld ?_ ?_
            rotate_left
            ·rintro w' ⟨s0, s1, s2, s3⟩
             go_simp
             with_reducible rfl
            rotate_left
            ·simp only [Act.put, L1_, L2_, L3_, i64_w, i32_w]
             rfl
            refine take_ (i := 12) (N := some 54) (v := ?_) (a' := ?_) #[tt,tt,tt,tt,tt,ff,tt,tt,tt,ff,tt,tt,tt,ff,ff,ff,ff,ff,ff] rfl rfl (take_ofW HT_.out HW_.out (by kernel_rfl)) (fun _ _ _ h => h) (Or.inl ⟨by rfl, ?_⟩) hHeld ?_ ?_
            rotate_left
            ·rintro w' ⟨s0, s1, s2, s3⟩
             go_simp
             with_reducible rfl
            rotate_left
            ·simp only [Act.put, L1_, L2_, L3_, i64_w, i32_w]
             rfl
            refine one_ (i := 5) (N := some 47) #[tt,tt,tt,tt,tt,tt,tt,tt,tt,ff,tt,tt,tt,ff,ff,ff,ff,ff,ff] rfl rfl (one_of HT_.out (by kernel_rfl)) (by decide) (fun K hK => ?_)
            refine goes_ Try.func51 (by kernel_rfl) rfl #[.pointer (some ⟨g, 0, none⟩), .int .i64 ((rd_T36 (rd_L8 l1 x26_1) x38_2).f0)] (by rfl) rfl rfl (by (try simp only [List.map_toArray, List.map_cons, List.map_nil]); first | done | rfl | (simp only [List.length_drop, List.length_take]; rfl)) ?_
            with_reducible refine (impl_builder_signed.calls g x1000_2 x1001_2 x1002_2 ((rd_T36 (rd_L8 l1 x26_1) x38_2).f0) t166 t167 t168 t169 w0 _ ?side1 ?side2 A15.out).mono ?_
            (case side1 => repeat (first | (with_reducible first | exact HI0.out | apply IsS102.alloc | apply IsS102.drewN | apply IsS102.drew | apply IsS102.set_0 | apply IsS102.set_1 | apply IsS102.set_2 | refine IsS102.far ?_ NB0_158.out _ | refine IsS102.far ?_ NB0_163.out _ | refine IsS102.far ?_ NB0_165.out _) | exact HI0.out))
            (case side2 => repeat (first | (with_reducible first | exact HB.out | apply below_alloc | apply pw_below_drewN | apply below_drew1 | refine below_set ?_ (IsS102.ge HI0.out) | refine below_set ?_ GE158.out | refine below_set ?_ GE163.out | refine below_set ?_ GE165.out) | exact HB.out))
            rintro e w26 ⟨rfl, hi, hb, hk⟩
            refine ⟨_, rfl, ?_⟩
            have n0_ := Aside0.mk (Kd.V_mono (Kd.V_keep (Kd.V_mono (ok := fun k_ => ((((P1_ k_ ∨ P2_ k_) ∨ w.heap.size ≤ k_)) ∧ (some k_ ≠ (u159002 : Value).ownBlock ∧ (some k_ ≠ (u164000 : Value).ownBlock ∧ (k_ ≠ gb158 ∧ (k_ ≠ gb163 ∧ (k_ ≠ g ∧ k_ ≠ gb165))))))) (by (with_reducible repeat (first | apply Kd.V_alloc | apply Kd.V_drewN | apply Kd.V_drew)); exact HO_1.out) (fun k_ hk_ => (⟨hk_, hk_.2.2.2.2.2.1⟩ : _ ∧ k_ ≠ g))) hk (fun _ h => h.2)) (fun _ h => h.1))
            have n1_ := Aside0.mk (Kd.V_mono (Kd.V_keep (Kd.V_mono (ok := fun k_ => ((((P1_ k_ ∨ P2_ k_) ∨ w.heap.size ≤ k_)) ∧ (some k_ ≠ (u159002 : Value).ownBlock ∧ (some k_ ≠ (u164000 : Value).ownBlock ∧ (k_ ≠ gb158 ∧ (k_ ≠ gb163 ∧ (k_ ≠ g ∧ k_ ≠ gb165))))))) (by (with_reducible repeat (first | apply Kd.V_alloc | apply Kd.V_drewN | apply Kd.V_drew)); exact HO_2.out) (fun k_ hk_ => (⟨hk_, hk_.2.2.2.2.2.1⟩ : _ ∧ k_ ≠ g))) hk (fun _ h => h.2)) (fun _ h => h.1))
            have n2_ := Aside0.mk (Kd.V_mono (Kd.V_keep (Kd.V_mono (ok := fun k_ => ((((P1_ k_ ∨ P2_ k_) ∨ w.heap.size ≤ k_)) ∧ (some k_ ≠ (u159002 : Value).ownBlock ∧ (some k_ ≠ (u164000 : Value).ownBlock ∧ (k_ ≠ gb158 ∧ (k_ ≠ gb163 ∧ (k_ ≠ g ∧ k_ ≠ gb165))))))) (by (with_reducible repeat (first | apply Kd.V_alloc | apply Kd.V_drewN | apply Kd.V_drew)); exact HO_24.out) (fun k_ hk_ => (⟨hk_, hk_.2.2.2.2.2.1⟩ : _ ∧ k_ ≠ g))) hk (fun _ h => h.2)) (fun _ h => h.1))
            have n3_ := Aside0.mk (Kd.S_mono (Kd.S_keep (IsS102.apartS (show IsS102 w0 _ g x1000_2 x1001_2 x1002_2 from by repeat (first | (with_reducible first | exact HI0.out | apply IsS102.alloc | apply IsS102.drewN | apply IsS102.drew | apply IsS102.set_0 | apply IsS102.set_1 | apply IsS102.set_2 | refine IsS102.far ?_ NB0_158.out _ | refine IsS102.far ?_ NB0_163.out _ | refine IsS102.far ?_ NB0_165.out _) | exact HI0.out)) (by (with_reducible repeat (first | apply Kd.S_alloc | apply Kd.S_drewN | apply Kd.S_drew)); exact HO_159002.out) (by decide)) hk (fun _ h => h.2)) (fun _ h => h.1))
            have n4_ := Aside0.mk (Kd.R_mono (Kd.R_keep (IsS102.apart (show IsS102 w0 _ g x1000_2 x1001_2 x1002_2 from by repeat (first | (with_reducible first | exact HI0.out | apply IsS102.alloc | apply IsS102.drewN | apply IsS102.drew | apply IsS102.set_0 | apply IsS102.set_1 | apply IsS102.set_2 | refine IsS102.far ?_ NB0_158.out _ | refine IsS102.far ?_ NB0_163.out _ | refine IsS102.far ?_ NB0_165.out _) | exact HI0.out)) (by (with_reducible repeat (first | apply Kd.R_alloc | apply Kd.R_drewN | apply Kd.R_drew)); exact HO_164000.out) (by decide)) hk (fun _ h => h.2)) (fun _ h => h.1))
            have n5_ := Aside0.mk (KeepBut.blk hk (g' := gb158) (o := .cells #[.int .u16 0, .int .u16 0, u159002, .slice none 0 0] 109 (0, 0)) (by (with_reducible repeat (first | refine b1_ ?_ _ | refine b2_ ?_ | refine b3_ ?_ _)); exact BK158.out) NB158_0.out (by simp))
            have n6_ := Aside0.mk (KeepBut.blk hk (g' := gb163) (o := .cells #[u164000] 182 (0, 0)) (by (with_reducible repeat (first | refine b1_ ?_ _ | refine b2_ ?_ | refine b3_ ?_ _)); exact BK163.out) NB163_0.out (by simp))
            have n7_ := Aside0.mk (KeepBut.blk hk (g' := gb165) (o := .cells #[.int .i64 ((rd_T36 (rd_L8 l1 x26_1) x38_2).f0), .int .i64 ((rd_T36 (rd_L8 l1 x26_1) x38_2).f1), .int .i64 ((rd_T36 (rd_L8 l1 x26_1) x38_2).f2)] 36 (0, 0)) (by (with_reducible repeat (first | refine b1_ ?_ _ | refine b2_ ?_ | refine b3_ ?_ _)); exact BK165.out) NB165_0.out (by simp))
            have n8_ := Aside0.mk (KeepBut.trans (by repeat (first | (with_reducible first | exact HK.out | apply KeepBut.set_ | apply keep_drewN | apply keep_drew | apply keep_alloc | refine keep_far ?_ GW158.out _ | refine keep_far ?_ GW163.out _ | refine keep_far ?_ GW165.out _) | exact HK.out)) hk (.inl rfl))
            have n9_ := Aside0.mk (hb)
            have n10_ := Aside0.mk (hi)
            clear HO_1
            clear HO_2
            clear HO_24
            clear HO_159002
            clear HO_164000
            clear BK158
            clear BK163
            clear BK165
            clear HK
            clear HB
            clear HI0
            have HO_1 := n0_
            have HO_2 := n1_
            have HO_24 := n2_
            have HO_159002 := n3_
            have HO_164000 := n4_
            have BK158 := n5_
            have BK163 := n6_
            have BK165 := n7_
            have HK := n8_
            have HB := n9_
            have HI0 := n10_
            clear n0_ n1_ n2_ n3_ n4_ n5_ n6_ n7_ n8_ n9_ n10_
            (try clear hb)
            (try clear hb2)
            (try clear hk)
            (try clear hi)
            refine hK.out _ _ ⟨(blk_cell BK163.out 0).trans rfl, (blk_cell BK165.out 0).trans rfl, (blk_cell BK165.out 1).trans rfl, (blk_cell BK165.out 2).trans rfl⟩ (fun hHeld => ?_)
            clear hK K
            refine norm_ (a' := ?_) ?_ ?_
            rotate_left
            ·show Act.put _ (some 47) _ = _
             simp only [Act.put, L1_, L2_, L3_, i64_w, i32_w]
             rfl
            refine one_ (i := 9) (N := some 51) #[tt,tt,tt,tt,tt,tt,tt,tt,tt,tt,tt,tt,tt,ff,ff,ff,ff,ff,ff] rfl rfl (one_of HT_.out (by kernel_rfl)) (by decide) (fun K hK => ?_)
            refine goes_ Try.func51 (by kernel_rfl) rfl #[.pointer (some ⟨g, 0, none⟩), .int .i64 ((rd_T36 (rd_L8 l1 x26_1) x38_2).f1)] (by rfl) rfl rfl (by (try simp only [List.map_toArray, List.map_cons, List.map_nil]); first | done | rfl | (simp only [List.length_drop, List.length_take]; rfl)) ?_
            with_reducible refine (impl_builder_signed.calls g t167 t168 t169 ((rd_T36 (rd_L8 l1 x26_1) x38_2).f1) t170 t171 t172 t173 w0 _ ?side1 ?side2 A16.out).mono ?_
            (case side1 => repeat (first | (with_reducible first | exact HI0.out | apply IsS102.alloc | apply IsS102.drewN | apply IsS102.drew | apply IsS102.set_0 | apply IsS102.set_1 | apply IsS102.set_2 | refine IsS102.far ?_ NB0_158.out _ | refine IsS102.far ?_ NB0_163.out _ | refine IsS102.far ?_ NB0_165.out _) | exact HI0.out))
            (case side2 => repeat (first | (with_reducible first | exact HB.out | apply below_alloc | apply pw_below_drewN | apply below_drew1 | refine below_set ?_ (IsS102.ge HI0.out) | refine below_set ?_ GE158.out | refine below_set ?_ GE163.out | refine below_set ?_ GE165.out) | exact HB.out))
            rintro e w27 ⟨rfl, hi, hb, hk⟩
            refine ⟨_, rfl, ?_⟩
            have n0_ := Aside0.mk (Kd.V_mono (Kd.V_keep (Kd.V_mono (ok := fun k_ => ((((P1_ k_ ∨ P2_ k_) ∨ w.heap.size ≤ k_)) ∧ (some k_ ≠ (u159002 : Value).ownBlock ∧ (some k_ ≠ (u164000 : Value).ownBlock ∧ (k_ ≠ gb158 ∧ (k_ ≠ gb163 ∧ (k_ ≠ g ∧ k_ ≠ gb165))))))) (by (with_reducible repeat (first | apply Kd.V_alloc | apply Kd.V_drewN | apply Kd.V_drew)); exact HO_1.out) (fun k_ hk_ => (⟨hk_, hk_.2.2.2.2.2.1⟩ : _ ∧ k_ ≠ g))) hk (fun _ h => h.2)) (fun _ h => h.1))
            have n1_ := Aside0.mk (Kd.V_mono (Kd.V_keep (Kd.V_mono (ok := fun k_ => ((((P1_ k_ ∨ P2_ k_) ∨ w.heap.size ≤ k_)) ∧ (some k_ ≠ (u159002 : Value).ownBlock ∧ (some k_ ≠ (u164000 : Value).ownBlock ∧ (k_ ≠ gb158 ∧ (k_ ≠ gb163 ∧ (k_ ≠ g ∧ k_ ≠ gb165))))))) (by (with_reducible repeat (first | apply Kd.V_alloc | apply Kd.V_drewN | apply Kd.V_drew)); exact HO_2.out) (fun k_ hk_ => (⟨hk_, hk_.2.2.2.2.2.1⟩ : _ ∧ k_ ≠ g))) hk (fun _ h => h.2)) (fun _ h => h.1))
            have n2_ := Aside0.mk (Kd.V_mono (Kd.V_keep (Kd.V_mono (ok := fun k_ => ((((P1_ k_ ∨ P2_ k_) ∨ w.heap.size ≤ k_)) ∧ (some k_ ≠ (u159002 : Value).ownBlock ∧ (some k_ ≠ (u164000 : Value).ownBlock ∧ (k_ ≠ gb158 ∧ (k_ ≠ gb163 ∧ (k_ ≠ g ∧ k_ ≠ gb165))))))) (by (with_reducible repeat (first | apply Kd.V_alloc | apply Kd.V_drewN | apply Kd.V_drew)); exact HO_24.out) (fun k_ hk_ => (⟨hk_, hk_.2.2.2.2.2.1⟩ : _ ∧ k_ ≠ g))) hk (fun _ h => h.2)) (fun _ h => h.1))
            have n3_ := Aside0.mk (Kd.S_mono (Kd.S_keep (IsS102.apartS (show IsS102 w0 _ g t167 t168 t169 from by repeat (first | (with_reducible first | exact HI0.out | apply IsS102.alloc | apply IsS102.drewN | apply IsS102.drew | apply IsS102.set_0 | apply IsS102.set_1 | apply IsS102.set_2 | refine IsS102.far ?_ NB0_158.out _ | refine IsS102.far ?_ NB0_163.out _ | refine IsS102.far ?_ NB0_165.out _) | exact HI0.out)) (by (with_reducible repeat (first | apply Kd.S_alloc | apply Kd.S_drewN | apply Kd.S_drew)); exact HO_159002.out) (by decide)) hk (fun _ h => h.2)) (fun _ h => h.1))
            have n4_ := Aside0.mk (Kd.R_mono (Kd.R_keep (IsS102.apart (show IsS102 w0 _ g t167 t168 t169 from by repeat (first | (with_reducible first | exact HI0.out | apply IsS102.alloc | apply IsS102.drewN | apply IsS102.drew | apply IsS102.set_0 | apply IsS102.set_1 | apply IsS102.set_2 | refine IsS102.far ?_ NB0_158.out _ | refine IsS102.far ?_ NB0_163.out _ | refine IsS102.far ?_ NB0_165.out _) | exact HI0.out)) (by (with_reducible repeat (first | apply Kd.R_alloc | apply Kd.R_drewN | apply Kd.R_drew)); exact HO_164000.out) (by decide)) hk (fun _ h => h.2)) (fun _ h => h.1))
            have n5_ := Aside0.mk (KeepBut.blk hk (g' := gb158) (o := .cells #[.int .u16 0, .int .u16 0, u159002, .slice none 0 0] 109 (0, 0)) (by (with_reducible repeat (first | refine b1_ ?_ _ | refine b2_ ?_ | refine b3_ ?_ _)); exact BK158.out) NB158_0.out (by simp))
            have n6_ := Aside0.mk (KeepBut.blk hk (g' := gb163) (o := .cells #[u164000] 182 (0, 0)) (by (with_reducible repeat (first | refine b1_ ?_ _ | refine b2_ ?_ | refine b3_ ?_ _)); exact BK163.out) NB163_0.out (by simp))
            have n7_ := Aside0.mk (KeepBut.blk hk (g' := gb165) (o := .cells #[.int .i64 ((rd_T36 (rd_L8 l1 x26_1) x38_2).f0), .int .i64 ((rd_T36 (rd_L8 l1 x26_1) x38_2).f1), .int .i64 ((rd_T36 (rd_L8 l1 x26_1) x38_2).f2)] 36 (0, 0)) (by (with_reducible repeat (first | refine b1_ ?_ _ | refine b2_ ?_ | refine b3_ ?_ _)); exact BK165.out) NB165_0.out (by simp))
            have n8_ := Aside0.mk (KeepBut.trans (by repeat (first | (with_reducible first | exact HK.out | apply KeepBut.set_ | apply keep_drewN | apply keep_drew | apply keep_alloc | refine keep_far ?_ GW158.out _ | refine keep_far ?_ GW163.out _ | refine keep_far ?_ GW165.out _) | exact HK.out)) hk (.inl rfl))
            have n9_ := Aside0.mk (hb)
            have n10_ := Aside0.mk (hi)
            clear HO_1
            clear HO_2
            clear HO_24
            clear HO_159002
            clear HO_164000
            clear BK158
            clear BK163
            clear BK165
            clear HK
            clear HB
            clear HI0
            have HO_1 := n0_
            have HO_2 := n1_
            have HO_24 := n2_
            have HO_159002 := n3_
            have HO_164000 := n4_
            have BK158 := n5_
            have BK163 := n6_
            have BK165 := n7_
            have HK := n8_
            have HB := n9_
            have HI0 := n10_
            clear n0_ n1_ n2_ n3_ n4_ n5_ n6_ n7_ n8_ n9_ n10_
            (try clear hb)
            (try clear hb2)
            (try clear hk)
            (try clear hi)
            refine hK.out _ _ ⟨(blk_cell BK163.out 0).trans rfl, (blk_cell BK165.out 0).trans rfl, (blk_cell BK165.out 1).trans rfl, (blk_cell BK165.out 2).trans rfl⟩ (fun hHeld => ?_)
            clear hK K
            refine norm_ (a' := ?_) ?_ ?_
            rotate_left
            ·show Act.put _ (some 51) _ = _
             simp only [Act.put, L1_, L2_, L3_, i64_w, i32_w]
             rfl
            refine one_ (i := 13) (N := some 55) #[tt,tt,tt,tt,tt,tt,tt,tt,tt,tt,tt,tt,tt,tt,ff,ff,ff,ff,ff] rfl rfl (one_of HT_.out (by kernel_rfl)) (by decide) (fun K hK => ?_)
            refine goes_ Try.func51 (by kernel_rfl) rfl #[.pointer (some ⟨g, 0, none⟩), .int .i64 ((rd_T36 (rd_L8 l1 x26_1) x38_2).f2)] (by rfl) rfl rfl (by (try simp only [List.map_toArray, List.map_cons, List.map_nil]); first | done | rfl | (simp only [List.length_drop, List.length_take]; rfl)) ?_
            with_reducible refine (impl_builder_signed.calls g t171 t172 t173 ((rd_T36 (rd_L8 l1 x26_1) x38_2).f2) t174 t175 t176 t177 w0 _ ?side1 ?side2 A17.out).mono ?_
            (case side1 => repeat (first | (with_reducible first | exact HI0.out | apply IsS102.alloc | apply IsS102.drewN | apply IsS102.drew | apply IsS102.set_0 | apply IsS102.set_1 | apply IsS102.set_2 | refine IsS102.far ?_ NB0_158.out _ | refine IsS102.far ?_ NB0_163.out _ | refine IsS102.far ?_ NB0_165.out _) | exact HI0.out))
            (case side2 => repeat (first | (with_reducible first | exact HB.out | apply below_alloc | apply pw_below_drewN | apply below_drew1 | refine below_set ?_ (IsS102.ge HI0.out) | refine below_set ?_ GE158.out | refine below_set ?_ GE163.out | refine below_set ?_ GE165.out) | exact HB.out))
            rintro e w28 ⟨rfl, hi, hb, hk⟩
            refine ⟨_, rfl, ?_⟩
            have n0_ := Aside0.mk (Kd.V_mono (Kd.V_keep (Kd.V_mono (ok := fun k_ => ((((P1_ k_ ∨ P2_ k_) ∨ w.heap.size ≤ k_)) ∧ (some k_ ≠ (u159002 : Value).ownBlock ∧ (some k_ ≠ (u164000 : Value).ownBlock ∧ (k_ ≠ gb158 ∧ (k_ ≠ gb163 ∧ (k_ ≠ g ∧ k_ ≠ gb165))))))) (by (with_reducible repeat (first | apply Kd.V_alloc | apply Kd.V_drewN | apply Kd.V_drew)); exact HO_1.out) (fun k_ hk_ => (⟨hk_, hk_.2.2.2.2.2.1⟩ : _ ∧ k_ ≠ g))) hk (fun _ h => h.2)) (fun _ h => h.1))
            have n1_ := Aside0.mk (Kd.V_mono (Kd.V_keep (Kd.V_mono (ok := fun k_ => ((((P1_ k_ ∨ P2_ k_) ∨ w.heap.size ≤ k_)) ∧ (some k_ ≠ (u159002 : Value).ownBlock ∧ (some k_ ≠ (u164000 : Value).ownBlock ∧ (k_ ≠ gb158 ∧ (k_ ≠ gb163 ∧ (k_ ≠ g ∧ k_ ≠ gb165))))))) (by (with_reducible repeat (first | apply Kd.V_alloc | apply Kd.V_drewN | apply Kd.V_drew)); exact HO_2.out) (fun k_ hk_ => (⟨hk_, hk_.2.2.2.2.2.1⟩ : _ ∧ k_ ≠ g))) hk (fun _ h => h.2)) (fun _ h => h.1))
            have n2_ := Aside0.mk (Kd.V_mono (Kd.V_keep (Kd.V_mono (ok := fun k_ => ((((P1_ k_ ∨ P2_ k_) ∨ w.heap.size ≤ k_)) ∧ (some k_ ≠ (u159002 : Value).ownBlock ∧ (some k_ ≠ (u164000 : Value).ownBlock ∧ (k_ ≠ gb158 ∧ (k_ ≠ gb163 ∧ (k_ ≠ g ∧ k_ ≠ gb165))))))) (by (with_reducible repeat (first | apply Kd.V_alloc | apply Kd.V_drewN | apply Kd.V_drew)); exact HO_24.out) (fun k_ hk_ => (⟨hk_, hk_.2.2.2.2.2.1⟩ : _ ∧ k_ ≠ g))) hk (fun _ h => h.2)) (fun _ h => h.1))
            have n3_ := Aside0.mk (Kd.S_mono (Kd.S_keep (IsS102.apartS (show IsS102 w0 _ g t171 t172 t173 from by repeat (first | (with_reducible first | exact HI0.out | apply IsS102.alloc | apply IsS102.drewN | apply IsS102.drew | apply IsS102.set_0 | apply IsS102.set_1 | apply IsS102.set_2 | refine IsS102.far ?_ NB0_158.out _ | refine IsS102.far ?_ NB0_163.out _ | refine IsS102.far ?_ NB0_165.out _) | exact HI0.out)) (by (with_reducible repeat (first | apply Kd.S_alloc | apply Kd.S_drewN | apply Kd.S_drew)); exact HO_159002.out) (by decide)) hk (fun _ h => h.2)) (fun _ h => h.1))
            have n4_ := Aside0.mk (Kd.R_mono (Kd.R_keep (IsS102.apart (show IsS102 w0 _ g t171 t172 t173 from by repeat (first | (with_reducible first | exact HI0.out | apply IsS102.alloc | apply IsS102.drewN | apply IsS102.drew | apply IsS102.set_0 | apply IsS102.set_1 | apply IsS102.set_2 | refine IsS102.far ?_ NB0_158.out _ | refine IsS102.far ?_ NB0_163.out _ | refine IsS102.far ?_ NB0_165.out _) | exact HI0.out)) (by (with_reducible repeat (first | apply Kd.R_alloc | apply Kd.R_drewN | apply Kd.R_drew)); exact HO_164000.out) (by decide)) hk (fun _ h => h.2)) (fun _ h => h.1))
            have n5_ := Aside0.mk (KeepBut.blk hk (g' := gb158) (o := .cells #[.int .u16 0, .int .u16 0, u159002, .slice none 0 0] 109 (0, 0)) (by (with_reducible repeat (first | refine b1_ ?_ _ | refine b2_ ?_ | refine b3_ ?_ _)); exact BK158.out) NB158_0.out (by simp))
            have n6_ := Aside0.mk (KeepBut.blk hk (g' := gb163) (o := .cells #[u164000] 182 (0, 0)) (by (with_reducible repeat (first | refine b1_ ?_ _ | refine b2_ ?_ | refine b3_ ?_ _)); exact BK163.out) NB163_0.out (by simp))
            have n7_ := Aside0.mk (KeepBut.blk hk (g' := gb165) (o := .cells #[.int .i64 ((rd_T36 (rd_L8 l1 x26_1) x38_2).f0), .int .i64 ((rd_T36 (rd_L8 l1 x26_1) x38_2).f1), .int .i64 ((rd_T36 (rd_L8 l1 x26_1) x38_2).f2)] 36 (0, 0)) (by (with_reducible repeat (first | refine b1_ ?_ _ | refine b2_ ?_ | refine b3_ ?_ _)); exact BK165.out) NB165_0.out (by simp))
            have n8_ := Aside0.mk (KeepBut.trans (by repeat (first | (with_reducible first | exact HK.out | apply KeepBut.set_ | apply keep_drewN | apply keep_drew | apply keep_alloc | refine keep_far ?_ GW158.out _ | refine keep_far ?_ GW163.out _ | refine keep_far ?_ GW165.out _) | exact HK.out)) hk (.inl rfl))
            have n9_ := Aside0.mk (hb)
            have n10_ := Aside0.mk (hi)
            clear HO_1
            clear HO_2
            clear HO_24
            clear HO_159002
            clear HO_164000
            clear BK158
            clear BK163
            clear BK165
            clear HK
            clear HB
            clear HI0
            have HO_1 := n0_
            have HO_2 := n1_
            have HO_24 := n2_
            have HO_159002 := n3_
            have HO_164000 := n4_
            have BK158 := n5_
            have BK163 := n6_
            have BK165 := n7_
            have HK := n8_
            have HB := n9_
            have HI0 := n10_
            clear n0_ n1_ n2_ n3_ n4_ n5_ n6_ n7_ n8_ n9_ n10_
            (try clear hb)
            (try clear hb2)
            (try clear hk)
            (try clear hi)
            refine hK.out _ _ ⟨(blk_cell BK163.out 0).trans rfl, (blk_cell BK165.out 0).trans rfl, (blk_cell BK165.out 1).trans rfl, (blk_cell BK165.out 2).trans rfl⟩ (fun hHeld => ?_)
            clear hK K
            refine norm_ (a' := ?_) ?_ ?_
            rotate_left
            ·show Act.put _ (some 55) _ = _
             simp only [Act.put, L1_, L2_, L3_, i64_w, i32_w]
             rfl
            refine pure_ (i := 14) (N := some 56) (v := ?_) (a' := ?_) #[tt,tt,tt,tt,tt,tt,tt,tt,tt,tt,tt,tt,tt,tt,tt,ff,ff,ff,ff] rfl rfl (any_of HT_.out (by kernel_rfl)) (fun _ _ _ h => h) (Or.inl ⟨by rfl, ?_⟩) ?_ ?_
            rotate_left
            ·intro w'
             go_simp
             with_reducible rfl
            rotate_left
            ·simp only [Act.put, L1_, L2_, L3_, i64_w, i32_w]
             rfl
            refine one_ (i := 15) (N := some 57) #[tt,tt,tt,tt,tt,tt,tt,tt,tt,tt,tt,tt,tt,tt,tt,tt,ff,ff,ff] rfl rfl (one_of HT_.out (by kernel_rfl)) (by decide) (fun K hK => ?_)
            refine value_ (w1 := ?_) (v := ?_) (by rfl) rfl ?_ ?_
            rotate_left 2
            ·go_simp
             constructor
             ·rfl
             ·rfl
            refine hK.out _ _ ⟨(blk_cell (blk_alloc BK163.out _) 0).trans rfl, (blk_cell (blk_alloc BK165.out _) 0).trans rfl, (blk_cell (blk_alloc BK165.out _) 1).trans rfl, (blk_cell (blk_alloc BK165.out _) 2).trans rfl⟩ (fun hHeld => ?_)
            clear hK K
            refine norm_ (a' := ?_) ?_ ?_
            rotate_left
            ·show Act.put _ (some 57) _ = _
             simp only [Act.put, L1_, L2_, L3_, i64_w, i32_w]
             rfl
            refine one_ (i := 16) (N := some 58) #[tt,tt,tt,tt,tt,tt,tt,tt,tt,tt,tt,tt,tt,tt,tt,tt,tt,ff,ff] rfl rfl (one_of HT_.out (by kernel_rfl)) (by decide) (fun K hK => ?_)
            refine Kd.R_append_step k184 w.heap.size (by rfl) (.tmp 43) (.tmp 57) 180 184 (.agg #[(.int .i16 0), (.int .i16 0), (.int .i16 0)]) 6 rfl Try.underlying180 info184 rfl (by decide) (by omega) u164000 x164000_2 (⟨t166, t170, t174⟩ : S184) [.int .i16 t166, .int .i16 t170, .int .i16 t174] (fun k_ => (w.heap.size ≤ k_)) (fun _ => False) rfl rfl ?aP (fun _ hk => hk.elim) ?aF ?aO (Below.refl _ _) ?aS ?aL ?_
            (case aP => exact k184_mkM _ _ _ (⟨t166, t170, t174⟩ : S184))
            (case aF => exact (fun k_ hk => (Nat.le_trans (keep_size (w := w) (g := g) (row := none) (by repeat (first | (with_reducible first | exact HK.out | apply KeepBut.set_ | apply keep_drewN | apply keep_drew | apply keep_alloc | refine keep_far ?_ GW158.out _ | refine keep_far ?_ GW163.out _ | refine keep_far ?_ GW165.out _) | exact HK.out))) hk)))
            (case aO => exact (by (with_reducible repeat (first | apply Kd.R_alloc | apply Kd.R_drewN | apply Kd.R_drew)); exact HO_164000.out))
            (case aS => exact (keep_size (w := w) (g := g) (row := none) (by repeat (first | (with_reducible first | exact HK.out | apply KeepBut.set_ | apply keep_drewN | apply keep_drew | apply keep_alloc | refine keep_far ?_ GW158.out _ | refine keep_far ?_ GW163.out _ | refine keep_far ?_ GW165.out _) | exact HK.out))))
            (case aL => have := LMc18.out; omega)
            intro v179 w29 ho hb hg hat
            rw [← Ny178.out] at ho
            have n0_ := Aside0.mk (Kd.V_afterv (ok := (fun k_ => ((P1_ k_ ∨ P2_ k_) ∨ w.heap.size ≤ k_) ∧ some k_ ≠ (u159002 : Value).ownBlock ∧ k_ ≠ gb158 ∧ k_ ≠ gb163 ∧ k_ ≠ g ∧ k_ ≠ gb165)) (by (with_reducible repeat (first | apply Kd.V_alloc | apply Kd.V_drewN | apply Kd.V_drew)); exact Kd.V_mono HO_1.out (fun _ hk => ⟨⟨hk.1, ⟨hk.2.1, ⟨hk.2.2.2.1, ⟨hk.2.2.2.2.1, ⟨hk.2.2.2.2.2.1, hk.2.2.2.2.2.2⟩⟩⟩⟩⟩, hk.2.2.1⟩)) hg hat)
            have n1_ := Aside0.mk (Kd.V_afterv (ok := (fun k_ => ((P1_ k_ ∨ P2_ k_) ∨ w.heap.size ≤ k_) ∧ some k_ ≠ (u159002 : Value).ownBlock ∧ k_ ≠ gb158 ∧ k_ ≠ gb163 ∧ k_ ≠ g ∧ k_ ≠ gb165)) (by (with_reducible repeat (first | apply Kd.V_alloc | apply Kd.V_drewN | apply Kd.V_drew)); exact Kd.V_mono HO_2.out (fun _ hk => ⟨⟨hk.1, ⟨hk.2.1, ⟨hk.2.2.2.1, ⟨hk.2.2.2.2.1, ⟨hk.2.2.2.2.2.1, hk.2.2.2.2.2.2⟩⟩⟩⟩⟩, hk.2.2.1⟩)) hg hat)
            have n2_ := Aside0.mk (Kd.V_afterv (ok := (fun k_ => ((P1_ k_ ∨ P2_ k_) ∨ w.heap.size ≤ k_) ∧ some k_ ≠ (u159002 : Value).ownBlock ∧ k_ ≠ gb158 ∧ k_ ≠ gb163 ∧ k_ ≠ g ∧ k_ ≠ gb165)) (by (with_reducible repeat (first | apply Kd.V_alloc | apply Kd.V_drewN | apply Kd.V_drew)); exact Kd.V_mono HO_24.out (fun _ hk => ⟨⟨hk.1, ⟨hk.2.1, ⟨hk.2.2.2.1, ⟨hk.2.2.2.2.1, ⟨hk.2.2.2.2.2.1, hk.2.2.2.2.2.2⟩⟩⟩⟩⟩, hk.2.2.1⟩)) hg hat)
            have n3_ := Aside0.mk (Kd.S_after (ok := (fun k_ => (w.heap.size ≤ k_) ∧ k_ ≠ gb163)) (by (with_reducible repeat (first | apply Kd.S_alloc | apply Kd.S_drewN | apply Kd.S_drew)); exact Kd.S_mono HO_159002.out (fun _ hk => ⟨⟨hk.1, hk.2.2⟩, hk.2.1⟩)) hg hat)
            have n4_ := Aside0.mk (blk_grown (g := gb158) (o := .cells #[.int .u16 0, .int .u16 0, u159002, .slice none 0 0] 109 (0, 0)) (by (with_reducible repeat (first | refine b1_ ?_ _ | refine b2_ ?_ | refine b3_ ?_ _)); exact BK158.out) hg (Kd.R_ne HO_164000.out BK158.out (by decide)))
            have n5_ := Aside0.mk (blk_grown (g := gb163) (o := .cells #[u164000] 182 (0, 0)) (by (with_reducible repeat (first | refine b1_ ?_ _ | refine b2_ ?_ | refine b3_ ?_ _)); exact BK163.out) hg (Kd.R_ne HO_164000.out BK163.out (by decide)))
            have n6_ := Aside0.mk (IsS102.grown (by repeat (first | (with_reducible first | exact HI0.out | apply IsS102.alloc | apply IsS102.drewN | apply IsS102.drew | apply IsS102.set_0 | apply IsS102.set_1 | apply IsS102.set_2 | refine IsS102.far ?_ NB0_158.out _ | refine IsS102.far ?_ NB0_163.out _ | refine IsS102.far ?_ NB0_165.out _) | exact HI0.out)) hg (IsS102.own_ne HI0.out HO_164000.out (by decide)))
            have n7_ := Aside0.mk (blk_grown (g := gb165) (o := .cells #[.int .i64 ((rd_T36 (rd_L8 l1 x26_1) x38_2).f0), .int .i64 ((rd_T36 (rd_L8 l1 x26_1) x38_2).f1), .int .i64 ((rd_T36 (rd_L8 l1 x26_1) x38_2).f2)] 36 (0, 0)) (by (with_reducible repeat (first | refine b1_ ?_ _ | refine b2_ ?_ | refine b3_ ?_ _)); exact BK165.out) hg (Kd.R_ne HO_164000.out BK165.out (by decide)))
            have n8_ := Aside0.mk (below_weaken (by repeat (first | (with_reducible first | exact HB.out | apply below_alloc | apply pw_below_drewN | apply below_drew1 | refine below_set ?_ (IsS102.ge HI0.out) | refine below_set ?_ GE158.out | refine below_set ?_ GE163.out | refine below_set ?_ GE165.out) | exact HB.out)) HL.out hb)
            have n9_ := Aside0.mk (KeepBut.trans (by repeat (first | (with_reducible first | exact HK.out | apply KeepBut.set_ | apply keep_drewN | apply keep_drew | apply keep_alloc | refine keep_far ?_ GW158.out _ | refine keep_far ?_ GW163.out _ | refine keep_far ?_ GW165.out _) | exact HK.out)) (KeepBut.of_grown hg g) (Kd.R_base2 HO_164000.out))
            have n10_ := Aside0.mk (ho)
            clear HO_1
            clear HO_2
            clear HO_24
            clear HO_159002
            clear BK158
            clear BK163
            clear HI0
            clear BK165
            clear HB
            clear HK
            clear HO_164000
            have HO_1 := n0_
            have HO_2 := n1_
            have HO_24 := n2_
            have HO_159002 := n3_
            have BK158 := n4_
            have BK163 := n5_
            have HI0 := n6_
            have BK165 := n7_
            have HB := n8_
            have HK := n9_
            have HO180 := n10_
            clear n0_ n1_ n2_ n3_ n4_ n5_ n6_ n7_ n8_ n9_ n10_
            clear ho hb hg hat
            obtain ⟨Ao30, co30, eo30⟩ := Kd.R_slice HO180.out
            (first | subst eo30 | (injection eo30 with f1_ f2_ f3_; have f4_ := f1_.symm; have f5_ := f3_.symm; clear f1_ f2_ f3_; subst f4_; subst f5_))
            refine hK.out _ _ ⟨(blk_cell BK163.out 0).trans rfl, (blk_cell BK165.out 0).trans rfl, (blk_cell BK165.out 1).trans rfl, (blk_cell BK165.out 2).trans rfl⟩ (fun hHeld => ?_)
            clear hK K
            refine norm_ (a' := ?_) ?_ ?_
            rotate_left
            ·show Act.put _ (some 58) _ = _
             simp only [Act.put, L1_, L2_, L3_, i64_w, i32_w]
             rfl
            refine pure_ (i := 17) (N := some 59) (v := ?_) (a' := ?_) #[tt,tt,tt,tt,tt,tt,tt,tt,tt,tt,tt,tt,tt,tt,tt,tt,tt,tt,ff] rfl rfl (any_of HT_.out (by kernel_rfl)) (fun _ _ _ h => h) (Or.inl ⟨by rfl, ?_⟩) ?_ ?_
            rotate_left
            ·intro w'
             go_simp
             with_reducible rfl
            rotate_left
            ·simp only [Act.put, L1_, L2_, L3_, i64_w, i32_w]
             rfl
            refine last_ (i := 18) (N := none) #[tt,tt,tt,tt,tt,tt,tt,tt,tt,tt,tt,tt,tt,tt,tt,tt,tt,tt,tt] rfl rfl (one_of HT_.out (by kernel_rfl)) (by decide) (fun K hK => ?_)
            have hs31 : w29.cell? ⟨gb163, 0, none⟩ = some (u164000) := (blk_cell BK163.out 0).trans rfl
            have hfs31 := blk_frozen BK163.out 0
            have hns31_0 := NB158_163.out
            have hns31_2 := NB165_163.out
            have hms31_0 := NB163_158.out
            have hms31_2 := NB163_165.out
            refine skip_ (w1 := ?_) (by rfl) rfl ?_ ?_
            rotate_left
            ·go_simp
             rfl
            refine hK.out _ _ ?_
            clear hK K
            refine done_ (done_of HT_.out (by kernel_rfl)) ?_
            try go_wp2
            go_roundg k2
            case measure => have := HK1.out; have := HK2.out; omega
            case rel => exact ⟨(wrap64 (x38_2 + 1)), (t175), (t176), (t177), (y178), (.slice Ao30 y178.length co30), (by first | rfl | (simp; done) | (simp [*]; done)), H', ⟨by have := HK1.out; have := HK2.out; omega⟩, ⟨by (with_reducible repeat (first | apply Kd.V_alloc | apply Kd.V_drewN | apply Kd.V_drew)); exact Kd.V_mono (Kd.V_far (p := ⟨gb163, 0, none⟩) (Kd.V_mono HO_1.out (fun k_ hk => (⟨hk, hk.1.2.2.2.1⟩ : _ ∧ k_ ≠ gb163))) (fun _ hk => hk.2) (.slice Ao30 y178.length co30)) (fun _ hk => ⟨hk.1.1.1, ⟨hk.1.1.2.1, ⟨hk.1.2, ⟨hk.1.1.2.2.1, ⟨hk.1.1.2.2.2.1, hk.1.1.2.2.2.2.1⟩⟩⟩⟩⟩)⟩, ⟨by (with_reducible repeat (first | apply Kd.V_alloc | apply Kd.V_drewN | apply Kd.V_drew)); exact Kd.V_mono (Kd.V_far (p := ⟨gb163, 0, none⟩) (Kd.V_mono HO_2.out (fun k_ hk => (⟨hk, hk.1.2.2.2.1⟩ : _ ∧ k_ ≠ gb163))) (fun _ hk => hk.2) (.slice Ao30 y178.length co30)) (fun _ hk => ⟨hk.1.1.1, ⟨hk.1.1.2.1, ⟨hk.1.2, ⟨hk.1.1.2.2.1, ⟨hk.1.1.2.2.2.1, hk.1.1.2.2.2.2.1⟩⟩⟩⟩⟩)⟩, ⟨by (with_reducible repeat (first | apply Kd.V_alloc | apply Kd.V_drewN | apply Kd.V_drew)); exact Kd.V_mono (Kd.V_far (p := ⟨gb163, 0, none⟩) (Kd.V_mono HO_24.out (fun k_ hk => (⟨hk, hk.1.2.2.2.1⟩ : _ ∧ k_ ≠ gb163))) (fun _ hk => hk.2) (.slice Ao30 y178.length co30)) (fun _ hk => ⟨hk.1.1.1, ⟨hk.1.1.2.1, ⟨hk.1.2, ⟨hk.1.1.2.2.1, ⟨hk.1.1.2.2.2.1, hk.1.1.2.2.2.2.1⟩⟩⟩⟩⟩)⟩, ⟨by (with_reducible repeat (first | apply Kd.S_alloc | apply Kd.S_drewN | apply Kd.S_drew)); exact Kd.S_mono (Kd.S_far (p := ⟨gb163, 0, none⟩) (Kd.S_mono HO_159002.out (fun k_ hk => (⟨hk, hk.1.2⟩ : _ ∧ k_ ≠ gb163))) (fun _ hk => hk.2) (.slice Ao30 y178.length co30)) (fun _ hk => ⟨hk.1.1.1, ⟨hk.1.2, hk.1.1.2⟩⟩)⟩, ⟨by (with_reducible repeat (first | apply Kd.R_alloc | apply Kd.R_drewN | apply Kd.R_drew)); exact Kd.R_mono (Kd.R_far (p := ⟨gb163, 0, none⟩) (Kd.R_types HO180.out BK163.out (by decide)) (fun _ hk => hk.2) (.slice Ao30 y178.length co30)) (fun _ hk => hk.1)⟩, ⟨by (with_reducible repeat (first | refine b1_ ?_ _ | refine b2_ ?_ | refine b3_ ?_ _)); refine blk_far ?_ NB158_163.out _; (with_reducible repeat (first | refine b1_ ?_ _ | refine b2_ ?_ | refine b3_ ?_ _)); exact BK158.out⟩, ⟨by (with_reducible repeat (first | refine b1_ ?_ _ | refine b2_ ?_ | refine b3_ ?_ _)); refine blk_put (cs := #[u164000]) ?_ 0 _ rfl; (with_reducible repeat (first | refine b1_ ?_ _ | refine b2_ ?_ | refine b3_ ?_ _)); exact BK163.out⟩, ⟨by repeat (first | (with_reducible first | exact HI0.out | apply IsS102.alloc | apply IsS102.drewN | apply IsS102.drew | apply IsS102.set_0 | apply IsS102.set_1 | apply IsS102.set_2 | refine IsS102.far ?_ NB0_158.out _ | refine IsS102.far ?_ NB0_163.out _ | refine IsS102.far ?_ NB0_165.out _) | exact HI0.out)⟩, ⟨by repeat (first | (with_reducible first | exact HK.out | apply KeepBut.set_ | apply keep_drewN | apply keep_drew | apply keep_alloc | refine keep_far ?_ GW158.out _ | refine keep_far ?_ GW163.out _ | refine keep_far ?_ GW165.out _) | exact HK.out)⟩, ⟨by repeat (first | (with_reducible first | exact HB.out | apply below_alloc | apply pw_below_drewN | apply below_drew1 | refine below_set ?_ (IsS102.ge HI0.out) | refine below_set ?_ GE158.out | refine below_set ?_ GE163.out | refine below_set ?_ GE165.out) | exact HB.out)⟩⟩
           ·rw [if_neg c18] at H
            exact absurd H (by simp)
          ·rw [if_neg c14] at H
           exact absurd H (by simp)
         ·rw [if_neg c13] at H
          exact absurd H (by simp)
        ·rw [if_neg c12] at H
         have c12b0 : decide (x38_2 < ((rd_L8 l1 x26_1).length : Int)) = false := decide_eq_false c12
         clear c12
         by_cases c32 : x159002_1.length < 5864062014805
         ·rw [if_pos c32] at H
          have LMc32 := Aside0.mk c32
          clear c32
          obtain ⟨y181, hy181⟩ : ∃ y_ : List (S182), y_ = (x159002_1 ++ [(⟨x164000_2⟩ : S182)]) := ⟨_, rfl⟩
          replace H : (impl_builder_store.l0 k2 l1 l2 a3 l1 (l1.length : Int) (wrap64 (x26_1 + 1)) x1000_2 x1001_2 x1002_2 0 0 y181) = some (r1, r2, r3, r4, r5, r6, r7) := by first | (rw [hy181]; with_reducible exact H) | (have H2_ := (Option.bind_some _ _).symm.trans H; rw [hy181]; with_reducible exact H2_) | (have H2_ := (Option.bind_some _ _).symm.trans H; with_reducible exact H2_) | with_reducible exact H | (rw [hy181]; exact H) | exact H
          have Ny181 := Aside0.mk hy181
          clear hy181
          have H' := Aside0.mk H
          clear H
          have hnb33 := NB158_163.out
          have hnc33 := NB163_158.out
          have hnb34 := NB158_0.out
          have hnc34 := NB0_158.out
          have hcz35_0 : wr.cell? ⟨gb158, 0, none⟩ = some (.int .u16 0) := (blk_cell BK158.out 0).trans rfl
          have hcz35_1 : wr.cell? ⟨gb158, 1, none⟩ = some (.int .u16 0) := (blk_cell BK158.out 1).trans rfl
          have hcz35_2 : wr.cell? ⟨gb158, 2, none⟩ = some (u159002) := (blk_cell BK158.out 2).trans rfl
          have hcz35_3 : wr.cell? ⟨gb158, 3, none⟩ = some (.slice none 0 0) := (blk_cell BK158.out 3).trans rfl
          have hfz35_0 := blk_frozen BK158.out 0
          have hfz35_1 := blk_frozen BK158.out 1
          have hfz35_2 := blk_frozen BK158.out 2
          have hfz35_3 := blk_frozen BK158.out 3
          have hnb36 := NB163_0.out
          have hnc36 := NB0_163.out
          have hcz37_0 : wr.cell? ⟨gb163, 0, none⟩ = some (u164000) := (blk_cell BK163.out 0).trans rfl
          have hfz37_0 := blk_frozen BK163.out 0
          obtain ⟨Ao39, co39, eo39⟩ := Kd.R_slice HO_164000.out
          subst eo39
          go_wp2_with (first | ((with_reducible refine gate_builtin (b := .append) (xs := #[.tmp 63, .tmp 65]) rfl ?_); (try (refine gate_guard (by rfl) ?_; dsimp only)); at_builtin; refine Kd.S_append k182 w.heap.size rfl (.tmp 63) (.tmp 65) 104 182 (.agg #[(.slice none 0 0)]) 24 rfl Try.underlying104 info182 rfl (by decide) (by omega) u159002 x159002_1 (⟨x164000_2⟩ : S182) [.slice Ao39 x164000_2.length co39] (fun k_ => (w.heap.size ≤ k_) ∧ k_ ≠ gb163) (fun k_ => some k_ = (.slice Ao39 x164000_2.length co39 : Value).ownBlock) rfl rfl ?aP (fun k_ hk_ => ((Kd.R_mono (ok' := fun k_ => ((fun k_ => (w.heap.size ≤ k_) ∧ k_ ≠ gb163)) k_ ∧ some k_ ≠ (u159002 : Value).ownBlock) (Kd.R_types (Kd.R_apart' (HO_164000.out) (Kd.S_typed HO_159002.out) (by decide)) BK163.out (by decide)) (fun k_ hk => ⟨⟨hk.1.1, hk.2⟩, hk.1.2⟩))).1 k_ hk_.symm) ?aF ?aO (Below.refl _ _) ?aS ?aL ?_; (case aP => exact k182_mkM _ _ _ (⟨x164000_2⟩ : S182) (Kd.R_mono (Kd.R_tight rfl (Kd.R_mono (ok' := fun k_ => ((fun k_ => (w.heap.size ≤ k_) ∧ k_ ≠ gb163)) k_ ∧ some k_ ≠ (u159002 : Value).ownBlock) (Kd.R_types (Kd.R_apart' (HO_164000.out) (Kd.S_typed HO_159002.out) (by decide)) BK163.out (by decide)) (fun k_ hk => ⟨⟨hk.1.1, hk.2⟩, hk.1.2⟩))) (fun _ h_ => h_))); (case aF => exact (fun k_ hk => ⟨(Nat.le_trans (keep_size (w := w) (g := g) (row := none) (by repeat (first | (with_reducible first | exact HK.out | apply KeepBut.set_ | apply keep_drewN | apply keep_drew | apply keep_alloc | refine keep_far ?_ GW158.out _ | refine keep_far ?_ GW163.out _) | exact HK.out))) hk), Kd.freshB (g := gb163) (o := .cells #[.slice Ao39 x164000_2.length co39] 182 (0, 0)) (by (with_reducible repeat (first | refine b1_ ?_ _ | refine b2_ ?_ | refine b3_ ?_ _)); exact BK163.out) k_ hk⟩)); (case aO => exact (by (with_reducible repeat (first | apply Kd.S_alloc | apply Kd.S_drewN | apply Kd.S_drew)); exact Kd.S_mono HO_159002.out (fun k_ hk => ⟨⟨hk.1, hk.2.2⟩, fun e_ => hk.2.1 e_⟩))); (case aS => exact (keep_size (w := w) (g := g) (row := none) (by repeat (first | (with_reducible first | exact HK.out | apply KeepBut.set_ | apply keep_drewN | apply keep_drew | apply keep_alloc | refine keep_far ?_ GW158.out _ | refine keep_far ?_ GW163.out _) | exact HK.out)))); (case aL => have := LMc32.out; omega); intro v182 w38 ho hb hg hat; rw [← Ny181.out] at ho; have n0_ := Aside0.mk (Kd.V_afterv (ok := (fun k_ => ((P1_ k_ ∨ P2_ k_) ∨ w.heap.size ≤ k_) ∧ some k_ ≠ (.slice Ao39 x164000_2.length co39 : Value).ownBlock ∧ k_ ≠ gb158 ∧ k_ ≠ gb163 ∧ k_ ≠ g)) (by (with_reducible repeat (first | apply Kd.V_alloc | apply Kd.V_drewN | apply Kd.V_drew)); exact Kd.V_mono HO_1.out (fun _ hk => ⟨⟨hk.1, ⟨hk.2.2.1, ⟨hk.2.2.2.1, ⟨hk.2.2.2.2.1, hk.2.2.2.2.2⟩⟩⟩⟩, hk.2.1⟩)) hg hat); have n1_ := Aside0.mk (Kd.V_afterv (ok := (fun k_ => ((P1_ k_ ∨ P2_ k_) ∨ w.heap.size ≤ k_) ∧ some k_ ≠ (.slice Ao39 x164000_2.length co39 : Value).ownBlock ∧ k_ ≠ gb158 ∧ k_ ≠ gb163 ∧ k_ ≠ g)) (by (with_reducible repeat (first | apply Kd.V_alloc | apply Kd.V_drewN | apply Kd.V_drew)); exact Kd.V_mono HO_2.out (fun _ hk => ⟨⟨hk.1, ⟨hk.2.2.1, ⟨hk.2.2.2.1, ⟨hk.2.2.2.2.1, hk.2.2.2.2.2⟩⟩⟩⟩, hk.2.1⟩)) hg hat); have n2_ := Aside0.mk (Kd.V_afterv (ok := (fun k_ => ((P1_ k_ ∨ P2_ k_) ∨ w.heap.size ≤ k_) ∧ some k_ ≠ (.slice Ao39 x164000_2.length co39 : Value).ownBlock ∧ k_ ≠ gb158 ∧ k_ ≠ gb163 ∧ k_ ≠ g)) (by (with_reducible repeat (first | apply Kd.V_alloc | apply Kd.V_drewN | apply Kd.V_drew)); exact Kd.V_mono HO_24.out (fun _ hk => ⟨⟨hk.1, ⟨hk.2.2.1, ⟨hk.2.2.2.1, ⟨hk.2.2.2.2.1, hk.2.2.2.2.2⟩⟩⟩⟩, hk.2.1⟩)) hg hat); have n3_ := Aside0.mk (blk_grown (g := gb158) (o := .cells #[.int .u16 0, .int .u16 0, u159002, .slice none 0 0] 109 (0, 0)) (by (with_reducible repeat (first | refine b1_ ?_ _ | refine b2_ ?_ | refine b3_ ?_ _)); exact BK158.out) hg (Kd.S_ne HO_159002.out BK158.out (by decide))); have n4_ := Aside0.mk (blk_grown (g := gb163) (o := .cells #[.slice Ao39 x164000_2.length co39] 182 (0, 0)) (by (with_reducible repeat (first | refine b1_ ?_ _ | refine b2_ ?_ | refine b3_ ?_ _)); exact BK163.out) hg (Kd.S_away HO_159002.out (fun _ hk => hk.2.2))); have n5_ := Aside0.mk (IsS102.grown (by repeat (first | (with_reducible first | exact HI0.out | apply IsS102.alloc | apply IsS102.drewN | apply IsS102.drew | apply IsS102.set_0 | apply IsS102.set_1 | apply IsS102.set_2 | refine IsS102.far ?_ NB0_158.out _ | refine IsS102.far ?_ NB0_163.out _) | exact HI0.out)) hg (IsS102.own_neS HI0.out HO_159002.out (by decide))); have n6_ := Aside0.mk (below_weaken (by repeat (first | (with_reducible first | exact HB.out | apply below_alloc | apply pw_below_drewN | apply below_drew1 | refine below_set ?_ (IsS102.ge HI0.out) | refine below_set ?_ GE158.out | refine below_set ?_ GE163.out) | exact HB.out)) HL.out hb); have n7_ := Aside0.mk (KeepBut.trans (by repeat (first | (with_reducible first | exact HK.out | apply KeepBut.set_ | apply keep_drewN | apply keep_drew | apply keep_alloc | refine keep_far ?_ GW158.out _ | refine keep_far ?_ GW163.out _) | exact HK.out)) (KeepBut.of_grown hg g) (Kd.S_base2 HO_159002.out)); have n8_ := Aside0.mk (ho); clear HO_1; clear HO_2; clear HO_24; clear BK158; clear BK163; clear HI0; clear HB; clear HK; clear HO_159002; clear HO_164000; have HO_1 := n0_; have HO_2 := n1_; have HO_24 := n2_; have BK158 := n3_; have BK163 := n4_; have HI0 := n5_; have HB := n6_; have HK := n7_; have HO183 := n8_; clear n0_ n1_ n2_ n3_ n4_ n5_ n6_ n7_ n8_; clear ho hb hg hat; obtain ⟨Ao40, co40, eo40⟩ := Kd.S_slice HO183.out; subst eo40; have hcz41_0 : w38.cell? ⟨gb158, 0, none⟩ = some (.int .u16 0) := (blk_cell BK158.out 0).trans rfl; have hcz41_1 : w38.cell? ⟨gb158, 1, none⟩ = some (.int .u16 0) := (blk_cell BK158.out 1).trans rfl; have hcz41_2 : w38.cell? ⟨gb158, 2, none⟩ = some (u159002) := (blk_cell BK158.out 2).trans rfl; have hcz41_3 : w38.cell? ⟨gb158, 3, none⟩ = some (.slice none 0 0) := (blk_cell BK158.out 3).trans rfl; have hfz41_0 := blk_frozen BK158.out 0; have hfz41_1 := blk_frozen BK158.out 1; have hfz41_2 := blk_frozen BK158.out 2; have hfz41_3 := blk_frozen BK158.out 3))
          go_roundg k2
          case measure => have := HK1.out; have := HK2.out; omega
          case rel => exact ⟨(wrap64 (x26_1 + 1)), (x1000_2), (x1001_2), (x1002_2), (y181), (.slice Ao40 y181.length co40), (by first | rfl | (simp; done) | (simp [*]; done)), H', ⟨by have := HK1.out; have := HK2.out; omega⟩, ⟨by (with_reducible repeat (first | apply Kd.V_alloc | apply Kd.V_drewN | apply Kd.V_drew)); exact Kd.V_mono (Kd.V_far (p := ⟨gb158, 2, none⟩) (Kd.V_mono HO_1.out (fun k_ hk => (⟨hk, hk.1.2.2.1⟩ : _ ∧ k_ ≠ gb158))) (fun _ hk => hk.2) (.slice Ao40 y181.length co40)) (fun _ hk => ⟨hk.1.1.1, ⟨hk.1.2, ⟨hk.1.1.2.2.1, hk.1.1.2.2.2.2⟩⟩⟩)⟩, ⟨by (with_reducible repeat (first | apply Kd.V_alloc | apply Kd.V_drewN | apply Kd.V_drew)); exact Kd.V_mono (Kd.V_far (p := ⟨gb158, 2, none⟩) (Kd.V_mono HO_2.out (fun k_ hk => (⟨hk, hk.1.2.2.1⟩ : _ ∧ k_ ≠ gb158))) (fun _ hk => hk.2) (.slice Ao40 y181.length co40)) (fun _ hk => ⟨hk.1.1.1, ⟨hk.1.2, ⟨hk.1.1.2.2.1, hk.1.1.2.2.2.2⟩⟩⟩)⟩, ⟨by (with_reducible repeat (first | apply Kd.V_alloc | apply Kd.V_drewN | apply Kd.V_drew)); exact Kd.V_mono (Kd.V_far (p := ⟨gb158, 2, none⟩) (Kd.V_mono HO_24.out (fun k_ hk => (⟨hk, hk.1.2.2.1⟩ : _ ∧ k_ ≠ gb158))) (fun _ hk => hk.2) (.slice Ao40 y181.length co40)) (fun _ hk => ⟨hk.1.1.1, ⟨hk.1.2, ⟨hk.1.1.2.2.1, hk.1.1.2.2.2.2⟩⟩⟩)⟩, ⟨by (with_reducible repeat (first | apply Kd.S_alloc | apply Kd.S_drewN | apply Kd.S_drew)); exact Kd.S_mono (Kd.S_far (p := ⟨gb158, 2, none⟩) (Kd.S_types HO183.out BK158.out (by decide)) (fun _ hk => hk.2) (.slice Ao40 y181.length co40)) (fun _ hk => hk.1.1)⟩, ⟨by (with_reducible repeat (first | refine b1_ ?_ _ | refine b2_ ?_ | refine b3_ ?_ _)); refine blk_put (cs := #[.int .u16 0, .int .u16 0, u159002, .slice none 0 0]) ?_ 2 _ rfl; (with_reducible repeat (first | refine b1_ ?_ _ | refine b2_ ?_ | refine b3_ ?_ _)); exact BK158.out⟩, ⟨by repeat (first | (with_reducible first | exact HI0.out | apply IsS102.alloc | apply IsS102.drewN | apply IsS102.drew | apply IsS102.set_0 | apply IsS102.set_1 | apply IsS102.set_2 | refine IsS102.far ?_ NB0_158.out _ | refine IsS102.far ?_ NB0_163.out _) | exact HI0.out)⟩, ⟨by repeat (first | (with_reducible first | exact HK.out | apply KeepBut.set_ | apply keep_drewN | apply keep_drew | apply keep_alloc | refine keep_far ?_ GW158.out _ | refine keep_far ?_ GW163.out _) | exact HK.out)⟩, ⟨by repeat (first | (with_reducible first | exact HB.out | apply below_alloc | apply pw_below_drewN | apply below_drew1 | refine below_set ?_ (IsS102.ge HI0.out) | refine below_set ?_ GE158.out | refine below_set ?_ GE163.out) | exact HB.out)⟩⟩
         ·rw [if_neg c32] at H
          exact absurd H (by simp)
     ·rw [if_neg c8] at H
      exact absurd H (by simp)
    ·rw [if_neg c7] at H
     exact absurd H (by simp)
   ·rw [if_neg c6] at H
    have c6b0 : decide (x26_1 < (l1.length : Int)) = false := decide_eq_false c6
    clear c6
    have H' := Aside0.mk H
    clear H
    go_wp2
    go_loopg [72] k1 (fun kq v72 w' => ∃ (x72_2 : Int) (x1000_2 : Int) (x1001_2 : Int) (x1002_2 : Bool) (x159003_2 : List (S186)) (u159003 : Value), v72 = .int .i64 x72_2 ∧ Aside0 (impl_builder_store.l2 kq l1 l2 (l2.length : Int) x72_2 x1000_2 x1001_2 x1002_2 0 0 x159002_1 x159003_2 = some (r1, r2, r3, r4, r5, r6, r7)) ∧ Aside0 (kq ≤ k1) ∧ Aside0 (Kd.V (Kd.slice 36 k36) 38 w' w.heap.size (fun k_ => ((P1_ k_ ∨ P2_ k_) ∨ w.heap.size ≤ k_) ∧ some k_ ≠ (u159002 : Value).ownBlock ∧ some k_ ≠ (u159003 : Value).ownBlock ∧ k_ ≠ gb158 ∧ k_ ≠ g) (.slice A1 l1.length c1) l1) ∧ Aside0 (Kd.V k41 41 w' w.heap.size (fun k_ => ((P1_ k_ ∨ P2_ k_) ∨ w.heap.size ≤ k_) ∧ some k_ ≠ (u159002 : Value).ownBlock ∧ some k_ ≠ (u159003 : Value).ownBlock ∧ k_ ≠ gb158 ∧ k_ ≠ g) (.slice A2 l2.length c2) l2) ∧ Aside0 (Kd.S k182 182 w' w.heap.size (fun k_ => (w.heap.size ≤ k_)) u159002 x159002_1) ∧ Aside0 (Kd.R k186 186 w' w.heap.size (fun k_ => (w.heap.size ≤ k_)) u159003 x159003_2) ∧ Aside0 (w'.heap[gb158]? = some (.cells #[.int .u16 0, .int .u16 0, u159002, u159003] 109 (0, 0))) ∧ Aside0 (IsS102 w0 w' g x1000_2 x1001_2 x1002_2) ∧ Aside0 (KeepBut w w' g none) ∧ Aside0 (Below w0.heap.size w0 w'))
    case atStart => exact ⟨(0), (x1000_1), (x1001_1), (x1002_1), (([] : List (S186))), (.slice none 0 0), (by first | rfl | (simp; done) | (simp [*]; done)), H', ⟨Nat.le_refl _⟩, ⟨by (with_reducible repeat (first | apply Kd.V_alloc | apply Kd.V_drewN | apply Kd.V_drew)); exact Kd.V_mono HO_1.out (fun _ hk => ⟨hk.1, ⟨hk.2.1, ⟨(by simp [Value.ownBlock]), ⟨hk.2.2.1, hk.2.2.2⟩⟩⟩⟩)⟩, ⟨by (with_reducible repeat (first | apply Kd.V_alloc | apply Kd.V_drewN | apply Kd.V_drew)); exact Kd.V_mono HO_2.out (fun _ hk => ⟨hk.1, ⟨hk.2.1, ⟨(by simp [Value.ownBlock]), ⟨hk.2.2.1, hk.2.2.2⟩⟩⟩⟩)⟩, ⟨by (with_reducible repeat (first | apply Kd.S_alloc | apply Kd.S_drewN | apply Kd.S_drew)); exact HO_159002.out⟩, ⟨by first | exact Kd.R_nil _ _ _ _ _ | exact Kd.N_nil _ _ _ _ _ | exact Kd.V_nil _ _ _ _ _ | exact Kd.Q_nil _ _ _ _ _ | exact Kd.S_nil _ _ _ _ _⟩, ⟨by (with_reducible repeat (first | refine b1_ ?_ _ | refine b2_ ?_ | refine b3_ ?_ _)); exact BK158.out⟩, ⟨by repeat (first | (with_reducible first | exact HI0.out | apply IsS102.alloc | apply IsS102.drewN | apply IsS102.drew | apply IsS102.set_0 | apply IsS102.set_1 | apply IsS102.set_2 | refine IsS102.far ?_ NB0_158.out _) | exact HI0.out)⟩, ⟨by repeat (first | (with_reducible first | exact HK.out | apply KeepBut.set_ | apply keep_drewN | apply keep_drew | apply keep_alloc | refine keep_far ?_ GW158.out _) | exact HK.out)⟩, ⟨by repeat (first | (with_reducible first | exact HB.out | apply below_alloc | apply pw_below_drewN | apply below_drew1 | refine below_set ?_ (IsS102.ge HI0.out) | refine below_set ?_ GE158.out) | exact HB.out)⟩⟩
    case round =>
     clear H'
     try clear c1
     try clear p1
     try clear q1
     try clear hx1
     try clear c2
     try clear p2
     try clear c3
     try clear c5
     try clear c6
     try clear c6b0
     try clear p6
     try clear c7
     try clear c7b0
     try clear c8
     try clear c8b0
     try clear c12
     try clear c12b0
     try clear c13
     try clear c13b0
     try clear c14
     try clear c14b0
     try clear c15
     try clear p15
     try clear q15
     try clear hx15
     try clear hf15
     try clear p16
     try clear q16
     try clear hx16
     try clear c18
     try clear c20
     try clear c21
     try clear c22
     try clear c32
     try clear c33
     try clear c34
     try clear c36
     try clear hcz23_0
     try clear hcz23_1
     try clear hcz23_2
     try clear hcz35_0
     try clear hcz35_1
     try clear hcz35_2
     try clear hcz35_3
     try clear hcz37_0
     try clear hcz41_0
     try clear hcz41_1
     try clear hcz41_2
     try clear hcz41_3
     try clear hfz23_0
     try clear hfz23_1
     try clear hfz23_2
     try clear hfz35_0
     try clear hfz35_1
     try clear hfz35_2
     try clear hfz35_3
     try clear hfz37_0
     try clear hfz41_0
     try clear hfz41_1
     try clear hfz41_2
     try clear hfz41_3
     try clear hx159_0
     try clear hx164_0
     try clear hx164_1
     try clear hx164_2
     try clear p1
     try clear p159
     try clear p164
     try clear p2
     try clear q1
     try clear q159
     try clear q164
     obtain ⟨x72_2, x1000_2, x1001_2, x1002_2, x159003_2, u159003, rfl, HA, HK2, HO_1, HO_70, HO_159002, HO_159003, BK158, HI0, HK, HB⟩ := hrel
     cases gk with
     | zero => exact absurd HA.out (by simp [impl_builder_store.l2])
     | succ k2 =>
      have H := HA.out
      clear HA
      simp only [impl_builder_store.l2] at H
      by_cases c42 : x72_2 < (l2.length : Int)
      ·rw [if_pos c42] at H
       have c42b0 : decide (x72_2 < (l2.length : Int)) = true := decide_eq_true c42
       clear c42
       by_cases c43 : 0 ≤ x72_2
       ·rw [if_pos c43] at H
        have c43b0 : decide (0 ≤ x72_2) = true := decide_eq_true c43
        clear c43
        by_cases c44 : x72_2 < (l2.length : Int)
        ·rw [if_pos c44] at H
         have c44b0 : decide (x72_2 < (l2.length : Int)) = true := decide_eq_true c44
         clear c44
         have H' := Aside0.mk H
         clear H
         have p184 : 0 ≤ (x72_2 : Int) := of_decide_eq_true (by first | (with_reducible assumption) | assumption)
         have q184 : x72_2 < (l2.length : Int) := of_decide_eq_true (by first | (with_reducible assumption) | assumption)
         obtain ⟨ad184, A184_0, c184_0, A184_1, c184_1, e184, hx184_0, hx184_1, hl184_0, hi184_0, hl184_1, hi184_1⟩ := at_T41 (Kd.V_reads' HO_70.out).2.2 x72_2 p184 q184
         cases e184
         obtain ⟨ce184, hce184, hMe184, hcc184⟩ := Kd.V_get HO_70.out z41 x72_2 p184 (by first | exact q184 | exact of_decide_eq_true (by first | (with_reducible assumption) | assumption) | (have e_ := (Kd.V_reads' HO_70.out).1; omega))
         obtain ⟨ua184_0, uc184_0, ua184_1, uc184_1, rfl, ul184_0, ge184_0, ul184_1, ge184_1⟩ := k41_openF hMe184
         have hv184_0 := hcc184 0 _ rfl
         rw [Nat.add_zero] at hv184_0
         replace hv184_0 := Option.some.inj (hv184_0.symm.trans hx184_0)
         injection hv184_0 with hva_ hvn_ hvc_
         rw [hva_] at ge184_0
         rw [hvc_] at ul184_0
         have HL184_0 := Aside0.mk (show Kd.V (Kd.int .i64) 3 _ w.heap.size _ _ ((rd_T41 l2 x72_2).f0) from Kd.V_mk ul184_0 ge184_0)
         clear hva_ hvn_ hvc_ ge184_0 ul184_0
         have hv184_1 := hcc184 1 _ rfl
         rw [add_field _ _ 1 (by omega)] at hv184_1
         replace hv184_1 := Option.some.inj (hv184_1.symm.trans hx184_1)
         injection hv184_1 with hva_ hvn_ hvc_
         rw [hva_] at ge184_1
         rw [hvc_] at ul184_1
         have HL184_1 := Aside0.mk (show Kd.V (Kd.slice 3 (Kd.int .i64)) 31 _ w.heap.size _ _ ((rd_T41 l2 x72_2).f1) from Kd.V_mk ul184_1 ge184_1)
         clear hva_ hvn_ hvc_ ge184_1 ul184_1
         clear hcc184 hce184
         have HF184 := Aside0.mk (foot_41 (Kd.V_F hs2) HK.out x72_2 p184 q184 hx184_0 hx184_1)
         have HR184_0 := Aside0.mk hi184_0
         have HC184_0 := Aside0.mk hl184_0
         clear hi184_0 hl184_0
         have HR184_1 := Aside0.mk hi184_1
         have HC184_1 := Aside0.mk hl184_1
         clear hi184_1 hl184_1
         replace p184 := eq_true p184
         replace q184 := eq_true q184
         go_wp2_with (first | ((with_reducible refine gate_dst (N := 15) rfl ?_); (try (refine gate_guard (by rfl) ?_; dsimp only)); refine box_event ?hg (N := 15) ?hd (cs := #[.slice none 0 0, .slice none 0 0]) (t := 41) ?hr ?_; (case hd => rfl); (case hg => rfl); (case hr => first | (go_simp; done) | (go_simp; rfl)); intro gb185 hg w45 hbox hb; have n0_ := Aside0.mk (Kd.V_below (Kd.V_elderB (by (with_reducible repeat (first | apply Kd.V_alloc | apply Kd.V_drewN | apply Kd.V_drew)); exact HO_1.out) gb185 (Nat.le_of_eq hg.symm)) hb); have n1_ := Aside0.mk (Kd.V_below (Kd.V_elderB (by (with_reducible repeat (first | apply Kd.V_alloc | apply Kd.V_drewN | apply Kd.V_drew)); exact HO_70.out) gb185 (Nat.le_of_eq hg.symm)) hb); have n2_ := Aside0.mk (Kd.S_below (by (with_reducible repeat (first | apply Kd.S_alloc | apply Kd.S_drewN | apply Kd.S_drew)); exact HO_159002.out) hb); have n3_ := Aside0.mk (Kd.R_below (by (with_reducible repeat (first | apply Kd.R_alloc | apply Kd.R_drewN | apply Kd.R_drew)); exact HO_159003.out) hb); have n4_ := Aside0.mk (Kd.V_below (Kd.V_elderB (by (with_reducible repeat (first | apply Kd.V_alloc | apply Kd.V_drewN | apply Kd.V_drew)); exact HL184_0.out) gb185 (Nat.le_of_eq hg.symm)) hb); have n5_ := Aside0.mk (Kd.V_below (Kd.V_elderB (by (with_reducible repeat (first | apply Kd.V_alloc | apply Kd.V_drewN | apply Kd.V_drew)); exact HL184_1.out) gb185 (Nat.le_of_eq hg.symm)) hb); have n6_ := Aside0.mk (blk_below (g := gb158) (o := .cells #[.int .u16 0, .int .u16 0, u159002, u159003] 109 (0, 0)) (by (with_reducible repeat (first | refine b1_ ?_ _ | refine b2_ ?_ | refine b3_ ?_ _)); exact BK158.out) hb); have n7_ := Aside0.mk (IsS102.below (by repeat (first | (with_reducible first | exact HI0.out | apply IsS102.alloc | apply IsS102.drewN | apply IsS102.drew | apply IsS102.set_0 | apply IsS102.set_1 | apply IsS102.set_2 | refine IsS102.far ?_ NB0_158.out _) | exact HI0.out)) hb); have n8_ := Aside0.mk (Kd.C_below (by repeat (first | (with_reducible exact HR184_0.out) | (with_reducible refine Kd.C_alloc ?_ _) | (with_reducible refine Kd.C_drewN ?_ _) | (with_reducible refine Kd.C_drew ?_) | exact HR184_0.out)) hb); have n9_ := Aside0.mk (Kd.C_below (by repeat (first | (with_reducible exact HR184_1.out) | (with_reducible refine Kd.C_alloc ?_ _) | (with_reducible refine Kd.C_drewN ?_ _) | (with_reducible refine Kd.C_drew ?_) | exact HR184_1.out)) hb); have n10_ := Aside0.mk (KeepBut.trans (by repeat (first | (with_reducible first | exact HK.out | apply KeepBut.set_ | apply keep_drewN | apply keep_drew | apply keep_alloc | refine keep_far ?_ GW158.out _) | exact HK.out)) (KeepBut.of_below hb g none) (.inl rfl)); have n11_ := Aside0.mk (below_step (by repeat (first | (with_reducible first | exact HB.out | apply below_alloc | apply pw_below_drewN | apply below_drew1 | refine below_set ?_ (IsS102.ge HI0.out) | refine below_set ?_ GE158.out) | exact HB.out)) hb); have n12_ := Aside0.mk (hbox); have n13_ := Aside0.mk ((by rw [hg]; exact (keep_size (w := w) (g := g) (row := none) (by repeat (first | (with_reducible first | exact HK.out | apply KeepBut.set_ | apply keep_drewN | apply keep_drew | apply keep_alloc | refine keep_far ?_ GW158.out _) | exact HK.out))) : w.heap.size ≤ gb185)); have n14_ := Aside0.mk ((Nat.le_trans HW0.out (by rw [hg]; exact (keep_size (w := w) (g := g) (row := none) (by repeat (first | (with_reducible first | exact HK.out | apply KeepBut.set_ | apply keep_drewN | apply keep_drew | apply keep_alloc | refine keep_far ?_ GW158.out _) | exact HK.out))) : w.heap.size ≤ gb185) : w0.heap.size ≤ gb185)); have n15_ := Aside0.mk ((by rw [hg]; exact Nat.ne_of_lt (blk_lt (g := gb158) (o := .cells #[.int .u16 0, .int .u16 0, u159002, u159003] 109 (0, 0)) (by (with_reducible repeat (first | refine b1_ ?_ _ | refine b2_ ?_ | refine b3_ ?_ _)); exact BK158.out)) : gb158 ≠ gb185)); have n16_ := Aside0.mk ((by rw [hg]; exact Nat.ne_of_gt (blk_lt (g := gb158) (o := .cells #[.int .u16 0, .int .u16 0, u159002, u159003] 109 (0, 0)) (by (with_reducible repeat (first | refine b1_ ?_ _ | refine b2_ ?_ | refine b3_ ?_ _)); exact BK158.out)) : gb185 ≠ gb158)); have n17_ := Aside0.mk ((by rw [hg]; exact Nat.ne_of_lt (IsS102.lt (show IsS102 w0 _ g x1000_2 x1001_2 x1002_2 from by repeat (first | (with_reducible first | exact HI0.out | apply IsS102.alloc | apply IsS102.drewN | apply IsS102.drew | apply IsS102.set_0 | apply IsS102.set_1 | apply IsS102.set_2 | refine IsS102.far ?_ NB0_158.out _) | exact HI0.out))) : g ≠ gb185)); have n18_ := Aside0.mk ((by rw [hg]; exact Nat.ne_of_gt (IsS102.lt (show IsS102 w0 _ g x1000_2 x1001_2 x1002_2 from by repeat (first | (with_reducible first | exact HI0.out | apply IsS102.alloc | apply IsS102.drewN | apply IsS102.drew | apply IsS102.set_0 | apply IsS102.set_1 | apply IsS102.set_2 | refine IsS102.far ?_ NB0_158.out _) | exact HI0.out))) : gb185 ≠ g)); clear HO_1; clear HO_70; clear HO_159002; clear HO_159003; clear HL184_0; clear HL184_1; clear BK158; clear HI0; clear HR184_0; clear HR184_1; clear HK; clear HB; have HO_1 := n0_; have HO_70 := n1_; have HO_159002 := n2_; have HO_159003 := n3_; have HL184_0 := n4_; have HL184_1 := n5_; have BK158 := n6_; have HI0 := n7_; have HR184_0 := n8_; have HR184_1 := n9_; have HK := n10_; have HB := n11_; have BK185 := n12_; have GW185 := n13_; have GE185 := n14_; have NB158_185 := n15_; have NB185_158 := n16_; have NB0_185 := n17_; have NB185_0 := n18_; clear n0_ n1_ n2_ n3_ n4_ n5_ n6_ n7_ n8_ n9_ n10_ n11_ n12_ n13_ n14_ n15_ n16_ n17_ n18_; clear hb hbox hg; have hnb46 := NB185_158.out; have hnc46 := NB158_185.out; have hnb47 := NB185_0.out; have hnc47 := NB0_185.out; have hcz48_0 : w45.cell? ⟨gb185, 0, none⟩ = some (.slice none 0 0) := (blk_cell BK185.out 0).trans rfl; have hcz48_1 : w45.cell? ⟨gb185, 1, none⟩ = some (.slice none 0 0) := (blk_cell BK185.out 1).trans rfl; have hfz48_0 := blk_frozen BK185.out 0; have hfz48_1 := blk_frozen BK185.out 1) | ((with_reducible refine gate_dst (N := 16) rfl ?_); (try (refine gate_guard (by rfl) ?_; dsimp only)); refine box_event ?hg (N := 16) ?hd (cs := #[.int .u16 0, .int .u16 0, .int .u16 0, .slice none 0 0, .slice none 0 0]) (t := 186) ?hr ?_; (case hd => rfl); (case hg => rfl); (case hr => first | (go_simp; done) | (go_simp; rfl)); intro gb186 hg w49 hbox hb; have n0_ := Aside0.mk (Kd.V_below (Kd.V_elderB (by (with_reducible repeat (first | apply Kd.V_alloc | apply Kd.V_drewN | apply Kd.V_drew)); exact (Kd.V_mono (Kd.V_far (p := ⟨gb185, 1, none⟩) (Kd.V_far (p := ⟨gb185, 0, none⟩) (Kd.V_mono HO_1.out (fun k_ hk => (⟨hk, hk.2⟩ : _ ∧ k_ ≠ gb185))) (fun _ hk => hk.2) (.slice A184_0 ((rd_T41 l2 x72_2).f0).length c184_0)) (fun _ hk => hk.2) (.slice A184_1 ((rd_T41 l2 x72_2).f1).length c184_1)) (fun _ h_ => h_.1))) gb186 (Nat.le_of_eq hg.symm)) hb); have n1_ := Aside0.mk (Kd.V_below (Kd.V_elderB (by (with_reducible repeat (first | apply Kd.V_alloc | apply Kd.V_drewN | apply Kd.V_drew)); exact (Kd.V_mono (Kd.V_far (p := ⟨gb185, 1, none⟩) (Kd.V_far (p := ⟨gb185, 0, none⟩) (Kd.V_mono HO_70.out (fun k_ hk => (⟨hk, hk.2⟩ : _ ∧ k_ ≠ gb185))) (fun _ hk => hk.2) (.slice A184_0 ((rd_T41 l2 x72_2).f0).length c184_0)) (fun _ hk => hk.2) (.slice A184_1 ((rd_T41 l2 x72_2).f1).length c184_1)) (fun _ h_ => h_.1))) gb186 (Nat.le_of_eq hg.symm)) hb); have n2_ := Aside0.mk (Kd.S_below (by (with_reducible repeat (first | apply Kd.S_alloc | apply Kd.S_drewN | apply Kd.S_drew)); exact (Kd.S_mono (Kd.S_far (p := ⟨gb185, 1, none⟩) (Kd.S_far (p := ⟨gb185, 0, none⟩) (Kd.S_types HO_159002.out BK185.out (by decide)) (fun _ hk => hk.2) (.slice A184_0 ((rd_T41 l2 x72_2).f0).length c184_0)) (fun _ hk => hk.2) (.slice A184_1 ((rd_T41 l2 x72_2).f1).length c184_1)) (fun _ h_ => h_.1))) hb); have n3_ := Aside0.mk (Kd.R_below (Kd.R_elderB (by (with_reducible repeat (first | apply Kd.R_alloc | apply Kd.R_drewN | apply Kd.R_drew)); exact (Kd.R_mono (Kd.R_far (p := ⟨gb185, 1, none⟩) (Kd.R_far (p := ⟨gb185, 0, none⟩) (Kd.R_types HO_159003.out BK185.out (by decide)) (fun _ hk => hk.2) (.slice A184_0 ((rd_T41 l2 x72_2).f0).length c184_0)) (fun _ hk => hk.2) (.slice A184_1 ((rd_T41 l2 x72_2).f1).length c184_1)) (fun _ h_ => h_.1))) gb186 (Nat.le_of_eq hg.symm)) hb); have n4_ := Aside0.mk (Kd.V_below (Kd.V_elderB (by (with_reducible repeat (first | apply Kd.V_alloc | apply Kd.V_drewN | apply Kd.V_drew)); exact (Kd.V_mono (Kd.V_far (p := ⟨gb185, 1, none⟩) (Kd.V_far (p := ⟨gb185, 0, none⟩) (Kd.V_mono HL184_0.out (fun k_ hk => (⟨hk, hk.2⟩ : _ ∧ k_ ≠ gb185))) (fun _ hk => hk.2) (.slice A184_0 ((rd_T41 l2 x72_2).f0).length c184_0)) (fun _ hk => hk.2) (.slice A184_1 ((rd_T41 l2 x72_2).f1).length c184_1)) (fun _ h_ => h_.1))) gb186 (Nat.le_of_eq hg.symm)) hb); have n5_ := Aside0.mk (Kd.V_below (Kd.V_elderB (by (with_reducible repeat (first | apply Kd.V_alloc | apply Kd.V_drewN | apply Kd.V_drew)); exact (Kd.V_mono (Kd.V_far (p := ⟨gb185, 1, none⟩) (Kd.V_far (p := ⟨gb185, 0, none⟩) (Kd.V_mono HL184_1.out (fun k_ hk => (⟨hk, hk.2⟩ : _ ∧ k_ ≠ gb185))) (fun _ hk => hk.2) (.slice A184_0 ((rd_T41 l2 x72_2).f0).length c184_0)) (fun _ hk => hk.2) (.slice A184_1 ((rd_T41 l2 x72_2).f1).length c184_1)) (fun _ h_ => h_.1))) gb186 (Nat.le_of_eq hg.symm)) hb); have n6_ := Aside0.mk (blk_below (g := gb158) (o := .cells #[.int .u16 0, .int .u16 0, u159002, u159003] 109 (0, 0)) (by (with_reducible repeat (first | refine b1_ ?_ _ | refine b2_ ?_ | refine b3_ ?_ _)); refine blk_far ?_ NB158_185.out _; (with_reducible repeat (first | refine b1_ ?_ _ | refine b2_ ?_ | refine b3_ ?_ _)); refine blk_far ?_ NB158_185.out _; (with_reducible repeat (first | refine b1_ ?_ _ | refine b2_ ?_ | refine b3_ ?_ _)); exact BK158.out) hb); have n7_ := Aside0.mk (IsS102.below (show IsS102 w0 ((w45.setCell ⟨gb185, 0, none⟩ (.slice A184_0 ((rd_T41 l2 x72_2).f0).length c184_0)).setCell ⟨gb185, 1, none⟩ (.slice A184_1 ((rd_T41 l2 x72_2).f1).length c184_1)) g x1000_2 x1001_2 x1002_2 from by repeat (first | (with_reducible first | exact HI0.out | apply IsS102.alloc | apply IsS102.drewN | apply IsS102.drew | apply IsS102.set_0 | apply IsS102.set_1 | apply IsS102.set_2 | refine IsS102.far ?_ NB0_158.out _ | refine IsS102.far ?_ NB0_185.out _) | exact HI0.out)) hb); have n8_ := Aside0.mk (Kd.C_below ((Kd.V_reads' (by (with_reducible repeat (first | apply Kd.V_alloc | apply Kd.V_drewN | apply Kd.V_drew)); exact (Kd.V_mono (Kd.V_far (p := ⟨gb185, 1, none⟩) (Kd.V_far (p := ⟨gb185, 0, none⟩) (Kd.V_mono HL184_0.out (fun k_ hk => (⟨hk, hk.2⟩ : _ ∧ k_ ≠ gb185))) (fun _ hk => hk.2) (.slice A184_0 ((rd_T41 l2 x72_2).f0).length c184_0)) (fun _ hk => hk.2) (.slice A184_1 ((rd_T41 l2 x72_2).f1).length c184_1)) (fun _ h_ => h_.1)))).2.2) hb); have n9_ := Aside0.mk (Kd.C_below ((Kd.V_reads' (by (with_reducible repeat (first | apply Kd.V_alloc | apply Kd.V_drewN | apply Kd.V_drew)); exact (Kd.V_mono (Kd.V_far (p := ⟨gb185, 1, none⟩) (Kd.V_far (p := ⟨gb185, 0, none⟩) (Kd.V_mono HL184_1.out (fun k_ hk => (⟨hk, hk.2⟩ : _ ∧ k_ ≠ gb185))) (fun _ hk => hk.2) (.slice A184_0 ((rd_T41 l2 x72_2).f0).length c184_0)) (fun _ hk => hk.2) (.slice A184_1 ((rd_T41 l2 x72_2).f1).length c184_1)) (fun _ h_ => h_.1)))).2.2) hb); have n10_ := Aside0.mk (blk_below (g := gb185) (o := .cells #[.slice A184_0 ((rd_T41 l2 x72_2).f0).length c184_0, .slice A184_1 ((rd_T41 l2 x72_2).f1).length c184_1] 41 (0, 0)) (by (with_reducible repeat (first | refine b1_ ?_ _ | refine b2_ ?_ | refine b3_ ?_ _)); refine blk_put (cs := #[.slice A184_0 ((rd_T41 l2 x72_2).f0).length c184_0, .slice none 0 0]) ?_ 1 _ rfl; (with_reducible repeat (first | refine b1_ ?_ _ | refine b2_ ?_ | refine b3_ ?_ _)); refine blk_put (cs := #[.slice none 0 0, .slice none 0 0]) ?_ 0 _ rfl; (with_reducible repeat (first | refine b1_ ?_ _ | refine b2_ ?_ | refine b3_ ?_ _)); exact BK185.out) hb); have n11_ := Aside0.mk (KeepBut.trans (by repeat (first | (with_reducible first | exact HK.out | apply KeepBut.set_ | apply keep_drewN | apply keep_drew | apply keep_alloc | refine keep_far ?_ GW158.out _ | refine keep_far ?_ GW185.out _) | exact HK.out)) (KeepBut.of_below hb g none) (.inl rfl)); have n12_ := Aside0.mk (below_step (by repeat (first | (with_reducible first | exact HB.out | apply below_alloc | apply pw_below_drewN | apply below_drew1 | refine below_set ?_ (IsS102.ge HI0.out) | refine below_set ?_ GE158.out | refine below_set ?_ GE185.out) | exact HB.out)) hb); have n13_ := Aside0.mk (hbox); have n14_ := Aside0.mk ((by rw [hg]; exact (keep_size (w := w) (g := g) (row := none) (by repeat (first | (with_reducible first | exact HK.out | apply KeepBut.set_ | apply keep_drewN | apply keep_drew | apply keep_alloc | refine keep_far ?_ GW158.out _ | refine keep_far ?_ GW185.out _) | exact HK.out))) : w.heap.size ≤ gb186)); have n15_ := Aside0.mk ((Nat.le_trans HW0.out (by rw [hg]; exact (keep_size (w := w) (g := g) (row := none) (by repeat (first | (with_reducible first | exact HK.out | apply KeepBut.set_ | apply keep_drewN | apply keep_drew | apply keep_alloc | refine keep_far ?_ GW158.out _ | refine keep_far ?_ GW185.out _) | exact HK.out))) : w.heap.size ≤ gb186) : w0.heap.size ≤ gb186)); have n16_ := Aside0.mk ((by rw [hg]; exact Nat.ne_of_lt (blk_lt (g := gb158) (o := .cells #[.int .u16 0, .int .u16 0, u159002, u159003] 109 (0, 0)) (by (with_reducible repeat (first | refine b1_ ?_ _ | refine b2_ ?_ | refine b3_ ?_ _)); refine blk_far ?_ NB158_185.out _; (with_reducible repeat (first | refine b1_ ?_ _ | refine b2_ ?_ | refine b3_ ?_ _)); refine blk_far ?_ NB158_185.out _; (with_reducible repeat (first | refine b1_ ?_ _ | refine b2_ ?_ | refine b3_ ?_ _)); exact BK158.out)) : gb158 ≠ gb186)); have n17_ := Aside0.mk ((by rw [hg]; exact Nat.ne_of_gt (blk_lt (g := gb158) (o := .cells #[.int .u16 0, .int .u16 0, u159002, u159003] 109 (0, 0)) (by (with_reducible repeat (first | refine b1_ ?_ _ | refine b2_ ?_ | refine b3_ ?_ _)); refine blk_far ?_ NB158_185.out _; (with_reducible repeat (first | refine b1_ ?_ _ | refine b2_ ?_ | refine b3_ ?_ _)); refine blk_far ?_ NB158_185.out _; (with_reducible repeat (first | refine b1_ ?_ _ | refine b2_ ?_ | refine b3_ ?_ _)); exact BK158.out)) : gb186 ≠ gb158)); have n18_ := Aside0.mk ((by rw [hg]; exact Nat.ne_of_lt (blk_lt (g := gb185) (o := .cells #[.slice A184_0 ((rd_T41 l2 x72_2).f0).length c184_0, .slice A184_1 ((rd_T41 l2 x72_2).f1).length c184_1] 41 (0, 0)) (by (with_reducible repeat (first | refine b1_ ?_ _ | refine b2_ ?_ | refine b3_ ?_ _)); refine blk_put (cs := #[.slice A184_0 ((rd_T41 l2 x72_2).f0).length c184_0, .slice none 0 0]) ?_ 1 _ rfl; (with_reducible repeat (first | refine b1_ ?_ _ | refine b2_ ?_ | refine b3_ ?_ _)); refine blk_put (cs := #[.slice none 0 0, .slice none 0 0]) ?_ 0 _ rfl; (with_reducible repeat (first | refine b1_ ?_ _ | refine b2_ ?_ | refine b3_ ?_ _)); exact BK185.out)) : gb185 ≠ gb186)); have n19_ := Aside0.mk ((by rw [hg]; exact Nat.ne_of_gt (blk_lt (g := gb185) (o := .cells #[.slice A184_0 ((rd_T41 l2 x72_2).f0).length c184_0, .slice A184_1 ((rd_T41 l2 x72_2).f1).length c184_1] 41 (0, 0)) (by (with_reducible repeat (first | refine b1_ ?_ _ | refine b2_ ?_ | refine b3_ ?_ _)); refine blk_put (cs := #[.slice A184_0 ((rd_T41 l2 x72_2).f0).length c184_0, .slice none 0 0]) ?_ 1 _ rfl; (with_reducible repeat (first | refine b1_ ?_ _ | refine b2_ ?_ | refine b3_ ?_ _)); refine blk_put (cs := #[.slice none 0 0, .slice none 0 0]) ?_ 0 _ rfl; (with_reducible repeat (first | refine b1_ ?_ _ | refine b2_ ?_ | refine b3_ ?_ _)); exact BK185.out)) : gb186 ≠ gb185)); have n20_ := Aside0.mk ((by rw [hg]; exact Nat.ne_of_lt (IsS102.lt (show IsS102 w0 _ g x1000_2 x1001_2 x1002_2 from by repeat (first | (with_reducible first | exact HI0.out | apply IsS102.alloc | apply IsS102.drewN | apply IsS102.drew | apply IsS102.set_0 | apply IsS102.set_1 | apply IsS102.set_2 | refine IsS102.far ?_ NB0_158.out _ | refine IsS102.far ?_ NB0_185.out _) | exact HI0.out))) : g ≠ gb186)); have n21_ := Aside0.mk ((by rw [hg]; exact Nat.ne_of_gt (IsS102.lt (show IsS102 w0 _ g x1000_2 x1001_2 x1002_2 from by repeat (first | (with_reducible first | exact HI0.out | apply IsS102.alloc | apply IsS102.drewN | apply IsS102.drew | apply IsS102.set_0 | apply IsS102.set_1 | apply IsS102.set_2 | refine IsS102.far ?_ NB0_158.out _ | refine IsS102.far ?_ NB0_185.out _) | exact HI0.out))) : gb186 ≠ g)); clear HO_1; clear HO_70; clear HO_159002; clear HO_159003; clear HL184_0; clear HL184_1; clear BK158; clear HI0; clear HR184_0; clear HR184_1; clear BK185; clear HK; clear HB; have HO_1 := n0_; have HO_70 := n1_; have HO_159002 := n2_; have HO_159003 := n3_; have HL184_0 := n4_; have HL184_1 := n5_; have BK158 := n6_; have HI0 := n7_; have HR184_0 := n8_; have HR184_1 := n9_; have BK185 := n10_; have HK := n11_; have HB := n12_; have BK186 := n13_; have GW186 := n14_; have GE186 := n15_; have NB158_186 := n16_; have NB186_158 := n17_; have NB185_186 := n18_; have NB186_185 := n19_; have NB0_186 := n20_; have NB186_0 := n21_; clear n0_ n1_ n2_ n3_ n4_ n5_ n6_ n7_ n8_ n9_ n10_ n11_ n12_ n13_ n14_ n15_ n16_ n17_ n18_ n19_ n20_ n21_; clear hb hbox hg; have hnb50 := NB185_186.out; have hnc50 := NB186_185.out; have hcz51_0 : w49.cell? ⟨gb185, 0, none⟩ = some (.slice A184_0 ((rd_T41 l2 x72_2).f0).length c184_0) := (blk_cell BK185.out 0).trans rfl; have hcz51_1 : w49.cell? ⟨gb185, 1, none⟩ = some (.slice A184_1 ((rd_T41 l2 x72_2).f1).length c184_1) := (blk_cell BK185.out 1).trans rfl; have hfz51_0 := blk_frozen BK185.out 0; have hfz51_1 := blk_frozen BK185.out 1))
         go_loopg [79] k2 (fun kq v79 w' => ∃ (x79_3 : Int) (x1000_3 : Int) (x1001_3 : Int) (x1002_3 : Bool) (x187003_3 : List Int) (u187003 : Value), v79 = .int .i64 x79_3 ∧ Aside0 (impl_builder_store.l3 kq l1 l2 (l2.length : Int) x72_2 ((rd_T41 l2 x72_2).f0) (((rd_T41 l2 x72_2).f0).length : Int) x79_3 x1000_3 x1001_3 x1002_3 0 0 x159002_1 x159003_2 ((rd_T41 l2 x72_2).f0) ((rd_T41 l2 x72_2).f1) 0 0 0 x187003_3 = some (r1, r2, r3, r4, r5, r6, r7)) ∧ Aside0 (kq ≤ k2) ∧ Aside0 (Kd.V (Kd.slice 36 k36) 38 w' w.heap.size (fun k_ => ((P1_ k_ ∨ P2_ k_) ∨ w.heap.size ≤ k_) ∧ some k_ ≠ (u159002 : Value).ownBlock ∧ some k_ ≠ (u159003 : Value).ownBlock ∧ some k_ ≠ (u187003 : Value).ownBlock ∧ k_ ≠ gb158 ∧ k_ ≠ gb185 ∧ k_ ≠ gb186 ∧ k_ ≠ g) (.slice A1 l1.length c1) l1) ∧ Aside0 (Kd.V k41 41 w' w.heap.size (fun k_ => ((P1_ k_ ∨ P2_ k_) ∨ w.heap.size ≤ k_) ∧ some k_ ≠ (u159002 : Value).ownBlock ∧ some k_ ≠ (u159003 : Value).ownBlock ∧ some k_ ≠ (u187003 : Value).ownBlock ∧ k_ ≠ gb158 ∧ k_ ≠ gb185 ∧ k_ ≠ gb186 ∧ k_ ≠ g) (.slice (some ad184) l2.length c2) l2) ∧ Aside0 (Kd.S k182 182 w' w.heap.size (fun k_ => (w.heap.size ≤ k_)) u159002 x159002_1) ∧ Aside0 (Kd.R k186 186 w' w.heap.size (fun k_ => (w.heap.size ≤ k_) ∧ some k_ ≠ (u187003 : Value).ownBlock ∧ k_ ≠ gb186) u159003 x159003_2) ∧ Aside0 (Kd.R (Kd.int .u16) 103 w' w.heap.size (fun k_ => (w.heap.size ≤ k_)) u187003 x187003_3) ∧ Aside0 (w'.heap[gb158]? = some (.cells #[.int .u16 0, .int .u16 0, u159002, u159003] 109 (0, 0))) ∧ Aside0 (w'.heap[gb185]? = some (.cells #[(.slice A184_0 ((rd_T41 l2 x72_2).f0).length c184_0), (.slice A184_1 ((rd_T41 l2 x72_2).f1).length c184_1)] 41 (0, 0))) ∧ Aside0 (w'.heap[gb186]? = some (.cells #[.int .u16 0, .int .u16 0, .int .u16 0, u187003, (.slice none 0 0)] 186 (0, 0))) ∧ Aside0 (IsS102 w0 w' g x1000_3 x1001_3 x1002_3) ∧ Aside0 (KeepBut w w' g none) ∧ Aside0 (Below w0.heap.size w0 w'))
         case atStart => exact ⟨(0), (x1000_2), (x1001_2), (x1002_2), (([] : List Int)), (.slice none 0 0), (by first | rfl | (simp; done) | (simp [*]; done)), H', ⟨Nat.le_refl _⟩, ⟨by (with_reducible repeat (first | apply Kd.V_alloc | apply Kd.V_drewN | apply Kd.V_drew)); exact Kd.V_mono HO_1.out (fun _ hk => ⟨hk.1.1.1, ⟨hk.1.1.2.1, ⟨hk.1.1.2.2.1, ⟨(by simp [Value.ownBlock]), ⟨hk.1.1.2.2.2.1, ⟨hk.1.2, ⟨hk.2, hk.1.1.2.2.2.2⟩⟩⟩⟩⟩⟩⟩)⟩, ⟨by (with_reducible repeat (first | apply Kd.V_alloc | apply Kd.V_drewN | apply Kd.V_drew)); exact Kd.V_mono HO_70.out (fun _ hk => ⟨hk.1.1.1, ⟨hk.1.1.2.1, ⟨hk.1.1.2.2.1, ⟨(by simp [Value.ownBlock]), ⟨hk.1.1.2.2.2.1, ⟨hk.1.2, ⟨hk.2, hk.1.1.2.2.2.2⟩⟩⟩⟩⟩⟩⟩)⟩, ⟨by (with_reducible repeat (first | apply Kd.S_alloc | apply Kd.S_drewN | apply Kd.S_drew)); exact HO_159002.out⟩, ⟨by (with_reducible repeat (first | apply Kd.R_alloc | apply Kd.R_drewN | apply Kd.R_drew)); exact Kd.R_mono HO_159003.out (fun _ hk => ⟨hk.1, ⟨(by simp [Value.ownBlock]), hk.2⟩⟩)⟩, ⟨by first | exact Kd.R_nil _ _ _ _ _ | exact Kd.N_nil _ _ _ _ _ | exact Kd.V_nil _ _ _ _ _ | exact Kd.Q_nil _ _ _ _ _ | exact Kd.S_nil _ _ _ _ _⟩, ⟨by (with_reducible repeat (first | refine b1_ ?_ _ | refine b2_ ?_ | refine b3_ ?_ _)); exact BK158.out⟩, ⟨by (with_reducible repeat (first | refine b1_ ?_ _ | refine b2_ ?_ | refine b3_ ?_ _)); exact BK185.out⟩, ⟨by (with_reducible repeat (first | refine b1_ ?_ _ | refine b2_ ?_ | refine b3_ ?_ _)); exact BK186.out⟩, ⟨by repeat (first | (with_reducible first | exact HI0.out | apply IsS102.alloc | apply IsS102.drewN | apply IsS102.drew | apply IsS102.set_0 | apply IsS102.set_1 | apply IsS102.set_2 | refine IsS102.far ?_ NB0_158.out _ | refine IsS102.far ?_ NB0_185.out _ | refine IsS102.far ?_ NB0_186.out _) | exact HI0.out)⟩, ⟨by repeat (first | (with_reducible first | exact HK.out | apply KeepBut.set_ | apply keep_drewN | apply keep_drew | apply keep_alloc | refine keep_far ?_ GW158.out _ | refine keep_far ?_ GW185.out _ | refine keep_far ?_ GW186.out _) | exact HK.out)⟩, ⟨by repeat (first | (with_reducible first | exact HB.out | apply below_alloc | apply pw_below_drewN | apply below_drew1 | refine below_set ?_ (IsS102.ge HI0.out) | refine below_set ?_ GE158.out | refine below_set ?_ GE185.out | refine below_set ?_ GE186.out) | exact HB.out)⟩⟩
         case round =>
          clear H'
          try clear c1
          try clear p1
          try clear q1
          try clear hx1
          try clear c2
          try clear p2
          try clear c3
          try clear c4
          try clear c5
          try clear c6
          try clear c6b0
          try clear p6
          try clear c7
          try clear c7b0
          try clear c8
          try clear c8b0
          try clear c12
          try clear c12b0
          try clear c13
          try clear c13b0
          try clear c14
          try clear c14b0
          try clear c15
          try clear p15
          try clear q15
          try clear hx15
          try clear hf15
          try clear p16
          try clear q16
          try clear hx16
          try clear c18
          try clear p18
          try clear q18
          try clear hx18
          try clear c20
          try clear c21
          try clear c22
          try clear c32
          try clear c33
          try clear c34
          try clear c36
          try clear c42
          try clear c42b0
          try clear c43
          try clear c43b0
          try clear c44
          try clear c44b0
          try clear c46
          try clear c47
          try clear c50
          try clear c51
          try clear hcz23_0
          try clear hcz23_1
          try clear hcz23_2
          try clear hcz35_0
          try clear hcz35_1
          try clear hcz35_2
          try clear hcz35_3
          try clear hcz37_0
          try clear hcz41_0
          try clear hcz41_1
          try clear hcz41_2
          try clear hcz41_3
          try clear hcz48_0
          try clear hcz48_1
          try clear hcz51_0
          try clear hcz51_1
          try clear hfz23_0
          try clear hfz23_1
          try clear hfz23_2
          try clear hfz35_0
          try clear hfz35_1
          try clear hfz35_2
          try clear hfz35_3
          try clear hfz37_0
          try clear hfz41_0
          try clear hfz41_1
          try clear hfz41_2
          try clear hfz41_3
          try clear hfz48_0
          try clear hfz48_1
          try clear hfz51_0
          try clear hfz51_1
          try clear hx159_0
          try clear hx164_0
          try clear hx164_1
          try clear hx164_2
          try clear hx184_0
          try clear hx184_1
          try clear p1
          try clear p15
          try clear p159
          try clear p16
          try clear p164
          try clear p184
          try clear p2
          try clear p6
          try clear q1
          try clear q15
          try clear q159
          try clear q16
          try clear q164
          try clear q184
          obtain ⟨x79_3, x1000_3, x1001_3, x1002_3, x187003_3, u187003, rfl, HA, HK3, HO_1, HO_70, HO_159002, HO_159003, HO_187003, BK158, BK185, BK186, HI0, HK, HB⟩ := hrel
          cases gk with
          | zero => exact absurd HA.out (by simp [impl_builder_store.l3])
          | succ k3 =>
           have H := HA.out
           clear HA
           simp only [impl_builder_store.l3] at H
           by_cases c52 : x79_3 < (((rd_T41 l2 x72_2).f0).length : Int)
           ·rw [if_pos c52] at H
            have c52b0 : decide (x79_3 < (((rd_T41 l2 x72_2).f0).length : Int)) = true := decide_eq_true c52
            clear c52
            by_cases c53 : 0 ≤ x79_3
            ·rw [if_pos c53] at H
             have c53b0 : decide (0 ≤ x79_3) = true := decide_eq_true c53
             clear c53
             by_cases c54 : x79_3 < (((rd_T41 l2 x72_2).f0).length : Int)
             ·rw [if_pos c54] at H
              have c54b0 : decide (x79_3 < (((rd_T41 l2 x72_2).f0).length : Int)) = true := decide_eq_true c54
              clear c54
              by_cases c55 : (rd ((rd_T41 l2 x72_2).f0) x79_3) ≥ 0
              ·rw [if_pos c55] at H
               have c55b0 : decide (0 ≤ (rd ((rd_T41 l2 x72_2).f0) x79_3)) = true := decide_eq_true c55
               clear c55
               replace H := Option.bind_eq_some_iff.mp H
               obtain ⟨⟨t188, t189, t190⟩, A560, H⟩ := H
               replace H : ((impl_builder_small.f t188 t189 t190 (rd ((rd_T41 l2 x72_2).f0) x79_3)).bind fun bt191 => (if x187003_3.length < 70368744177664 then (impl_builder_store.l3 k3 l1 l2 (l2.length : Int) x72_2 ((rd_T41 l2 x72_2).f0) (((rd_T41 l2 x72_2).f0).length : Int) (wrap64 (x79_3 + 1)) bt191.2.1 bt191.2.2.1 bt191.2.2.2 0 0 x159002_1 x159003_2 ((rd_T41 l2 x72_2).f0) ((rd_T41 l2 x72_2).f1) 0 0 0 (x187003_3 ++ [bt191.1])) else (none))) = some (r1, r2, r3, r4, r5, r6, r7) := H
               have A56 := Aside0.mk A560
               clear A560
               replace H := Option.bind_eq_some_iff.mp H
               obtain ⟨⟨t191, t192, t193, t194⟩, A570, H⟩ := H
               replace H : (if x187003_3.length < 70368744177664 then (impl_builder_store.l3 k3 l1 l2 (l2.length : Int) x72_2 ((rd_T41 l2 x72_2).f0) (((rd_T41 l2 x72_2).f0).length : Int) (wrap64 (x79_3 + 1)) t192 t193 t194 0 0 x159002_1 x159003_2 ((rd_T41 l2 x72_2).f0) ((rd_T41 l2 x72_2).f1) 0 0 0 (x187003_3 ++ [t191])) else (none)) = some (r1, r2, r3, r4, r5, r6, r7) := H
               have A57 := Aside0.mk A570
               clear A570
               by_cases c58 : x187003_3.length < 70368744177664
               ·rw [if_pos c58] at H
                have LMc58 := Aside0.mk c58
                clear c58
                obtain ⟨y195, hy195⟩ : ∃ y_ : List Int, y_ = (x187003_3 ++ [t191]) := ⟨_, rfl⟩
                replace H : (impl_builder_store.l3 k3 l1 l2 (l2.length : Int) x72_2 ((rd_T41 l2 x72_2).f0) (((rd_T41 l2 x72_2).f0).length : Int) (wrap64 (x79_3 + 1)) t192 t193 t194 0 0 x159002_1 x159003_2 ((rd_T41 l2 x72_2).f0) ((rd_T41 l2 x72_2).f1) 0 0 0 y195) = some (r1, r2, r3, r4, r5, r6, r7) := by first | (rw [hy195]; with_reducible exact H) | (have H2_ := (Option.bind_some _ _).symm.trans H; rw [hy195]; with_reducible exact H2_) | (have H2_ := (Option.bind_some _ _).symm.trans H; with_reducible exact H2_) | with_reducible exact H | (rw [hy195]; exact H) | exact H
                have Ny195 := Aside0.mk hy195
                clear hy195
                have H' := Aside0.mk H
                clear H
                have p187 : 0 ≤ (x79_3 : Int) := of_decide_eq_true (by first | (with_reducible assumption) | assumption)
                have q187 : x79_3 < (((rd_T41 l2 x72_2).f0).length : Int) := of_decide_eq_true (by first | (with_reducible assumption) | assumption)
                have HR184_0 := Aside0.mk (Kd.F_now (Kd.F_keep HF184.out.1 HK.out (fun _ h_ => h_.2)))
                obtain ⟨ad187, e187, hx187_0⟩ := Kd.at_int HR184_0.out x79_3 p187 q187
                cases e187
                replace p187 := eq_true p187
                replace q187 := eq_true q187
                try go_wp2_with (first | ((with_reducible refine gate_callee (f := 50) rfl ?_); refine goesL_ (some 92) rfl rfl Try.func50 (by kernel_rfl) rfl #[.pointer (some ⟨g, 0, none⟩), .bool (decide ((rd ((rd_T41 l2 x72_2).f0) x79_3) < (l1.length : Int)))] rfl (by (try simp only [List.map_toArray, List.map_cons, List.map_nil]); first | done | rfl | (simp only [List.length_drop, List.length_take]; rfl)) ?_; (with_reducible refine (impl_builder_must.calls g x1000_3 x1001_3 x1002_3 (decide ((rd ((rd_T41 l2 x72_2).f0) x79_3) < (l1.length : Int))) t188 t189 t190 w0 _ ?side1 ?side2 A56.out).mono ?_); (case side1 => repeat (first | (with_reducible first | exact HI0.out | apply IsS102.alloc | apply IsS102.drewN | apply IsS102.drew | apply IsS102.set_0 | apply IsS102.set_1 | apply IsS102.set_2 | refine IsS102.far ?_ NB0_158.out _ | refine IsS102.far ?_ NB0_185.out _ | refine IsS102.far ?_ NB0_186.out _) | exact HI0.out)); (case side2 => repeat (first | (with_reducible first | exact HB.out | apply below_alloc | apply pw_below_drewN | apply below_drew1 | refine below_set ?_ (IsS102.ge HI0.out) | refine below_set ?_ GE158.out | refine below_set ?_ GE185.out | refine below_set ?_ GE186.out) | exact HB.out)); rintro e w59 ⟨rfl, hi, hb, hk⟩; refine ⟨_, rfl, ?_⟩; have n0_ := Aside0.mk (Kd.V_mono (Kd.V_keep (Kd.V_mono (ok := fun k_ => ((((P1_ k_ ∨ P2_ k_) ∨ w.heap.size ≤ k_)) ∧ (some k_ ≠ (u159002 : Value).ownBlock ∧ (some k_ ≠ (u159003 : Value).ownBlock ∧ (some k_ ≠ (u187003 : Value).ownBlock ∧ (k_ ≠ gb158 ∧ (k_ ≠ gb185 ∧ (k_ ≠ gb186 ∧ k_ ≠ g)))))))) (by (with_reducible repeat (first | apply Kd.V_alloc | apply Kd.V_drewN | apply Kd.V_drew)); exact HO_1.out) (fun k_ hk_ => (⟨hk_, hk_.2.2.2.2.2.2.2⟩ : _ ∧ k_ ≠ g))) hk (fun _ h => h.2)) (fun _ h => h.1)); have n1_ := Aside0.mk (Kd.V_mono (Kd.V_keep (Kd.V_mono (ok := fun k_ => ((((P1_ k_ ∨ P2_ k_) ∨ w.heap.size ≤ k_)) ∧ (some k_ ≠ (u159002 : Value).ownBlock ∧ (some k_ ≠ (u159003 : Value).ownBlock ∧ (some k_ ≠ (u187003 : Value).ownBlock ∧ (k_ ≠ gb158 ∧ (k_ ≠ gb185 ∧ (k_ ≠ gb186 ∧ k_ ≠ g)))))))) (by (with_reducible repeat (first | apply Kd.V_alloc | apply Kd.V_drewN | apply Kd.V_drew)); exact HO_70.out) (fun k_ hk_ => (⟨hk_, hk_.2.2.2.2.2.2.2⟩ : _ ∧ k_ ≠ g))) hk (fun _ h => h.2)) (fun _ h => h.1)); have n2_ := Aside0.mk (Kd.S_mono (Kd.S_keep (IsS102.apartS (show IsS102 w0 _ g x1000_3 x1001_3 x1002_3 from by repeat (first | (with_reducible first | exact HI0.out | apply IsS102.alloc | apply IsS102.drewN | apply IsS102.drew | apply IsS102.set_0 | apply IsS102.set_1 | apply IsS102.set_2 | refine IsS102.far ?_ NB0_158.out _ | refine IsS102.far ?_ NB0_185.out _ | refine IsS102.far ?_ NB0_186.out _) | exact HI0.out)) (by (with_reducible repeat (first | apply Kd.S_alloc | apply Kd.S_drewN | apply Kd.S_drew)); exact HO_159002.out) (by decide)) hk (fun _ h => h.2)) (fun _ h => h.1)); have n3_ := Aside0.mk (Kd.R_mono (Kd.R_keep (IsS102.apart (show IsS102 w0 _ g x1000_3 x1001_3 x1002_3 from by repeat (first | (with_reducible first | exact HI0.out | apply IsS102.alloc | apply IsS102.drewN | apply IsS102.drew | apply IsS102.set_0 | apply IsS102.set_1 | apply IsS102.set_2 | refine IsS102.far ?_ NB0_158.out _ | refine IsS102.far ?_ NB0_185.out _ | refine IsS102.far ?_ NB0_186.out _) | exact HI0.out)) (by (with_reducible repeat (first | apply Kd.R_alloc | apply Kd.R_drewN | apply Kd.R_drew)); exact HO_159003.out) (by decide)) hk (fun _ h => h.2)) (fun _ h => h.1)); have n4_ := Aside0.mk (Kd.R_mono (Kd.R_keep (IsS102.apart (show IsS102 w0 _ g x1000_3 x1001_3 x1002_3 from by repeat (first | (with_reducible first | exact HI0.out | apply IsS102.alloc | apply IsS102.drewN | apply IsS102.drew | apply IsS102.set_0 | apply IsS102.set_1 | apply IsS102.set_2 | refine IsS102.far ?_ NB0_158.out _ | refine IsS102.far ?_ NB0_185.out _ | refine IsS102.far ?_ NB0_186.out _) | exact HI0.out)) (by (with_reducible repeat (first | apply Kd.R_alloc | apply Kd.R_drewN | apply Kd.R_drew)); exact HO_187003.out) (by decide)) hk (fun _ h => h.2)) (fun _ h => h.1)); have n5_ := Aside0.mk (KeepBut.blk hk (g' := gb158) (o := .cells #[.int .u16 0, .int .u16 0, u159002, u159003] 109 (0, 0)) (by (with_reducible repeat (first | refine b1_ ?_ _ | refine b2_ ?_ | refine b3_ ?_ _)); exact BK158.out) NB158_0.out (by simp)); have n6_ := Aside0.mk (KeepBut.blk hk (g' := gb185) (o := .cells #[.slice (some ad187) ((rd_T41 l2 x72_2).f0).length c184_0, .slice A184_1 ((rd_T41 l2 x72_2).f1).length c184_1] 41 (0, 0)) (by (with_reducible repeat (first | refine b1_ ?_ _ | refine b2_ ?_ | refine b3_ ?_ _)); exact BK185.out) NB185_0.out (by simp)); have n7_ := Aside0.mk (KeepBut.blk hk (g' := gb186) (o := .cells #[.int .u16 0, .int .u16 0, .int .u16 0, u187003, .slice none 0 0] 186 (0, 0)) (by (with_reducible repeat (first | refine b1_ ?_ _ | refine b2_ ?_ | refine b3_ ?_ _)); exact BK186.out) NB186_0.out (by simp)); have n8_ := Aside0.mk (KeepBut.trans (by repeat (first | (with_reducible first | exact HK.out | apply KeepBut.set_ | apply keep_drewN | apply keep_drew | apply keep_alloc | refine keep_far ?_ GW158.out _ | refine keep_far ?_ GW185.out _ | refine keep_far ?_ GW186.out _) | exact HK.out)) hk (.inl rfl)); have n9_ := Aside0.mk (hb); have n10_ := Aside0.mk (hi); clear HO_1; clear HO_70; clear HO_159002; clear HO_159003; clear HO_187003; clear BK158; clear BK185; clear BK186; clear HK; clear HB; clear HI0; have HO_1 := n0_; have HO_70 := n1_; have HO_159002 := n2_; have HO_159003 := n3_; have HO_187003 := n4_; have BK158 := n5_; have BK185 := n6_; have BK186 := n7_; have HK := n8_; have HB := n9_; have HI0 := n10_; clear n0_ n1_ n2_ n3_ n4_ n5_ n6_ n7_ n8_ n9_ n10_; (try clear hb); (try clear hb2); (try clear hk); (try clear hi)))
                have n0_ := Aside0.mk (Kd.V_drew HO_1.out)
                have n1_ := Aside0.mk (Kd.V_drew HO_70.out)
                have n2_ := Aside0.mk (Kd.S_drew HO_159002.out)
                have n3_ := Aside0.mk (Kd.R_drew HO_159003.out)
                have n4_ := Aside0.mk (Kd.R_drew HO_187003.out)
                have n5_ := Aside0.mk (blk_drew BK158.out)
                have n6_ := Aside0.mk (blk_drew BK185.out)
                have n7_ := Aside0.mk (blk_drew BK186.out)
                have n8_ := Aside0.mk (IsS102.drew HI0.out)
                have n9_ := Aside0.mk (keep_drew HK.out)
                have n10_ := Aside0.mk (below_drew1 HB.out)
                clear HO_1
                clear HO_70
                clear HO_159002
                clear HO_159003
                clear HO_187003
                clear BK158
                clear BK185
                clear BK186
                clear HI0
                clear HK
                clear HB
                have HO_1 := n0_
                have HO_70 := n1_
                have HO_159002 := n2_
                have HO_159003 := n3_
                have HO_187003 := n4_
                have BK158 := n5_
                have BK185 := n6_
                have BK186 := n7_
                have HI0 := n8_
                have HK := n9_
                have HB := n10_
                clear n0_ n1_ n2_ n3_ n4_ n5_ n6_ n7_ n8_ n9_ n10_
                refine start_ (n := 9) (S := fun w' => w'.cell? ⟨gb186, 0, none⟩ = some (.int .u16 0) ∧ w'.cell? ⟨gb186, 1, none⟩ = some (.int .u16 0) ∧ w'.cell? ⟨gb186, 2, none⟩ = some (.int .u16 0) ∧ w'.cell? ⟨gb186, 3, none⟩ = some (u187003) ∧ w'.cell? ⟨gb186, 4, none⟩ = some (.slice none 0 0)) (ds := [8]) #[ff,ff,ff,ff,ff,ff,ff,ff,ff] (by kernel_rfl) rfl rfl ⟨(blk_cell BK186.out 0).trans rfl, (blk_cell BK186.out 1).trans rfl, (blk_cell BK186.out 2).trans rfl, (blk_cell BK186.out 3).trans rfl, (blk_cell BK186.out 4).trans rfl⟩ (fun hHeld => ?_); refine with_tabW impl_builder_store.tab21 impl_builder_store.bits21 (fun HT_ HW_ => ?_)
                generalize w59.drew = w60 at HO_1 HO_70 HO_159002 HO_159003 HO_187003 BK158 BK185 BK186 HI0 HK HB hHeld ⊢
                refine pure_ (i := 0) (N := some 93) (v := ?_) (a' := ?_) #[true, false, false, false, false, false, false, false, false] rfl rfl (any_of HT_.out (by kernel_rfl)) (fun _ _ _ h => h) (Or.inl ⟨by rfl, ?_⟩) ?_ ?_
                rotate_left
                ·intro w'
                 go_simp
                 with_reducible rfl
                rotate_left
                ·simp only [Act.put, L1_, L2_, L3_, i64_w, i32_w]
                 rfl
                refine pure_ (i := 2) (N := some 95) (v := ?_) (a' := ?_) #[true, false, true, false, false, false, false, false, false] rfl rfl (any_of HT_.out (by kernel_rfl)) (fun _ _ _ h => h) (Or.inl ⟨by rfl, ?_⟩) ?_ ?_
                rotate_left
                ·intro w'
                 go_simp
                 with_reducible rfl
                rotate_left
                ·simp only [Act.put, L1_, L2_, L3_, i64_w, i32_w]
                 rfl
                refine pure_ (i := 3) (N := some 96) (v := ?_) (a' := ?_) #[true, false, true, true, false, false, false, false, false] rfl rfl (any_of HT_.out (by kernel_rfl)) (fun _ _ _ h => h) (Or.inl ⟨by rfl, ?_⟩) ?_ ?_
                rotate_left
                ·intro w'
                 go_simp
                 with_reducible rfl
                rotate_left
                ·simp only [Act.put, L1_, L2_, L3_, i64_w, i32_w]
                 rfl
                refine take_ (i := 1) (N := some 94) (v := ?_) (a' := ?_) #[true, true, true, true, false, false, false, false, false] rfl rfl (take_ofW HT_.out HW_.out (by kernel_rfl)) (fun _ _ _ h => h) (Or.inl ⟨by rfl, ?_⟩) hHeld ?_ ?_
                rotate_left
                ·rintro w' ⟨s0, s1, s2, s3, s4⟩
                 go_simp
                 with_reducible rfl
                rotate_left
                ·simp only [Act.put, L1_, L2_, L3_, i64_w, i32_w]
                 rfl
                refine one_ (i := 4) (N := some 97) #[true, true, true, true, true, false, false, false, false] rfl rfl (one_of HT_.out (by kernel_rfl)) (by decide) (fun K hK => ?_)
                refine goes_ Try.func35 (by kernel_rfl) rfl #[.pointer (some ⟨g, 0, none⟩), .int .i64 (rd ((rd_T41 l2 x72_2).f0) x79_3)] (by rfl) rfl rfl (by (try simp only [List.map_toArray, List.map_cons, List.map_nil]); first | done | rfl | (simp only [List.length_drop, List.length_take]; rfl)) ?_
                with_reducible refine (impl_builder_small.calls g t188 t189 t190 (rd ((rd_T41 l2 x72_2).f0) x79_3) t191 t192 t193 t194 w0 _ ?side1 ?side2 A57.out).mono ?_
                (case side1 => repeat (first | (with_reducible first | exact HI0.out | apply IsS102.alloc | apply IsS102.drewN | apply IsS102.drew | apply IsS102.set_0 | apply IsS102.set_1 | apply IsS102.set_2 | refine IsS102.far ?_ NB0_158.out _ | refine IsS102.far ?_ NB0_185.out _ | refine IsS102.far ?_ NB0_186.out _) | exact HI0.out))
                (case side2 => repeat (first | (with_reducible first | exact HB.out | apply below_alloc | apply pw_below_drewN | apply below_drew1 | refine below_set ?_ (IsS102.ge HI0.out) | refine below_set ?_ GE158.out | refine below_set ?_ GE185.out | refine below_set ?_ GE186.out) | exact HB.out))
                rintro e w61 ⟨rfl, hi, hb, hk⟩
                refine ⟨_, rfl, ?_⟩
                have n0_ := Aside0.mk (Kd.V_mono (Kd.V_keep (Kd.V_mono (ok := fun k_ => ((((P1_ k_ ∨ P2_ k_) ∨ w.heap.size ≤ k_)) ∧ (some k_ ≠ (u159002 : Value).ownBlock ∧ (some k_ ≠ (u159003 : Value).ownBlock ∧ (some k_ ≠ (u187003 : Value).ownBlock ∧ (k_ ≠ gb158 ∧ (k_ ≠ gb185 ∧ (k_ ≠ gb186 ∧ k_ ≠ g)))))))) (by (with_reducible repeat (first | apply Kd.V_alloc | apply Kd.V_drewN | apply Kd.V_drew)); exact HO_1.out) (fun k_ hk_ => (⟨hk_, hk_.2.2.2.2.2.2.2⟩ : _ ∧ k_ ≠ g))) hk (fun _ h => h.2)) (fun _ h => h.1))
                have n1_ := Aside0.mk (Kd.V_mono (Kd.V_keep (Kd.V_mono (ok := fun k_ => ((((P1_ k_ ∨ P2_ k_) ∨ w.heap.size ≤ k_)) ∧ (some k_ ≠ (u159002 : Value).ownBlock ∧ (some k_ ≠ (u159003 : Value).ownBlock ∧ (some k_ ≠ (u187003 : Value).ownBlock ∧ (k_ ≠ gb158 ∧ (k_ ≠ gb185 ∧ (k_ ≠ gb186 ∧ k_ ≠ g)))))))) (by (with_reducible repeat (first | apply Kd.V_alloc | apply Kd.V_drewN | apply Kd.V_drew)); exact HO_70.out) (fun k_ hk_ => (⟨hk_, hk_.2.2.2.2.2.2.2⟩ : _ ∧ k_ ≠ g))) hk (fun _ h => h.2)) (fun _ h => h.1))
                have n2_ := Aside0.mk (Kd.S_mono (Kd.S_keep (IsS102.apartS (show IsS102 w0 _ g t188 t189 t190 from by repeat (first | (with_reducible first | exact HI0.out | apply IsS102.alloc | apply IsS102.drewN | apply IsS102.drew | apply IsS102.set_0 | apply IsS102.set_1 | apply IsS102.set_2 | refine IsS102.far ?_ NB0_158.out _ | refine IsS102.far ?_ NB0_185.out _ | refine IsS102.far ?_ NB0_186.out _) | exact HI0.out)) (by (with_reducible repeat (first | apply Kd.S_alloc | apply Kd.S_drewN | apply Kd.S_drew)); exact HO_159002.out) (by decide)) hk (fun _ h => h.2)) (fun _ h => h.1))
                have n3_ := Aside0.mk (Kd.R_mono (Kd.R_keep (IsS102.apart (show IsS102 w0 _ g t188 t189 t190 from by repeat (first | (with_reducible first | exact HI0.out | apply IsS102.alloc | apply IsS102.drewN | apply IsS102.drew | apply IsS102.set_0 | apply IsS102.set_1 | apply IsS102.set_2 | refine IsS102.far ?_ NB0_158.out _ | refine IsS102.far ?_ NB0_185.out _ | refine IsS102.far ?_ NB0_186.out _) | exact HI0.out)) (by (with_reducible repeat (first | apply Kd.R_alloc | apply Kd.R_drewN | apply Kd.R_drew)); exact HO_159003.out) (by decide)) hk (fun _ h => h.2)) (fun _ h => h.1))
                have n4_ := Aside0.mk (Kd.R_mono (Kd.R_keep (IsS102.apart (show IsS102 w0 _ g t188 t189 t190 from by repeat (first | (with_reducible first | exact HI0.out | apply IsS102.alloc | apply IsS102.drewN | apply IsS102.drew | apply IsS102.set_0 | apply IsS102.set_1 | apply IsS102.set_2 | refine IsS102.far ?_ NB0_158.out _ | refine IsS102.far ?_ NB0_185.out _ | refine IsS102.far ?_ NB0_186.out _) | exact HI0.out)) (by (with_reducible repeat (first | apply Kd.R_alloc | apply Kd.R_drewN | apply Kd.R_drew)); exact HO_187003.out) (by decide)) hk (fun _ h => h.2)) (fun _ h => h.1))
                have n5_ := Aside0.mk (KeepBut.blk hk (g' := gb158) (o := .cells #[.int .u16 0, .int .u16 0, u159002, u159003] 109 (0, 0)) (by (with_reducible repeat (first | refine b1_ ?_ _ | refine b2_ ?_ | refine b3_ ?_ _)); exact BK158.out) NB158_0.out (by simp))
                have n6_ := Aside0.mk (KeepBut.blk hk (g' := gb185) (o := .cells #[.slice (some ad187) ((rd_T41 l2 x72_2).f0).length c184_0, .slice A184_1 ((rd_T41 l2 x72_2).f1).length c184_1] 41 (0, 0)) (by (with_reducible repeat (first | refine b1_ ?_ _ | refine b2_ ?_ | refine b3_ ?_ _)); exact BK185.out) NB185_0.out (by simp))
                have n7_ := Aside0.mk (KeepBut.blk hk (g' := gb186) (o := .cells #[.int .u16 0, .int .u16 0, .int .u16 0, u187003, .slice none 0 0] 186 (0, 0)) (by (with_reducible repeat (first | refine b1_ ?_ _ | refine b2_ ?_ | refine b3_ ?_ _)); exact BK186.out) NB186_0.out (by simp))
                have n8_ := Aside0.mk (KeepBut.trans (by repeat (first | (with_reducible first | exact HK.out | apply KeepBut.set_ | apply keep_drewN | apply keep_drew | apply keep_alloc | refine keep_far ?_ GW158.out _ | refine keep_far ?_ GW185.out _ | refine keep_far ?_ GW186.out _) | exact HK.out)) hk (.inl rfl))
                have n9_ := Aside0.mk (hb)
                have n10_ := Aside0.mk (hi)
                clear HO_1
                clear HO_70
                clear HO_159002
                clear HO_159003
                clear HO_187003
                clear BK158
                clear BK185
                clear BK186
                clear HK
                clear HB
                clear HI0
                have HO_1 := n0_
                have HO_70 := n1_
                have HO_159002 := n2_
                have HO_159003 := n3_
                have HO_187003 := n4_
                have BK158 := n5_
                have BK185 := n6_
                have BK186 := n7_
                have HK := n8_
                have HB := n9_
                have HI0 := n10_
                clear n0_ n1_ n2_ n3_ n4_ n5_ n6_ n7_ n8_ n9_ n10_
                (try clear hb)
                (try clear hb2)
                (try clear hk)
                (try clear hi)
                refine hK.out _ _ ⟨(blk_cell BK186.out 0).trans rfl, (blk_cell BK186.out 1).trans rfl, (blk_cell BK186.out 2).trans rfl, (blk_cell BK186.out 3).trans rfl, (blk_cell BK186.out 4).trans rfl⟩ (fun hHeld => ?_)
                clear hK K
                refine norm_ (a' := ?_) ?_ ?_
                rotate_left
                ·show Act.put _ (some 97) _ = _
                 simp only [Act.put, L1_, L2_, L3_, i64_w, i32_w]
                 rfl
                refine one_ (i := 5) (N := some 98) #[true, true, true, true, true, true, false, false, false] rfl rfl (one_of HT_.out (by kernel_rfl)) (by decide) (fun K hK => ?_)
                refine value_ (w1 := ?_) (v := ?_) (by rfl) rfl ?_ ?_
                rotate_left 2
                ·go_simp
                 constructor
                 ·rfl
                 ·rfl
                refine hK.out _ _ ⟨(blk_cell (blk_alloc BK186.out _) 0).trans rfl, (blk_cell (blk_alloc BK186.out _) 1).trans rfl, (blk_cell (blk_alloc BK186.out _) 2).trans rfl, (blk_cell (blk_alloc BK186.out _) 3).trans rfl, (blk_cell (blk_alloc BK186.out _) 4).trans rfl⟩ (fun hHeld => ?_)
                clear hK K
                refine norm_ (a' := ?_) ?_ ?_
                rotate_left
                ·show Act.put _ (some 98) _ = _
                 simp only [Act.put, L1_, L2_, L3_, i64_w, i32_w]
                 rfl
                refine one_ (i := 6) (N := some 99) #[true, true, true, true, true, true, true, false, false] rfl rfl (one_of HT_.out (by kernel_rfl)) (by decide) (fun K hK => ?_)
                refine Kd.R_append_step (Kd.int .u16) w.heap.size (by rfl) (.tmp 94) (.tmp 98) 155 103 (.int .u16 0) 2 rfl Try.underlying155 info103 rfl (by decide) (by omega) u187003 x187003_3 t191 [.int .u16 t191] (fun k_ => (w.heap.size ≤ k_)) (fun _ => False) rfl rfl ?aP (fun _ hk => hk.elim) ?aF ?aO (Below.refl _ _) ?aS ?aL ?_
                (case aP => exact rfl)
                (case aF => exact (fun k_ hk => (Nat.le_trans (keep_size (w := w) (g := g) (row := none) (by repeat (first | (with_reducible first | exact HK.out | apply KeepBut.set_ | apply keep_drewN | apply keep_drew | apply keep_alloc | refine keep_far ?_ GW158.out _ | refine keep_far ?_ GW185.out _ | refine keep_far ?_ GW186.out _) | exact HK.out))) hk)))
                (case aO => exact (by (with_reducible repeat (first | apply Kd.R_alloc | apply Kd.R_drewN | apply Kd.R_drew)); exact HO_187003.out))
                (case aS => exact (keep_size (w := w) (g := g) (row := none) (by repeat (first | (with_reducible first | exact HK.out | apply KeepBut.set_ | apply keep_drewN | apply keep_drew | apply keep_alloc | refine keep_far ?_ GW158.out _ | refine keep_far ?_ GW185.out _ | refine keep_far ?_ GW186.out _) | exact HK.out))))
                (case aL => have := LMc58.out; omega)
                intro v196 w62 ho hb hg hat
                rw [← Ny195.out] at ho
                have n0_ := Aside0.mk (Kd.V_afterv (ok := (fun k_ => ((P1_ k_ ∨ P2_ k_) ∨ w.heap.size ≤ k_) ∧ some k_ ≠ (u159002 : Value).ownBlock ∧ some k_ ≠ (u159003 : Value).ownBlock ∧ k_ ≠ gb158 ∧ k_ ≠ gb185 ∧ k_ ≠ gb186 ∧ k_ ≠ g)) (by (with_reducible repeat (first | apply Kd.V_alloc | apply Kd.V_drewN | apply Kd.V_drew)); exact Kd.V_mono HO_1.out (fun _ hk => ⟨⟨hk.1, ⟨hk.2.1, ⟨hk.2.2.1, ⟨hk.2.2.2.2.1, ⟨hk.2.2.2.2.2.1, ⟨hk.2.2.2.2.2.2.1, hk.2.2.2.2.2.2.2⟩⟩⟩⟩⟩⟩, hk.2.2.2.1⟩)) hg hat)
                have n1_ := Aside0.mk (Kd.V_afterv (ok := (fun k_ => ((P1_ k_ ∨ P2_ k_) ∨ w.heap.size ≤ k_) ∧ some k_ ≠ (u159002 : Value).ownBlock ∧ some k_ ≠ (u159003 : Value).ownBlock ∧ k_ ≠ gb158 ∧ k_ ≠ gb185 ∧ k_ ≠ gb186 ∧ k_ ≠ g)) (by (with_reducible repeat (first | apply Kd.V_alloc | apply Kd.V_drewN | apply Kd.V_drew)); exact Kd.V_mono HO_70.out (fun _ hk => ⟨⟨hk.1, ⟨hk.2.1, ⟨hk.2.2.1, ⟨hk.2.2.2.2.1, ⟨hk.2.2.2.2.2.1, ⟨hk.2.2.2.2.2.2.1, hk.2.2.2.2.2.2.2⟩⟩⟩⟩⟩⟩, hk.2.2.2.1⟩)) hg hat)
                have n2_ := Aside0.mk (Kd.S_over' (by (with_reducible repeat (first | apply Kd.S_alloc | apply Kd.S_drewN | apply Kd.S_drew)); exact HO_159002.out) (Kd.R_typed (by (with_reducible repeat (first | apply Kd.R_alloc | apply Kd.R_drewN | apply Kd.R_drew)); exact HO_187003.out)) (by decide) hg)
                have n3_ := Aside0.mk (Kd.R_after (ok := (fun k_ => (w.heap.size ≤ k_) ∧ k_ ≠ gb186)) (by (with_reducible repeat (first | apply Kd.R_alloc | apply Kd.R_drewN | apply Kd.R_drew)); exact Kd.R_mono HO_159003.out (fun _ hk => ⟨⟨hk.1, hk.2.2⟩, hk.2.1⟩)) hg hat)
                have n4_ := Aside0.mk (blk_grown (g := gb158) (o := .cells #[.int .u16 0, .int .u16 0, u159002, u159003] 109 (0, 0)) (by (with_reducible repeat (first | refine b1_ ?_ _ | refine b2_ ?_ | refine b3_ ?_ _)); exact BK158.out) hg (Kd.R_ne HO_187003.out BK158.out (by decide)))
                have n5_ := Aside0.mk (blk_grown (g := gb185) (o := .cells #[.slice (some ad187) ((rd_T41 l2 x72_2).f0).length c184_0, .slice A184_1 ((rd_T41 l2 x72_2).f1).length c184_1] 41 (0, 0)) (by (with_reducible repeat (first | refine b1_ ?_ _ | refine b2_ ?_ | refine b3_ ?_ _)); exact BK185.out) hg (Kd.R_ne HO_187003.out BK185.out (by decide)))
                have n6_ := Aside0.mk (blk_grown (g := gb186) (o := .cells #[.int .u16 0, .int .u16 0, .int .u16 0, u187003, .slice none 0 0] 186 (0, 0)) (by (with_reducible repeat (first | refine b1_ ?_ _ | refine b2_ ?_ | refine b3_ ?_ _)); exact BK186.out) hg (Kd.R_ne HO_187003.out BK186.out (by decide)))
                have n7_ := Aside0.mk (IsS102.grown (by repeat (first | (with_reducible first | exact HI0.out | apply IsS102.alloc | apply IsS102.drewN | apply IsS102.drew | apply IsS102.set_0 | apply IsS102.set_1 | apply IsS102.set_2 | refine IsS102.far ?_ NB0_158.out _ | refine IsS102.far ?_ NB0_185.out _ | refine IsS102.far ?_ NB0_186.out _) | exact HI0.out)) hg (IsS102.own_ne HI0.out HO_187003.out (by decide)))
                have n8_ := Aside0.mk (below_weaken (by repeat (first | (with_reducible first | exact HB.out | apply below_alloc | apply pw_below_drewN | apply below_drew1 | refine below_set ?_ (IsS102.ge HI0.out) | refine below_set ?_ GE158.out | refine below_set ?_ GE185.out | refine below_set ?_ GE186.out) | exact HB.out)) HL.out hb)
                have n9_ := Aside0.mk (KeepBut.trans (by repeat (first | (with_reducible first | exact HK.out | apply KeepBut.set_ | apply keep_drewN | apply keep_drew | apply keep_alloc | refine keep_far ?_ GW158.out _ | refine keep_far ?_ GW185.out _ | refine keep_far ?_ GW186.out _) | exact HK.out)) (KeepBut.of_grown hg g) (Kd.R_base2 HO_187003.out))
                have n10_ := Aside0.mk (ho)
                clear HO_1
                clear HO_70
                clear HO_159002
                clear HO_159003
                clear BK158
                clear BK185
                clear BK186
                clear HI0
                clear HB
                clear HK
                clear HO_187003
                have HO_1 := n0_
                have HO_70 := n1_
                have HO_159002 := n2_
                have HO_159003 := n3_
                have BK158 := n4_
                have BK185 := n5_
                have BK186 := n6_
                have HI0 := n7_
                have HB := n8_
                have HK := n9_
                have HO197 := n10_
                clear n0_ n1_ n2_ n3_ n4_ n5_ n6_ n7_ n8_ n9_ n10_
                clear ho hb hg hat
                obtain ⟨Ao63, co63, eo63⟩ := Kd.R_slice HO197.out
                (first | subst eo63 | (injection eo63 with f1_ f2_ f3_; have f4_ := f1_.symm; have f5_ := f3_.symm; clear f1_ f2_ f3_; subst f4_; subst f5_))
                refine hK.out _ _ ⟨(blk_cell BK186.out 0).trans rfl, (blk_cell BK186.out 1).trans rfl, (blk_cell BK186.out 2).trans rfl, (blk_cell BK186.out 3).trans rfl, (blk_cell BK186.out 4).trans rfl⟩ (fun hHeld => ?_)
                clear hK K
                refine norm_ (a' := ?_) ?_ ?_
                rotate_left
                ·show Act.put _ (some 99) _ = _
                 simp only [Act.put, L1_, L2_, L3_, i64_w, i32_w]
                 rfl
                refine pure_ (i := 7) (N := some 100) (v := ?_) (a' := ?_) #[true, true, true, true, true, true, true, true, false] rfl rfl (any_of HT_.out (by kernel_rfl)) (fun _ _ _ h => h) (Or.inl ⟨by rfl, ?_⟩) ?_ ?_
                rotate_left
                ·intro w'
                 go_simp
                 with_reducible rfl
                rotate_left
                ·simp only [Act.put, L1_, L2_, L3_, i64_w, i32_w]
                 rfl
                refine last_ (i := 8) (N := none) #[true, true, true, true, true, true, true, true, true] rfl rfl (one_of HT_.out (by kernel_rfl)) (by decide) (fun K hK => ?_)
                have hs64 : w62.cell? ⟨gb186, 3, none⟩ = some (u187003) := (blk_cell BK186.out 3).trans rfl
                have hfs64 := blk_frozen BK186.out 3
                have hns64_0 := NB158_186.out
                have hns64_1 := NB185_186.out
                have hms64_0 := NB186_158.out
                have hms64_1 := NB186_185.out
                refine skip_ (w1 := ?_) (by rfl) rfl ?_ ?_
                rotate_left
                ·go_simp
                 rfl
                refine hK.out _ _ ?_
                clear hK K
                refine done_ (done_of HT_.out (by kernel_rfl)) ?_
                try go_wp2
                go_roundg k3
                case measure => have := HK1.out; have := HK2.out; have := HK3.out; omega
                case rel => exact ⟨(wrap64 (x79_3 + 1)), (t192), (t193), (t194), (y195), (.slice Ao63 y195.length co63), (by first | rfl | (simp; done) | (simp [*]; done)), H', ⟨by have := HK1.out; have := HK2.out; have := HK3.out; omega⟩, ⟨by (with_reducible repeat (first | apply Kd.V_alloc | apply Kd.V_drewN | apply Kd.V_drew)); exact Kd.V_mono (Kd.V_far (p := ⟨gb186, 3, none⟩) (Kd.V_mono HO_1.out (fun k_ hk => (⟨hk, hk.1.2.2.2.2.2.1⟩ : _ ∧ k_ ≠ gb186))) (fun _ hk => hk.2) (.slice Ao63 y195.length co63)) (fun _ hk => ⟨hk.1.1.1, ⟨hk.1.1.2.1, ⟨hk.1.1.2.2.1, ⟨hk.1.2, ⟨hk.1.1.2.2.2.1, ⟨hk.1.1.2.2.2.2.1, ⟨hk.1.1.2.2.2.2.2.1, hk.1.1.2.2.2.2.2.2⟩⟩⟩⟩⟩⟩⟩)⟩, ⟨by (with_reducible repeat (first | apply Kd.V_alloc | apply Kd.V_drewN | apply Kd.V_drew)); exact Kd.V_mono (Kd.V_far (p := ⟨gb186, 3, none⟩) (Kd.V_mono HO_70.out (fun k_ hk => (⟨hk, hk.1.2.2.2.2.2.1⟩ : _ ∧ k_ ≠ gb186))) (fun _ hk => hk.2) (.slice Ao63 y195.length co63)) (fun _ hk => ⟨hk.1.1.1, ⟨hk.1.1.2.1, ⟨hk.1.1.2.2.1, ⟨hk.1.2, ⟨hk.1.1.2.2.2.1, ⟨hk.1.1.2.2.2.2.1, ⟨hk.1.1.2.2.2.2.2.1, hk.1.1.2.2.2.2.2.2⟩⟩⟩⟩⟩⟩⟩)⟩, ⟨by (with_reducible repeat (first | apply Kd.S_alloc | apply Kd.S_drewN | apply Kd.S_drew)); exact Kd.S_mono (Kd.S_far (p := ⟨gb186, 3, none⟩) (Kd.S_types HO_159002.out BK186.out (by decide)) (fun _ hk => hk.2) (.slice Ao63 y195.length co63)) (fun _ hk => hk.1)⟩, ⟨by (with_reducible repeat (first | apply Kd.R_alloc | apply Kd.R_drewN | apply Kd.R_drew)); exact Kd.R_mono (Kd.R_far (p := ⟨gb186, 3, none⟩) (Kd.R_mono HO_159003.out (fun k_ hk => (⟨hk, hk.1.2⟩ : _ ∧ k_ ≠ gb186))) (fun _ hk => hk.2) (.slice Ao63 y195.length co63)) (fun _ hk => ⟨hk.1.1.1, ⟨hk.1.2, hk.1.1.2⟩⟩)⟩, ⟨by (with_reducible repeat (first | apply Kd.R_alloc | apply Kd.R_drewN | apply Kd.R_drew)); exact Kd.R_mono (Kd.R_far (p := ⟨gb186, 3, none⟩) (Kd.R_types HO197.out BK186.out (by decide)) (fun _ hk => hk.2) (.slice Ao63 y195.length co63)) (fun _ hk => hk.1)⟩, ⟨by (with_reducible repeat (first | refine b1_ ?_ _ | refine b2_ ?_ | refine b3_ ?_ _)); refine blk_far ?_ NB158_186.out _; (with_reducible repeat (first | refine b1_ ?_ _ | refine b2_ ?_ | refine b3_ ?_ _)); exact BK158.out⟩, ⟨by (with_reducible repeat (first | refine b1_ ?_ _ | refine b2_ ?_ | refine b3_ ?_ _)); refine blk_far ?_ NB185_186.out _; (with_reducible repeat (first | refine b1_ ?_ _ | refine b2_ ?_ | refine b3_ ?_ _)); exact BK185.out⟩, ⟨by (with_reducible repeat (first | refine b1_ ?_ _ | refine b2_ ?_ | refine b3_ ?_ _)); refine blk_put (cs := #[.int .u16 0, .int .u16 0, .int .u16 0, u187003, .slice none 0 0]) ?_ 3 _ rfl; (with_reducible repeat (first | refine b1_ ?_ _ | refine b2_ ?_ | refine b3_ ?_ _)); exact BK186.out⟩, ⟨by repeat (first | (with_reducible first | exact HI0.out | apply IsS102.alloc | apply IsS102.drewN | apply IsS102.drew | apply IsS102.set_0 | apply IsS102.set_1 | apply IsS102.set_2 | refine IsS102.far ?_ NB0_158.out _ | refine IsS102.far ?_ NB0_185.out _ | refine IsS102.far ?_ NB0_186.out _) | exact HI0.out)⟩, ⟨by repeat (first | (with_reducible first | exact HK.out | apply KeepBut.set_ | apply keep_drewN | apply keep_drew | apply keep_alloc | refine keep_far ?_ GW158.out _ | refine keep_far ?_ GW185.out _ | refine keep_far ?_ GW186.out _) | exact HK.out)⟩, ⟨by repeat (first | (with_reducible first | exact HB.out | apply below_alloc | apply pw_below_drewN | apply below_drew1 | refine below_set ?_ (IsS102.ge HI0.out) | refine below_set ?_ GE158.out | refine below_set ?_ GE185.out | refine below_set ?_ GE186.out) | exact HB.out)⟩⟩
               ·rw [if_neg c58] at H
                exact absurd H (by simp)
              ·rw [if_neg c55] at H
               have c55b0 : decide (0 ≤ (rd ((rd_T41 l2 x72_2).f0) x79_3)) = false := decide_eq_false c55
               clear c55
               replace H := Option.bind_eq_some_iff.mp H
               obtain ⟨⟨t198, t199, t200⟩, A650, H⟩ := H
               replace H : ((impl_builder_small.f t198 t199 t200 (rd ((rd_T41 l2 x72_2).f0) x79_3)).bind fun bt201 => (if x187003_3.length < 70368744177664 then (impl_builder_store.l3 k3 l1 l2 (l2.length : Int) x72_2 ((rd_T41 l2 x72_2).f0) (((rd_T41 l2 x72_2).f0).length : Int) (wrap64 (x79_3 + 1)) bt201.2.1 bt201.2.2.1 bt201.2.2.2 0 0 x159002_1 x159003_2 ((rd_T41 l2 x72_2).f0) ((rd_T41 l2 x72_2).f1) 0 0 0 (x187003_3 ++ [bt201.1])) else (none))) = some (r1, r2, r3, r4, r5, r6, r7) := H
               have A65 := Aside0.mk A650
               clear A650
               replace H := Option.bind_eq_some_iff.mp H
               obtain ⟨⟨t201, t202, t203, t204⟩, A660, H⟩ := H
               replace H : (if x187003_3.length < 70368744177664 then (impl_builder_store.l3 k3 l1 l2 (l2.length : Int) x72_2 ((rd_T41 l2 x72_2).f0) (((rd_T41 l2 x72_2).f0).length : Int) (wrap64 (x79_3 + 1)) t202 t203 t204 0 0 x159002_1 x159003_2 ((rd_T41 l2 x72_2).f0) ((rd_T41 l2 x72_2).f1) 0 0 0 (x187003_3 ++ [t201])) else (none)) = some (r1, r2, r3, r4, r5, r6, r7) := H
               have A66 := Aside0.mk A660
               clear A660
               by_cases c67 : x187003_3.length < 70368744177664
               ·rw [if_pos c67] at H
                have LMc67 := Aside0.mk c67
                clear c67
                obtain ⟨y205, hy205⟩ : ∃ y_ : List Int, y_ = (x187003_3 ++ [t201]) := ⟨_, rfl⟩
                replace H : (impl_builder_store.l3 k3 l1 l2 (l2.length : Int) x72_2 ((rd_T41 l2 x72_2).f0) (((rd_T41 l2 x72_2).f0).length : Int) (wrap64 (x79_3 + 1)) t202 t203 t204 0 0 x159002_1 x159003_2 ((rd_T41 l2 x72_2).f0) ((rd_T41 l2 x72_2).f1) 0 0 0 y205) = some (r1, r2, r3, r4, r5, r6, r7) := by first | (rw [hy205]; with_reducible exact H) | (have H2_ := (Option.bind_some _ _).symm.trans H; rw [hy205]; with_reducible exact H2_) | (have H2_ := (Option.bind_some _ _).symm.trans H; with_reducible exact H2_) | with_reducible exact H | (rw [hy205]; exact H) | exact H
                have Ny205 := Aside0.mk hy205
                clear hy205
                have H' := Aside0.mk H
                clear H
                have p187 : 0 ≤ (x79_3 : Int) := of_decide_eq_true (by first | (with_reducible assumption) | assumption)
                have q187 : x79_3 < (((rd_T41 l2 x72_2).f0).length : Int) := of_decide_eq_true (by first | (with_reducible assumption) | assumption)
                have HR184_0 := Aside0.mk (Kd.F_now (Kd.F_keep HF184.out.1 HK.out (fun _ h_ => h_.2)))
                obtain ⟨ad187, e187, hx187_0⟩ := Kd.at_int HR184_0.out x79_3 p187 q187
                cases e187
                replace p187 := eq_true p187
                replace q187 := eq_true q187
                try go_wp2_with (first | ((with_reducible refine gate_callee (f := 50) rfl ?_); refine goesL_ (some 92) rfl rfl Try.func50 (by kernel_rfl) rfl #[.pointer (some ⟨g, 0, none⟩), .bool false] rfl (by (try simp only [List.map_toArray, List.map_cons, List.map_nil]); first | done | rfl | (simp only [List.length_drop, List.length_take]; rfl)) ?_; (with_reducible refine (impl_builder_must.calls g x1000_3 x1001_3 x1002_3 false t198 t199 t200 w0 _ ?side1 ?side2 A65.out).mono ?_); (case side1 => repeat (first | (with_reducible first | exact HI0.out | apply IsS102.alloc | apply IsS102.drewN | apply IsS102.drew | apply IsS102.set_0 | apply IsS102.set_1 | apply IsS102.set_2 | refine IsS102.far ?_ NB0_158.out _ | refine IsS102.far ?_ NB0_185.out _ | refine IsS102.far ?_ NB0_186.out _) | exact HI0.out)); (case side2 => repeat (first | (with_reducible first | exact HB.out | apply below_alloc | apply pw_below_drewN | apply below_drew1 | refine below_set ?_ (IsS102.ge HI0.out) | refine below_set ?_ GE158.out | refine below_set ?_ GE185.out | refine below_set ?_ GE186.out) | exact HB.out)); rintro e w68 ⟨rfl, hi, hb, hk⟩; refine ⟨_, rfl, ?_⟩; have n0_ := Aside0.mk (Kd.V_mono (Kd.V_keep (Kd.V_mono (ok := fun k_ => ((((P1_ k_ ∨ P2_ k_) ∨ w.heap.size ≤ k_)) ∧ (some k_ ≠ (u159002 : Value).ownBlock ∧ (some k_ ≠ (u159003 : Value).ownBlock ∧ (some k_ ≠ (u187003 : Value).ownBlock ∧ (k_ ≠ gb158 ∧ (k_ ≠ gb185 ∧ (k_ ≠ gb186 ∧ k_ ≠ g)))))))) (by (with_reducible repeat (first | apply Kd.V_alloc | apply Kd.V_drewN | apply Kd.V_drew)); exact HO_1.out) (fun k_ hk_ => (⟨hk_, hk_.2.2.2.2.2.2.2⟩ : _ ∧ k_ ≠ g))) hk (fun _ h => h.2)) (fun _ h => h.1)); have n1_ := Aside0.mk (Kd.V_mono (Kd.V_keep (Kd.V_mono (ok := fun k_ => ((((P1_ k_ ∨ P2_ k_) ∨ w.heap.size ≤ k_)) ∧ (some k_ ≠ (u159002 : Value).ownBlock ∧ (some k_ ≠ (u159003 : Value).ownBlock ∧ (some k_ ≠ (u187003 : Value).ownBlock ∧ (k_ ≠ gb158 ∧ (k_ ≠ gb185 ∧ (k_ ≠ gb186 ∧ k_ ≠ g)))))))) (by (with_reducible repeat (first | apply Kd.V_alloc | apply Kd.V_drewN | apply Kd.V_drew)); exact HO_70.out) (fun k_ hk_ => (⟨hk_, hk_.2.2.2.2.2.2.2⟩ : _ ∧ k_ ≠ g))) hk (fun _ h => h.2)) (fun _ h => h.1)); have n2_ := Aside0.mk (Kd.S_mono (Kd.S_keep (IsS102.apartS (show IsS102 w0 _ g x1000_3 x1001_3 x1002_3 from by repeat (first | (with_reducible first | exact HI0.out | apply IsS102.alloc | apply IsS102.drewN | apply IsS102.drew | apply IsS102.set_0 | apply IsS102.set_1 | apply IsS102.set_2 | refine IsS102.far ?_ NB0_158.out _ | refine IsS102.far ?_ NB0_185.out _ | refine IsS102.far ?_ NB0_186.out _) | exact HI0.out)) (by (with_reducible repeat (first | apply Kd.S_alloc | apply Kd.S_drewN | apply Kd.S_drew)); exact HO_159002.out) (by decide)) hk (fun _ h => h.2)) (fun _ h => h.1)); have n3_ := Aside0.mk (Kd.R_mono (Kd.R_keep (IsS102.apart (show IsS102 w0 _ g x1000_3 x1001_3 x1002_3 from by repeat (first | (with_reducible first | exact HI0.out | apply IsS102.alloc | apply IsS102.drewN | apply IsS102.drew | apply IsS102.set_0 | apply IsS102.set_1 | apply IsS102.set_2 | refine IsS102.far ?_ NB0_158.out _ | refine IsS102.far ?_ NB0_185.out _ | refine IsS102.far ?_ NB0_186.out _) | exact HI0.out)) (by (with_reducible repeat (first | apply Kd.R_alloc | apply Kd.R_drewN | apply Kd.R_drew)); exact HO_159003.out) (by decide)) hk (fun _ h => h.2)) (fun _ h => h.1)); have n4_ := Aside0.mk (Kd.R_mono (Kd.R_keep (IsS102.apart (show IsS102 w0 _ g x1000_3 x1001_3 x1002_3 from by repeat (first | (with_reducible first | exact HI0.out | apply IsS102.alloc | apply IsS102.drewN | apply IsS102.drew | apply IsS102.set_0 | apply IsS102.set_1 | apply IsS102.set_2 | refine IsS102.far ?_ NB0_158.out _ | refine IsS102.far ?_ NB0_185.out _ | refine IsS102.far ?_ NB0_186.out _) | exact HI0.out)) (by (with_reducible repeat (first | apply Kd.R_alloc | apply Kd.R_drewN | apply Kd.R_drew)); exact HO_187003.out) (by decide)) hk (fun _ h => h.2)) (fun _ h => h.1)); have n5_ := Aside0.mk (KeepBut.blk hk (g' := gb158) (o := .cells #[.int .u16 0, .int .u16 0, u159002, u159003] 109 (0, 0)) (by (with_reducible repeat (first | refine b1_ ?_ _ | refine b2_ ?_ | refine b3_ ?_ _)); exact BK158.out) NB158_0.out (by simp)); have n6_ := Aside0.mk (KeepBut.blk hk (g' := gb185) (o := .cells #[.slice (some ad187) ((rd_T41 l2 x72_2).f0).length c184_0, .slice A184_1 ((rd_T41 l2 x72_2).f1).length c184_1] 41 (0, 0)) (by (with_reducible repeat (first | refine b1_ ?_ _ | refine b2_ ?_ | refine b3_ ?_ _)); exact BK185.out) NB185_0.out (by simp)); have n7_ := Aside0.mk (KeepBut.blk hk (g' := gb186) (o := .cells #[.int .u16 0, .int .u16 0, .int .u16 0, u187003, .slice none 0 0] 186 (0, 0)) (by (with_reducible repeat (first | refine b1_ ?_ _ | refine b2_ ?_ | refine b3_ ?_ _)); exact BK186.out) NB186_0.out (by simp)); have n8_ := Aside0.mk (KeepBut.trans (by repeat (first | (with_reducible first | exact HK.out | apply KeepBut.set_ | apply keep_drewN | apply keep_drew | apply keep_alloc | refine keep_far ?_ GW158.out _ | refine keep_far ?_ GW185.out _ | refine keep_far ?_ GW186.out _) | exact HK.out)) hk (.inl rfl)); have n9_ := Aside0.mk (hb); have n10_ := Aside0.mk (hi); clear HO_1; clear HO_70; clear HO_159002; clear HO_159003; clear HO_187003; clear BK158; clear BK185; clear BK186; clear HK; clear HB; clear HI0; have HO_1 := n0_; have HO_70 := n1_; have HO_159002 := n2_; have HO_159003 := n3_; have HO_187003 := n4_; have BK158 := n5_; have BK185 := n6_; have BK186 := n7_; have HK := n8_; have HB := n9_; have HI0 := n10_; clear n0_ n1_ n2_ n3_ n4_ n5_ n6_ n7_ n8_ n9_ n10_; (try clear hb); (try clear hb2); (try clear hk); (try clear hi)))
                have n0_ := Aside0.mk (Kd.V_drew HO_1.out)
                have n1_ := Aside0.mk (Kd.V_drew HO_70.out)
                have n2_ := Aside0.mk (Kd.S_drew HO_159002.out)
                have n3_ := Aside0.mk (Kd.R_drew HO_159003.out)
                have n4_ := Aside0.mk (Kd.R_drew HO_187003.out)
                have n5_ := Aside0.mk (blk_drew BK158.out)
                have n6_ := Aside0.mk (blk_drew BK185.out)
                have n7_ := Aside0.mk (blk_drew BK186.out)
                have n8_ := Aside0.mk (IsS102.drew HI0.out)
                have n9_ := Aside0.mk (keep_drew HK.out)
                have n10_ := Aside0.mk (below_drew1 HB.out)
                clear HO_1
                clear HO_70
                clear HO_159002
                clear HO_159003
                clear HO_187003
                clear BK158
                clear BK185
                clear BK186
                clear HI0
                clear HK
                clear HB
                have HO_1 := n0_
                have HO_70 := n1_
                have HO_159002 := n2_
                have HO_159003 := n3_
                have HO_187003 := n4_
                have BK158 := n5_
                have BK185 := n6_
                have BK186 := n7_
                have HI0 := n8_
                have HK := n9_
                have HB := n10_
                clear n0_ n1_ n2_ n3_ n4_ n5_ n6_ n7_ n8_ n9_ n10_
                refine start_ (n := 9) (S := fun w' => w'.cell? ⟨gb186, 0, none⟩ = some (.int .u16 0) ∧ w'.cell? ⟨gb186, 1, none⟩ = some (.int .u16 0) ∧ w'.cell? ⟨gb186, 2, none⟩ = some (.int .u16 0) ∧ w'.cell? ⟨gb186, 3, none⟩ = some (u187003) ∧ w'.cell? ⟨gb186, 4, none⟩ = some (.slice none 0 0)) (ds := [8]) #[ff,ff,ff,ff,ff,ff,ff,ff,ff] (by kernel_rfl) rfl rfl ⟨(blk_cell BK186.out 0).trans rfl, (blk_cell BK186.out 1).trans rfl, (blk_cell BK186.out 2).trans rfl, (blk_cell BK186.out 3).trans rfl, (blk_cell BK186.out 4).trans rfl⟩ (fun hHeld => ?_); refine with_tabW impl_builder_store.tab21 impl_builder_store.bits21 (fun HT_ HW_ => ?_)
                generalize w68.drew = w69 at HO_1 HO_70 HO_159002 HO_159003 HO_187003 BK158 BK185 BK186 HI0 HK HB hHeld ⊢
                refine pure_ (i := 0) (N := some 93) (v := ?_) (a' := ?_) #[true, false, false, false, false, false, false, false, false] rfl rfl (any_of HT_.out (by kernel_rfl)) (fun _ _ _ h => h) (Or.inl ⟨by rfl, ?_⟩) ?_ ?_
                rotate_left
                ·intro w'
                 go_simp
                 with_reducible rfl
                rotate_left
                ·simp only [Act.put, L1_, L2_, L3_, i64_w, i32_w]
                 rfl
                refine pure_ (i := 2) (N := some 95) (v := ?_) (a' := ?_) #[true, false, true, false, false, false, false, false, false] rfl rfl (any_of HT_.out (by kernel_rfl)) (fun _ _ _ h => h) (Or.inl ⟨by rfl, ?_⟩) ?_ ?_
                rotate_left
                ·intro w'
                 go_simp
                 with_reducible rfl
                rotate_left
                ·simp only [Act.put, L1_, L2_, L3_, i64_w, i32_w]
                 rfl
                refine pure_ (i := 3) (N := some 96) (v := ?_) (a' := ?_) #[true, false, true, true, false, false, false, false, false] rfl rfl (any_of HT_.out (by kernel_rfl)) (fun _ _ _ h => h) (Or.inl ⟨by rfl, ?_⟩) ?_ ?_
                rotate_left
                ·intro w'
                 go_simp
                 with_reducible rfl
                rotate_left
                ·simp only [Act.put, L1_, L2_, L3_, i64_w, i32_w]
                 rfl
                refine take_ (i := 1) (N := some 94) (v := ?_) (a' := ?_) #[true, true, true, true, false, false, false, false, false] rfl rfl (take_ofW HT_.out HW_.out (by kernel_rfl)) (fun _ _ _ h => h) (Or.inl ⟨by rfl, ?_⟩) hHeld ?_ ?_
                rotate_left
                ·rintro w' ⟨s0, s1, s2, s3, s4⟩
                 go_simp
                 with_reducible rfl
                rotate_left
                ·simp only [Act.put, L1_, L2_, L3_, i64_w, i32_w]
                 rfl
                refine one_ (i := 4) (N := some 97) #[true, true, true, true, true, false, false, false, false] rfl rfl (one_of HT_.out (by kernel_rfl)) (by decide) (fun K hK => ?_)
                refine goes_ Try.func35 (by kernel_rfl) rfl #[.pointer (some ⟨g, 0, none⟩), .int .i64 (rd ((rd_T41 l2 x72_2).f0) x79_3)] (by rfl) rfl rfl (by (try simp only [List.map_toArray, List.map_cons, List.map_nil]); first | done | rfl | (simp only [List.length_drop, List.length_take]; rfl)) ?_
                with_reducible refine (impl_builder_small.calls g t198 t199 t200 (rd ((rd_T41 l2 x72_2).f0) x79_3) t201 t202 t203 t204 w0 _ ?side1 ?side2 A66.out).mono ?_
                (case side1 => repeat (first | (with_reducible first | exact HI0.out | apply IsS102.alloc | apply IsS102.drewN | apply IsS102.drew | apply IsS102.set_0 | apply IsS102.set_1 | apply IsS102.set_2 | refine IsS102.far ?_ NB0_158.out _ | refine IsS102.far ?_ NB0_185.out _ | refine IsS102.far ?_ NB0_186.out _) | exact HI0.out))
                (case side2 => repeat (first | (with_reducible first | exact HB.out | apply below_alloc | apply pw_below_drewN | apply below_drew1 | refine below_set ?_ (IsS102.ge HI0.out) | refine below_set ?_ GE158.out | refine below_set ?_ GE185.out | refine below_set ?_ GE186.out) | exact HB.out))
                rintro e w70 ⟨rfl, hi, hb, hk⟩
                refine ⟨_, rfl, ?_⟩
                have n0_ := Aside0.mk (Kd.V_mono (Kd.V_keep (Kd.V_mono (ok := fun k_ => ((((P1_ k_ ∨ P2_ k_) ∨ w.heap.size ≤ k_)) ∧ (some k_ ≠ (u159002 : Value).ownBlock ∧ (some k_ ≠ (u159003 : Value).ownBlock ∧ (some k_ ≠ (u187003 : Value).ownBlock ∧ (k_ ≠ gb158 ∧ (k_ ≠ gb185 ∧ (k_ ≠ gb186 ∧ k_ ≠ g)))))))) (by (with_reducible repeat (first | apply Kd.V_alloc | apply Kd.V_drewN | apply Kd.V_drew)); exact HO_1.out) (fun k_ hk_ => (⟨hk_, hk_.2.2.2.2.2.2.2⟩ : _ ∧ k_ ≠ g))) hk (fun _ h => h.2)) (fun _ h => h.1))
                have n1_ := Aside0.mk (Kd.V_mono (Kd.V_keep (Kd.V_mono (ok := fun k_ => ((((P1_ k_ ∨ P2_ k_) ∨ w.heap.size ≤ k_)) ∧ (some k_ ≠ (u159002 : Value).ownBlock ∧ (some k_ ≠ (u159003 : Value).ownBlock ∧ (some k_ ≠ (u187003 : Value).ownBlock ∧ (k_ ≠ gb158 ∧ (k_ ≠ gb185 ∧ (k_ ≠ gb186 ∧ k_ ≠ g)))))))) (by (with_reducible repeat (first | apply Kd.V_alloc | apply Kd.V_drewN | apply Kd.V_drew)); exact HO_70.out) (fun k_ hk_ => (⟨hk_, hk_.2.2.2.2.2.2.2⟩ : _ ∧ k_ ≠ g))) hk (fun _ h => h.2)) (fun _ h => h.1))
                have n2_ := Aside0.mk (Kd.S_mono (Kd.S_keep (IsS102.apartS (show IsS102 w0 _ g t198 t199 t200 from by repeat (first | (with_reducible first | exact HI0.out | apply IsS102.alloc | apply IsS102.drewN | apply IsS102.drew | apply IsS102.set_0 | apply IsS102.set_1 | apply IsS102.set_2 | refine IsS102.far ?_ NB0_158.out _ | refine IsS102.far ?_ NB0_185.out _ | refine IsS102.far ?_ NB0_186.out _) | exact HI0.out)) (by (with_reducible repeat (first | apply Kd.S_alloc | apply Kd.S_drewN | apply Kd.S_drew)); exact HO_159002.out) (by decide)) hk (fun _ h => h.2)) (fun _ h => h.1))
                have n3_ := Aside0.mk (Kd.R_mono (Kd.R_keep (IsS102.apart (show IsS102 w0 _ g t198 t199 t200 from by repeat (first | (with_reducible first | exact HI0.out | apply IsS102.alloc | apply IsS102.drewN | apply IsS102.drew | apply IsS102.set_0 | apply IsS102.set_1 | apply IsS102.set_2 | refine IsS102.far ?_ NB0_158.out _ | refine IsS102.far ?_ NB0_185.out _ | refine IsS102.far ?_ NB0_186.out _) | exact HI0.out)) (by (with_reducible repeat (first | apply Kd.R_alloc | apply Kd.R_drewN | apply Kd.R_drew)); exact HO_159003.out) (by decide)) hk (fun _ h => h.2)) (fun _ h => h.1))
                have n4_ := Aside0.mk (Kd.R_mono (Kd.R_keep (IsS102.apart (show IsS102 w0 _ g t198 t199 t200 from by repeat (first | (with_reducible first | exact HI0.out | apply IsS102.alloc | apply IsS102.drewN | apply IsS102.drew | apply IsS102.set_0 | apply IsS102.set_1 | apply IsS102.set_2 | refine IsS102.far ?_ NB0_158.out _ | refine IsS102.far ?_ NB0_185.out _ | refine IsS102.far ?_ NB0_186.out _) | exact HI0.out)) (by (with_reducible repeat (first | apply Kd.R_alloc | apply Kd.R_drewN | apply Kd.R_drew)); exact HO_187003.out) (by decide)) hk (fun _ h => h.2)) (fun _ h => h.1))
                have n5_ := Aside0.mk (KeepBut.blk hk (g' := gb158) (o := .cells #[.int .u16 0, .int .u16 0, u159002, u159003] 109 (0, 0)) (by (with_reducible repeat (first | refine b1_ ?_ _ | refine b2_ ?_ | refine b3_ ?_ _)); exact BK158.out) NB158_0.out (by simp))
                have n6_ := Aside0.mk (KeepBut.blk hk (g' := gb185) (o := .cells #[.slice (some ad187) ((rd_T41 l2 x72_2).f0).length c184_0, .slice A184_1 ((rd_T41 l2 x72_2).f1).length c184_1] 41 (0, 0)) (by (with_reducible repeat (first | refine b1_ ?_ _ | refine b2_ ?_ | refine b3_ ?_ _)); exact BK185.out) NB185_0.out (by simp))
                have n7_ := Aside0.mk (KeepBut.blk hk (g' := gb186) (o := .cells #[.int .u16 0, .int .u16 0, .int .u16 0, u187003, .slice none 0 0] 186 (0, 0)) (by (with_reducible repeat (first | refine b1_ ?_ _ | refine b2_ ?_ | refine b3_ ?_ _)); exact BK186.out) NB186_0.out (by simp))
                have n8_ := Aside0.mk (KeepBut.trans (by repeat (first | (with_reducible first | exact HK.out | apply KeepBut.set_ | apply keep_drewN | apply keep_drew | apply keep_alloc | refine keep_far ?_ GW158.out _ | refine keep_far ?_ GW185.out _ | refine keep_far ?_ GW186.out _) | exact HK.out)) hk (.inl rfl))
                have n9_ := Aside0.mk (hb)
                have n10_ := Aside0.mk (hi)
                clear HO_1
                clear HO_70
                clear HO_159002
                clear HO_159003
                clear HO_187003
                clear BK158
                clear BK185
                clear BK186
                clear HK
                clear HB
                clear HI0
                have HO_1 := n0_
                have HO_70 := n1_
                have HO_159002 := n2_
                have HO_159003 := n3_
                have HO_187003 := n4_
                have BK158 := n5_
                have BK185 := n6_
                have BK186 := n7_
                have HK := n8_
                have HB := n9_
                have HI0 := n10_
                clear n0_ n1_ n2_ n3_ n4_ n5_ n6_ n7_ n8_ n9_ n10_
                (try clear hb)
                (try clear hb2)
                (try clear hk)
                (try clear hi)
                refine hK.out _ _ ⟨(blk_cell BK186.out 0).trans rfl, (blk_cell BK186.out 1).trans rfl, (blk_cell BK186.out 2).trans rfl, (blk_cell BK186.out 3).trans rfl, (blk_cell BK186.out 4).trans rfl⟩ (fun hHeld => ?_)
                clear hK K
                refine norm_ (a' := ?_) ?_ ?_
                rotate_left
                ·show Act.put _ (some 97) _ = _
                 simp only [Act.put, L1_, L2_, L3_, i64_w, i32_w]
                 rfl
                refine one_ (i := 5) (N := some 98) #[true, true, true, true, true, true, false, false, false] rfl rfl (one_of HT_.out (by kernel_rfl)) (by decide) (fun K hK => ?_)
                refine value_ (w1 := ?_) (v := ?_) (by rfl) rfl ?_ ?_
                rotate_left 2
                ·go_simp
                 constructor
                 ·rfl
                 ·rfl
                refine hK.out _ _ ⟨(blk_cell (blk_alloc BK186.out _) 0).trans rfl, (blk_cell (blk_alloc BK186.out _) 1).trans rfl, (blk_cell (blk_alloc BK186.out _) 2).trans rfl, (blk_cell (blk_alloc BK186.out _) 3).trans rfl, (blk_cell (blk_alloc BK186.out _) 4).trans rfl⟩ (fun hHeld => ?_)
                clear hK K
                refine norm_ (a' := ?_) ?_ ?_
                rotate_left
                ·show Act.put _ (some 98) _ = _
                 simp only [Act.put, L1_, L2_, L3_, i64_w, i32_w]
                 rfl
                refine one_ (i := 6) (N := some 99) #[true, true, true, true, true, true, true, false, false] rfl rfl (one_of HT_.out (by kernel_rfl)) (by decide) (fun K hK => ?_)
                refine Kd.R_append_step (Kd.int .u16) w.heap.size (by rfl) (.tmp 94) (.tmp 98) 155 103 (.int .u16 0) 2 rfl Try.underlying155 info103 rfl (by decide) (by omega) u187003 x187003_3 t201 [.int .u16 t201] (fun k_ => (w.heap.size ≤ k_)) (fun _ => False) rfl rfl ?aP (fun _ hk => hk.elim) ?aF ?aO (Below.refl _ _) ?aS ?aL ?_
                (case aP => exact rfl)
                (case aF => exact (fun k_ hk => (Nat.le_trans (keep_size (w := w) (g := g) (row := none) (by repeat (first | (with_reducible first | exact HK.out | apply KeepBut.set_ | apply keep_drewN | apply keep_drew | apply keep_alloc | refine keep_far ?_ GW158.out _ | refine keep_far ?_ GW185.out _ | refine keep_far ?_ GW186.out _) | exact HK.out))) hk)))
                (case aO => exact (by (with_reducible repeat (first | apply Kd.R_alloc | apply Kd.R_drewN | apply Kd.R_drew)); exact HO_187003.out))
                (case aS => exact (keep_size (w := w) (g := g) (row := none) (by repeat (first | (with_reducible first | exact HK.out | apply KeepBut.set_ | apply keep_drewN | apply keep_drew | apply keep_alloc | refine keep_far ?_ GW158.out _ | refine keep_far ?_ GW185.out _ | refine keep_far ?_ GW186.out _) | exact HK.out))))
                (case aL => have := LMc67.out; omega)
                intro v206 w71 ho hb hg hat
                rw [← Ny205.out] at ho
                have n0_ := Aside0.mk (Kd.V_afterv (ok := (fun k_ => ((P1_ k_ ∨ P2_ k_) ∨ w.heap.size ≤ k_) ∧ some k_ ≠ (u159002 : Value).ownBlock ∧ some k_ ≠ (u159003 : Value).ownBlock ∧ k_ ≠ gb158 ∧ k_ ≠ gb185 ∧ k_ ≠ gb186 ∧ k_ ≠ g)) (by (with_reducible repeat (first | apply Kd.V_alloc | apply Kd.V_drewN | apply Kd.V_drew)); exact Kd.V_mono HO_1.out (fun _ hk => ⟨⟨hk.1, ⟨hk.2.1, ⟨hk.2.2.1, ⟨hk.2.2.2.2.1, ⟨hk.2.2.2.2.2.1, ⟨hk.2.2.2.2.2.2.1, hk.2.2.2.2.2.2.2⟩⟩⟩⟩⟩⟩, hk.2.2.2.1⟩)) hg hat)
                have n1_ := Aside0.mk (Kd.V_afterv (ok := (fun k_ => ((P1_ k_ ∨ P2_ k_) ∨ w.heap.size ≤ k_) ∧ some k_ ≠ (u159002 : Value).ownBlock ∧ some k_ ≠ (u159003 : Value).ownBlock ∧ k_ ≠ gb158 ∧ k_ ≠ gb185 ∧ k_ ≠ gb186 ∧ k_ ≠ g)) (by (with_reducible repeat (first | apply Kd.V_alloc | apply Kd.V_drewN | apply Kd.V_drew)); exact Kd.V_mono HO_70.out (fun _ hk => ⟨⟨hk.1, ⟨hk.2.1, ⟨hk.2.2.1, ⟨hk.2.2.2.2.1, ⟨hk.2.2.2.2.2.1, ⟨hk.2.2.2.2.2.2.1, hk.2.2.2.2.2.2.2⟩⟩⟩⟩⟩⟩, hk.2.2.2.1⟩)) hg hat)
                have n2_ := Aside0.mk (Kd.S_over' (by (with_reducible repeat (first | apply Kd.S_alloc | apply Kd.S_drewN | apply Kd.S_drew)); exact HO_159002.out) (Kd.R_typed (by (with_reducible repeat (first | apply Kd.R_alloc | apply Kd.R_drewN | apply Kd.R_drew)); exact HO_187003.out)) (by decide) hg)
                have n3_ := Aside0.mk (Kd.R_after (ok := (fun k_ => (w.heap.size ≤ k_) ∧ k_ ≠ gb186)) (by (with_reducible repeat (first | apply Kd.R_alloc | apply Kd.R_drewN | apply Kd.R_drew)); exact Kd.R_mono HO_159003.out (fun _ hk => ⟨⟨hk.1, hk.2.2⟩, hk.2.1⟩)) hg hat)
                have n4_ := Aside0.mk (blk_grown (g := gb158) (o := .cells #[.int .u16 0, .int .u16 0, u159002, u159003] 109 (0, 0)) (by (with_reducible repeat (first | refine b1_ ?_ _ | refine b2_ ?_ | refine b3_ ?_ _)); exact BK158.out) hg (Kd.R_ne HO_187003.out BK158.out (by decide)))
                have n5_ := Aside0.mk (blk_grown (g := gb185) (o := .cells #[.slice (some ad187) ((rd_T41 l2 x72_2).f0).length c184_0, .slice A184_1 ((rd_T41 l2 x72_2).f1).length c184_1] 41 (0, 0)) (by (with_reducible repeat (first | refine b1_ ?_ _ | refine b2_ ?_ | refine b3_ ?_ _)); exact BK185.out) hg (Kd.R_ne HO_187003.out BK185.out (by decide)))
                have n6_ := Aside0.mk (blk_grown (g := gb186) (o := .cells #[.int .u16 0, .int .u16 0, .int .u16 0, u187003, .slice none 0 0] 186 (0, 0)) (by (with_reducible repeat (first | refine b1_ ?_ _ | refine b2_ ?_ | refine b3_ ?_ _)); exact BK186.out) hg (Kd.R_ne HO_187003.out BK186.out (by decide)))
                have n7_ := Aside0.mk (IsS102.grown (by repeat (first | (with_reducible first | exact HI0.out | apply IsS102.alloc | apply IsS102.drewN | apply IsS102.drew | apply IsS102.set_0 | apply IsS102.set_1 | apply IsS102.set_2 | refine IsS102.far ?_ NB0_158.out _ | refine IsS102.far ?_ NB0_185.out _ | refine IsS102.far ?_ NB0_186.out _) | exact HI0.out)) hg (IsS102.own_ne HI0.out HO_187003.out (by decide)))
                have n8_ := Aside0.mk (below_weaken (by repeat (first | (with_reducible first | exact HB.out | apply below_alloc | apply pw_below_drewN | apply below_drew1 | refine below_set ?_ (IsS102.ge HI0.out) | refine below_set ?_ GE158.out | refine below_set ?_ GE185.out | refine below_set ?_ GE186.out) | exact HB.out)) HL.out hb)
                have n9_ := Aside0.mk (KeepBut.trans (by repeat (first | (with_reducible first | exact HK.out | apply KeepBut.set_ | apply keep_drewN | apply keep_drew | apply keep_alloc | refine keep_far ?_ GW158.out _ | refine keep_far ?_ GW185.out _ | refine keep_far ?_ GW186.out _) | exact HK.out)) (KeepBut.of_grown hg g) (Kd.R_base2 HO_187003.out))
                have n10_ := Aside0.mk (ho)
                clear HO_1
                clear HO_70
                clear HO_159002
                clear HO_159003
                clear BK158
                clear BK185
                clear BK186
                clear HI0
                clear HB
                clear HK
                clear HO_187003
                have HO_1 := n0_
                have HO_70 := n1_
                have HO_159002 := n2_
                have HO_159003 := n3_
                have BK158 := n4_
                have BK185 := n5_
                have BK186 := n6_
                have HI0 := n7_
                have HB := n8_
                have HK := n9_
                have HO207 := n10_
                clear n0_ n1_ n2_ n3_ n4_ n5_ n6_ n7_ n8_ n9_ n10_
                clear ho hb hg hat
                obtain ⟨Ao72, co72, eo72⟩ := Kd.R_slice HO207.out
                (first | subst eo72 | (injection eo72 with f1_ f2_ f3_; have f4_ := f1_.symm; have f5_ := f3_.symm; clear f1_ f2_ f3_; subst f4_; subst f5_))
                refine hK.out _ _ ⟨(blk_cell BK186.out 0).trans rfl, (blk_cell BK186.out 1).trans rfl, (blk_cell BK186.out 2).trans rfl, (blk_cell BK186.out 3).trans rfl, (blk_cell BK186.out 4).trans rfl⟩ (fun hHeld => ?_)
                clear hK K
                refine norm_ (a' := ?_) ?_ ?_
                rotate_left
                ·show Act.put _ (some 99) _ = _
                 simp only [Act.put, L1_, L2_, L3_, i64_w, i32_w]
                 rfl
                refine pure_ (i := 7) (N := some 100) (v := ?_) (a' := ?_) #[true, true, true, true, true, true, true, true, false] rfl rfl (any_of HT_.out (by kernel_rfl)) (fun _ _ _ h => h) (Or.inl ⟨by rfl, ?_⟩) ?_ ?_
                rotate_left
                ·intro w'
                 go_simp
                 with_reducible rfl
                rotate_left
                ·simp only [Act.put, L1_, L2_, L3_, i64_w, i32_w]
                 rfl
                refine last_ (i := 8) (N := none) #[true, true, true, true, true, true, true, true, true] rfl rfl (one_of HT_.out (by kernel_rfl)) (by decide) (fun K hK => ?_)
                have hs73 : w71.cell? ⟨gb186, 3, none⟩ = some (u187003) := (blk_cell BK186.out 3).trans rfl
                have hfs73 := blk_frozen BK186.out 3
                have hns73_0 := NB158_186.out
                have hns73_1 := NB185_186.out
                have hms73_0 := NB186_158.out
                have hms73_1 := NB186_185.out
                refine skip_ (w1 := ?_) (by rfl) rfl ?_ ?_
                rotate_left
                ·go_simp
                 rfl
                refine hK.out _ _ ?_
                clear hK K
                refine done_ (done_of HT_.out (by kernel_rfl)) ?_
                try go_wp2
                go_roundg k3
                case measure => have := HK1.out; have := HK2.out; have := HK3.out; omega
                case rel => exact ⟨(wrap64 (x79_3 + 1)), (t202), (t203), (t204), (y205), (.slice Ao72 y205.length co72), (by first | rfl | (simp; done) | (simp [*]; done)), H', ⟨by have := HK1.out; have := HK2.out; have := HK3.out; omega⟩, ⟨by (with_reducible repeat (first | apply Kd.V_alloc | apply Kd.V_drewN | apply Kd.V_drew)); exact Kd.V_mono (Kd.V_far (p := ⟨gb186, 3, none⟩) (Kd.V_mono HO_1.out (fun k_ hk => (⟨hk, hk.1.2.2.2.2.2.1⟩ : _ ∧ k_ ≠ gb186))) (fun _ hk => hk.2) (.slice Ao72 y205.length co72)) (fun _ hk => ⟨hk.1.1.1, ⟨hk.1.1.2.1, ⟨hk.1.1.2.2.1, ⟨hk.1.2, ⟨hk.1.1.2.2.2.1, ⟨hk.1.1.2.2.2.2.1, ⟨hk.1.1.2.2.2.2.2.1, hk.1.1.2.2.2.2.2.2⟩⟩⟩⟩⟩⟩⟩)⟩, ⟨by (with_reducible repeat (first | apply Kd.V_alloc | apply Kd.V_drewN | apply Kd.V_drew)); exact Kd.V_mono (Kd.V_far (p := ⟨gb186, 3, none⟩) (Kd.V_mono HO_70.out (fun k_ hk => (⟨hk, hk.1.2.2.2.2.2.1⟩ : _ ∧ k_ ≠ gb186))) (fun _ hk => hk.2) (.slice Ao72 y205.length co72)) (fun _ hk => ⟨hk.1.1.1, ⟨hk.1.1.2.1, ⟨hk.1.1.2.2.1, ⟨hk.1.2, ⟨hk.1.1.2.2.2.1, ⟨hk.1.1.2.2.2.2.1, ⟨hk.1.1.2.2.2.2.2.1, hk.1.1.2.2.2.2.2.2⟩⟩⟩⟩⟩⟩⟩)⟩, ⟨by (with_reducible repeat (first | apply Kd.S_alloc | apply Kd.S_drewN | apply Kd.S_drew)); exact Kd.S_mono (Kd.S_far (p := ⟨gb186, 3, none⟩) (Kd.S_types HO_159002.out BK186.out (by decide)) (fun _ hk => hk.2) (.slice Ao72 y205.length co72)) (fun _ hk => hk.1)⟩, ⟨by (with_reducible repeat (first | apply Kd.R_alloc | apply Kd.R_drewN | apply Kd.R_drew)); exact Kd.R_mono (Kd.R_far (p := ⟨gb186, 3, none⟩) (Kd.R_mono HO_159003.out (fun k_ hk => (⟨hk, hk.1.2⟩ : _ ∧ k_ ≠ gb186))) (fun _ hk => hk.2) (.slice Ao72 y205.length co72)) (fun _ hk => ⟨hk.1.1.1, ⟨hk.1.2, hk.1.1.2⟩⟩)⟩, ⟨by (with_reducible repeat (first | apply Kd.R_alloc | apply Kd.R_drewN | apply Kd.R_drew)); exact Kd.R_mono (Kd.R_far (p := ⟨gb186, 3, none⟩) (Kd.R_types HO207.out BK186.out (by decide)) (fun _ hk => hk.2) (.slice Ao72 y205.length co72)) (fun _ hk => hk.1)⟩, ⟨by (with_reducible repeat (first | refine b1_ ?_ _ | refine b2_ ?_ | refine b3_ ?_ _)); refine blk_far ?_ NB158_186.out _; (with_reducible repeat (first | refine b1_ ?_ _ | refine b2_ ?_ | refine b3_ ?_ _)); exact BK158.out⟩, ⟨by (with_reducible repeat (first | refine b1_ ?_ _ | refine b2_ ?_ | refine b3_ ?_ _)); refine blk_far ?_ NB185_186.out _; (with_reducible repeat (first | refine b1_ ?_ _ | refine b2_ ?_ | refine b3_ ?_ _)); exact BK185.out⟩, ⟨by (with_reducible repeat (first | refine b1_ ?_ _ | refine b2_ ?_ | refine b3_ ?_ _)); refine blk_put (cs := #[.int .u16 0, .int .u16 0, .int .u16 0, u187003, .slice none 0 0]) ?_ 3 _ rfl; (with_reducible repeat (first | refine b1_ ?_ _ | refine b2_ ?_ | refine b3_ ?_ _)); exact BK186.out⟩, ⟨by repeat (first | (with_reducible first | exact HI0.out | apply IsS102.alloc | apply IsS102.drewN | apply IsS102.drew | apply IsS102.set_0 | apply IsS102.set_1 | apply IsS102.set_2 | refine IsS102.far ?_ NB0_158.out _ | refine IsS102.far ?_ NB0_185.out _ | refine IsS102.far ?_ NB0_186.out _) | exact HI0.out)⟩, ⟨by repeat (first | (with_reducible first | exact HK.out | apply KeepBut.set_ | apply keep_drewN | apply keep_drew | apply keep_alloc | refine keep_far ?_ GW158.out _ | refine keep_far ?_ GW185.out _ | refine keep_far ?_ GW186.out _) | exact HK.out)⟩, ⟨by repeat (first | (with_reducible first | exact HB.out | apply below_alloc | apply pw_below_drewN | apply below_drew1 | refine below_set ?_ (IsS102.ge HI0.out) | refine below_set ?_ GE158.out | refine below_set ?_ GE185.out | refine below_set ?_ GE186.out) | exact HB.out)⟩⟩
               ·rw [if_neg c67] at H
                exact absurd H (by simp)
             ·rw [if_neg c54] at H
              exact absurd H (by simp)
            ·rw [if_neg c53] at H
             exact absurd H (by simp)
           ·rw [if_neg c52] at H
            have c52b0 : decide (x79_3 < (((rd_T41 l2 x72_2).f0).length : Int)) = false := decide_eq_false c52
            clear c52
            have H' := Aside0.mk H
            clear H
            have hnb74 := NB185_158.out
            have hnc74 := NB158_185.out
            have hnb75 := NB185_186.out
            have hnc75 := NB186_185.out
            have hnb76 := NB185_0.out
            have hnc76 := NB0_185.out
            have hcz77_0 : wr.cell? ⟨gb185, 0, none⟩ = some (.slice A184_0 ((rd_T41 l2 x72_2).f0).length c184_0) := (blk_cell BK185.out 0).trans rfl
            have hcz77_1 : wr.cell? ⟨gb185, 1, none⟩ = some (.slice A184_1 ((rd_T41 l2 x72_2).f1).length c184_1) := (blk_cell BK185.out 1).trans rfl
            have hfz77_0 := blk_frozen BK185.out 0
            have hfz77_1 := blk_frozen BK185.out 1
            go_wp2
            go_loopg [105] k3 (fun kq v105 w' => ∃ (x105_4 : Int) (x1000_4 : Int) (x1001_4 : Int) (x1002_4 : Bool) (x187004_4 : List (List Int)) (u187004 : Value), v105 = .int .i64 x105_4 ∧ Aside0 (impl_builder_store.l4 kq l1 l2 (l2.length : Int) x72_2 ((rd_T41 l2 x72_2).f1) (((rd_T41 l2 x72_2).f1).length : Int) x105_4 x1000_4 x1001_4 x1002_4 0 0 x159002_1 x159003_2 ((rd_T41 l2 x72_2).f0) ((rd_T41 l2 x72_2).f1) 0 0 0 x187003_3 x187004_4 = some (r1, r2, r3, r4, r5, r6, r7)) ∧ Aside0 (kq ≤ k3) ∧ Aside0 (Kd.V (Kd.slice 36 k36) 38 w' w.heap.size (fun k_ => ((P1_ k_ ∨ P2_ k_) ∨ w.heap.size ≤ k_) ∧ some k_ ≠ (u159002 : Value).ownBlock ∧ some k_ ≠ (u159003 : Value).ownBlock ∧ some k_ ≠ (u187003 : Value).ownBlock ∧ some k_ ≠ (u187004 : Value).ownBlock ∧ k_ ≠ gb158 ∧ k_ ≠ gb185 ∧ k_ ≠ gb186 ∧ k_ ≠ g) (.slice A1 l1.length c1) l1) ∧ Aside0 (Kd.V k41 41 w' w.heap.size (fun k_ => ((P1_ k_ ∨ P2_ k_) ∨ w.heap.size ≤ k_) ∧ some k_ ≠ (u159002 : Value).ownBlock ∧ some k_ ≠ (u159003 : Value).ownBlock ∧ some k_ ≠ (u187003 : Value).ownBlock ∧ some k_ ≠ (u187004 : Value).ownBlock ∧ k_ ≠ gb158 ∧ k_ ≠ gb185 ∧ k_ ≠ gb186 ∧ k_ ≠ g) (.slice (some ad184) l2.length c2) l2) ∧ Aside0 (Kd.S k182 182 w' w.heap.size (fun k_ => (w.heap.size ≤ k_)) u159002 x159002_1) ∧ Aside0 (Kd.R k186 186 w' w.heap.size (fun k_ => (w.heap.size ≤ k_) ∧ some k_ ≠ (u187003 : Value).ownBlock ∧ some k_ ≠ (u187004 : Value).ownBlock ∧ k_ ≠ gb186) u159003 x159003_2) ∧ Aside0 (Kd.R (Kd.int .u16) 103 w' w.heap.size (fun k_ => (w.heap.size ≤ k_)) u187003 x187003_3) ∧ Aside0 (Kd.S (Kd.slice 98 (Kd.int .i16)) 25 w' w.heap.size (fun k_ => (w.heap.size ≤ k_)) u187004 x187004_4) ∧ Aside0 (w'.heap[gb158]? = some (.cells #[.int .u16 0, .int .u16 0, u159002, u159003] 109 (0, 0))) ∧ Aside0 (w'.heap[gb185]? = some (.cells #[(.slice A184_0 ((rd_T41 l2 x72_2).f0).length c184_0), (.slice A184_1 ((rd_T41 l2 x72_2).f1).length c184_1)] 41 (0, 0))) ∧ Aside0 (w'.heap[gb186]? = some (.cells #[.int .u16 0, .int .u16 0, .int .u16 0, u187003, u187004] 186 (0, 0))) ∧ Aside0 (IsS102 w0 w' g x1000_4 x1001_4 x1002_4) ∧ Aside0 (KeepBut w w' g none) ∧ Aside0 (Below w0.heap.size w0 w'))
            case atStart => exact ⟨(0), (x1000_3), (x1001_3), (x1002_3), (([] : List (List Int))), (.slice none 0 0), (by first | rfl | (simp; done) | (simp [*]; done)), H', ⟨Nat.le_refl _⟩, ⟨by (with_reducible repeat (first | apply Kd.V_alloc | apply Kd.V_drewN | apply Kd.V_drew)); exact Kd.V_mono HO_1.out (fun _ hk => ⟨hk.1, ⟨hk.2.1, ⟨hk.2.2.1, ⟨hk.2.2.2.1, ⟨(by simp [Value.ownBlock]), ⟨hk.2.2.2.2.1, ⟨hk.2.2.2.2.2.1, ⟨hk.2.2.2.2.2.2.1, hk.2.2.2.2.2.2.2⟩⟩⟩⟩⟩⟩⟩⟩)⟩, ⟨by (with_reducible repeat (first | apply Kd.V_alloc | apply Kd.V_drewN | apply Kd.V_drew)); exact Kd.V_mono HO_70.out (fun _ hk => ⟨hk.1, ⟨hk.2.1, ⟨hk.2.2.1, ⟨hk.2.2.2.1, ⟨(by simp [Value.ownBlock]), ⟨hk.2.2.2.2.1, ⟨hk.2.2.2.2.2.1, ⟨hk.2.2.2.2.2.2.1, hk.2.2.2.2.2.2.2⟩⟩⟩⟩⟩⟩⟩⟩)⟩, ⟨by (with_reducible repeat (first | apply Kd.S_alloc | apply Kd.S_drewN | apply Kd.S_drew)); exact HO_159002.out⟩, ⟨by (with_reducible repeat (first | apply Kd.R_alloc | apply Kd.R_drewN | apply Kd.R_drew)); exact Kd.R_mono HO_159003.out (fun _ hk => ⟨hk.1, ⟨hk.2.1, ⟨(by simp [Value.ownBlock]), hk.2.2⟩⟩⟩)⟩, ⟨by (with_reducible repeat (first | apply Kd.R_alloc | apply Kd.R_drewN | apply Kd.R_drew)); exact HO_187003.out⟩, ⟨by first | exact Kd.S_nil _ _ _ _ _ | exact Kd.N_nil _ _ _ _ _ | exact Kd.V_nil _ _ _ _ _ | exact Kd.Q_nil _ _ _ _ _ | exact Kd.R_nil _ _ _ _ _⟩, ⟨by (with_reducible repeat (first | refine b1_ ?_ _ | refine b2_ ?_ | refine b3_ ?_ _)); exact BK158.out⟩, ⟨by (with_reducible repeat (first | refine b1_ ?_ _ | refine b2_ ?_ | refine b3_ ?_ _)); exact BK185.out⟩, ⟨by (with_reducible repeat (first | refine b1_ ?_ _ | refine b2_ ?_ | refine b3_ ?_ _)); exact BK186.out⟩, ⟨by repeat (first | (with_reducible first | exact HI0.out | apply IsS102.alloc | apply IsS102.drewN | apply IsS102.drew | apply IsS102.set_0 | apply IsS102.set_1 | apply IsS102.set_2 | refine IsS102.far ?_ NB0_158.out _ | refine IsS102.far ?_ NB0_185.out _ | refine IsS102.far ?_ NB0_186.out _) | exact HI0.out)⟩, ⟨by repeat (first | (with_reducible first | exact HK.out | apply KeepBut.set_ | apply keep_drewN | apply keep_drew | apply keep_alloc | refine keep_far ?_ GW158.out _ | refine keep_far ?_ GW185.out _ | refine keep_far ?_ GW186.out _) | exact HK.out)⟩, ⟨by repeat (first | (with_reducible first | exact HB.out | apply below_alloc | apply pw_below_drewN | apply below_drew1 | refine below_set ?_ (IsS102.ge HI0.out) | refine below_set ?_ GE158.out | refine below_set ?_ GE185.out | refine below_set ?_ GE186.out) | exact HB.out)⟩⟩
            case round =>
             clear H'
             try clear c1
             try clear p1
             try clear q1
             try clear hx1
             try clear c2
             try clear p2
             try clear c3
             try clear c4
             try clear c5
             try clear c6
             try clear p6
             try clear c7
             try clear p15
             try clear q15
             try clear hx15
             try clear p16
             try clear q16
             try clear hx16
             try clear c18
             try clear p18
             try clear q18
             try clear hx18
             try clear hf18
             try clear c34
             try clear c35
             try clear c36
             try clear c42
             try clear c42b0
             try clear c43
             try clear c43b0
             try clear c44
             try clear c44b0
             try clear c46
             try clear c47
             try clear c50
             try clear c51
             try clear c52
             try clear c52b0
             try clear c53
             try clear c53b0
             try clear c54
             try clear c54b0
             try clear c55
             try clear c55b0
             try clear c58
             try clear p64
             try clear c67
             try clear c74
             try clear c75
             try clear c76
             try clear hcz23_0
             try clear hcz23_1
             try clear hcz23_2
             try clear hcz35_0
             try clear hcz35_1
             try clear hcz35_2
             try clear hcz35_3
             try clear hcz37_0
             try clear hcz41_0
             try clear hcz41_1
             try clear hcz41_2
             try clear hcz41_3
             try clear hcz48_0
             try clear hcz48_1
             try clear hcz51_0
             try clear hcz51_1
             try clear hcz77_0
             try clear hcz77_1
             try clear hfz23_0
             try clear hfz23_1
             try clear hfz23_2
             try clear hfz35_0
             try clear hfz35_1
             try clear hfz35_2
             try clear hfz35_3
             try clear hfz37_0
             try clear hfz41_0
             try clear hfz41_1
             try clear hfz41_2
             try clear hfz41_3
             try clear hfz48_0
             try clear hfz48_1
             try clear hfz51_0
             try clear hfz51_1
             try clear hfz77_0
             try clear hfz77_1
             try clear hx159_0
             try clear hx164_0
             try clear hx164_1
             try clear hx164_2
             try clear hx184_0
             try clear hx184_1
             try clear hx187_0
             try clear p1
             try clear p15
             try clear p159
             try clear p16
             try clear p164
             try clear p184
             try clear p187
             try clear p2
             try clear p6
             try clear q1
             try clear q15
             try clear q159
             try clear q16
             try clear q164
             try clear q184
             try clear q187
             obtain ⟨x105_4, x1000_4, x1001_4, x1002_4, x187004_4, u187004, rfl, HA, HK4, HO_1, HO_70, HO_159002, HO_159003, HO_187003, HO_187004, BK158, BK185, BK186, HI0, HK, HB⟩ := hrel
             cases gk with
             | zero => exact absurd HA.out (by simp [impl_builder_store.l4])
             | succ k4 =>
              have H := HA.out
              clear HA
              simp only [impl_builder_store.l4] at H
              by_cases c78 : x105_4 < (((rd_T41 l2 x72_2).f1).length : Int)
              ·rw [if_pos c78] at H
               have c78b0 : decide (x105_4 < (((rd_T41 l2 x72_2).f1).length : Int)) = true := decide_eq_true c78
               clear c78
               by_cases c79 : 0 ≤ x105_4
               ·rw [if_pos c79] at H
                have c79b0 : decide (0 ≤ x105_4) = true := decide_eq_true c79
                clear c79
                by_cases c80 : x105_4 < (((rd_T41 l2 x72_2).f1).length : Int)
                ·rw [if_pos c80] at H
                 have c80b0 : decide (x105_4 < (((rd_T41 l2 x72_2).f1).length : Int)) = true := decide_eq_true c80
                 clear c80
                 replace H := Option.bind_eq_some_iff.mp H
                 obtain ⟨⟨t212, t213, t214⟩, A810, H⟩ := H
                 replace H : (impl_builder_store.l5 k4 l1 ([] : List Int) l2 (l2.length : Int) x72_2 ((rd_T41 l2 x72_2).f1) (((rd_T41 l2 x72_2).f1).length : Int) x105_4 (rd_L9 ((rd_T41 l2 x72_2).f1) x105_4) ((rd_L9 ((rd_T41 l2 x72_2).f1) x105_4).length : Int) 0 t212 t213 t214 0 0 x159002_1 x159003_2 ((rd_T41 l2 x72_2).f0) ((rd_T41 l2 x72_2).f1) 0 0 0 x187003_3 x187004_4) = some (r1, r2, r3, r4, r5, r6, r7) := H
                 have A81 := Aside0.mk A810
                 clear A810
                 have H' := Aside0.mk H
                 clear H
                 have p211 : 0 ≤ (x105_4 : Int) := of_decide_eq_true (by first | (with_reducible assumption) | assumption)
                 have q211 : x105_4 < (((rd_T41 l2 x72_2).f1).length : Int) := of_decide_eq_true (by first | (with_reducible assumption) | assumption)
                 have HR184_1 := Aside0.mk (Kd.F_now (Kd.F_keep HF184.out.2 HK.out (fun _ h_ => h_.2)))
                 obtain ⟨ad211, A211_0, c211_0, e211, hx211_0, hl211_0, hi211_0⟩ := at_L9 HR184_1.out x105_4 p211 q211
                 cases e211
                 have HF211_0 := Aside0.mk (show Kd.F (Kd.int .i64) w (fun k_ => P2_ k_ ∧ k_ ≠ g) A211_0 (rd_L9 ((rd_T41 l2 x72_2).f1) x105_4).length (rd_L9 ((rd_T41 l2 x72_2).f1) x105_4) from foot_row HF184.out.2 HK.out x105_4 p211 q211 hx211_0)
                 have HR211_0 := Aside0.mk hi211_0
                 have HC211_0 := Aside0.mk hl211_0
                 clear hi211_0 hl211_0
                 replace p211 := eq_true p211
                 replace q211 := eq_true q211
                 have hnb82 := NB185_158.out
                 have hnc82 := NB158_185.out
                 have hnb83 := NB185_186.out
                 have hnc83 := NB186_185.out
                 have hnb84 := NB185_0.out
                 have hnc84 := NB0_185.out
                 have hcz85_0 : wr.cell? ⟨gb185, 0, none⟩ = some (.slice A184_0 ((rd_T41 l2 x72_2).f0).length c184_0) := (blk_cell BK185.out 0).trans rfl
                 have hcz85_1 : wr.cell? ⟨gb185, 1, none⟩ = some (.slice (some ad211) ((rd_T41 l2 x72_2).f1).length c184_1) := (blk_cell BK185.out 1).trans rfl
                 have hfz85_0 := blk_frozen BK185.out 0
                 have hfz85_1 := blk_frozen BK185.out 1
                 go_wp2_with (first | ((with_reducible refine gate_callee (f := 50) rfl ?_); refine goesL_ (some 116) rfl rfl Try.func50 (by kernel_rfl) rfl #[.pointer (some ⟨g, 0, none⟩), .bool (((rd_L9 ((rd_T41 l2 x72_2).f1) x105_4).length : Int) == (((rd_T41 l2 x72_2).f0).length : Int))] rfl (by (try simp only [List.map_toArray, List.map_cons, List.map_nil]); first | done | rfl | (simp only [List.length_drop, List.length_take]; rfl)) ?_; (with_reducible refine (impl_builder_must.calls g x1000_4 x1001_4 x1002_4 (((rd_L9 ((rd_T41 l2 x72_2).f1) x105_4).length : Int) == (((rd_T41 l2 x72_2).f0).length : Int)) t212 t213 t214 w0 _ ?side1 ?side2 A81.out).mono ?_); (case side1 => repeat (first | (with_reducible first | exact HI0.out | apply IsS102.alloc | apply IsS102.drewN | apply IsS102.drew | apply IsS102.set_0 | apply IsS102.set_1 | apply IsS102.set_2 | refine IsS102.far ?_ NB0_158.out _ | refine IsS102.far ?_ NB0_185.out _ | refine IsS102.far ?_ NB0_186.out _) | exact HI0.out)); (case side2 => repeat (first | (with_reducible first | exact HB.out | apply below_alloc | apply pw_below_drewN | apply below_drew1 | refine below_set ?_ (IsS102.ge HI0.out) | refine below_set ?_ GE158.out | refine below_set ?_ GE185.out | refine below_set ?_ GE186.out) | exact HB.out)); rintro e w86 ⟨rfl, hi, hb, hk⟩; refine ⟨_, rfl, ?_⟩; have n0_ := Aside0.mk (Kd.V_mono (Kd.V_keep (Kd.V_mono (ok := fun k_ => ((((P1_ k_ ∨ P2_ k_) ∨ w.heap.size ≤ k_)) ∧ (some k_ ≠ (u159002 : Value).ownBlock ∧ (some k_ ≠ (u159003 : Value).ownBlock ∧ (some k_ ≠ (u187003 : Value).ownBlock ∧ (some k_ ≠ (u187004 : Value).ownBlock ∧ (k_ ≠ gb158 ∧ (k_ ≠ gb185 ∧ (k_ ≠ gb186 ∧ k_ ≠ g))))))))) (by (with_reducible repeat (first | apply Kd.V_alloc | apply Kd.V_drewN | apply Kd.V_drew)); exact HO_1.out) (fun k_ hk_ => (⟨hk_, hk_.2.2.2.2.2.2.2.2⟩ : _ ∧ k_ ≠ g))) hk (fun _ h => h.2)) (fun _ h => h.1)); have n1_ := Aside0.mk (Kd.V_mono (Kd.V_keep (Kd.V_mono (ok := fun k_ => ((((P1_ k_ ∨ P2_ k_) ∨ w.heap.size ≤ k_)) ∧ (some k_ ≠ (u159002 : Value).ownBlock ∧ (some k_ ≠ (u159003 : Value).ownBlock ∧ (some k_ ≠ (u187003 : Value).ownBlock ∧ (some k_ ≠ (u187004 : Value).ownBlock ∧ (k_ ≠ gb158 ∧ (k_ ≠ gb185 ∧ (k_ ≠ gb186 ∧ k_ ≠ g))))))))) (by (with_reducible repeat (first | apply Kd.V_alloc | apply Kd.V_drewN | apply Kd.V_drew)); exact HO_70.out) (fun k_ hk_ => (⟨hk_, hk_.2.2.2.2.2.2.2.2⟩ : _ ∧ k_ ≠ g))) hk (fun _ h => h.2)) (fun _ h => h.1)); have n2_ := Aside0.mk (Kd.S_mono (Kd.S_keep (IsS102.apartS (show IsS102 w0 _ g x1000_4 x1001_4 x1002_4 from by repeat (first | (with_reducible first | exact HI0.out | apply IsS102.alloc | apply IsS102.drewN | apply IsS102.drew | apply IsS102.set_0 | apply IsS102.set_1 | apply IsS102.set_2 | refine IsS102.far ?_ NB0_158.out _ | refine IsS102.far ?_ NB0_185.out _ | refine IsS102.far ?_ NB0_186.out _) | exact HI0.out)) (by (with_reducible repeat (first | apply Kd.S_alloc | apply Kd.S_drewN | apply Kd.S_drew)); exact HO_159002.out) (by decide)) hk (fun _ h => h.2)) (fun _ h => h.1)); have n3_ := Aside0.mk (Kd.R_mono (Kd.R_keep (IsS102.apart (show IsS102 w0 _ g x1000_4 x1001_4 x1002_4 from by repeat (first | (with_reducible first | exact HI0.out | apply IsS102.alloc | apply IsS102.drewN | apply IsS102.drew | apply IsS102.set_0 | apply IsS102.set_1 | apply IsS102.set_2 | refine IsS102.far ?_ NB0_158.out _ | refine IsS102.far ?_ NB0_185.out _ | refine IsS102.far ?_ NB0_186.out _) | exact HI0.out)) (by (with_reducible repeat (first | apply Kd.R_alloc | apply Kd.R_drewN | apply Kd.R_drew)); exact HO_159003.out) (by decide)) hk (fun _ h => h.2)) (fun _ h => h.1)); have n4_ := Aside0.mk (Kd.R_mono (Kd.R_keep (IsS102.apart (show IsS102 w0 _ g x1000_4 x1001_4 x1002_4 from by repeat (first | (with_reducible first | exact HI0.out | apply IsS102.alloc | apply IsS102.drewN | apply IsS102.drew | apply IsS102.set_0 | apply IsS102.set_1 | apply IsS102.set_2 | refine IsS102.far ?_ NB0_158.out _ | refine IsS102.far ?_ NB0_185.out _ | refine IsS102.far ?_ NB0_186.out _) | exact HI0.out)) (by (with_reducible repeat (first | apply Kd.R_alloc | apply Kd.R_drewN | apply Kd.R_drew)); exact HO_187003.out) (by decide)) hk (fun _ h => h.2)) (fun _ h => h.1)); have n5_ := Aside0.mk (Kd.S_mono (Kd.S_keep (IsS102.apartS (show IsS102 w0 _ g x1000_4 x1001_4 x1002_4 from by repeat (first | (with_reducible first | exact HI0.out | apply IsS102.alloc | apply IsS102.drewN | apply IsS102.drew | apply IsS102.set_0 | apply IsS102.set_1 | apply IsS102.set_2 | refine IsS102.far ?_ NB0_158.out _ | refine IsS102.far ?_ NB0_185.out _ | refine IsS102.far ?_ NB0_186.out _) | exact HI0.out)) (by (with_reducible repeat (first | apply Kd.S_alloc | apply Kd.S_drewN | apply Kd.S_drew)); exact HO_187004.out) (by decide)) hk (fun _ h => h.2)) (fun _ h => h.1)); have n6_ := Aside0.mk (KeepBut.blk hk (g' := gb158) (o := .cells #[.int .u16 0, .int .u16 0, u159002, u159003] 109 (0, 0)) (by (with_reducible repeat (first | refine b1_ ?_ _ | refine b2_ ?_ | refine b3_ ?_ _)); exact BK158.out) NB158_0.out (by simp)); have n7_ := Aside0.mk (KeepBut.blk hk (g' := gb185) (o := .cells #[.slice A184_0 ((rd_T41 l2 x72_2).f0).length c184_0, .slice (some ad211) ((rd_T41 l2 x72_2).f1).length c184_1] 41 (0, 0)) (by (with_reducible repeat (first | refine b1_ ?_ _ | refine b2_ ?_ | refine b3_ ?_ _)); exact BK185.out) NB185_0.out (by simp)); have n8_ := Aside0.mk (KeepBut.blk hk (g' := gb186) (o := .cells #[.int .u16 0, .int .u16 0, .int .u16 0, u187003, u187004] 186 (0, 0)) (by (with_reducible repeat (first | refine b1_ ?_ _ | refine b2_ ?_ | refine b3_ ?_ _)); exact BK186.out) NB186_0.out (by simp)); have n9_ := Aside0.mk (KeepBut.trans (by repeat (first | (with_reducible first | exact HK.out | apply KeepBut.set_ | apply keep_drewN | apply keep_drew | apply keep_alloc | refine keep_far ?_ GW158.out _ | refine keep_far ?_ GW185.out _ | refine keep_far ?_ GW186.out _) | exact HK.out)) hk (.inl rfl)); have n10_ := Aside0.mk (hb); have n11_ := Aside0.mk (hi); clear HO_1; clear HO_70; clear HO_159002; clear HO_159003; clear HO_187003; clear HO_187004; clear BK158; clear BK185; clear BK186; clear HK; clear HB; clear HI0; have HO_1 := n0_; have HO_70 := n1_; have HO_159002 := n2_; have HO_159003 := n3_; have HO_187003 := n4_; have HO_187004 := n5_; have BK158 := n6_; have BK185 := n7_; have BK186 := n8_; have HK := n9_; have HB := n10_; have HI0 := n11_; clear n0_ n1_ n2_ n3_ n4_ n5_ n6_ n7_ n8_ n9_ n10_ n11_; (try clear hb); (try clear hb2); (try clear hk); (try clear hi)))
                 go_loopg [21, 119] k4 (fun kq v21 v119 w' => ∃ (x21_5 : List Int) (x119_5 : Int) (x1000_5 : Int) (x1001_5 : Int) (x1002_5 : Bool), v119 = .int .i64 x119_5 ∧ Aside0 (impl_builder_store.l5 kq l1 x21_5 l2 (l2.length : Int) x72_2 ((rd_T41 l2 x72_2).f1) (((rd_T41 l2 x72_2).f1).length : Int) x105_4 (rd_L9 ((rd_T41 l2 x72_2).f1) x105_4) ((rd_L9 ((rd_T41 l2 x72_2).f1) x105_4).length : Int) x119_5 x1000_5 x1001_5 x1002_5 0 0 x159002_1 x159003_2 ((rd_T41 l2 x72_2).f0) ((rd_T41 l2 x72_2).f1) 0 0 0 x187003_3 x187004_4 = some (r1, r2, r3, r4, r5, r6, r7)) ∧ Aside0 (kq ≤ k4) ∧ Aside0 (Kd.V (Kd.slice 36 k36) 38 w' w.heap.size (fun k_ => ((P1_ k_ ∨ P2_ k_) ∨ w.heap.size ≤ k_) ∧ some k_ ≠ (v21 : Value).ownBlock ∧ some k_ ≠ (u159002 : Value).ownBlock ∧ some k_ ≠ (u159003 : Value).ownBlock ∧ some k_ ≠ (u187003 : Value).ownBlock ∧ some k_ ≠ (u187004 : Value).ownBlock ∧ k_ ≠ gb158 ∧ k_ ≠ gb185 ∧ k_ ≠ gb186 ∧ k_ ≠ g) (.slice A1 l1.length c1) l1) ∧ Aside0 (Kd.R (Kd.int .i16) 98 w' w.heap.size (fun k_ => (w.heap.size ≤ k_)) v21 x21_5) ∧ Aside0 (Kd.V k41 41 w' w.heap.size (fun k_ => ((P1_ k_ ∨ P2_ k_) ∨ w.heap.size ≤ k_) ∧ some k_ ≠ (v21 : Value).ownBlock ∧ some k_ ≠ (u159002 : Value).ownBlock ∧ some k_ ≠ (u159003 : Value).ownBlock ∧ some k_ ≠ (u187003 : Value).ownBlock ∧ some k_ ≠ (u187004 : Value).ownBlock ∧ k_ ≠ gb158 ∧ k_ ≠ gb185 ∧ k_ ≠ gb186 ∧ k_ ≠ g) (.slice (some ad184) l2.length c2) l2) ∧ Aside0 (Kd.S k182 182 w' w.heap.size (fun k_ => (w.heap.size ≤ k_)) u159002 x159002_1) ∧ Aside0 (Kd.R k186 186 w' w.heap.size (fun k_ => (w.heap.size ≤ k_) ∧ some k_ ≠ (v21 : Value).ownBlock ∧ some k_ ≠ (u187003 : Value).ownBlock ∧ some k_ ≠ (u187004 : Value).ownBlock ∧ k_ ≠ gb186) u159003 x159003_2) ∧ Aside0 (Kd.R (Kd.int .u16) 103 w' w.heap.size (fun k_ => (w.heap.size ≤ k_)) u187003 x187003_3) ∧ Aside0 (Kd.S (Kd.slice 98 (Kd.int .i16)) 25 w' w.heap.size (fun k_ => (w.heap.size ≤ k_) ∧ some k_ ≠ (v21 : Value).ownBlock) u187004 x187004_4) ∧ Aside0 (w'.heap[gb158]? = some (.cells #[.int .u16 0, .int .u16 0, u159002, u159003] 109 (0, 0))) ∧ Aside0 (w'.heap[gb185]? = some (.cells #[(.slice A184_0 ((rd_T41 l2 x72_2).f0).length c184_0), (.slice (some ad211) ((rd_T41 l2 x72_2).f1).length c184_1)] 41 (0, 0))) ∧ Aside0 (w'.heap[gb186]? = some (.cells #[.int .u16 0, .int .u16 0, .int .u16 0, u187003, u187004] 186 (0, 0))) ∧ Aside0 (IsS102 w0 w' g x1000_5 x1001_5 x1002_5) ∧ Aside0 (KeepBut w w' g none) ∧ Aside0 (Below w0.heap.size w0 w'))
                 case atStart => exact ⟨(([] : List Int)), (0), (t212), (t213), (t214), (by first | rfl | (simp; done) | (simp [*]; done)), H', ⟨Nat.le_refl _⟩, ⟨by (with_reducible repeat (first | apply Kd.V_alloc | apply Kd.V_drewN | apply Kd.V_drew)); exact Kd.V_mono HO_1.out (fun _ hk => ⟨hk.1, ⟨(by simp [Value.ownBlock]), ⟨hk.2.1, ⟨hk.2.2.1, ⟨hk.2.2.2.1, ⟨hk.2.2.2.2.1, ⟨hk.2.2.2.2.2.1, ⟨hk.2.2.2.2.2.2.1, ⟨hk.2.2.2.2.2.2.2.1, hk.2.2.2.2.2.2.2.2⟩⟩⟩⟩⟩⟩⟩⟩⟩)⟩, ⟨by first | exact Kd.R_nil _ _ _ _ _ | exact Kd.N_nil _ _ _ _ _ | exact Kd.V_nil _ _ _ _ _ | exact Kd.Q_nil _ _ _ _ _ | exact Kd.S_nil _ _ _ _ _⟩, ⟨by (with_reducible repeat (first | apply Kd.V_alloc | apply Kd.V_drewN | apply Kd.V_drew)); exact Kd.V_mono HO_70.out (fun _ hk => ⟨hk.1, ⟨(by simp [Value.ownBlock]), ⟨hk.2.1, ⟨hk.2.2.1, ⟨hk.2.2.2.1, ⟨hk.2.2.2.2.1, ⟨hk.2.2.2.2.2.1, ⟨hk.2.2.2.2.2.2.1, ⟨hk.2.2.2.2.2.2.2.1, hk.2.2.2.2.2.2.2.2⟩⟩⟩⟩⟩⟩⟩⟩⟩)⟩, ⟨by (with_reducible repeat (first | apply Kd.S_alloc | apply Kd.S_drewN | apply Kd.S_drew)); exact HO_159002.out⟩, ⟨by (with_reducible repeat (first | apply Kd.R_alloc | apply Kd.R_drewN | apply Kd.R_drew)); exact Kd.R_mono HO_159003.out (fun _ hk => ⟨hk.1, ⟨(by simp [Value.ownBlock]), ⟨hk.2.1, ⟨hk.2.2.1, hk.2.2.2⟩⟩⟩⟩)⟩, ⟨by (with_reducible repeat (first | apply Kd.R_alloc | apply Kd.R_drewN | apply Kd.R_drew)); exact HO_187003.out⟩, ⟨by (with_reducible repeat (first | apply Kd.S_alloc | apply Kd.S_drewN | apply Kd.S_drew)); exact Kd.S_mono HO_187004.out (fun _ hk => ⟨hk, (by simp [Value.ownBlock])⟩)⟩, ⟨by (with_reducible repeat (first | refine b1_ ?_ _ | refine b2_ ?_ | refine b3_ ?_ _)); exact BK158.out⟩, ⟨by (with_reducible repeat (first | refine b1_ ?_ _ | refine b2_ ?_ | refine b3_ ?_ _)); exact BK185.out⟩, ⟨by (with_reducible repeat (first | refine b1_ ?_ _ | refine b2_ ?_ | refine b3_ ?_ _)); exact BK186.out⟩, ⟨by repeat (first | (with_reducible first | exact HI0.out | apply IsS102.alloc | apply IsS102.drewN | apply IsS102.drew | apply IsS102.set_0 | apply IsS102.set_1 | apply IsS102.set_2 | refine IsS102.far ?_ NB0_158.out _ | refine IsS102.far ?_ NB0_185.out _ | refine IsS102.far ?_ NB0_186.out _) | exact HI0.out)⟩, ⟨by repeat (first | (with_reducible first | exact HK.out | apply KeepBut.set_ | apply keep_drewN | apply keep_drew | apply keep_alloc | refine keep_far ?_ GW158.out _ | refine keep_far ?_ GW185.out _ | refine keep_far ?_ GW186.out _) | exact HK.out)⟩, ⟨by repeat (first | (with_reducible first | exact HB.out | apply below_alloc | apply pw_below_drewN | apply below_drew1 | refine below_set ?_ (IsS102.ge HI0.out) | refine below_set ?_ GE158.out | refine below_set ?_ GE185.out | refine below_set ?_ GE186.out) | exact HB.out)⟩⟩
                 case round =>
                  clear H'
                  try clear c1
                  try clear p1
                  try clear q1
                  try clear hx1
                  try clear c2
                  try clear p2
                  try clear q2
                  try clear hx2
                  try clear c3
                  try clear c4
                  try clear c5
                  try clear c6
                  try clear p6
                  try clear c7
                  try clear c8
                  try clear p15
                  try clear q15
                  try clear hx15
                  try clear p16
                  try clear q16
                  try clear hx16
                  try clear c18
                  try clear p18
                  try clear q18
                  try clear hx18
                  try clear hf18
                  try clear c21
                  try clear p21
                  try clear q21
                  try clear hx21
                  try clear c34
                  try clear c35
                  try clear c36
                  try clear c42
                  try clear c42b0
                  try clear c43
                  try clear c43b0
                  try clear c44
                  try clear c44b0
                  try clear c46
                  try clear c47
                  try clear c50
                  try clear c51
                  try clear c52
                  try clear c52b0
                  try clear c53
                  try clear c53b0
                  try clear c54
                  try clear c54b0
                  try clear c55
                  try clear c55b0
                  try clear c58
                  try clear p64
                  try clear c67
                  try clear c74
                  try clear c75
                  try clear c76
                  try clear c78
                  try clear c78b0
                  try clear c79
                  try clear c79b0
                  try clear c80
                  try clear c80b0
                  try clear c82
                  try clear c83
                  try clear c84
                  try clear hcz23_0
                  try clear hcz23_1
                  try clear hcz23_2
                  try clear hcz35_0
                  try clear hcz35_1
                  try clear hcz35_2
                  try clear hcz35_3
                  try clear hcz37_0
                  try clear hcz41_0
                  try clear hcz41_1
                  try clear hcz41_2
                  try clear hcz41_3
                  try clear hcz48_0
                  try clear hcz48_1
                  try clear hcz51_0
                  try clear hcz51_1
                  try clear hcz77_0
                  try clear hcz77_1
                  try clear hcz85_0
                  try clear hcz85_1
                  try clear hfz23_0
                  try clear hfz23_1
                  try clear hfz23_2
                  try clear hfz35_0
                  try clear hfz35_1
                  try clear hfz35_2
                  try clear hfz35_3
                  try clear hfz37_0
                  try clear hfz41_0
                  try clear hfz41_1
                  try clear hfz41_2
                  try clear hfz41_3
                  try clear hfz48_0
                  try clear hfz48_1
                  try clear hfz51_0
                  try clear hfz51_1
                  try clear hfz77_0
                  try clear hfz77_1
                  try clear hfz85_0
                  try clear hfz85_1
                  try clear hx159_0
                  try clear hx164_0
                  try clear hx164_1
                  try clear hx164_2
                  try clear hx184_0
                  try clear hx184_1
                  try clear hx187_0
                  try clear hx211_0
                  try clear p1
                  try clear p15
                  try clear p159
                  try clear p16
                  try clear p164
                  try clear p18
                  try clear p184
                  try clear p187
                  try clear p2
                  try clear p211
                  try clear p6
                  try clear p64
                  try clear q1
                  try clear q15
                  try clear q159
                  try clear q16
                  try clear q164
                  try clear q18
                  try clear q184
                  try clear q187
                  try clear q211
                  obtain ⟨x21_5, x119_5, x1000_5, x1001_5, x1002_5, rfl, HA, HK5, HO_1, HO_21, HO_70, HO_159002, HO_159003, HO_187003, HO_187004, BK158, BK185, BK186, HI0, HK, HB⟩ := hrel
                  cases gk with
                  | zero => exact absurd HA.out (by simp [impl_builder_store.l5])
                  | succ k5 =>
                   have H := HA.out
                   clear HA
                   simp only [impl_builder_store.l5] at H
                   by_cases c87 : x119_5 < ((rd_L9 ((rd_T41 l2 x72_2).f1) x105_4).length : Int)
                   ·rw [if_pos c87] at H
                    have c87b0 : decide (x119_5 < ((rd_L9 ((rd_T41 l2 x72_2).f1) x105_4).length : Int)) = true := decide_eq_true c87
                    clear c87
                    by_cases c88 : 0 ≤ x119_5
                    ·rw [if_pos c88] at H
                     have c88b0 : decide (0 ≤ x119_5) = true := decide_eq_true c88
                     clear c88
                     by_cases c89 : x119_5 < ((rd_L9 ((rd_T41 l2 x72_2).f1) x105_4).length : Int)
                     ·rw [if_pos c89] at H
                      have c89b0 : decide (x119_5 < ((rd_L9 ((rd_T41 l2 x72_2).f1) x105_4).length : Int)) = true := decide_eq_true c89
                      clear c89
                      replace H := Option.bind_eq_some_iff.mp H
                      obtain ⟨⟨t216, t217, t218, t219⟩, A900, H⟩ := H
                      replace H : (if x21_5.length < 70368744177664 then (impl_builder_store.l5 k5 l1 (x21_5 ++ [t216]) l2 (l2.length : Int) x72_2 ((rd_T41 l2 x72_2).f1) (((rd_T41 l2 x72_2).f1).length : Int) x105_4 (rd_L9 ((rd_T41 l2 x72_2).f1) x105_4) ((rd_L9 ((rd_T41 l2 x72_2).f1) x105_4).length : Int) (wrap64 (x119_5 + 1)) t217 t218 t219 0 0 x159002_1 x159003_2 ((rd_T41 l2 x72_2).f0) ((rd_T41 l2 x72_2).f1) 0 0 0 x187003_3 x187004_4) else (none)) = some (r1, r2, r3, r4, r5, r6, r7) := H
                      have A90 := Aside0.mk A900
                      clear A900
                      by_cases c91 : x21_5.length < 70368744177664
                      ·rw [if_pos c91] at H
                       have LMc91 := Aside0.mk c91
                       clear c91
                       obtain ⟨y220, hy220⟩ : ∃ y_ : List Int, y_ = (x21_5 ++ [t216]) := ⟨_, rfl⟩
                       replace H : (impl_builder_store.l5 k5 l1 y220 l2 (l2.length : Int) x72_2 ((rd_T41 l2 x72_2).f1) (((rd_T41 l2 x72_2).f1).length : Int) x105_4 (rd_L9 ((rd_T41 l2 x72_2).f1) x105_4) ((rd_L9 ((rd_T41 l2 x72_2).f1) x105_4).length : Int) (wrap64 (x119_5 + 1)) t217 t218 t219 0 0 x159002_1 x159003_2 ((rd_T41 l2 x72_2).f0) ((rd_T41 l2 x72_2).f1) 0 0 0 x187003_3 x187004_4) = some (r1, r2, r3, r4, r5, r6, r7) := by first | (rw [hy220]; with_reducible exact H) | (have H2_ := (Option.bind_some _ _).symm.trans H; rw [hy220]; with_reducible exact H2_) | (have H2_ := (Option.bind_some _ _).symm.trans H; with_reducible exact H2_) | with_reducible exact H | (rw [hy220]; exact H) | exact H
                       have Ny220 := Aside0.mk hy220
                       clear hy220
                       have H' := Aside0.mk H
                       clear H
                       have p215 : 0 ≤ (x119_5 : Int) := of_decide_eq_true (by first | (with_reducible assumption) | assumption)
                       have q215 : x119_5 < ((rd_L9 ((rd_T41 l2 x72_2).f1) x105_4).length : Int) := of_decide_eq_true (by first | (with_reducible assumption) | assumption)
                       have HR211_0 := Aside0.mk (Kd.F_now (Kd.F_keep HF211_0.out HK.out (fun _ h_ => h_.2)))
                       obtain ⟨ad215, e215, hx215_0⟩ := Kd.at_int HR211_0.out x119_5 p215 q215
                       cases e215
                       replace p215 := eq_true p215
                       replace q215 := eq_true q215
                       go_wp2_with (first | ((with_reducible refine gate_callee (f := 51) rfl ?_); refine goesL_ (some 126) rfl rfl Try.func51 (by kernel_rfl) rfl #[.pointer (some ⟨g, 0, none⟩), .int .i64 (rd (rd_L9 ((rd_T41 l2 x72_2).f1) x105_4) x119_5)] rfl (by (try simp only [List.map_toArray, List.map_cons, List.map_nil]); first | done | rfl | (simp only [List.length_drop, List.length_take]; rfl)) ?_; (with_reducible refine (impl_builder_signed.calls g x1000_5 x1001_5 x1002_5 (rd (rd_L9 ((rd_T41 l2 x72_2).f1) x105_4) x119_5) t216 t217 t218 t219 w0 _ ?side1 ?side2 A90.out).mono ?_); (case side1 => repeat (first | (with_reducible first | exact HI0.out | apply IsS102.alloc | apply IsS102.drewN | apply IsS102.drew | apply IsS102.set_0 | apply IsS102.set_1 | apply IsS102.set_2 | refine IsS102.far ?_ NB0_158.out _ | refine IsS102.far ?_ NB0_185.out _ | refine IsS102.far ?_ NB0_186.out _) | exact HI0.out)); (case side2 => repeat (first | (with_reducible first | exact HB.out | apply below_alloc | apply pw_below_drewN | apply below_drew1 | refine below_set ?_ (IsS102.ge HI0.out) | refine below_set ?_ GE158.out | refine below_set ?_ GE185.out | refine below_set ?_ GE186.out) | exact HB.out)); rintro e w92 ⟨rfl, hi, hb, hk⟩; refine ⟨_, rfl, ?_⟩; have n0_ := Aside0.mk (Kd.V_mono (Kd.V_keep (Kd.V_mono (ok := fun k_ => ((((P1_ k_ ∨ P2_ k_) ∨ w.heap.size ≤ k_)) ∧ (some k_ ≠ (u21 : Value).ownBlock ∧ (some k_ ≠ (u159002 : Value).ownBlock ∧ (some k_ ≠ (u159003 : Value).ownBlock ∧ (some k_ ≠ (u187003 : Value).ownBlock ∧ (some k_ ≠ (u187004 : Value).ownBlock ∧ (k_ ≠ gb158 ∧ (k_ ≠ gb185 ∧ (k_ ≠ gb186 ∧ k_ ≠ g)))))))))) (by (with_reducible repeat (first | apply Kd.V_alloc | apply Kd.V_drewN | apply Kd.V_drew)); exact HO_1.out) (fun k_ hk_ => (⟨hk_, hk_.2.2.2.2.2.2.2.2.2⟩ : _ ∧ k_ ≠ g))) hk (fun _ h => h.2)) (fun _ h => h.1)); have n1_ := Aside0.mk (Kd.R_mono (Kd.R_keep (IsS102.apart (show IsS102 w0 _ g x1000_5 x1001_5 x1002_5 from by repeat (first | (with_reducible first | exact HI0.out | apply IsS102.alloc | apply IsS102.drewN | apply IsS102.drew | apply IsS102.set_0 | apply IsS102.set_1 | apply IsS102.set_2 | refine IsS102.far ?_ NB0_158.out _ | refine IsS102.far ?_ NB0_185.out _ | refine IsS102.far ?_ NB0_186.out _) | exact HI0.out)) (by (with_reducible repeat (first | apply Kd.R_alloc | apply Kd.R_drewN | apply Kd.R_drew)); exact HO_21.out) (by decide)) hk (fun _ h => h.2)) (fun _ h => h.1)); have n2_ := Aside0.mk (Kd.V_mono (Kd.V_keep (Kd.V_mono (ok := fun k_ => ((((P1_ k_ ∨ P2_ k_) ∨ w.heap.size ≤ k_)) ∧ (some k_ ≠ (u21 : Value).ownBlock ∧ (some k_ ≠ (u159002 : Value).ownBlock ∧ (some k_ ≠ (u159003 : Value).ownBlock ∧ (some k_ ≠ (u187003 : Value).ownBlock ∧ (some k_ ≠ (u187004 : Value).ownBlock ∧ (k_ ≠ gb158 ∧ (k_ ≠ gb185 ∧ (k_ ≠ gb186 ∧ k_ ≠ g)))))))))) (by (with_reducible repeat (first | apply Kd.V_alloc | apply Kd.V_drewN | apply Kd.V_drew)); exact HO_70.out) (fun k_ hk_ => (⟨hk_, hk_.2.2.2.2.2.2.2.2.2⟩ : _ ∧ k_ ≠ g))) hk (fun _ h => h.2)) (fun _ h => h.1)); have n3_ := Aside0.mk (Kd.S_mono (Kd.S_keep (IsS102.apartS (show IsS102 w0 _ g x1000_5 x1001_5 x1002_5 from by repeat (first | (with_reducible first | exact HI0.out | apply IsS102.alloc | apply IsS102.drewN | apply IsS102.drew | apply IsS102.set_0 | apply IsS102.set_1 | apply IsS102.set_2 | refine IsS102.far ?_ NB0_158.out _ | refine IsS102.far ?_ NB0_185.out _ | refine IsS102.far ?_ NB0_186.out _) | exact HI0.out)) (by (with_reducible repeat (first | apply Kd.S_alloc | apply Kd.S_drewN | apply Kd.S_drew)); exact HO_159002.out) (by decide)) hk (fun _ h => h.2)) (fun _ h => h.1)); have n4_ := Aside0.mk (Kd.R_mono (Kd.R_keep (IsS102.apart (show IsS102 w0 _ g x1000_5 x1001_5 x1002_5 from by repeat (first | (with_reducible first | exact HI0.out | apply IsS102.alloc | apply IsS102.drewN | apply IsS102.drew | apply IsS102.set_0 | apply IsS102.set_1 | apply IsS102.set_2 | refine IsS102.far ?_ NB0_158.out _ | refine IsS102.far ?_ NB0_185.out _ | refine IsS102.far ?_ NB0_186.out _) | exact HI0.out)) (by (with_reducible repeat (first | apply Kd.R_alloc | apply Kd.R_drewN | apply Kd.R_drew)); exact HO_159003.out) (by decide)) hk (fun _ h => h.2)) (fun _ h => h.1)); have n5_ := Aside0.mk (Kd.R_mono (Kd.R_keep (IsS102.apart (show IsS102 w0 _ g x1000_5 x1001_5 x1002_5 from by repeat (first | (with_reducible first | exact HI0.out | apply IsS102.alloc | apply IsS102.drewN | apply IsS102.drew | apply IsS102.set_0 | apply IsS102.set_1 | apply IsS102.set_2 | refine IsS102.far ?_ NB0_158.out _ | refine IsS102.far ?_ NB0_185.out _ | refine IsS102.far ?_ NB0_186.out _) | exact HI0.out)) (by (with_reducible repeat (first | apply Kd.R_alloc | apply Kd.R_drewN | apply Kd.R_drew)); exact HO_187003.out) (by decide)) hk (fun _ h => h.2)) (fun _ h => h.1)); have n6_ := Aside0.mk (Kd.S_mono (Kd.S_keep (IsS102.apartS (show IsS102 w0 _ g x1000_5 x1001_5 x1002_5 from by repeat (first | (with_reducible first | exact HI0.out | apply IsS102.alloc | apply IsS102.drewN | apply IsS102.drew | apply IsS102.set_0 | apply IsS102.set_1 | apply IsS102.set_2 | refine IsS102.far ?_ NB0_158.out _ | refine IsS102.far ?_ NB0_185.out _ | refine IsS102.far ?_ NB0_186.out _) | exact HI0.out)) (by (with_reducible repeat (first | apply Kd.S_alloc | apply Kd.S_drewN | apply Kd.S_drew)); exact HO_187004.out) (by decide)) hk (fun _ h => h.2)) (fun _ h => h.1)); have n7_ := Aside0.mk (KeepBut.blk hk (g' := gb158) (o := .cells #[.int .u16 0, .int .u16 0, u159002, u159003] 109 (0, 0)) (by (with_reducible repeat (first | refine b1_ ?_ _ | refine b2_ ?_ | refine b3_ ?_ _)); exact BK158.out) NB158_0.out (by simp)); have n8_ := Aside0.mk (KeepBut.blk hk (g' := gb185) (o := .cells #[.slice A184_0 ((rd_T41 l2 x72_2).f0).length c184_0, .slice (some ad211) ((rd_T41 l2 x72_2).f1).length c184_1] 41 (0, 0)) (by (with_reducible repeat (first | refine b1_ ?_ _ | refine b2_ ?_ | refine b3_ ?_ _)); exact BK185.out) NB185_0.out (by simp)); have n9_ := Aside0.mk (KeepBut.blk hk (g' := gb186) (o := .cells #[.int .u16 0, .int .u16 0, .int .u16 0, u187003, u187004] 186 (0, 0)) (by (with_reducible repeat (first | refine b1_ ?_ _ | refine b2_ ?_ | refine b3_ ?_ _)); exact BK186.out) NB186_0.out (by simp)); have n10_ := Aside0.mk (KeepBut.trans (by repeat (first | (with_reducible first | exact HK.out | apply KeepBut.set_ | apply keep_drewN | apply keep_drew | apply keep_alloc | refine keep_far ?_ GW158.out _ | refine keep_far ?_ GW185.out _ | refine keep_far ?_ GW186.out _) | exact HK.out)) hk (.inl rfl)); have n11_ := Aside0.mk (hb); have n12_ := Aside0.mk (hi); clear HO_1; clear HO_21; clear HO_70; clear HO_159002; clear HO_159003; clear HO_187003; clear HO_187004; clear BK158; clear BK185; clear BK186; clear HK; clear HB; clear HI0; have HO_1 := n0_; have HO_21 := n1_; have HO_70 := n2_; have HO_159002 := n3_; have HO_159003 := n4_; have HO_187003 := n5_; have HO_187004 := n6_; have BK158 := n7_; have BK185 := n8_; have BK186 := n9_; have HK := n10_; have HB := n11_; have HI0 := n12_; clear n0_ n1_ n2_ n3_ n4_ n5_ n6_ n7_ n8_ n9_ n10_ n11_ n12_; (try clear hb); (try clear hb2); (try clear hk); (try clear hi)) | ((with_reducible refine gate_builtin (b := .append) (xs := #[.tmp 123, .tmp 127]) rfl ?_); (try (refine gate_guard (by rfl) ?_; dsimp only)); at_builtin; refine Kd.R_append (Kd.int .i16) w.heap.size rfl (.tmp 123) (.tmp 127) 25 98 (.int .i16 0) 2 rfl Try.underlying25 info98 rfl (by decide) (by omega) u21 x21_5 t216 [.int .i16 t216] (fun k_ => (w.heap.size ≤ k_)) (fun _ => False) rfl rfl ?aP (fun _ hk => hk.elim) ?aF ?aO (Below.refl _ _) ?aS ?aL ?_; (case aP => exact rfl); (case aF => exact (fun k_ hk => (Nat.le_trans (keep_size (w := w) (g := g) (row := none) (by repeat (first | (with_reducible first | exact HK.out | apply KeepBut.set_ | apply keep_drewN | apply keep_drew | apply keep_alloc | refine keep_far ?_ GW158.out _ | refine keep_far ?_ GW185.out _ | refine keep_far ?_ GW186.out _) | exact HK.out))) hk))); (case aO => exact (by (with_reducible repeat (first | apply Kd.R_alloc | apply Kd.R_drewN | apply Kd.R_drew)); exact HO_21.out)); (case aS => exact (keep_size (w := w) (g := g) (row := none) (by repeat (first | (with_reducible first | exact HK.out | apply KeepBut.set_ | apply keep_drewN | apply keep_drew | apply keep_alloc | refine keep_far ?_ GW158.out _ | refine keep_far ?_ GW185.out _ | refine keep_far ?_ GW186.out _) | exact HK.out)))); (case aL => have := LMc91.out; omega); intro v221 w93 ho hb hg hat; rw [← Ny220.out] at ho; have n0_ := Aside0.mk (Kd.V_afterv (ok := (fun k_ => ((P1_ k_ ∨ P2_ k_) ∨ w.heap.size ≤ k_) ∧ some k_ ≠ (u159002 : Value).ownBlock ∧ some k_ ≠ (u159003 : Value).ownBlock ∧ some k_ ≠ (u187003 : Value).ownBlock ∧ some k_ ≠ (u187004 : Value).ownBlock ∧ k_ ≠ gb158 ∧ k_ ≠ gb185 ∧ k_ ≠ gb186 ∧ k_ ≠ g)) (by (with_reducible repeat (first | apply Kd.V_alloc | apply Kd.V_drewN | apply Kd.V_drew)); exact Kd.V_mono HO_1.out (fun _ hk => ⟨⟨hk.1, ⟨hk.2.2.1, ⟨hk.2.2.2.1, ⟨hk.2.2.2.2.1, ⟨hk.2.2.2.2.2.1, ⟨hk.2.2.2.2.2.2.1, ⟨hk.2.2.2.2.2.2.2.1, ⟨hk.2.2.2.2.2.2.2.2.1, hk.2.2.2.2.2.2.2.2.2⟩⟩⟩⟩⟩⟩⟩⟩, hk.2.1⟩)) hg hat); have n1_ := Aside0.mk (Kd.V_afterv (ok := (fun k_ => ((P1_ k_ ∨ P2_ k_) ∨ w.heap.size ≤ k_) ∧ some k_ ≠ (u159002 : Value).ownBlock ∧ some k_ ≠ (u159003 : Value).ownBlock ∧ some k_ ≠ (u187003 : Value).ownBlock ∧ some k_ ≠ (u187004 : Value).ownBlock ∧ k_ ≠ gb158 ∧ k_ ≠ gb185 ∧ k_ ≠ gb186 ∧ k_ ≠ g)) (by (with_reducible repeat (first | apply Kd.V_alloc | apply Kd.V_drewN | apply Kd.V_drew)); exact Kd.V_mono HO_70.out (fun _ hk => ⟨⟨hk.1, ⟨hk.2.2.1, ⟨hk.2.2.2.1, ⟨hk.2.2.2.2.1, ⟨hk.2.2.2.2.2.1, ⟨hk.2.2.2.2.2.2.1, ⟨hk.2.2.2.2.2.2.2.1, ⟨hk.2.2.2.2.2.2.2.2.1, hk.2.2.2.2.2.2.2.2.2⟩⟩⟩⟩⟩⟩⟩⟩, hk.2.1⟩)) hg hat); have n2_ := Aside0.mk (Kd.S_over' (by (with_reducible repeat (first | apply Kd.S_alloc | apply Kd.S_drewN | apply Kd.S_drew)); exact HO_159002.out) (Kd.R_typed (by (with_reducible repeat (first | apply Kd.R_alloc | apply Kd.R_drewN | apply Kd.R_drew)); exact HO_21.out)) (by decide) hg); have n3_ := Aside0.mk (Kd.R_after (ok := (fun k_ => (w.heap.size ≤ k_) ∧ some k_ ≠ (u187003 : Value).ownBlock ∧ some k_ ≠ (u187004 : Value).ownBlock ∧ k_ ≠ gb186)) (by (with_reducible repeat (first | apply Kd.R_alloc | apply Kd.R_drewN | apply Kd.R_drew)); exact Kd.R_mono HO_159003.out (fun _ hk => ⟨⟨hk.1, ⟨hk.2.2.1, ⟨hk.2.2.2.1, hk.2.2.2.2⟩⟩⟩, hk.2.1⟩)) hg hat); have n4_ := Aside0.mk (Kd.R_over' (by (with_reducible repeat (first | apply Kd.R_alloc | apply Kd.R_drewN | apply Kd.R_drew)); exact HO_187003.out) (Kd.R_typed (by (with_reducible repeat (first | apply Kd.R_alloc | apply Kd.R_drewN | apply Kd.R_drew)); exact HO_21.out)) (by decide) hg); have n5_ := Aside0.mk (Kd.S_after (ok := (fun k_ => (w.heap.size ≤ k_))) (by (with_reducible repeat (first | apply Kd.S_alloc | apply Kd.S_drewN | apply Kd.S_drew)); exact HO_187004.out) hg hat); have n6_ := Aside0.mk (blk_grown (g := gb158) (o := .cells #[.int .u16 0, .int .u16 0, u159002, u159003] 109 (0, 0)) (by (with_reducible repeat (first | refine b1_ ?_ _ | refine b2_ ?_ | refine b3_ ?_ _)); exact BK158.out) hg (Kd.R_ne HO_21.out BK158.out (by decide))); have n7_ := Aside0.mk (blk_grown (g := gb185) (o := .cells #[.slice A184_0 ((rd_T41 l2 x72_2).f0).length c184_0, .slice (some ad211) ((rd_T41 l2 x72_2).f1).length c184_1] 41 (0, 0)) (by (with_reducible repeat (first | refine b1_ ?_ _ | refine b2_ ?_ | refine b3_ ?_ _)); exact BK185.out) hg (Kd.R_ne HO_21.out BK185.out (by decide))); have n8_ := Aside0.mk (blk_grown (g := gb186) (o := .cells #[.int .u16 0, .int .u16 0, .int .u16 0, u187003, u187004] 186 (0, 0)) (by (with_reducible repeat (first | refine b1_ ?_ _ | refine b2_ ?_ | refine b3_ ?_ _)); exact BK186.out) hg (Kd.R_ne HO_21.out BK186.out (by decide))); have n9_ := Aside0.mk (IsS102.grown (by repeat (first | (with_reducible first | exact HI0.out | apply IsS102.alloc | apply IsS102.drewN | apply IsS102.drew | apply IsS102.set_0 | apply IsS102.set_1 | apply IsS102.set_2 | refine IsS102.far ?_ NB0_158.out _ | refine IsS102.far ?_ NB0_185.out _ | refine IsS102.far ?_ NB0_186.out _) | exact HI0.out)) hg (IsS102.own_ne HI0.out HO_21.out (by decide))); have n10_ := Aside0.mk (below_weaken (by repeat (first | (with_reducible first | exact HB.out | apply below_alloc | apply pw_below_drewN | apply below_drew1 | refine below_set ?_ (IsS102.ge HI0.out) | refine below_set ?_ GE158.out | refine below_set ?_ GE185.out | refine below_set ?_ GE186.out) | exact HB.out)) HL.out hb); have n11_ := Aside0.mk (KeepBut.trans (by repeat (first | (with_reducible first | exact HK.out | apply KeepBut.set_ | apply keep_drewN | apply keep_drew | apply keep_alloc | refine keep_far ?_ GW158.out _ | refine keep_far ?_ GW185.out _ | refine keep_far ?_ GW186.out _) | exact HK.out)) (KeepBut.of_grown hg g) (Kd.R_base2 HO_21.out)); have n12_ := Aside0.mk (ho); clear HO_1; clear HO_70; clear HO_159002; clear HO_159003; clear HO_187003; clear HO_187004; clear BK158; clear BK185; clear BK186; clear HI0; clear HB; clear HK; clear HO_21; have HO_1 := n0_; have HO_70 := n1_; have HO_159002 := n2_; have HO_159003 := n3_; have HO_187003 := n4_; have HO_187004 := n5_; have BK158 := n6_; have BK185 := n7_; have BK186 := n8_; have HI0 := n9_; have HB := n10_; have HK := n11_; have HO222 := n12_; clear n0_ n1_ n2_ n3_ n4_ n5_ n6_ n7_ n8_ n9_ n10_ n11_ n12_; clear ho hb hg hat))
                       go_roundg k5
                       case measure => have := HK1.out; have := HK2.out; have := HK3.out; have := HK4.out; have := HK5.out; omega
                       case rel => exact ⟨(y220), (wrap64 (x119_5 + 1)), (t217), (t218), (t219), (by first | rfl | (simp; done) | (simp [*]; done)), H', ⟨by have := HK1.out; have := HK2.out; have := HK3.out; have := HK4.out; have := HK5.out; omega⟩, ⟨by (with_reducible repeat (first | apply Kd.V_alloc | apply Kd.V_drewN | apply Kd.V_drew)); exact Kd.V_mono HO_1.out (fun _ hk => ⟨hk.1.1, ⟨hk.2, ⟨hk.1.2.1, ⟨hk.1.2.2.1, ⟨hk.1.2.2.2.1, ⟨hk.1.2.2.2.2.1, ⟨hk.1.2.2.2.2.2.1, ⟨hk.1.2.2.2.2.2.2.1, ⟨hk.1.2.2.2.2.2.2.2.1, hk.1.2.2.2.2.2.2.2.2⟩⟩⟩⟩⟩⟩⟩⟩⟩)⟩, ⟨by (with_reducible repeat (first | apply Kd.R_alloc | apply Kd.R_drewN | apply Kd.R_drew)); exact HO222.out⟩, ⟨by (with_reducible repeat (first | apply Kd.V_alloc | apply Kd.V_drewN | apply Kd.V_drew)); exact Kd.V_mono HO_70.out (fun _ hk => ⟨hk.1.1, ⟨hk.2, ⟨hk.1.2.1, ⟨hk.1.2.2.1, ⟨hk.1.2.2.2.1, ⟨hk.1.2.2.2.2.1, ⟨hk.1.2.2.2.2.2.1, ⟨hk.1.2.2.2.2.2.2.1, ⟨hk.1.2.2.2.2.2.2.2.1, hk.1.2.2.2.2.2.2.2.2⟩⟩⟩⟩⟩⟩⟩⟩⟩)⟩, ⟨by (with_reducible repeat (first | apply Kd.S_alloc | apply Kd.S_drewN | apply Kd.S_drew)); exact HO_159002.out⟩, ⟨by (with_reducible repeat (first | apply Kd.R_alloc | apply Kd.R_drewN | apply Kd.R_drew)); exact Kd.R_mono HO_159003.out (fun _ hk => ⟨hk.1.1, ⟨hk.2, ⟨hk.1.2.1, ⟨hk.1.2.2.1, hk.1.2.2.2⟩⟩⟩⟩)⟩, ⟨by (with_reducible repeat (first | apply Kd.R_alloc | apply Kd.R_drewN | apply Kd.R_drew)); exact HO_187003.out⟩, ⟨by (with_reducible repeat (first | apply Kd.S_alloc | apply Kd.S_drewN | apply Kd.S_drew)); exact HO_187004.out⟩, ⟨by (with_reducible repeat (first | refine b1_ ?_ _ | refine b2_ ?_ | refine b3_ ?_ _)); exact BK158.out⟩, ⟨by (with_reducible repeat (first | refine b1_ ?_ _ | refine b2_ ?_ | refine b3_ ?_ _)); exact BK185.out⟩, ⟨by (with_reducible repeat (first | refine b1_ ?_ _ | refine b2_ ?_ | refine b3_ ?_ _)); exact BK186.out⟩, ⟨by repeat (first | (with_reducible first | exact HI0.out | apply IsS102.alloc | apply IsS102.drewN | apply IsS102.drew | apply IsS102.set_0 | apply IsS102.set_1 | apply IsS102.set_2 | refine IsS102.far ?_ NB0_158.out _ | refine IsS102.far ?_ NB0_185.out _ | refine IsS102.far ?_ NB0_186.out _) | exact HI0.out)⟩, ⟨by repeat (first | (with_reducible first | exact HK.out | apply KeepBut.set_ | apply keep_drewN | apply keep_drew | apply keep_alloc | refine keep_far ?_ GW158.out _ | refine keep_far ?_ GW185.out _ | refine keep_far ?_ GW186.out _) | exact HK.out)⟩, ⟨by repeat (first | (with_reducible first | exact HB.out | apply below_alloc | apply pw_below_drewN | apply below_drew1 | refine below_set ?_ (IsS102.ge HI0.out) | refine below_set ?_ GE158.out | refine below_set ?_ GE185.out | refine below_set ?_ GE186.out) | exact HB.out)⟩⟩
                      ·rw [if_neg c91] at H
                       exact absurd H (by simp)
                     ·rw [if_neg c89] at H
                      exact absurd H (by simp)
                    ·rw [if_neg c88] at H
                     exact absurd H (by simp)
                   ·rw [if_neg c87] at H
                    have c87b0 : decide (x119_5 < ((rd_L9 ((rd_T41 l2 x72_2).f1) x105_4).length : Int)) = false := decide_eq_false c87
                    clear c87
                    by_cases c94 : x187004_4.length < 5864062014805
                    ·rw [if_pos c94] at H
                     have LMc94 := Aside0.mk c94
                     clear c94
                     obtain ⟨y223, hy223⟩ : ∃ y_ : List (List Int), y_ = (x187004_4 ++ [x21_5]) := ⟨_, rfl⟩
                     replace H : (impl_builder_store.l4 k5 l1 l2 (l2.length : Int) x72_2 ((rd_T41 l2 x72_2).f1) (((rd_T41 l2 x72_2).f1).length : Int) (wrap64 (x105_4 + 1)) x1000_5 x1001_5 x1002_5 0 0 x159002_1 x159003_2 ((rd_T41 l2 x72_2).f0) ((rd_T41 l2 x72_2).f1) 0 0 0 x187003_3 y223) = some (r1, r2, r3, r4, r5, r6, r7) := by first | (rw [hy223]; with_reducible exact H) | (have H2_ := (Option.bind_some _ _).symm.trans H; rw [hy223]; with_reducible exact H2_) | (have H2_ := (Option.bind_some _ _).symm.trans H; with_reducible exact H2_) | with_reducible exact H | (rw [hy223]; exact H) | exact H
                     have Ny223 := Aside0.mk hy223
                     clear hy223
                     have H' := Aside0.mk H
                     clear H
                     have hnb95 := NB186_158.out
                     have hnc95 := NB158_186.out
                     have hnb96 := NB186_185.out
                     have hnc96 := NB185_186.out
                     have hnb97 := NB186_0.out
                     have hnc97 := NB0_186.out
                     have hcz98_0 : wr.cell? ⟨gb186, 0, none⟩ = some (.int .u16 0) := (blk_cell BK186.out 0).trans rfl
                     have hcz98_1 : wr.cell? ⟨gb186, 1, none⟩ = some (.int .u16 0) := (blk_cell BK186.out 1).trans rfl
                     have hcz98_2 : wr.cell? ⟨gb186, 2, none⟩ = some (.int .u16 0) := (blk_cell BK186.out 2).trans rfl
                     have hcz98_3 : wr.cell? ⟨gb186, 3, none⟩ = some (u187003) := (blk_cell BK186.out 3).trans rfl
                     have hcz98_4 : wr.cell? ⟨gb186, 4, none⟩ = some (u187004) := (blk_cell BK186.out 4).trans rfl
                     have hfz98_0 := blk_frozen BK186.out 0
                     have hfz98_1 := blk_frozen BK186.out 1
                     have hfz98_2 := blk_frozen BK186.out 2
                     have hfz98_3 := blk_frozen BK186.out 3
                     have hfz98_4 := blk_frozen BK186.out 4
                     obtain ⟨Ao100, co100, eo100⟩ := Kd.R_slice HO_21.out
                     subst eo100
                     go_wp2_with (first | ((with_reducible refine gate_builtin (b := .append) (xs := #[.tmp 131, .tmp 133]) rfl ?_); (try (refine gate_guard (by rfl) ?_; dsimp only)); at_builtin; refine Kd.S_append (Kd.slice 98 (Kd.int .i16)) w.heap.size rfl (.tmp 131) (.tmp 133) 24 25 (.slice none 0 0) 24 rfl Try.underlying24 info25 rfl (by decide) (by omega) u187004 x187004_4 x21_5 [.slice Ao100 x21_5.length co100] (fun k_ => (w.heap.size ≤ k_)) (fun k_ => some k_ = (.slice Ao100 x21_5.length co100 : Value).ownBlock) rfl rfl ?aP (fun k_ hk_ => ((Kd.R_mono (ok' := fun k_ => ((fun k_ => (w.heap.size ≤ k_))) k_ ∧ some k_ ≠ (u187004 : Value).ownBlock) (Kd.R_apart' (HO_21.out) (Kd.S_typed HO_187004.out) (by decide)) (fun k_ hk => ⟨hk.1, hk.2⟩))).1 k_ hk_.symm) ?aF ?aO (Below.refl _ _) ?aS ?aL ?_; (case aP => exact Kd.M_row (Kd.R_mono (Kd.R_tight rfl (Kd.R_mono (ok' := fun k_ => ((fun k_ => (w.heap.size ≤ k_))) k_ ∧ some k_ ≠ (u187004 : Value).ownBlock) (Kd.R_apart' (HO_21.out) (Kd.S_typed HO_187004.out) (by decide)) (fun k_ hk => ⟨hk.1, hk.2⟩))) (fun _ h_ => h_))); (case aF => exact (fun k_ hk => (Nat.le_trans (keep_size (w := w) (g := g) (row := none) (by repeat (first | (with_reducible first | exact HK.out | apply KeepBut.set_ | apply keep_drewN | apply keep_drew | apply keep_alloc | refine keep_far ?_ GW158.out _ | refine keep_far ?_ GW185.out _ | refine keep_far ?_ GW186.out _) | exact HK.out))) hk))); (case aO => exact (by (with_reducible repeat (first | apply Kd.S_alloc | apply Kd.S_drewN | apply Kd.S_drew)); exact Kd.S_mono HO_187004.out (fun k_ hk => ⟨hk.1, fun e_ => hk.2 e_⟩))); (case aS => exact (keep_size (w := w) (g := g) (row := none) (by repeat (first | (with_reducible first | exact HK.out | apply KeepBut.set_ | apply keep_drewN | apply keep_drew | apply keep_alloc | refine keep_far ?_ GW158.out _ | refine keep_far ?_ GW185.out _ | refine keep_far ?_ GW186.out _) | exact HK.out)))); (case aL => have := LMc94.out; omega); intro v224 w99 ho hb hg hat; rw [← Ny223.out] at ho; have n0_ := Aside0.mk (Kd.V_afterv (ok := (fun k_ => ((P1_ k_ ∨ P2_ k_) ∨ w.heap.size ≤ k_) ∧ some k_ ≠ (.slice Ao100 x21_5.length co100 : Value).ownBlock ∧ some k_ ≠ (u159002 : Value).ownBlock ∧ some k_ ≠ (u159003 : Value).ownBlock ∧ some k_ ≠ (u187003 : Value).ownBlock ∧ k_ ≠ gb158 ∧ k_ ≠ gb185 ∧ k_ ≠ gb186 ∧ k_ ≠ g)) (by (with_reducible repeat (first | apply Kd.V_alloc | apply Kd.V_drewN | apply Kd.V_drew)); exact Kd.V_mono HO_1.out (fun _ hk => ⟨⟨hk.1, ⟨hk.2.1, ⟨hk.2.2.1, ⟨hk.2.2.2.1, ⟨hk.2.2.2.2.1, ⟨hk.2.2.2.2.2.2.1, ⟨hk.2.2.2.2.2.2.2.1, ⟨hk.2.2.2.2.2.2.2.2.1, hk.2.2.2.2.2.2.2.2.2⟩⟩⟩⟩⟩⟩⟩⟩, hk.2.2.2.2.2.1⟩)) hg hat); have n1_ := Aside0.mk (Kd.V_afterv (ok := (fun k_ => ((P1_ k_ ∨ P2_ k_) ∨ w.heap.size ≤ k_) ∧ some k_ ≠ (.slice Ao100 x21_5.length co100 : Value).ownBlock ∧ some k_ ≠ (u159002 : Value).ownBlock ∧ some k_ ≠ (u159003 : Value).ownBlock ∧ some k_ ≠ (u187003 : Value).ownBlock ∧ k_ ≠ gb158 ∧ k_ ≠ gb185 ∧ k_ ≠ gb186 ∧ k_ ≠ g)) (by (with_reducible repeat (first | apply Kd.V_alloc | apply Kd.V_drewN | apply Kd.V_drew)); exact Kd.V_mono HO_70.out (fun _ hk => ⟨⟨hk.1, ⟨hk.2.1, ⟨hk.2.2.1, ⟨hk.2.2.2.1, ⟨hk.2.2.2.2.1, ⟨hk.2.2.2.2.2.2.1, ⟨hk.2.2.2.2.2.2.2.1, ⟨hk.2.2.2.2.2.2.2.2.1, hk.2.2.2.2.2.2.2.2.2⟩⟩⟩⟩⟩⟩⟩⟩, hk.2.2.2.2.2.1⟩)) hg hat); have n2_ := Aside0.mk (Kd.S_over' (by (with_reducible repeat (first | apply Kd.S_alloc | apply Kd.S_drewN | apply Kd.S_drew)); exact HO_159002.out) (Kd.S_typed (by (with_reducible repeat (first | apply Kd.S_alloc | apply Kd.S_drewN | apply Kd.S_drew)); exact HO_187004.out)) (by decide) hg); have n3_ := Aside0.mk (Kd.R_after (ok := (fun k_ => (w.heap.size ≤ k_) ∧ some k_ ≠ (.slice Ao100 x21_5.length co100 : Value).ownBlock ∧ some k_ ≠ (u187003 : Value).ownBlock ∧ k_ ≠ gb186)) (by (with_reducible repeat (first | apply Kd.R_alloc | apply Kd.R_drewN | apply Kd.R_drew)); exact Kd.R_mono HO_159003.out (fun _ hk => ⟨⟨hk.1, ⟨hk.2.1, ⟨hk.2.2.1, hk.2.2.2.2⟩⟩⟩, hk.2.2.2.1⟩)) hg hat); have n4_ := Aside0.mk (Kd.R_over' (by (with_reducible repeat (first | apply Kd.R_alloc | apply Kd.R_drewN | apply Kd.R_drew)); exact HO_187003.out) (Kd.S_typed (by (with_reducible repeat (first | apply Kd.S_alloc | apply Kd.S_drewN | apply Kd.S_drew)); exact HO_187004.out)) (by decide) hg); have n5_ := Aside0.mk (blk_grown (g := gb158) (o := .cells #[.int .u16 0, .int .u16 0, u159002, u159003] 109 (0, 0)) (by (with_reducible repeat (first | refine b1_ ?_ _ | refine b2_ ?_ | refine b3_ ?_ _)); exact BK158.out) hg (Kd.S_ne HO_187004.out BK158.out (by decide))); have n6_ := Aside0.mk (blk_grown (g := gb185) (o := .cells #[.slice A184_0 ((rd_T41 l2 x72_2).f0).length c184_0, .slice (some ad211) ((rd_T41 l2 x72_2).f1).length c184_1] 41 (0, 0)) (by (with_reducible repeat (first | refine b1_ ?_ _ | refine b2_ ?_ | refine b3_ ?_ _)); exact BK185.out) hg (Kd.S_ne HO_187004.out BK185.out (by decide))); have n7_ := Aside0.mk (blk_grown (g := gb186) (o := .cells #[.int .u16 0, .int .u16 0, .int .u16 0, u187003, u187004] 186 (0, 0)) (by (with_reducible repeat (first | refine b1_ ?_ _ | refine b2_ ?_ | refine b3_ ?_ _)); exact BK186.out) hg (Kd.S_ne HO_187004.out BK186.out (by decide))); have n8_ := Aside0.mk (IsS102.grown (by repeat (first | (with_reducible first | exact HI0.out | apply IsS102.alloc | apply IsS102.drewN | apply IsS102.drew | apply IsS102.set_0 | apply IsS102.set_1 | apply IsS102.set_2 | refine IsS102.far ?_ NB0_158.out _ | refine IsS102.far ?_ NB0_185.out _ | refine IsS102.far ?_ NB0_186.out _) | exact HI0.out)) hg (IsS102.own_neS HI0.out HO_187004.out (by decide))); have n9_ := Aside0.mk (below_weaken (by repeat (first | (with_reducible first | exact HB.out | apply below_alloc | apply pw_below_drewN | apply below_drew1 | refine below_set ?_ (IsS102.ge HI0.out) | refine below_set ?_ GE158.out | refine below_set ?_ GE185.out | refine below_set ?_ GE186.out) | exact HB.out)) HL.out hb); have n10_ := Aside0.mk (KeepBut.trans (by repeat (first | (with_reducible first | exact HK.out | apply KeepBut.set_ | apply keep_drewN | apply keep_drew | apply keep_alloc | refine keep_far ?_ GW158.out _ | refine keep_far ?_ GW185.out _ | refine keep_far ?_ GW186.out _) | exact HK.out)) (KeepBut.of_grown hg g) (Kd.S_base2 HO_187004.out)); have n11_ := Aside0.mk (ho); clear HO_1; clear HO_70; clear HO_159002; clear HO_159003; clear HO_187003; clear BK158; clear BK185; clear BK186; clear HI0; clear HB; clear HK; clear HO_187004; clear HO_21; have HO_1 := n0_; have HO_70 := n1_; have HO_159002 := n2_; have HO_159003 := n3_; have HO_187003 := n4_; have BK158 := n5_; have BK185 := n6_; have BK186 := n7_; have HI0 := n8_; have HB := n9_; have HK := n10_; have HO225 := n11_; clear n0_ n1_ n2_ n3_ n4_ n5_ n6_ n7_ n8_ n9_ n10_ n11_; clear ho hb hg hat; obtain ⟨Ao101, co101, eo101⟩ := Kd.S_slice HO225.out; subst eo101; have hcz102_0 : w99.cell? ⟨gb186, 0, none⟩ = some (.int .u16 0) := (blk_cell BK186.out 0).trans rfl; have hcz102_1 : w99.cell? ⟨gb186, 1, none⟩ = some (.int .u16 0) := (blk_cell BK186.out 1).trans rfl; have hcz102_2 : w99.cell? ⟨gb186, 2, none⟩ = some (.int .u16 0) := (blk_cell BK186.out 2).trans rfl; have hcz102_3 : w99.cell? ⟨gb186, 3, none⟩ = some (u187003) := (blk_cell BK186.out 3).trans rfl; have hcz102_4 : w99.cell? ⟨gb186, 4, none⟩ = some (u187004) := (blk_cell BK186.out 4).trans rfl; have hfz102_0 := blk_frozen BK186.out 0; have hfz102_1 := blk_frozen BK186.out 1; have hfz102_2 := blk_frozen BK186.out 2; have hfz102_3 := blk_frozen BK186.out 3; have hfz102_4 := blk_frozen BK186.out 4))
                     go_roundg k5
                     case measure => have := HK1.out; have := HK2.out; have := HK3.out; have := HK4.out; have := HK5.out; omega
                     case rel => exact ⟨(wrap64 (x105_4 + 1)), (x1000_5), (x1001_5), (x1002_5), (y223), (.slice Ao101 y223.length co101), (by first | rfl | (simp; done) | (simp [*]; done)), H', ⟨by have := HK1.out; have := HK2.out; have := HK3.out; have := HK4.out; have := HK5.out; omega⟩, ⟨by (with_reducible repeat (first | apply Kd.V_alloc | apply Kd.V_drewN | apply Kd.V_drew)); exact Kd.V_mono (Kd.V_far (p := ⟨gb186, 4, none⟩) (Kd.V_mono HO_1.out (fun k_ hk => (⟨hk, hk.1.2.2.2.2.2.2.2.1⟩ : _ ∧ k_ ≠ gb186))) (fun _ hk => hk.2) (.slice Ao101 y223.length co101)) (fun _ hk => ⟨hk.1.1.1, ⟨hk.1.1.2.2.1, ⟨hk.1.1.2.2.2.1, ⟨hk.1.1.2.2.2.2.1, ⟨hk.1.2, ⟨hk.1.1.2.2.2.2.2.1, ⟨hk.1.1.2.2.2.2.2.2.1, ⟨hk.1.1.2.2.2.2.2.2.2.1, hk.1.1.2.2.2.2.2.2.2.2⟩⟩⟩⟩⟩⟩⟩⟩)⟩, ⟨by (with_reducible repeat (first | apply Kd.V_alloc | apply Kd.V_drewN | apply Kd.V_drew)); exact Kd.V_mono (Kd.V_far (p := ⟨gb186, 4, none⟩) (Kd.V_mono HO_70.out (fun k_ hk => (⟨hk, hk.1.2.2.2.2.2.2.2.1⟩ : _ ∧ k_ ≠ gb186))) (fun _ hk => hk.2) (.slice Ao101 y223.length co101)) (fun _ hk => ⟨hk.1.1.1, ⟨hk.1.1.2.2.1, ⟨hk.1.1.2.2.2.1, ⟨hk.1.1.2.2.2.2.1, ⟨hk.1.2, ⟨hk.1.1.2.2.2.2.2.1, ⟨hk.1.1.2.2.2.2.2.2.1, ⟨hk.1.1.2.2.2.2.2.2.2.1, hk.1.1.2.2.2.2.2.2.2.2⟩⟩⟩⟩⟩⟩⟩⟩)⟩, ⟨by (with_reducible repeat (first | apply Kd.S_alloc | apply Kd.S_drewN | apply Kd.S_drew)); exact Kd.S_mono (Kd.S_far (p := ⟨gb186, 4, none⟩) (Kd.S_types HO_159002.out BK186.out (by decide)) (fun _ hk => hk.2) (.slice Ao101 y223.length co101)) (fun _ hk => hk.1)⟩, ⟨by (with_reducible repeat (first | apply Kd.R_alloc | apply Kd.R_drewN | apply Kd.R_drew)); exact Kd.R_mono (Kd.R_far (p := ⟨gb186, 4, none⟩) (Kd.R_mono HO_159003.out (fun k_ hk => (⟨hk, hk.1.2.2.2⟩ : _ ∧ k_ ≠ gb186))) (fun _ hk => hk.2) (.slice Ao101 y223.length co101)) (fun _ hk => ⟨hk.1.1.1, ⟨hk.1.1.2.2.1, ⟨hk.1.2, hk.1.1.2.2.2⟩⟩⟩)⟩, ⟨by (with_reducible repeat (first | apply Kd.R_alloc | apply Kd.R_drewN | apply Kd.R_drew)); exact Kd.R_mono (Kd.R_far (p := ⟨gb186, 4, none⟩) (Kd.R_types HO_187003.out BK186.out (by decide)) (fun _ hk => hk.2) (.slice Ao101 y223.length co101)) (fun _ hk => hk.1)⟩, ⟨by (with_reducible repeat (first | apply Kd.S_alloc | apply Kd.S_drewN | apply Kd.S_drew)); exact Kd.S_mono (Kd.S_far (p := ⟨gb186, 4, none⟩) (Kd.S_types HO225.out BK186.out (by decide)) (fun _ hk => hk.2) (.slice Ao101 y223.length co101)) (fun _ hk => hk.1)⟩, ⟨by (with_reducible repeat (first | refine b1_ ?_ _ | refine b2_ ?_ | refine b3_ ?_ _)); refine blk_far ?_ NB158_186.out _; (with_reducible repeat (first | refine b1_ ?_ _ | refine b2_ ?_ | refine b3_ ?_ _)); exact BK158.out⟩, ⟨by (with_reducible repeat (first | refine b1_ ?_ _ | refine b2_ ?_ | refine b3_ ?_ _)); refine blk_far ?_ NB185_186.out _; (with_reducible repeat (first | refine b1_ ?_ _ | refine b2_ ?_ | refine b3_ ?_ _)); exact BK185.out⟩, ⟨by (with_reducible repeat (first | refine b1_ ?_ _ | refine b2_ ?_ | refine b3_ ?_ _)); refine blk_put (cs := #[.int .u16 0, .int .u16 0, .int .u16 0, u187003, u187004]) ?_ 4 _ rfl; (with_reducible repeat (first | refine b1_ ?_ _ | refine b2_ ?_ | refine b3_ ?_ _)); exact BK186.out⟩, ⟨by repeat (first | (with_reducible first | exact HI0.out | apply IsS102.alloc | apply IsS102.drewN | apply IsS102.drew | apply IsS102.set_0 | apply IsS102.set_1 | apply IsS102.set_2 | refine IsS102.far ?_ NB0_158.out _ | refine IsS102.far ?_ NB0_185.out _ | refine IsS102.far ?_ NB0_186.out _) | exact HI0.out)⟩, ⟨by repeat (first | (with_reducible first | exact HK.out | apply KeepBut.set_ | apply keep_drewN | apply keep_drew | apply keep_alloc | refine keep_far ?_ GW158.out _ | refine keep_far ?_ GW185.out _ | refine keep_far ?_ GW186.out _) | exact HK.out)⟩, ⟨by repeat (first | (with_reducible first | exact HB.out | apply below_alloc | apply pw_below_drewN | apply below_drew1 | refine below_set ?_ (IsS102.ge HI0.out) | refine below_set ?_ GE158.out | refine below_set ?_ GE185.out | refine below_set ?_ GE186.out) | exact HB.out)⟩⟩
                    ·rw [if_neg c94] at H
                     exact absurd H (by simp)
                ·rw [if_neg c80] at H
                 exact absurd H (by simp)
               ·rw [if_neg c79] at H
                exact absurd H (by simp)
              ·rw [if_neg c78] at H
               have c78b0 : decide (x105_4 < (((rd_T41 l2 x72_2).f1).length : Int)) = false := decide_eq_false c78
               clear c78
               by_cases c103 : x159003_2.length < 2513169434916
               ·rw [if_pos c103] at H
                have LMc103 := Aside0.mk c103
                clear c103
                obtain ⟨y208, hy208⟩ : ∃ y_ : List (S186), y_ = (x159003_2 ++ [(⟨0, 0, 0, x187003_3, x187004_4⟩ : S186)]) := ⟨_, rfl⟩
                replace H : (impl_builder_store.l2 k4 l1 l2 (l2.length : Int) (wrap64 (x72_2 + 1)) x1000_4 x1001_4 x1002_4 0 0 x159002_1 y208) = some (r1, r2, r3, r4, r5, r6, r7) := by first | (rw [hy208]; with_reducible exact H) | (have H2_ := (Option.bind_some _ _).symm.trans H; rw [hy208]; with_reducible exact H2_) | (have H2_ := (Option.bind_some _ _).symm.trans H; with_reducible exact H2_) | with_reducible exact H | (rw [hy208]; exact H) | exact H
                have Ny208 := Aside0.mk hy208
                clear hy208
                have H' := Aside0.mk H
                clear H
                have hnb104 := NB158_185.out
                have hnc104 := NB185_158.out
                have hnb105 := NB158_186.out
                have hnc105 := NB186_158.out
                have hnb106 := NB158_0.out
                have hnc106 := NB0_158.out
                have hcz107_0 : wr.cell? ⟨gb158, 0, none⟩ = some (.int .u16 0) := (blk_cell BK158.out 0).trans rfl
                have hcz107_1 : wr.cell? ⟨gb158, 1, none⟩ = some (.int .u16 0) := (blk_cell BK158.out 1).trans rfl
                have hcz107_2 : wr.cell? ⟨gb158, 2, none⟩ = some (u159002) := (blk_cell BK158.out 2).trans rfl
                have hcz107_3 : wr.cell? ⟨gb158, 3, none⟩ = some (u159003) := (blk_cell BK158.out 3).trans rfl
                have hfz107_0 := blk_frozen BK158.out 0
                have hfz107_1 := blk_frozen BK158.out 1
                have hfz107_2 := blk_frozen BK158.out 2
                have hfz107_3 := blk_frozen BK158.out 3
                have hnb108 := NB186_185.out
                have hnc108 := NB185_186.out
                have hnb109 := NB186_0.out
                have hnc109 := NB0_186.out
                have hcz110_0 : wr.cell? ⟨gb186, 0, none⟩ = some (.int .u16 0) := (blk_cell BK186.out 0).trans rfl
                have hcz110_1 : wr.cell? ⟨gb186, 1, none⟩ = some (.int .u16 0) := (blk_cell BK186.out 1).trans rfl
                have hcz110_2 : wr.cell? ⟨gb186, 2, none⟩ = some (.int .u16 0) := (blk_cell BK186.out 2).trans rfl
                have hcz110_3 : wr.cell? ⟨gb186, 3, none⟩ = some (u187003) := (blk_cell BK186.out 3).trans rfl
                have hcz110_4 : wr.cell? ⟨gb186, 4, none⟩ = some (u187004) := (blk_cell BK186.out 4).trans rfl
                have hfz110_0 := blk_frozen BK186.out 0
                have hfz110_1 := blk_frozen BK186.out 1
                have hfz110_2 := blk_frozen BK186.out 2
                have hfz110_3 := blk_frozen BK186.out 3
                have hfz110_4 := blk_frozen BK186.out 4
                obtain ⟨Ao112, co112, eo112⟩ := Kd.R_slice HO_187003.out
                subst eo112
                obtain ⟨Ao113, co113, eo113⟩ := Kd.S_slice HO_187004.out
                subst eo113
                go_wp2_with (first | ((with_reducible refine gate_builtin (b := .append) (xs := #[.tmp 138, .tmp 140]) rfl ?_); (try (refine gate_guard (by rfl) ?_; dsimp only)); at_builtin; refine Kd.R_append k186 w.heap.size rfl (.tmp 138) (.tmp 140) 107 186 (.agg #[(.int .u16 0), (.int .u16 0), (.int .u16 0), (.slice none 0 0), (.slice none 0 0)]) 56 rfl Try.underlying107 info186 rfl (by decide) (by omega) u159003 x159003_2 (⟨0, 0, 0, x187003_3, x187004_4⟩ : S186) [.int .u16 0, .int .u16 0, .int .u16 0, .slice Ao112 x187003_3.length co112, .slice Ao113 x187004_4.length co113] (fun k_ => (w.heap.size ≤ k_) ∧ k_ ≠ gb186) (fun k_ => ((fun k_ => (w.heap.size ≤ k_) ∧ k_ ≠ gb186)) k_ ∧ some k_ ≠ (u159003 : Value).ownBlock) rfl rfl ?aP (fun _ hk => hk) ?aF ?aO (Below.refl _ _) ?aS ?aL ?_; (case aP => exact k186_mkM _ _ _ (⟨0, 0, 0, x187003_3, x187004_4⟩ : S186) (Kd.R_mono (Kd.R_types (Kd.R_apart' (HO_187003.out) (Kd.R_typed HO_159003.out) (by decide)) BK186.out (by decide)) (fun k_ hk => ⟨⟨hk.1.1, hk.2⟩, hk.1.2⟩)) (Kd.R_mono (Kd.R_types (Kd.R_apart' ((Kd.S_R HO_187004.out)) (Kd.R_typed HO_159003.out) (by decide)) BK186.out (by decide)) (fun k_ hk => ⟨⟨hk.1.1, hk.2⟩, hk.1.2⟩))); (case aF => exact (fun k_ hk => ⟨(Nat.le_trans (keep_size (w := w) (g := g) (row := none) (by repeat (first | (with_reducible first | exact HK.out | apply KeepBut.set_ | apply keep_drewN | apply keep_drew | apply keep_alloc | refine keep_far ?_ GW158.out _ | refine keep_far ?_ GW185.out _ | refine keep_far ?_ GW186.out _) | exact HK.out))) hk), Kd.freshB (g := gb186) (o := .cells #[.int .u16 0, .int .u16 0, .int .u16 0, .slice Ao112 x187003_3.length co112, .slice Ao113 x187004_4.length co113] 186 (0, 0)) (by (with_reducible repeat (first | refine b1_ ?_ _ | refine b2_ ?_ | refine b3_ ?_ _)); exact BK186.out) k_ hk⟩)); (case aO => exact (by (with_reducible repeat (first | apply Kd.R_alloc | apply Kd.R_drewN | apply Kd.R_drew)); exact Kd.R_mono HO_159003.out (fun _ hk => ⟨hk.1, hk.2.2.2⟩))); (case aS => exact (keep_size (w := w) (g := g) (row := none) (by repeat (first | (with_reducible first | exact HK.out | apply KeepBut.set_ | apply keep_drewN | apply keep_drew | apply keep_alloc | refine keep_far ?_ GW158.out _ | refine keep_far ?_ GW185.out _ | refine keep_far ?_ GW186.out _) | exact HK.out)))); (case aL => have := LMc103.out; omega); intro v209 w111 ho hb hg hat; rw [← Ny208.out] at ho; have n0_ := Aside0.mk (Kd.V_afterv (ok := (fun k_ => ((P1_ k_ ∨ P2_ k_) ∨ w.heap.size ≤ k_) ∧ some k_ ≠ (u159002 : Value).ownBlock ∧ some k_ ≠ (.slice Ao112 x187003_3.length co112 : Value).ownBlock ∧ some k_ ≠ (.slice Ao113 x187004_4.length co113 : Value).ownBlock ∧ k_ ≠ gb158 ∧ k_ ≠ gb185 ∧ k_ ≠ gb186 ∧ k_ ≠ g)) (by (with_reducible repeat (first | apply Kd.V_alloc | apply Kd.V_drewN | apply Kd.V_drew)); exact Kd.V_mono HO_1.out (fun _ hk => ⟨⟨hk.1, ⟨hk.2.1, ⟨hk.2.2.2.1, ⟨hk.2.2.2.2.1, ⟨hk.2.2.2.2.2.1, ⟨hk.2.2.2.2.2.2.1, ⟨hk.2.2.2.2.2.2.2.1, hk.2.2.2.2.2.2.2.2⟩⟩⟩⟩⟩⟩⟩, hk.2.2.1⟩)) hg hat); have n1_ := Aside0.mk (Kd.V_afterv (ok := (fun k_ => ((P1_ k_ ∨ P2_ k_) ∨ w.heap.size ≤ k_) ∧ some k_ ≠ (u159002 : Value).ownBlock ∧ some k_ ≠ (.slice Ao112 x187003_3.length co112 : Value).ownBlock ∧ some k_ ≠ (.slice Ao113 x187004_4.length co113 : Value).ownBlock ∧ k_ ≠ gb158 ∧ k_ ≠ gb185 ∧ k_ ≠ gb186 ∧ k_ ≠ g)) (by (with_reducible repeat (first | apply Kd.V_alloc | apply Kd.V_drewN | apply Kd.V_drew)); exact Kd.V_mono HO_70.out (fun _ hk => ⟨⟨hk.1, ⟨hk.2.1, ⟨hk.2.2.2.1, ⟨hk.2.2.2.2.1, ⟨hk.2.2.2.2.2.1, ⟨hk.2.2.2.2.2.2.1, ⟨hk.2.2.2.2.2.2.2.1, hk.2.2.2.2.2.2.2.2⟩⟩⟩⟩⟩⟩⟩, hk.2.2.1⟩)) hg hat); have n2_ := Aside0.mk (Kd.S_over' (by (with_reducible repeat (first | apply Kd.S_alloc | apply Kd.S_drewN | apply Kd.S_drew)); exact HO_159002.out) (Kd.R_typed (by (with_reducible repeat (first | apply Kd.R_alloc | apply Kd.R_drewN | apply Kd.R_drew)); exact HO_159003.out)) (by decide) hg); have n3_ := Aside0.mk (blk_grown (g := gb158) (o := .cells #[.int .u16 0, .int .u16 0, u159002, u159003] 109 (0, 0)) (by (with_reducible repeat (first | refine b1_ ?_ _ | refine b2_ ?_ | refine b3_ ?_ _)); exact BK158.out) hg (Kd.R_ne HO_159003.out BK158.out (by decide))); have n4_ := Aside0.mk (blk_grown (g := gb185) (o := .cells #[.slice A184_0 ((rd_T41 l2 x72_2).f0).length c184_0, .slice A184_1 ((rd_T41 l2 x72_2).f1).length c184_1] 41 (0, 0)) (by (with_reducible repeat (first | refine b1_ ?_ _ | refine b2_ ?_ | refine b3_ ?_ _)); exact BK185.out) hg (Kd.R_ne HO_159003.out BK185.out (by decide))); have n5_ := Aside0.mk (blk_grown (g := gb186) (o := .cells #[.int .u16 0, .int .u16 0, .int .u16 0, .slice Ao112 x187003_3.length co112, .slice Ao113 x187004_4.length co113] 186 (0, 0)) (by (with_reducible repeat (first | refine b1_ ?_ _ | refine b2_ ?_ | refine b3_ ?_ _)); exact BK186.out) hg (Kd.R_away HO_159003.out (fun _ hk => hk.2.2.2))); have n6_ := Aside0.mk (IsS102.grown (by repeat (first | (with_reducible first | exact HI0.out | apply IsS102.alloc | apply IsS102.drewN | apply IsS102.drew | apply IsS102.set_0 | apply IsS102.set_1 | apply IsS102.set_2 | refine IsS102.far ?_ NB0_158.out _ | refine IsS102.far ?_ NB0_185.out _ | refine IsS102.far ?_ NB0_186.out _) | exact HI0.out)) hg (IsS102.own_ne HI0.out HO_159003.out (by decide))); have n7_ := Aside0.mk (below_weaken (by repeat (first | (with_reducible first | exact HB.out | apply below_alloc | apply pw_below_drewN | apply below_drew1 | refine below_set ?_ (IsS102.ge HI0.out) | refine below_set ?_ GE158.out | refine below_set ?_ GE185.out | refine below_set ?_ GE186.out) | exact HB.out)) HL.out hb); have n8_ := Aside0.mk (KeepBut.trans (by repeat (first | (with_reducible first | exact HK.out | apply KeepBut.set_ | apply keep_drewN | apply keep_drew | apply keep_alloc | refine keep_far ?_ GW158.out _ | refine keep_far ?_ GW185.out _ | refine keep_far ?_ GW186.out _) | exact HK.out)) (KeepBut.of_grown hg g) (Kd.R_base2 HO_159003.out)); have n9_ := Aside0.mk (ho); clear HO_1; clear HO_70; clear HO_159002; clear BK158; clear BK185; clear BK186; clear HI0; clear HB; clear HK; clear HO_159003; clear HO_187003; clear HO_187004; have HO_1 := n0_; have HO_70 := n1_; have HO_159002 := n2_; have BK158 := n3_; have BK185 := n4_; have BK186 := n5_; have HI0 := n6_; have HB := n7_; have HK := n8_; have HO210 := n9_; clear n0_ n1_ n2_ n3_ n4_ n5_ n6_ n7_ n8_ n9_; clear ho hb hg hat; obtain ⟨Ao114, co114, eo114⟩ := Kd.R_slice HO210.out; subst eo114; have hcz115_0 : w111.cell? ⟨gb158, 0, none⟩ = some (.int .u16 0) := (blk_cell BK158.out 0).trans rfl; have hcz115_1 : w111.cell? ⟨gb158, 1, none⟩ = some (.int .u16 0) := (blk_cell BK158.out 1).trans rfl; have hcz115_2 : w111.cell? ⟨gb158, 2, none⟩ = some (u159002) := (blk_cell BK158.out 2).trans rfl; have hcz115_3 : w111.cell? ⟨gb158, 3, none⟩ = some (u159003) := (blk_cell BK158.out 3).trans rfl; have hfz115_0 := blk_frozen BK158.out 0; have hfz115_1 := blk_frozen BK158.out 1; have hfz115_2 := blk_frozen BK158.out 2; have hfz115_3 := blk_frozen BK158.out 3))
                go_roundg k4
                case measure => have := HK1.out; have := HK2.out; have := HK3.out; have := HK4.out; omega
                case rel => exact ⟨(wrap64 (x72_2 + 1)), (x1000_4), (x1001_4), (x1002_4), (y208), (.slice Ao114 y208.length co114), (by first | rfl | (simp; done) | (simp [*]; done)), H', ⟨by have := HK1.out; have := HK2.out; have := HK3.out; have := HK4.out; omega⟩, ⟨by (with_reducible repeat (first | apply Kd.V_alloc | apply Kd.V_drewN | apply Kd.V_drew)); exact Kd.V_mono (Kd.V_far (p := ⟨gb158, 3, none⟩) (Kd.V_mono HO_1.out (fun k_ hk => (⟨hk, hk.1.2.2.2.2.1⟩ : _ ∧ k_ ≠ gb158))) (fun _ hk => hk.2) (.slice Ao114 y208.length co114)) (fun _ hk => ⟨hk.1.1.1, ⟨hk.1.1.2.1, ⟨hk.1.2, ⟨hk.1.1.2.2.2.2.1, hk.1.1.2.2.2.2.2.2.2⟩⟩⟩⟩)⟩, ⟨by (with_reducible repeat (first | apply Kd.V_alloc | apply Kd.V_drewN | apply Kd.V_drew)); exact Kd.V_mono (Kd.V_far (p := ⟨gb158, 3, none⟩) (Kd.V_mono HO_70.out (fun k_ hk => (⟨hk, hk.1.2.2.2.2.1⟩ : _ ∧ k_ ≠ gb158))) (fun _ hk => hk.2) (.slice Ao114 y208.length co114)) (fun _ hk => ⟨hk.1.1.1, ⟨hk.1.1.2.1, ⟨hk.1.2, ⟨hk.1.1.2.2.2.2.1, hk.1.1.2.2.2.2.2.2.2⟩⟩⟩⟩)⟩, ⟨by (with_reducible repeat (first | apply Kd.S_alloc | apply Kd.S_drewN | apply Kd.S_drew)); exact Kd.S_mono (Kd.S_far (p := ⟨gb158, 3, none⟩) (Kd.S_types HO_159002.out BK158.out (by decide)) (fun _ hk => hk.2) (.slice Ao114 y208.length co114)) (fun _ hk => hk.1)⟩, ⟨by (with_reducible repeat (first | apply Kd.R_alloc | apply Kd.R_drewN | apply Kd.R_drew)); exact Kd.R_mono (Kd.R_far (p := ⟨gb158, 3, none⟩) (Kd.R_types HO210.out BK158.out (by decide)) (fun _ hk => hk.2) (.slice Ao114 y208.length co114)) (fun _ hk => hk.1.1)⟩, ⟨by (with_reducible repeat (first | refine b1_ ?_ _ | refine b2_ ?_ | refine b3_ ?_ _)); refine blk_put (cs := #[.int .u16 0, .int .u16 0, u159002, u159003]) ?_ 3 _ rfl; (with_reducible repeat (first | refine b1_ ?_ _ | refine b2_ ?_ | refine b3_ ?_ _)); exact BK158.out⟩, ⟨by repeat (first | (with_reducible first | exact HI0.out | apply IsS102.alloc | apply IsS102.drewN | apply IsS102.drew | apply IsS102.set_0 | apply IsS102.set_1 | apply IsS102.set_2 | refine IsS102.far ?_ NB0_158.out _ | refine IsS102.far ?_ NB0_185.out _ | refine IsS102.far ?_ NB0_186.out _) | exact HI0.out)⟩, ⟨by repeat (first | (with_reducible first | exact HK.out | apply KeepBut.set_ | apply keep_drewN | apply keep_drew | apply keep_alloc | refine keep_far ?_ GW158.out _ | refine keep_far ?_ GW185.out _ | refine keep_far ?_ GW186.out _) | exact HK.out)⟩, ⟨by repeat (first | (with_reducible first | exact HB.out | apply below_alloc | apply pw_below_drewN | apply below_drew1 | refine below_set ?_ (IsS102.ge HI0.out) | refine below_set ?_ GE158.out | refine below_set ?_ GE185.out | refine below_set ?_ GE186.out) | exact HB.out)⟩⟩
               ·rw [if_neg c103] at H
                exact absurd H (by simp)
        ·rw [if_neg c44] at H
         exact absurd H (by simp)
       ·rw [if_neg c43] at H
        exact absurd H (by simp)
      ·rw [if_neg c42] at H
       have c42b0 : decide (x72_2 < (l2.length : Int)) = false := decide_eq_false c42
       clear c42
       simp only [Option.some.injEq, Prod.mk.injEq] at H
       obtain ⟨rfl, rfl, rfl, rfl, rfl, rfl, rfl⟩ := H
       have hnb116 := NB158_0.out
       have hnc116 := NB0_158.out
       have hcz117_0 : wr.cell? ⟨gb158, 0, none⟩ = some (.int .u16 0) := (blk_cell BK158.out 0).trans rfl
       have hcz117_1 : wr.cell? ⟨gb158, 1, none⟩ = some (.int .u16 0) := (blk_cell BK158.out 1).trans rfl
       have hcz117_2 : wr.cell? ⟨gb158, 2, none⟩ = some (u159002) := (blk_cell BK158.out 2).trans rfl
       have hcz117_3 : wr.cell? ⟨gb158, 3, none⟩ = some (u159003) := (blk_cell BK158.out 3).trans rfl
       have hfz117_0 := blk_frozen BK158.out 0
       have hfz117_1 := blk_frozen BK158.out 1
       have hfz117_2 := blk_frozen BK158.out 2
       have hfz117_3 := blk_frozen BK158.out 3
       obtain ⟨Ao118, co118, eo118⟩ := Kd.S_slice HO_159002.out
       subst eo118
       obtain ⟨Ao119, co119, eo119⟩ := Kd.R_slice HO_159003.out
       subst eo119
       go_wp2
       refine bodyPost_ret (results_cell_row rfl _ _ gb158 109 #[.int .u16 0, .int .u16 0, .slice Ao118 x159002_1.length co118, .slice Ao119 x159003_2.length co119] (0, 0) _ rfl (by (with_reducible repeat (first | refine b1_ ?_ _ | refine b2_ ?_ | refine b3_ ?_ _)); refine blk_put (cs := #[.int .u16 0, .int .u16 0, .slice Ao118 x159002_1.length co118, .slice Ao119 x159003_2.length co119]) ?_ 3 _ rfl; (with_reducible repeat (first | refine b1_ ?_ _ | refine b2_ ?_ | refine b3_ ?_ _)); refine blk_put (cs := #[.int .u16 0, .int .u16 0, .slice Ao118 x159002_1.length co118, .slice Ao119 x159003_2.length co119]) ?_ 2 _ rfl; (with_reducible repeat (first | refine b1_ ?_ _ | refine b2_ ?_ | refine b3_ ?_ _)); refine blk_put (cs := #[.int .u16 0, .int .u16 0, .slice Ao118 x159002_1.length co118, .slice Ao119 x159003_2.length co119]) ?_ 1 _ rfl; (with_reducible repeat (first | refine b1_ ?_ _ | refine b2_ ?_ | refine b3_ ?_ _)); refine blk_put (cs := #[.int .u16 0, .int .u16 0, .slice Ao118 x159002_1.length co118, .slice Ao119 x159003_2.length co119]) ?_ 0 _ rfl; (with_reducible repeat (first | refine b1_ ?_ _ | refine b2_ ?_ | refine b3_ ?_ _)); exact BK158.out) Try.underlying109 rfl (by kernel_rfl)) rfl ?_
       exact ⟨_, _, by first | rfl | (simp [errW_none, errW_some] <;> rfl) | (simp [*, errW_none, errW_some] <;> rfl), by (with_reducible repeat (first | apply Kd.S_alloc | apply Kd.S_drewN | apply Kd.S_drew)); exact Kd.S_mono (Kd.S_far (p := ⟨gb158, 3, none⟩) (Kd.S_far (p := ⟨gb158, 2, none⟩) (Kd.S_far (p := ⟨gb158, 1, none⟩) (Kd.S_far (p := ⟨gb158, 0, none⟩) (Kd.S_types HO_159002.out BK158.out (by decide)) (fun _ hk => hk.2) (.int .u16 0)) (fun _ hk => hk.2) (.int .u16 0)) (fun _ hk => hk.2) (.slice Ao118 x159002_1.length co118)) (fun _ hk => hk.2) (.slice Ao119 x159003_2.length co119)) (fun _ hk => hk.1), by (with_reducible repeat (first | apply Kd.R_alloc | apply Kd.R_drewN | apply Kd.R_drew)); exact Kd.R_mono (Kd.R_far (p := ⟨gb158, 3, none⟩) (Kd.R_far (p := ⟨gb158, 2, none⟩) (Kd.R_far (p := ⟨gb158, 1, none⟩) (Kd.R_far (p := ⟨gb158, 0, none⟩) (Kd.R_types HO_159003.out BK158.out (by decide)) (fun _ hk => hk.2) (.int .u16 0)) (fun _ hk => hk.2) (.int .u16 0)) (fun _ hk => hk.2) (.slice Ao118 x159002_1.length co118)) (fun _ hk => hk.2) (.slice Ao119 x159003_2.length co119)) (fun _ hk => hk.1), by repeat (first | (with_reducible first | exact HI0.out | apply IsS102.alloc | apply IsS102.drewN | apply IsS102.drew | apply IsS102.set_0 | apply IsS102.set_1 | apply IsS102.set_2 | refine IsS102.far ?_ NB0_158.out _) | exact HI0.out), by repeat (first | (with_reducible first | exact HB.out | apply below_alloc | apply pw_below_drewN | apply below_drew1 | refine below_set ?_ (IsS102.ge HI0.out) | refine below_set ?_ GE158.out) | exact HB.out), by repeat (first | (with_reducible first | exact HK.out | apply KeepBut.set_ | apply keep_drewN | apply keep_drew | apply keep_alloc | refine keep_far ?_ GW158.out _) | exact HK.out)⟩

end Go.Proofs.Ytlbmfnjhpojghaa.PFnDelta
