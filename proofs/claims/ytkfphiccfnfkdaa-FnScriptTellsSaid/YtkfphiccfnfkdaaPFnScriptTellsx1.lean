-- Written by a program of this session (xprint) out of the translation; Lean checks it.
import Derived.Test.YtkfphiccfnfkdaaPFnScriptTellsx0
namespace Go.Proofs.Ytkfphiccfnfkdaa.PFnScriptTells
open Go.RowKit Go.Proofs.YtkfphiccfnfkdaaW.PrintWords Go.Proofs.YtkfphiccfnfkdaaW.PrintLast Go.Proofs.YtkfphiccfnfkdaaW.PrintMore
attribute [local go_sem] max2_int min2_int max_two min_two max_three min_three max_four min_four   -- for this text's walks alone
set_option linter.unusedVariables false
set_option linter.unusedSimpArgs false

/-! ### laws_four: function 18 -/
def laws_four.l0 : Nat → Int → List Int → Int → Int → Option (ByteArray)
  | 0, _, _, _, _ => none
  | k + 1, x0, x3, x7, x8 => if x8 < x7 then (if 0 ≤ x8 then (if x8 < (x3.length : Int) then ((some (x3.set (x8 : Int).toNat (((97 + (Int.tmod x0 26)) % 4294967296) % 256) : List Int)).bind fun y104 => (if (((Int.tdiv x0 26) % 4294967296) % 2) = 1 then (laws_four.l0 k ((Int.tdiv x0 52) % 4294967296) (y104.set (x8 : Int).toNat (((rd y104 x8) - 32) % 256)) x7 (wrap64 (x8 + 1))) else (laws_four.l0 k ((Int.tdiv x0 52) % 4294967296) y104 x7 (wrap64 (x8 + 1))))) else (none)) else (none)) else (some (strOfNums x3))
def laws_four.f (k : Nat) (a0 : Int) : Option (ByteArray) := if 4 ≤ 281474976710656 then ((some (List.replicate 4 0 : List Int)).bind fun y101 => (laws_four.l0 k a0 y101 (y101.length : Int) 0)) else (none)
theorem laws_four.mono_l : ∀ k, (∀ y0 y1 y2 y3, LeO (laws_four.l0 k y0 y1 y2 y3) (laws_four.l0 (k + 1) y0 y1 y2 y3))
  | 0 => fun _ _ _ _ r h => by simp [laws_four.l0] at h
  | k + 1 => by
    have ih0 := laws_four.mono_l k
    · intro y0 y1 y2 y3
      unfold laws_four.l0
      repeat' first
      | (with_reducible exact ih0 _ _ _ _)
      | (with_reducible exact LeO.refl _)
      | (with_reducible exact LeO.none _)
      | (with_reducible refine LeO.ite ?_ ?_)
      | (with_reducible refine LeO.bind ?_ (fun _ => ?_))
      | exact ih0 _ _ _ _
      | exact LeO.none _
      | refine LeO.ite ?_ ?_
      | refine LeO.bind ?_ (fun _ => ?_)
theorem laws_four.mono : ∀ a0 k, LeO (laws_four.f k a0) (laws_four.f (k + 1) a0) := by
  intro a0 k
  have ih0 := laws_four.mono_l k
  unfold laws_four.f
  repeat' first
      | (with_reducible exact ih0 _ _ _ _)
      | (with_reducible exact LeO.refl _)
      | (with_reducible exact LeO.none _)
      | (with_reducible refine LeO.ite ?_ ?_)
      | (with_reducible refine LeO.bind ?_ (fun _ => ?_))
      | exact ih0 _ _ _ _
      | exact LeO.none _
      | refine LeO.ite ?_ ?_
      | refine LeO.bind ?_ (fun _ => ?_)
set_option maxHeartbeats 8000000 in
set_option maxRecDepth 100000 in
theorem laws_four.calls (k : Nat) (a0 : Int) (r : ByteArray) (w : World) (h : laws_four.f k a0 = some r) :
    Calls Try.prog 18 #[.int .u32 a0] w fun e w' => e = .returned (.string r) ∧ Below w.heap.size w w' := by
  have HB := Aside0.mk (Below.refl w.heap.size w)
  have H : (if 4 ≤ 281474976710656 then ((some (List.replicate 4 0 : List Int)).bind fun y101 => (laws_four.l0 k a0 y101 (y101.length : Int) 0)) else (none)) = some r := h
  clear h
  by_cases c2 : 4 ≤ 281474976710656
  · rw [if_pos c2] at H
    have c2b0 := eq_true c2
    have c2b1 : decide (4 ≤ 281474976710656) = true := decide_eq_true c2
    clear c2
    obtain ⟨y101, hy101⟩ : ∃ y_ : List Int, y_ = (List.replicate 4 0) := ⟨_, rfl⟩
    replace H : (laws_four.l0 k a0 y101 (y101.length : Int) 0) = some r := by first | (rw [hy101]; with_reducible exact H) | (have H2_ := (Option.bind_some _ _).symm.trans H; rw [hy101]; with_reducible exact H2_) | (have H2_ := (Option.bind_some _ _).symm.trans H; with_reducible exact H2_) | with_reducible exact H | (rw [hy101]; exact H) | exact H
    have Ny101 := Aside0.mk hy101
    clear hy101
    have H' := Aside0.mk H
    clear H
    go_enter Try.func18, Try.ntmps18
    go_wp2_with (first | ((with_reducible refine gate_dst (N := 5) rfl ?_); refine Kd.R_make (Kd.int .u8) _ 5 rfl (N := 5) rfl 47 _ _ rfl 4 rfl rfl Try.underlying47 (.int .u8 0) 1 info5 rfl (by decide) (by omega) 0 (ok := fun _ => True) (okp := fun _ => True) rfl (fun _ hk => hk) trivial (by omega) (by omega) (Below.refl _ _) (Nat.le_refl _) ?_; intro v102 w3 ho4 hb hg_ hnew_; clear hg_ hnew_; (first | rw [← Ny101.out] at ho4 | (simp only [Int.reduceToNat] at ho4; rw [← Ny101.out] at ho4)); have n0_ := Aside0.mk (Kd.R_lower ho4 (below_size (by repeat (first | (with_reducible first | exact HB.out | apply below_alloc | apply pw_below_drewN | apply below_drew1) | exact HB.out)))); have n1_ := Aside0.mk (below_step (by repeat (first | (with_reducible first | exact HB.out | apply below_alloc | apply pw_below_drewN | apply below_drew1) | exact HB.out)) hb); clear HB; have HO103 := n0_; have HB := n1_; clear n0_ n1_; clear hb ho4; obtain ⟨Ao5, co5, eo5⟩ := Kd.R_slice HO103.out; subst eo5))
    go_loopg [0, 8] k (fun kq v0 v8 w' => ∃ (x0_1 : Int) (x3_1 : List Int) (x8_1 : Int), v0 = .int .u32 x0_1 ∧ v8 = .int .i64 x8_1 ∧ Aside0 (laws_four.l0 kq x0_1 x3_1 (y101.length : Int) x8_1 = some r) ∧ Aside0 (kq ≤ k) ∧ Aside0 (Kd.R (Kd.int .u8) 5 w' w.heap.size (fun _ => True) (.slice Ao5 y101.length co5) x3_1) ∧ Aside0 (Below w.heap.size w w'))
    case atStart => exact ⟨(a0), (y101), (0), (by first | rfl | (simp; done) | (simp [*]; done)), (by first | rfl | (simp; done) | (simp [*]; done)), H', ⟨Nat.le_refl _⟩, ⟨by (with_reducible repeat (first | apply Kd.R_alloc | apply Kd.R_drewN | apply Kd.R_drew)); exact HO103.out⟩, ⟨by repeat (first | (with_reducible first | exact HB.out | apply below_alloc | apply pw_below_drewN | apply below_drew1) | exact HB.out)⟩⟩
    case round =>
      clear H'
      try clear c1
      try clear c2
      try clear c2b0
      try clear c2b1
      try clear p2
      obtain ⟨x0_1, x3_1, x8_1, rfl, rfl, HA, HK1, HO_3, HB⟩ := hrel
      have hl3_1 := (Kd.R_reads' HO_3.out).1
      rw [hl3_1] at HO_3
      (try simp only [hl3_1])
      cases gk with
      | zero => exact absurd HA.out (by simp [laws_four.l0])
      | succ k1 =>
        have H := HA.out
        clear HA
        simp only [laws_four.l0] at H
        by_cases c6 : x8_1 < (y101.length : Int)
        · rw [if_pos c6] at H
          have c6b0 : decide (x8_1 < (y101.length : Int)) = true := decide_eq_true c6
          (try simp only [hl3_1] at c6b0)
          clear c6
          by_cases c7 : 0 ≤ x8_1
          · rw [if_pos c7] at H
            have c7b0 : decide (0 ≤ x8_1) = true := decide_eq_true c7
            clear c7
            by_cases c8 : x8_1 < (x3_1.length : Int)
            · rw [if_pos c8] at H
              have c8b0 : decide (x8_1 < (x3_1.length : Int)) = true := decide_eq_true c8
              (try simp only [hl3_1] at c8b0)
              clear c8
              obtain ⟨y104, hy104⟩ : ∃ y_ : List Int, y_ = (x3_1.set (x8_1 : Int).toNat (((97 + (Int.tmod x0_1 26)) % 4294967296) % 256)) := ⟨_, rfl⟩
              replace H : (if (((Int.tdiv x0_1 26) % 4294967296) % 2) = 1 then (laws_four.l0 k1 ((Int.tdiv x0_1 52) % 4294967296) (y104.set (x8_1 : Int).toNat (((rd y104 x8_1) - 32) % 256)) (y101.length : Int) (wrap64 (x8_1 + 1))) else (laws_four.l0 k1 ((Int.tdiv x0_1 52) % 4294967296) y104 (y101.length : Int) (wrap64 (x8_1 + 1)))) = some r := by first | (rw [hy104]; with_reducible exact H) | (have H2_ := (Option.bind_some _ _).symm.trans H; rw [hy104]; with_reducible exact H2_) | (have H2_ := (Option.bind_some _ _).symm.trans H; with_reducible exact H2_) | with_reducible exact H | (rw [hy104]; exact H) | exact H
              have Ny104 := Aside0.mk hy104
              clear hy104
              by_cases c10 : (((Int.tdiv x0_1 26) % 4294967296) % 2) = 1
              · rw [if_pos c10] at H
                have c10b0 : ((((Int.tdiv x0_1 26) % 4294967296) % 2) == 1) = true := beq_iff_eq.mpr c10
                have c10b1 : ((((Int.tdiv x0_1 26) % 4294967296) % 2) != 1) = false := bne_eq_false_iff_eq.mpr c10
                clear c10
                obtain ⟨y106, hy106⟩ : ∃ y_ : List Int, y_ = (y104.set (x8_1 : Int).toNat (((rd y104 x8_1) - 32) % 256)) := ⟨_, rfl⟩
                replace H : (laws_four.l0 k1 ((Int.tdiv x0_1 52) % 4294967296) y106 (y101.length : Int) (wrap64 (x8_1 + 1))) = some r := by first | (rw [hy106]; with_reducible exact H) | (have H2_ := (Option.bind_some _ _).symm.trans H; rw [hy106]; with_reducible exact H2_) | (have H2_ := (Option.bind_some _ _).symm.trans H; with_reducible exact H2_) | with_reducible exact H | (rw [hy106]; exact H) | exact H
                have Ny106 := Aside0.mk hy106
                clear hy106
                have H' := Aside0.mk H
                clear H
                have p9 : 0 ≤ (x8_1 : Int) := of_decide_eq_true (by first | (with_reducible assumption) | assumption)
                have q9 : (x8_1 : Int) < ((x3_1.length : Int) : Int) := of_decide_eq_true (by first | (with_reducible assumption) | assumption)
                obtain ⟨go9, co9, eo9, gb9, gl9, cl9, HG9⟩ := Kd.R_form HO_3.out (by omega)
                (first | cases eo9 | (injection eo9 with ea_ en_ ec_; (first | subst ea_ | (injection ea_ with ea_; subst ea_)); subst ec_; clear en_))
                have GB9 := Aside0.mk gb9
                have GG9 := Aside0.mk HG9
                clear gb9 gl9 HG9
                obtain ⟨hx9_0, hf9_0⟩ := Kd.R_celln 0 HO_3.out (x8_1 : Int) p9 q9
                replace p9 := eq_true p9
                replace q9 := eq_true q9
                have HP12 := Kd.R_putg HO_3.out (x8_1 : Int) (((97 + (Int.tmod x0_1 26)) % 4294967296) % 256)
                go_wp2_with (first | ((with_reducible refine gate_store (t := 5) (p := 17) rfl ?_); refine store_event (t := 5) (p := 17) (v := ?vo_w13) (w1 := (wr.setCell ⟨go9, (x8_1 : Int).toNat, none⟩ (.int .u8 (((97 + (Int.tmod x0_1 26)) % 4294967296) % 256)))) ?hg ?ho ?hn ?hr ?_; (case ho => rfl); (case hg => rfl); (case hn => rfl); (case hr => first | (go_simp; done) | (go_simp; rfl)); intro w13 hw; have hg : wr.grownBy w13 (some go9) := (by rw [hw]; exact HP12.2); have hp_ : Kd.R (Kd.int .u8) 5 w13 w.heap.size (fun _ => True) (.slice (some ⟨go9, 0, none⟩) x3_1.length co5) y104 := (by rw [hw, Ny104.out]; exact HP12.1); clear HP12; have n0_ := Aside0.mk (hp_); have n1_ := Aside0.mk ((by rw [hw]; exact below_set (HB.out) GB9.out : Below w.heap.size w w13)); clear HO_3; clear HB; have HO_3 := n0_; have HB := n1_; clear n0_ n1_; clear hg hw hp_; have p105 : 0 ≤ (x8_1 : Int) := of_decide_eq_true (by first | (with_reducible assumption) | assumption); have q105 : x8_1 < (y104.length : Int) := (by have h_ : (x8_1 : Int) < ((x3_1.length : Int) : Int) := of_decide_eq_true (by first | (with_reducible assumption) | assumption); first | (have e_ := (Kd.R_reads' HO_3.out).1; omega) | simpa only [Ny104.out, List.length_set] using h_); have ql105 : ((x8_1 : Int) < ((x3_1.length : Int) : Int)) = True := eq_true (of_decide_eq_true (by first | (with_reducible assumption) | assumption)); obtain ⟨ad105, e105, hx105_0⟩ := Kd.at_int (Kd.R_reads' HO_3.out).2.2 x8_1 p105 q105; obtain rfl : (⟨go9, 0, none⟩ : Addr) = ad105 := (by injection e105); (first | simp only [add_plain] at hx105_0 | simp only [add_at] at hx105_0 | simp only [Addr.add, Nat.zero_add] at hx105_0 | skip); replace p105 := eq_true p105; replace q105 := eq_true q105; have p11 : 0 ≤ (x8_1 : Int) := of_decide_eq_true (by first | (with_reducible assumption) | assumption); have q11 : (x8_1 : Int) < ((x3_1.length : Int) : Int) := of_decide_eq_true (by first | (with_reducible assumption) | assumption); obtain ⟨hx11_0, hf11_0⟩ := Kd.R_celln 0 HO_3.out (x8_1 : Int) p11 q11; replace p11 := eq_true p11; replace q11 := eq_true q11; obtain ⟨hy14_, hz14_⟩ := Kd.R_celln 0 HO_3.out (x8_1 : Int) (of_decide_eq_true (by first | (with_reducible assumption) | assumption)) (of_decide_eq_true (by first | (with_reducible assumption) | assumption)); have HP14 := Kd.R_putg HO_3.out (x8_1 : Int) (((rd y104 x8_1) - 32) % 256)) | ((with_reducible refine gate_store (t := 5) (p := 27) rfl ?_); refine store_event (t := 5) (p := 27) (v := ?vo_w15) (w1 := (w13.setCell ⟨go9, (x8_1 : Int).toNat, none⟩ (.int .u8 (((rd y104 x8_1) - 32) % 256)))) ?hg ?ho ?hn ?hr ?_; (case ho => rfl); (case hg => rfl); (case hn => rfl); (case hr => first | (go_simp; done) | (go_simp; rfl)); intro w15 hw; have hg : w13.grownBy w15 (some go9) := (by rw [hw]; exact HP14.2); have hp_ : Kd.R (Kd.int .u8) 5 w15 w.heap.size (fun _ => True) (.slice (some ⟨go9, 0, none⟩) x3_1.length co5) y106 := (by rw [hw, Ny106.out]; exact HP14.1); clear HP14; have n0_ := Aside0.mk (hp_); have n1_ := Aside0.mk ((by rw [hw]; exact below_set (HB.out) GB9.out : Below w.heap.size w w15)); clear HO_3; clear HB; have HO_3 := n0_; have HB := n1_; clear n0_ n1_; clear hg hw hp_))
                (try simp only [← hl3_1])
                go_roundg k1
                case measure => have := HK1.out; omega
                case rel => exact ⟨((Int.tdiv x0_1 52) % 4294967296), (y106), (wrap64 (x8_1 + 1)), (by first | rfl | (simp; done) | (simp [*]; done)), (by first | rfl | (simp; done) | (simp [*]; done)), H', ⟨by have := HK1.out; omega⟩, ⟨by (try simp only [hl3_1]); (with_reducible repeat (first | apply Kd.R_alloc | apply Kd.R_drewN | apply Kd.R_drew)); exact HO_3.out⟩, ⟨by repeat (first | (with_reducible first | exact HB.out | apply below_alloc | apply pw_below_drewN | apply below_drew1) | exact HB.out)⟩⟩
              · rw [if_neg c10] at H
                have c10b0 : ((((Int.tdiv x0_1 26) % 4294967296) % 2) == 1) = false := beq_eq_false_iff_ne.mpr c10
                have c10b1 : ((((Int.tdiv x0_1 26) % 4294967296) % 2) != 1) = true := bne_iff_ne.mpr c10
                have H' := Aside0.mk H
                clear H
                have p9 : 0 ≤ (x8_1 : Int) := of_decide_eq_true (by first | (with_reducible assumption) | assumption)
                have q9 : (x8_1 : Int) < ((x3_1.length : Int) : Int) := of_decide_eq_true (by first | (with_reducible assumption) | assumption)
                obtain ⟨go9, co9, eo9, gb9, gl9, cl9, HG9⟩ := Kd.R_form HO_3.out (by omega)
                (first | cases eo9 | (injection eo9 with ea_ en_ ec_; (first | subst ea_ | (injection ea_ with ea_; subst ea_)); subst ec_; clear en_))
                have GB9 := Aside0.mk gb9
                have GG9 := Aside0.mk HG9
                clear gb9 gl9 HG9
                obtain ⟨hx9_0, hf9_0⟩ := Kd.R_celln 0 HO_3.out (x8_1 : Int) p9 q9
                replace p9 := eq_true p9
                replace q9 := eq_true q9
                have HP16 := Kd.R_putg HO_3.out (x8_1 : Int) (((97 + (Int.tmod x0_1 26)) % 4294967296) % 256)
                go_wp2_with (first | ((with_reducible refine gate_store (t := 5) (p := 17) rfl ?_); refine store_event (t := 5) (p := 17) (v := ?vo_w17) (w1 := (wr.setCell ⟨go9, (x8_1 : Int).toNat, none⟩ (.int .u8 (((97 + (Int.tmod x0_1 26)) % 4294967296) % 256)))) ?hg ?ho ?hn ?hr ?_; (case ho => rfl); (case hg => rfl); (case hn => rfl); (case hr => first | (go_simp; done) | (go_simp; rfl)); intro w17 hw; have hg : wr.grownBy w17 (some go9) := (by rw [hw]; exact HP16.2); have hp_ : Kd.R (Kd.int .u8) 5 w17 w.heap.size (fun _ => True) (.slice (some ⟨go9, 0, none⟩) x3_1.length co5) y104 := (by rw [hw, Ny104.out]; exact HP16.1); clear HP16; have n0_ := Aside0.mk (hp_); have n1_ := Aside0.mk ((by rw [hw]; exact below_set (HB.out) GB9.out : Below w.heap.size w w17)); clear HO_3; clear HB; have HO_3 := n0_; have HB := n1_; clear n0_ n1_; clear hg hw hp_))
                (try simp only [← hl3_1])
                go_roundg k1
                case measure => have := HK1.out; omega
                case rel => exact ⟨((Int.tdiv x0_1 52) % 4294967296), (y104), (wrap64 (x8_1 + 1)), (by first | rfl | (simp; done) | (simp [*]; done)), (by first | rfl | (simp; done) | (simp [*]; done)), H', ⟨by have := HK1.out; omega⟩, ⟨by (try simp only [hl3_1]); (with_reducible repeat (first | apply Kd.R_alloc | apply Kd.R_drewN | apply Kd.R_drew)); exact HO_3.out⟩, ⟨by repeat (first | (with_reducible first | exact HB.out | apply below_alloc | apply pw_below_drewN | apply below_drew1) | exact HB.out)⟩⟩
            · rw [if_neg c8] at H
              exact absurd H (by simp)
          · rw [if_neg c7] at H
            exact absurd H (by simp)
        · rw [if_neg c6] at H
          have c6b0 : decide (x8_1 < (y101.length : Int)) = false := decide_eq_false c6
          (try simp only [hl3_1] at c6b0)
          clear c6
          obtain rfl := Option.some.inj H
          have hcv18 := own_string (P := Try.prog) Try.underlying47 Try.underlying5 Try.underlying9 (Kd.own_of_R HO_3.out)
          go_wp2
          go_ret
          exact ⟨by first | rfl | (simp [errW_none, errW_some] <;> rfl) | (simp [*, errW_none, errW_some] <;> rfl), by repeat (first | (with_reducible first | exact HB.out | apply below_alloc | apply pw_below_drewN | apply below_drew1) | exact HB.out)⟩
  · rw [if_neg c2] at H
    exact absurd H (by simp)

-- NOT PRINTED: function 67 (errors_New)

-- NOT PRINTED: function 68 (binary_bigEndian_Uint32)

-- NOT PRINTED: function 42 (language_ParseScript)

/-! ### impl_ScriptParse: function 19 -/
def impl_ScriptParse.byteAt (s : ByteArray) (j : Nat) : UInt8 := s.data.toList.getD j 0
theorem impl_ScriptParse.byteAt_bt (s : ByteArray) (j : Nat) (h : j < s.size) : ((impl_ScriptParse.byteAt s j).toNat : Int) = bt s (j : Int) := by
  have := bt_at s (j : Int) (by simpa using h)
  rw [← this]
  have hl : j < s.data.toList.length := by simpa using h
  simp only [impl_ScriptParse.byteAt, List.getD_eq_getElem?_getD, List.getElem?_eq_getElem hl, Option.getD_some, Int.toNat_natCast]
  simp
  rfl
def impl_ScriptParse.tag (s : ByteArray) : Int := Go.bits .or .u32 (Go.bits .and .u32 (bt s 0 * 16777216 + bt s 1 * 65536 + bt s 2 * 256 + bt s 3) 3758096383) 2105376
theorem impl_ScriptParse.be (s : ByteArray) (h : 4 ≤ s.size) : ((Go.Lib.beNat [impl_ScriptParse.byteAt s 0, impl_ScriptParse.byteAt s 1, impl_ScriptParse.byteAt s 2, impl_ScriptParse.byteAt s 3] : Nat) : Int) = bt s 0 * 16777216 + bt s 1 * 65536 + bt s 2 * 256 + bt s 3 := by
  have h0 : ((impl_ScriptParse.byteAt s 0).toNat : Int) = bt s 0 := impl_ScriptParse.byteAt_bt s 0 (by omega)
  have h1 : ((impl_ScriptParse.byteAt s 1).toNat : Int) = bt s 1 := impl_ScriptParse.byteAt_bt s 1 (by omega)
  have h2 : ((impl_ScriptParse.byteAt s 2).toNat : Int) = bt s 2 := impl_ScriptParse.byteAt_bt s 2 (by omega)
  have h3 : ((impl_ScriptParse.byteAt s 3).toNat : Int) = bt s 3 := impl_ScriptParse.byteAt_bt s 3 (by omega)
  simp only [Go.Lib.beNat, Go.Lib.beFrom]
  omega
def impl_ScriptParse.f (a0 : ByteArray) : Option (Int × Bool) := if (a0.size : Int) < 4 then some (0, false) else some (impl_ScriptParse.tag a0, true)
set_option maxHeartbeats 400000 in
theorem impl_ScriptParse.inner (a0 : ByteArray) (w : World) (h : 4 ≤ a0.size) :
    Calls Try.prog 42 #[.string a0] w fun e w' => e = .returned (.tuple #[.int .u32 (impl_ScriptParse.tag a0), .nilIface]) ∧ Below w.heap.size w w' := by
  have h' : decide (a0.size < 4) = false := decide_eq_false (by omega)
  have kc : ∀ W : World, (convert 9 47 (.string a0)).run Try.prog W = .ok (.slice (some ⟨W.heap.size, 0, none⟩) a0.size (grownCap W a0.size 0 5)) (Go.Lib.bytesWorld W 5 a0) := fun W => Go.Lib.run_convert_string_bytes W 9 47 5 a0 Try.underlying9 Try.underlying47 Try.underlying5
  have hbe := Aside0.mk (impl_ScriptParse.be a0 h)
  go_enter Try.func42, Try.ntmps42
  go_wp2_with fail
  refine (Try.binary_BE_Uint32 _ _ _ _ (impl_ScriptParse.byteAt a0 0) (impl_ScriptParse.byteAt a0 1) (impl_ScriptParse.byteAt a0 2) (impl_ScriptParse.byteAt a0 3) _ h (Go.Lib.bytesWorld_cell _ 5 a0 0 (by omega)) (Go.Lib.bytesWorld_cell _ 5 a0 1 (by omega)) (Go.Lib.bytesWorld_cell _ 5 a0 2 (by omega)) (Go.Lib.bytesWorld_cell _ 5 a0 3 (by omega))).mono ?_
  rintro e w' ⟨rfl, hb⟩
  go_wp2
  go_ret2
  refine ⟨?_, below_step (Go.Joins.below_bytesWorld _ w 5 a0 (Nat.le_refl _)) hb⟩
  unfold impl_ScriptParse.tag
  rw [← hbe.out]
  rfl
set_option maxHeartbeats 400000 in
theorem impl_ScriptParse.long (a0 : ByteArray) (w : World) (h : 4 ≤ a0.size) :
    Calls Try.prog 19 #[.string a0] w fun e w' => e = .returned (.tuple #[.int .u32 (impl_ScriptParse.tag a0), .bool true]) ∧ Below w.heap.size w w' := by
  go_enter Try.func19, Try.ntmps19
  go_wp2_with (go_at_call 42; refine (impl_ScriptParse.inner a0 _ h).mono ?_; rintro e w' ⟨rfl, hb⟩)
  repeat (go_quiet (fail); go_wp2)
  go_ret2
  exact ⟨rfl, by repeat (first | exact hb | apply below_alloc | apply pw_below_drewN | apply below_drew1)⟩
set_option maxHeartbeats 400000 in
theorem impl_ScriptParse.short (a0 : ByteArray) (w : World) (h : a0.size < 4) :
    Calls Try.prog 19 #[.string a0] w fun e w' => e = .returned (.tuple #[.int .u32 0, .bool false]) ∧ Below w.heap.size w w' := by
  have h' : decide (a0.size < 4) = true := decide_eq_true h
  go_enter Try.func19, Try.ntmps19
  go_wp2
  go_quiet (fail)
  go_wp2
  go_ret2
  exact ⟨rfl, by repeat (first | exact Below.refl _ _ | apply below_alloc | apply pw_below_drewN | apply below_drew1)⟩
theorem impl_ScriptParse.calls (a0 : ByteArray) (r1 : Int) (r2 : Bool) (w : World) (h : impl_ScriptParse.f a0 = some (r1, r2)) :
    Calls Try.prog 19 #[.string a0] w fun e w' => e = .returned (.tuple #[.int .u32 r1, .bool r2]) ∧ Below w.heap.size w w' := by
  unfold impl_ScriptParse.f at h
  by_cases c : (a0.size : Int) < 4
  · rw [if_pos c] at h
    simp only [Option.some.injEq, Prod.mk.injEq] at h
    obtain ⟨rfl, rfl⟩ := h
    exact impl_ScriptParse.short a0 w (by omega)
  · rw [if_neg c] at h
    simp only [Option.some.injEq, Prod.mk.injEq] at h
    obtain ⟨rfl, rfl⟩ := h
    exact impl_ScriptParse.long a0 w (by omega)


-- NOT PRINTED: function 71 (binary_bigEndian_PutUint32)

/-! ### language_Script_String: function 50 -/
def language_Script_String.nums (v : Nat) : List Int := [((v / 16777216 % 256 : Nat) : Int), ((v / 65536 % 256 : Nat) : Int), ((v / 256 % 256 : Nat) : Int), ((v % 256 : Nat) : Int)]
def language_Script_String.f (a0 : Int) : Option (ByteArray) := if 0 ≤ a0 ∧ a0 < 4294967296 then some (strOfNums (language_Script_String.nums a0.toNat)) else none
theorem language_Script_String.reads (w : World) (v : Nat) : ReadsInt ((((w.alloc (.cells #[.int .u8 0, .int .u8 0, .int .u8 0, .int .u8 0] 120)).alloc (.cells #[] 115)).drew).setCells w.heap.size 0 (Go.Lib.byteCells (Go.Lib.beBytes 4 v))) .u8 (some ⟨w.heap.size, 0, none⟩) 4 (language_Script_String.nums v) := by
  refine ⟨rfl, by decide, fun _ => ⟨_, rfl, fun j hj => ?_⟩⟩
  have hlen : (Go.Lib.byteCells (Go.Lib.beBytes 4 v)).length = 4 := by simp [Go.Lib.byteCells, Go.Lib.beBytes, Go.Lib.leBytes_length]
  have hin := World.cell?_setCells_in w.heap.size (Go.Lib.byteCells (Go.Lib.beBytes 4 v)) 0 (((w.alloc (.cells #[.int .u8 0, .int .u8 0, .int .u8 0, .int .u8 0] 120)).alloc (.cells #[] 115)).drew) (fun j hj => by
    rw [hlen] at hj
    obtain rfl | rfl | rfl | rfl : j = 0 ∨ j = 1 ∨ j = 2 ∨ j = 3 := by omega
    all_goals simp) j (by rw [hlen]; exact hj)
  rw [Nat.zero_add] at hin
  have had : (⟨w.heap.size, 0, none⟩ : Addr).add j = ⟨w.heap.size, j, none⟩ := by
    obtain rfl | rfl | rfl | rfl : j = 0 ∨ j = 1 ∨ j = 2 ∨ j = 3 := by omega
    all_goals simp [Addr.add]
  rw [had]
  refine hin.trans ?_
  obtain rfl | rfl | rfl | rfl : j = 0 ∨ j = 1 ∨ j = 2 ∨ j = 3 := by omega
  all_goals simp [Go.Lib.byteCells, Go.Lib.beBytes, Go.Lib.leBytes, language_Script_String.nums]
  all_goals omega
set_option maxHeartbeats 400000 in
theorem language_Script_String.nat (a0 : Nat) (ha : a0 < 4294967296) (w : World) :
    Calls Try.prog 50 #[.int .u32 a0] w fun e w' => e = .returned (.string (strOfNums (language_Script_String.nums a0))) ∧ Below w.heap.size w w' := by
  go_enter Try.func50, Try.ntmps50
  go_wp2_with fail
  go_region_with (go_at_call 71; refine (Try.binary_BE_PutUint32 w.heap.size 0 4 4 a0 ha (.int .u8 0) (.int .u8 0) (.int .u8 0) (.int .u8 0) _ (by omega) (by simp) (by simp) (by simp) (by simp) (by simp) (by simp) (by simp) (by simp)).mono ?_; rintro e w' ⟨rfl, rfl⟩)
  all_goals
    have hc := string_of_reads (P := Try.prog) (c := 4) Try.underlying47 Try.underlying5 Try.underlying9 (language_Script_String.reads w a0)
    have hbl : Below w.heap.size w ((((w.alloc (.cells #[.int .u8 0, .int .u8 0, .int .u8 0, .int .u8 0] 120)).alloc (.cells #[] 115)).drew).setCells w.heap.size 0 (Go.Lib.byteCells (Go.Lib.beBytes 4 a0))) := by
      refine Below.trans ?_ (Go.Lib.below_setCells_w (Nat.le_refl _) _ _ _)
      repeat (first | exact Below.refl _ _ | apply below_alloc | apply pw_below_drewN | apply below_drew1)
    generalize (World.setCells _ _ _ _) = w2 at hc hbl ⊢
    go_wp2
    go_ret
    exact ⟨rfl, hbl⟩
theorem language_Script_String.calls (a0 : Int) (r : ByteArray) (w : World) (h : language_Script_String.f a0 = some r) :
    Calls Try.prog 50 #[.int .u32 a0] w fun e w' => e = .returned (.string r) ∧ Below w.heap.size w w' := by
  unfold language_Script_String.f at h
  by_cases c : 0 ≤ a0 ∧ a0 < 4294967296
  · rw [if_pos c] at h
    obtain rfl := Option.some.inj h
    have e : ((a0.toNat : Nat) : Int) = a0 := by omega
    have := language_Script_String.nat a0.toNat (by omega) w
    rw [e] at this
    exact this
  · rw [if_neg c] at h
    cases h

/-! ### language_Script_Strong: function 51 -/
def language_Script_Strong.f (a0 : Int) : Option (Bool) := if a0 = 1517910393 then (some false) else (some (a0 != 1516858984))
set_option maxHeartbeats 8000000 in
set_option maxRecDepth 100000 in
theorem language_Script_Strong.calls (a0 : Int) (r : Bool) (w : World) (h : language_Script_Strong.f a0 = some r) :
    Calls Try.prog 51 #[.int .u32 a0] w fun e w' => e = .returned (.bool r) ∧ Drawn0 w w' := by
  have H : (if a0 = 1517910393 then (some false) else (some (a0 != 1516858984))) = some r := h
  clear h
  by_cases c2 : a0 = 1517910393
  · rw [if_pos c2] at H
    have c2b0 : (a0 == 1517910393) = true := beq_iff_eq.mpr c2
    have c2b1 : (a0 != 1517910393) = false := bne_eq_false_iff_eq.mpr c2
    clear c2
    obtain rfl := Option.some.inj H
    go_enter Try.func51, Try.ntmps51
    go_wp2
    go_ret
    exact ⟨by first | rfl | (simp; done) | (simp [*]; done), by repeat (first | exact Drawn0.refl _ | apply Drawn0.step)⟩
  · rw [if_neg c2] at H
    have c2b0 : (a0 == 1517910393) = false := beq_eq_false_iff_ne.mpr c2
    have c2b1 : (a0 != 1517910393) = true := bne_iff_ne.mpr c2
    obtain rfl := Option.some.inj H
    go_enter Try.func51, Try.ntmps51
    go_wp2
    go_ret
    exact ⟨by first | rfl | (simp; done) | (simp [*]; done), by repeat (first | exact Drawn0.refl _ | apply Drawn0.step)⟩

/-! ### impl_ScriptTells: function 25 -/
def impl_ScriptTells.f (a0 : Int) : Option (ByteArray × Bool) := (language_Script_String.f a0).bind fun t108 => ((language_Script_Strong.f a0).bind fun t109 => (some (t108, t109)))
set_option maxHeartbeats 8000000 in
set_option maxRecDepth 100000 in
theorem impl_ScriptTells.calls (a0 : Int) (r1 : ByteArray) (r2 : Bool) (w : World) (h : impl_ScriptTells.f a0 = some (r1, r2)) :
    Calls Try.prog 25 #[.int .u32 a0] w fun e w' => e = .returned (.tuple #[.string r1, .bool r2]) ∧ Below w.heap.size w w' := by
  have HB := Aside0.mk (Below.refl w.heap.size w)
  have H : ((language_Script_String.f a0).bind fun t108 => ((language_Script_Strong.f a0).bind fun t109 => (some (t108, t109)))) = some (r1, r2) := h
  clear h
  replace H := Option.bind_eq_some_iff.mp H
  obtain ⟨t108, A20, H⟩ := H
  replace H : ((language_Script_Strong.f a0).bind fun t109 => (some (t108, t109))) = some (r1, r2) := H
  have A2 := Aside0.mk A20
  clear A20
  replace H := Option.bind_eq_some_iff.mp H
  obtain ⟨t109, A30, H⟩ := H
  replace H : (some (t108, t109)) = some (r1, r2) := H
  have A3 := Aside0.mk A30
  clear A30
  simp only [Option.some.injEq, Prod.mk.injEq] at H
  obtain ⟨rfl, rfl⟩ := H
  go_enter Try.func25, Try.ntmps25
  go_wp2_with (first | ((with_reducible refine gate_callee (f := 50) rfl ?_); refine goesL_ (some 5) rfl rfl Try.func50 (by kernel_rfl) rfl #[.int .u32 a0] rfl (by (try simp only [List.map_toArray, List.map_cons, List.map_nil]); first | done | rfl | (simp only [List.length_drop, List.length_take]; rfl)) ?_; (with_reducible refine (language_Script_String.calls a0 t108 _ A2.out).mono ?_); rintro e w4 ⟨rfl, hb⟩; refine ⟨_, rfl, ?_⟩; have n0_ := Aside0.mk (below_step (by repeat (first | (with_reducible first | exact HB.out | apply below_alloc | apply pw_below_drewN | apply below_drew1) | exact HB.out)) hb); clear HB; have HB := n0_; clear n0_; (try clear hb); (try clear hb2); (try clear hk); (try clear hi)) | ((with_reducible refine gate_callee (f := 51) rfl ?_); refine goesL_ (some 7) rfl rfl Try.func51 (by kernel_rfl) rfl #[.int .u32 a0] rfl (by (try simp only [List.map_toArray, List.map_cons, List.map_nil]); first | done | rfl | (simp only [List.length_drop, List.length_take]; rfl)) ?_; (with_reducible refine (language_Script_Strong.calls a0 t109 _ A3.out).mono ?_); rintro e w' ⟨rfl, ⟨nd, rfl⟩⟩; refine ⟨_, rfl, ?_⟩))
  go_ret2
  exact ⟨by first | rfl | (simp [errW_none, errW_some] <;> rfl) | (simp [*, errW_none, errW_some] <;> rfl), by repeat (first | (with_reducible first | exact HB.out | apply below_alloc | apply pw_below_drewN | apply below_drew1) | exact HB.out)⟩

/-! ### laws_FnScriptTells: function 9 -/
def laws_FnScriptTells.f (k : Nat) (a0 : Int) : Option (Bool) := (laws_four.f k a0).bind fun t110 => ((impl_ScriptParse.f t110).bind fun bt111 => ((impl_ScriptTells.f bt111.1).bind fun bt113 => ((impl_ScriptParse.f bt113.1).bind fun bt115 => ((impl_ScriptParse.f (⟨#[90, 121, 121, 121]⟩ : ByteArray)).bind fun bt117 => ((impl_ScriptParse.f (⟨#[90, 105, 110, 104]⟩ : ByteArray)).bind fun bt119 => ((impl_ScriptTells.f bt117.1).bind fun bt121 => ((impl_ScriptTells.f bt119.1).bind fun bt123 => (if bt111.2 = true then (if bt115.2 = true then (if bt115.1 = bt111.1 then (if (bt113.1.size : Int) = 4 then (if bt111.1 = bt117.1 then (if bt113.2 = true then (some false) else (if bt121.2 = true then (some false) else (some (!bt123.2)))) else (if (bt113.2 == (bt111.1 != bt119.1)) = true then (if bt121.2 = true then (some false) else (some (!bt123.2))) else (some false))) else (some false)) else (some false)) else (some false)) else (some false)))))))))
theorem laws_FnScriptTells.mono : ∀ a0 k, LeO (laws_FnScriptTells.f k a0) (laws_FnScriptTells.f (k + 1) a0) := by
  intro a0 k
  unfold laws_FnScriptTells.f
  repeat' first
      | (with_reducible exact laws_four.mono _ _)
      | (with_reducible exact LeO.refl _)
      | (with_reducible exact LeO.none _)
      | (with_reducible refine LeO.ite ?_ ?_)
      | (with_reducible refine LeO.bind ?_ (fun _ => ?_))
      | exact laws_four.mono _ _
      | exact LeO.none _
      | refine LeO.ite ?_ ?_
      | refine LeO.bind ?_ (fun _ => ?_)
set_option maxHeartbeats 8000000 in
set_option maxRecDepth 100000 in
theorem laws_FnScriptTells.calls (k : Nat) (a0 : Int) (r : Bool) (w : World) (h : laws_FnScriptTells.f k a0 = some r) :
    Calls Try.prog 9 #[.int .u32 a0] w fun e w' => e = .returned (.bool r) ∧ Below w.heap.size w w' := by
  have HB := Aside0.mk (Below.refl w.heap.size w)
  have H : ((laws_four.f k a0).bind fun t110 => ((impl_ScriptParse.f t110).bind fun bt111 => ((impl_ScriptTells.f bt111.1).bind fun bt113 => ((impl_ScriptParse.f bt113.1).bind fun bt115 => ((impl_ScriptParse.f (⟨#[90, 121, 121, 121]⟩ : ByteArray)).bind fun bt117 => ((impl_ScriptParse.f (⟨#[90, 105, 110, 104]⟩ : ByteArray)).bind fun bt119 => ((impl_ScriptTells.f bt117.1).bind fun bt121 => ((impl_ScriptTells.f bt119.1).bind fun bt123 => (if bt111.2 = true then (if bt115.2 = true then (if bt115.1 = bt111.1 then (if (bt113.1.size : Int) = 4 then (if bt111.1 = bt117.1 then (if bt113.2 = true then (some false) else (if bt121.2 = true then (some false) else (some (!bt123.2)))) else (if (bt113.2 == (bt111.1 != bt119.1)) = true then (if bt121.2 = true then (some false) else (some (!bt123.2))) else (some false))) else (some false)) else (some false)) else (some false)) else (some false)))))))))) = some r := h
  clear h
  replace H := Option.bind_eq_some_iff.mp H
  obtain ⟨t110, A20, H⟩ := H
  replace H : ((impl_ScriptParse.f t110).bind fun bt111 => ((impl_ScriptTells.f bt111.1).bind fun bt113 => ((impl_ScriptParse.f bt113.1).bind fun bt115 => ((impl_ScriptParse.f (⟨#[90, 121, 121, 121]⟩ : ByteArray)).bind fun bt117 => ((impl_ScriptParse.f (⟨#[90, 105, 110, 104]⟩ : ByteArray)).bind fun bt119 => ((impl_ScriptTells.f bt117.1).bind fun bt121 => ((impl_ScriptTells.f bt119.1).bind fun bt123 => (if bt111.2 = true then (if bt115.2 = true then (if bt115.1 = bt111.1 then (if (bt113.1.size : Int) = 4 then (if bt111.1 = bt117.1 then (if bt113.2 = true then (some false) else (if bt121.2 = true then (some false) else (some (!bt123.2)))) else (if (bt113.2 == (bt111.1 != bt119.1)) = true then (if bt121.2 = true then (some false) else (some (!bt123.2))) else (some false))) else (some false)) else (some false)) else (some false)) else (some false))))))))) = some r := H
  have A2 := Aside0.mk A20
  clear A20
  replace H := Option.bind_eq_some_iff.mp H
  obtain ⟨⟨t111, t112⟩, A30, H⟩ := H
  replace H : ((impl_ScriptTells.f t111).bind fun bt113 => ((impl_ScriptParse.f bt113.1).bind fun bt115 => ((impl_ScriptParse.f (⟨#[90, 121, 121, 121]⟩ : ByteArray)).bind fun bt117 => ((impl_ScriptParse.f (⟨#[90, 105, 110, 104]⟩ : ByteArray)).bind fun bt119 => ((impl_ScriptTells.f bt117.1).bind fun bt121 => ((impl_ScriptTells.f bt119.1).bind fun bt123 => (if t112 = true then (if bt115.2 = true then (if bt115.1 = t111 then (if (bt113.1.size : Int) = 4 then (if t111 = bt117.1 then (if bt113.2 = true then (some false) else (if bt121.2 = true then (some false) else (some (!bt123.2)))) else (if (bt113.2 == (t111 != bt119.1)) = true then (if bt121.2 = true then (some false) else (some (!bt123.2))) else (some false))) else (some false)) else (some false)) else (some false)) else (some false)))))))) = some r := H
  have A3 := Aside0.mk A30
  clear A30
  replace H := Option.bind_eq_some_iff.mp H
  obtain ⟨⟨t113, t114⟩, A40, H⟩ := H
  replace H : ((impl_ScriptParse.f t113).bind fun bt115 => ((impl_ScriptParse.f (⟨#[90, 121, 121, 121]⟩ : ByteArray)).bind fun bt117 => ((impl_ScriptParse.f (⟨#[90, 105, 110, 104]⟩ : ByteArray)).bind fun bt119 => ((impl_ScriptTells.f bt117.1).bind fun bt121 => ((impl_ScriptTells.f bt119.1).bind fun bt123 => (if t112 = true then (if bt115.2 = true then (if bt115.1 = t111 then (if (t113.size : Int) = 4 then (if t111 = bt117.1 then (if t114 = true then (some false) else (if bt121.2 = true then (some false) else (some (!bt123.2)))) else (if (t114 == (t111 != bt119.1)) = true then (if bt121.2 = true then (some false) else (some (!bt123.2))) else (some false))) else (some false)) else (some false)) else (some false)) else (some false))))))) = some r := H
  have A4 := Aside0.mk A40
  clear A40
  replace H := Option.bind_eq_some_iff.mp H
  obtain ⟨⟨t115, t116⟩, A50, H⟩ := H
  replace H : ((impl_ScriptParse.f (⟨#[90, 121, 121, 121]⟩ : ByteArray)).bind fun bt117 => ((impl_ScriptParse.f (⟨#[90, 105, 110, 104]⟩ : ByteArray)).bind fun bt119 => ((impl_ScriptTells.f bt117.1).bind fun bt121 => ((impl_ScriptTells.f bt119.1).bind fun bt123 => (if t112 = true then (if t116 = true then (if t115 = t111 then (if (t113.size : Int) = 4 then (if t111 = bt117.1 then (if t114 = true then (some false) else (if bt121.2 = true then (some false) else (some (!bt123.2)))) else (if (t114 == (t111 != bt119.1)) = true then (if bt121.2 = true then (some false) else (some (!bt123.2))) else (some false))) else (some false)) else (some false)) else (some false)) else (some false)))))) = some r := H
  have A5 := Aside0.mk A50
  clear A50
  replace H := Option.bind_eq_some_iff.mp H
  obtain ⟨⟨t117, t118⟩, A60, H⟩ := H
  replace H : ((impl_ScriptParse.f (⟨#[90, 105, 110, 104]⟩ : ByteArray)).bind fun bt119 => ((impl_ScriptTells.f t117).bind fun bt121 => ((impl_ScriptTells.f bt119.1).bind fun bt123 => (if t112 = true then (if t116 = true then (if t115 = t111 then (if (t113.size : Int) = 4 then (if t111 = t117 then (if t114 = true then (some false) else (if bt121.2 = true then (some false) else (some (!bt123.2)))) else (if (t114 == (t111 != bt119.1)) = true then (if bt121.2 = true then (some false) else (some (!bt123.2))) else (some false))) else (some false)) else (some false)) else (some false)) else (some false))))) = some r := H
  have A6 := Aside0.mk A60
  clear A60
  replace H := Option.bind_eq_some_iff.mp H
  obtain ⟨⟨t119, t120⟩, A70, H⟩ := H
  replace H : ((impl_ScriptTells.f t117).bind fun bt121 => ((impl_ScriptTells.f t119).bind fun bt123 => (if t112 = true then (if t116 = true then (if t115 = t111 then (if (t113.size : Int) = 4 then (if t111 = t117 then (if t114 = true then (some false) else (if bt121.2 = true then (some false) else (some (!bt123.2)))) else (if (t114 == (t111 != t119)) = true then (if bt121.2 = true then (some false) else (some (!bt123.2))) else (some false))) else (some false)) else (some false)) else (some false)) else (some false)))) = some r := H
  have A7 := Aside0.mk A70
  clear A70
  replace H := Option.bind_eq_some_iff.mp H
  obtain ⟨⟨t121, t122⟩, A80, H⟩ := H
  replace H : ((impl_ScriptTells.f t119).bind fun bt123 => (if t112 = true then (if t116 = true then (if t115 = t111 then (if (t113.size : Int) = 4 then (if t111 = t117 then (if t114 = true then (some false) else (if t122 = true then (some false) else (some (!bt123.2)))) else (if (t114 == (t111 != t119)) = true then (if t122 = true then (some false) else (some (!bt123.2))) else (some false))) else (some false)) else (some false)) else (some false)) else (some false))) = some r := H
  have A8 := Aside0.mk A80
  clear A80
  replace H := Option.bind_eq_some_iff.mp H
  obtain ⟨⟨t123, t124⟩, A90, H⟩ := H
  replace H : (if t112 = true then (if t116 = true then (if t115 = t111 then (if (t113.size : Int) = 4 then (if t111 = t117 then (if t114 = true then (some false) else (if t122 = true then (some false) else (some (!t124)))) else (if (t114 == (t111 != t119)) = true then (if t122 = true then (some false) else (some (!t124))) else (some false))) else (some false)) else (some false)) else (some false)) else (some false)) = some r := H
  have A9 := Aside0.mk A90
  clear A90
  by_cases c10 : t112 = true
  · subst c10
    have H1 : (if t116 = true then (if t115 = t111 then (if (t113.size : Int) = 4 then (if t111 = t117 then (if t114 = true then (some false) else (if t122 = true then (some false) else (some (!t124)))) else (if (t114 == (t111 != t119)) = true then (if t122 = true then (some false) else (some (!t124))) else (some false))) else (some false)) else (some false)) else (some false)) = some r := by rw [if_pos rfl] at H; exact H
    clear H
    have H := H1
    clear H1
    by_cases c11 : t116 = true
    · subst c11
      have H1 : (if t115 = t111 then (if (t113.size : Int) = 4 then (if t111 = t117 then (if t114 = true then (some false) else (if t122 = true then (some false) else (some (!t124)))) else (if (t114 == (t111 != t119)) = true then (if t122 = true then (some false) else (some (!t124))) else (some false))) else (some false)) else (some false)) = some r := by rw [if_pos rfl] at H; exact H
      clear H
      have H := H1
      clear H1
      by_cases c12 : t115 = t111
      · rw [if_pos c12] at H
        have c12b0 : (t115 == t111) = true := beq_iff_eq.mpr c12
        have c12b1 : (t115 != t111) = false := bne_eq_false_iff_eq.mpr c12
        clear c12
        by_cases c13 : (t113.size : Int) = 4
        · rw [if_pos c13] at H
          have c13b0 : ((t113.size : Int) == 4) = true := beq_iff_eq.mpr c13
          have c13b1 : ((t113.size : Int) != 4) = false := bne_eq_false_iff_eq.mpr c13
          clear c13
          by_cases c14 : t111 = t117
          · rw [if_pos c14] at H
            have c14b0 : (t111 == t117) = true := beq_iff_eq.mpr c14
            have c14b1 : (t111 != t117) = false := bne_eq_false_iff_eq.mpr c14
            clear c14
            by_cases c15 : t114 = true
            · subst c15
              have H1 : (some false) = some r := by rw [if_pos rfl] at H; exact H
              clear H
              have H := H1
              clear H1
              obtain rfl := Option.some.inj H
              go_enter Try.func9, Try.ntmps9
              go_wp2_with (first | ((with_reducible refine gate_callee (f := 18) rfl ?_); refine goesL_ (some 19) rfl rfl Try.func18 (by kernel_rfl) rfl #[.int .u32 a0] rfl (by (try simp only [List.map_toArray, List.map_cons, List.map_nil]); first | done | rfl | (simp only [List.length_drop, List.length_take]; rfl)) ?_; (with_reducible refine (laws_four.calls k a0 t110 _ A2.out).mono ?_); rintro e w16 ⟨rfl, hb⟩; refine ⟨_, rfl, ?_⟩; have n0_ := Aside0.mk (below_step (by repeat (first | (with_reducible first | exact HB.out | apply below_alloc | apply pw_below_drewN | apply below_drew1) | exact HB.out)) hb); clear HB; have HB := n0_; clear n0_; (try clear hb); (try clear hb2); (try clear hk); (try clear hi)) | ((with_reducible refine gate_callee (f := 19) rfl ?_); refine goesL_ (some 20) rfl rfl Try.func19 (by kernel_rfl) rfl #[.string t110] rfl (by (try simp only [List.map_toArray, List.map_cons, List.map_nil]); first | done | rfl | (simp only [List.length_drop, List.length_take]; rfl)) ?_; (with_reducible refine (impl_ScriptParse.calls t110 t111 true _ A3.out).mono ?_); rintro e w17 ⟨rfl, hb⟩; refine ⟨_, rfl, ?_⟩; have n0_ := Aside0.mk (below_step (by repeat (first | (with_reducible first | exact HB.out | apply below_alloc | apply pw_below_drewN | apply below_drew1) | exact HB.out)) hb); clear HB; have HB := n0_; clear n0_; (try clear hb); (try clear hb2); (try clear hk); (try clear hi)) | ((with_reducible refine gate_callee (f := 25) rfl ?_); refine goesL_ (some 25) rfl rfl Try.func25 (by kernel_rfl) rfl #[.int .u32 t111] rfl (by (try simp only [List.map_toArray, List.map_cons, List.map_nil]); first | done | rfl | (simp only [List.length_drop, List.length_take]; rfl)) ?_; (with_reducible refine (impl_ScriptTells.calls t111 t113 true _ A4.out).mono ?_); rintro e w18 ⟨rfl, hb⟩; refine ⟨_, rfl, ?_⟩; have n0_ := Aside0.mk (below_step (by repeat (first | (with_reducible first | exact HB.out | apply below_alloc | apply pw_below_drewN | apply below_drew1) | exact HB.out)) hb); clear HB; have HB := n0_; clear n0_; (try clear hb); (try clear hb2); (try clear hk); (try clear hi)) | ((with_reducible refine gate_callee (f := 19) rfl ?_); refine goesL_ (some 30) rfl rfl Try.func19 (by kernel_rfl) rfl #[.string t113] rfl (by (try simp only [List.map_toArray, List.map_cons, List.map_nil]); first | done | rfl | (simp only [List.length_drop, List.length_take]; rfl)) ?_; (with_reducible refine (impl_ScriptParse.calls t113 t115 true _ A5.out).mono ?_); rintro e w19 ⟨rfl, hb⟩; refine ⟨_, rfl, ?_⟩; have n0_ := Aside0.mk (below_step (by repeat (first | (with_reducible first | exact HB.out | apply below_alloc | apply pw_below_drewN | apply below_drew1) | exact HB.out)) hb); clear HB; have HB := n0_; clear n0_; (try clear hb); (try clear hb2); (try clear hk); (try clear hi)) | ((with_reducible refine gate_callee (f := 19) rfl ?_); refine goesL_ (some 34) rfl rfl Try.func19 (by kernel_rfl) rfl #[.string (⟨#[90, 121, 121, 121]⟩ : ByteArray)] rfl (by (try simp only [List.map_toArray, List.map_cons, List.map_nil]); first | done | rfl | (simp only [List.length_drop, List.length_take]; rfl)) ?_; (with_reducible refine (impl_ScriptParse.calls (⟨#[90, 121, 121, 121]⟩ : ByteArray) t117 t118 _ A6.out).mono ?_); rintro e w20 ⟨rfl, hb⟩; refine ⟨_, rfl, ?_⟩; have n0_ := Aside0.mk (below_step (by repeat (first | (with_reducible first | exact HB.out | apply below_alloc | apply pw_below_drewN | apply below_drew1) | exact HB.out)) hb); clear HB; have HB := n0_; clear n0_; (try clear hb); (try clear hb2); (try clear hk); (try clear hi)) | ((with_reducible refine gate_callee (f := 19) rfl ?_); refine goesL_ (some 38) rfl rfl Try.func19 (by kernel_rfl) rfl #[.string (⟨#[90, 105, 110, 104]⟩ : ByteArray)] rfl (by (try simp only [List.map_toArray, List.map_cons, List.map_nil]); first | done | rfl | (simp only [List.length_drop, List.length_take]; rfl)) ?_; (with_reducible refine (impl_ScriptParse.calls (⟨#[90, 105, 110, 104]⟩ : ByteArray) t119 t120 _ A7.out).mono ?_); rintro e w21 ⟨rfl, hb⟩; refine ⟨_, rfl, ?_⟩; have n0_ := Aside0.mk (below_step (by repeat (first | (with_reducible first | exact HB.out | apply below_alloc | apply pw_below_drewN | apply below_drew1) | exact HB.out)) hb); clear HB; have HB := n0_; clear n0_; (try clear hb); (try clear hb2); (try clear hk); (try clear hi)) | ((with_reducible refine gate_callee (f := 25) rfl ?_); refine goesL_ (some 43) rfl rfl Try.func25 (by kernel_rfl) rfl #[.int .u32 t117] rfl (by (try simp only [List.map_toArray, List.map_cons, List.map_nil]); first | done | rfl | (simp only [List.length_drop, List.length_take]; rfl)) ?_; (with_reducible refine (impl_ScriptTells.calls t117 t121 t122 _ A8.out).mono ?_); rintro e w22 ⟨rfl, hb⟩; refine ⟨_, rfl, ?_⟩; have n0_ := Aside0.mk (below_step (by repeat (first | (with_reducible first | exact HB.out | apply below_alloc | apply pw_below_drewN | apply below_drew1) | exact HB.out)) hb); clear HB; have HB := n0_; clear n0_; (try clear hb); (try clear hb2); (try clear hk); (try clear hi)) | ((with_reducible refine gate_callee (f := 25) rfl ?_); refine goesL_ (some 48) rfl rfl Try.func25 (by kernel_rfl) rfl #[.int .u32 t119] rfl (by (try simp only [List.map_toArray, List.map_cons, List.map_nil]); first | done | rfl | (simp only [List.length_drop, List.length_take]; rfl)) ?_; (with_reducible refine (impl_ScriptTells.calls t119 t123 t124 _ A9.out).mono ?_); rintro e w23 ⟨rfl, hb⟩; refine ⟨_, rfl, ?_⟩; have n0_ := Aside0.mk (below_step (by repeat (first | (with_reducible first | exact HB.out | apply below_alloc | apply pw_below_drewN | apply below_drew1) | exact HB.out)) hb); clear HB; have HB := n0_; clear n0_; (try clear hb); (try clear hb2); (try clear hk); (try clear hi)))
              go_ret
              exact ⟨by first | rfl | (simp [errW_none, errW_some] <;> rfl) | (simp [*, errW_none, errW_some] <;> rfl), by repeat (first | (with_reducible first | exact HB.out | apply below_alloc | apply pw_below_drewN | apply below_drew1) | exact HB.out)⟩
            · replace c15 := Bool.eq_false_iff.mpr c15
              subst c15
              have H1 : (if t122 = true then (some false) else (some (!t124))) = some r := by rw [if_neg (show ¬ (false = true) by decide)] at H; exact H
              clear H
              have H := H1
              clear H1
              by_cases c24 : t122 = true
              · subst c24
                have H1 : (some false) = some r := by rw [if_pos rfl] at H; exact H
                clear H
                have H := H1
                clear H1
                obtain rfl := Option.some.inj H
                go_enter Try.func9, Try.ntmps9
                go_wp2_with (first | ((with_reducible refine gate_callee (f := 18) rfl ?_); refine goesL_ (some 19) rfl rfl Try.func18 (by kernel_rfl) rfl #[.int .u32 a0] rfl (by (try simp only [List.map_toArray, List.map_cons, List.map_nil]); first | done | rfl | (simp only [List.length_drop, List.length_take]; rfl)) ?_; (with_reducible refine (laws_four.calls k a0 t110 _ A2.out).mono ?_); rintro e w25 ⟨rfl, hb⟩; refine ⟨_, rfl, ?_⟩; have n0_ := Aside0.mk (below_step (by repeat (first | (with_reducible first | exact HB.out | apply below_alloc | apply pw_below_drewN | apply below_drew1) | exact HB.out)) hb); clear HB; have HB := n0_; clear n0_; (try clear hb); (try clear hb2); (try clear hk); (try clear hi)) | ((with_reducible refine gate_callee (f := 19) rfl ?_); refine goesL_ (some 20) rfl rfl Try.func19 (by kernel_rfl) rfl #[.string t110] rfl (by (try simp only [List.map_toArray, List.map_cons, List.map_nil]); first | done | rfl | (simp only [List.length_drop, List.length_take]; rfl)) ?_; (with_reducible refine (impl_ScriptParse.calls t110 t111 true _ A3.out).mono ?_); rintro e w26 ⟨rfl, hb⟩; refine ⟨_, rfl, ?_⟩; have n0_ := Aside0.mk (below_step (by repeat (first | (with_reducible first | exact HB.out | apply below_alloc | apply pw_below_drewN | apply below_drew1) | exact HB.out)) hb); clear HB; have HB := n0_; clear n0_; (try clear hb); (try clear hb2); (try clear hk); (try clear hi)) | ((with_reducible refine gate_callee (f := 25) rfl ?_); refine goesL_ (some 25) rfl rfl Try.func25 (by kernel_rfl) rfl #[.int .u32 t111] rfl (by (try simp only [List.map_toArray, List.map_cons, List.map_nil]); first | done | rfl | (simp only [List.length_drop, List.length_take]; rfl)) ?_; (with_reducible refine (impl_ScriptTells.calls t111 t113 false _ A4.out).mono ?_); rintro e w27 ⟨rfl, hb⟩; refine ⟨_, rfl, ?_⟩; have n0_ := Aside0.mk (below_step (by repeat (first | (with_reducible first | exact HB.out | apply below_alloc | apply pw_below_drewN | apply below_drew1) | exact HB.out)) hb); clear HB; have HB := n0_; clear n0_; (try clear hb); (try clear hb2); (try clear hk); (try clear hi)) | ((with_reducible refine gate_callee (f := 19) rfl ?_); refine goesL_ (some 30) rfl rfl Try.func19 (by kernel_rfl) rfl #[.string t113] rfl (by (try simp only [List.map_toArray, List.map_cons, List.map_nil]); first | done | rfl | (simp only [List.length_drop, List.length_take]; rfl)) ?_; (with_reducible refine (impl_ScriptParse.calls t113 t115 true _ A5.out).mono ?_); rintro e w28 ⟨rfl, hb⟩; refine ⟨_, rfl, ?_⟩; have n0_ := Aside0.mk (below_step (by repeat (first | (with_reducible first | exact HB.out | apply below_alloc | apply pw_below_drewN | apply below_drew1) | exact HB.out)) hb); clear HB; have HB := n0_; clear n0_; (try clear hb); (try clear hb2); (try clear hk); (try clear hi)) | ((with_reducible refine gate_callee (f := 19) rfl ?_); refine goesL_ (some 34) rfl rfl Try.func19 (by kernel_rfl) rfl #[.string (⟨#[90, 121, 121, 121]⟩ : ByteArray)] rfl (by (try simp only [List.map_toArray, List.map_cons, List.map_nil]); first | done | rfl | (simp only [List.length_drop, List.length_take]; rfl)) ?_; (with_reducible refine (impl_ScriptParse.calls (⟨#[90, 121, 121, 121]⟩ : ByteArray) t117 t118 _ A6.out).mono ?_); rintro e w29 ⟨rfl, hb⟩; refine ⟨_, rfl, ?_⟩; have n0_ := Aside0.mk (below_step (by repeat (first | (with_reducible first | exact HB.out | apply below_alloc | apply pw_below_drewN | apply below_drew1) | exact HB.out)) hb); clear HB; have HB := n0_; clear n0_; (try clear hb); (try clear hb2); (try clear hk); (try clear hi)) | ((with_reducible refine gate_callee (f := 19) rfl ?_); refine goesL_ (some 38) rfl rfl Try.func19 (by kernel_rfl) rfl #[.string (⟨#[90, 105, 110, 104]⟩ : ByteArray)] rfl (by (try simp only [List.map_toArray, List.map_cons, List.map_nil]); first | done | rfl | (simp only [List.length_drop, List.length_take]; rfl)) ?_; (with_reducible refine (impl_ScriptParse.calls (⟨#[90, 105, 110, 104]⟩ : ByteArray) t119 t120 _ A7.out).mono ?_); rintro e w30 ⟨rfl, hb⟩; refine ⟨_, rfl, ?_⟩; have n0_ := Aside0.mk (below_step (by repeat (first | (with_reducible first | exact HB.out | apply below_alloc | apply pw_below_drewN | apply below_drew1) | exact HB.out)) hb); clear HB; have HB := n0_; clear n0_; (try clear hb); (try clear hb2); (try clear hk); (try clear hi)) | ((with_reducible refine gate_callee (f := 25) rfl ?_); refine goesL_ (some 43) rfl rfl Try.func25 (by kernel_rfl) rfl #[.int .u32 t117] rfl (by (try simp only [List.map_toArray, List.map_cons, List.map_nil]); first | done | rfl | (simp only [List.length_drop, List.length_take]; rfl)) ?_; (with_reducible refine (impl_ScriptTells.calls t117 t121 true _ A8.out).mono ?_); rintro e w31 ⟨rfl, hb⟩; refine ⟨_, rfl, ?_⟩; have n0_ := Aside0.mk (below_step (by repeat (first | (with_reducible first | exact HB.out | apply below_alloc | apply pw_below_drewN | apply below_drew1) | exact HB.out)) hb); clear HB; have HB := n0_; clear n0_; (try clear hb); (try clear hb2); (try clear hk); (try clear hi)) | ((with_reducible refine gate_callee (f := 25) rfl ?_); refine goesL_ (some 48) rfl rfl Try.func25 (by kernel_rfl) rfl #[.int .u32 t119] rfl (by (try simp only [List.map_toArray, List.map_cons, List.map_nil]); first | done | rfl | (simp only [List.length_drop, List.length_take]; rfl)) ?_; (with_reducible refine (impl_ScriptTells.calls t119 t123 t124 _ A9.out).mono ?_); rintro e w32 ⟨rfl, hb⟩; refine ⟨_, rfl, ?_⟩; have n0_ := Aside0.mk (below_step (by repeat (first | (with_reducible first | exact HB.out | apply below_alloc | apply pw_below_drewN | apply below_drew1) | exact HB.out)) hb); clear HB; have HB := n0_; clear n0_; (try clear hb); (try clear hb2); (try clear hk); (try clear hi)))
                go_ret
                exact ⟨by first | rfl | (simp [errW_none, errW_some] <;> rfl) | (simp [*, errW_none, errW_some] <;> rfl), by repeat (first | (with_reducible first | exact HB.out | apply below_alloc | apply pw_below_drewN | apply below_drew1) | exact HB.out)⟩
              · replace c24 := Bool.eq_false_iff.mpr c24
                subst c24
                have H1 : (some (!t124)) = some r := by rw [if_neg (show ¬ (false = true) by decide)] at H; exact H
                clear H
                have H := H1
                clear H1
                obtain rfl := Option.some.inj H
                go_enter Try.func9, Try.ntmps9
                go_wp2_with (first | ((with_reducible refine gate_callee (f := 18) rfl ?_); refine goesL_ (some 19) rfl rfl Try.func18 (by kernel_rfl) rfl #[.int .u32 a0] rfl (by (try simp only [List.map_toArray, List.map_cons, List.map_nil]); first | done | rfl | (simp only [List.length_drop, List.length_take]; rfl)) ?_; (with_reducible refine (laws_four.calls k a0 t110 _ A2.out).mono ?_); rintro e w33 ⟨rfl, hb⟩; refine ⟨_, rfl, ?_⟩; have n0_ := Aside0.mk (below_step (by repeat (first | (with_reducible first | exact HB.out | apply below_alloc | apply pw_below_drewN | apply below_drew1) | exact HB.out)) hb); clear HB; have HB := n0_; clear n0_; (try clear hb); (try clear hb2); (try clear hk); (try clear hi)) | ((with_reducible refine gate_callee (f := 19) rfl ?_); refine goesL_ (some 20) rfl rfl Try.func19 (by kernel_rfl) rfl #[.string t110] rfl (by (try simp only [List.map_toArray, List.map_cons, List.map_nil]); first | done | rfl | (simp only [List.length_drop, List.length_take]; rfl)) ?_; (with_reducible refine (impl_ScriptParse.calls t110 t111 true _ A3.out).mono ?_); rintro e w34 ⟨rfl, hb⟩; refine ⟨_, rfl, ?_⟩; have n0_ := Aside0.mk (below_step (by repeat (first | (with_reducible first | exact HB.out | apply below_alloc | apply pw_below_drewN | apply below_drew1) | exact HB.out)) hb); clear HB; have HB := n0_; clear n0_; (try clear hb); (try clear hb2); (try clear hk); (try clear hi)) | ((with_reducible refine gate_callee (f := 25) rfl ?_); refine goesL_ (some 25) rfl rfl Try.func25 (by kernel_rfl) rfl #[.int .u32 t111] rfl (by (try simp only [List.map_toArray, List.map_cons, List.map_nil]); first | done | rfl | (simp only [List.length_drop, List.length_take]; rfl)) ?_; (with_reducible refine (impl_ScriptTells.calls t111 t113 false _ A4.out).mono ?_); rintro e w35 ⟨rfl, hb⟩; refine ⟨_, rfl, ?_⟩; have n0_ := Aside0.mk (below_step (by repeat (first | (with_reducible first | exact HB.out | apply below_alloc | apply pw_below_drewN | apply below_drew1) | exact HB.out)) hb); clear HB; have HB := n0_; clear n0_; (try clear hb); (try clear hb2); (try clear hk); (try clear hi)) | ((with_reducible refine gate_callee (f := 19) rfl ?_); refine goesL_ (some 30) rfl rfl Try.func19 (by kernel_rfl) rfl #[.string t113] rfl (by (try simp only [List.map_toArray, List.map_cons, List.map_nil]); first | done | rfl | (simp only [List.length_drop, List.length_take]; rfl)) ?_; (with_reducible refine (impl_ScriptParse.calls t113 t115 true _ A5.out).mono ?_); rintro e w36 ⟨rfl, hb⟩; refine ⟨_, rfl, ?_⟩; have n0_ := Aside0.mk (below_step (by repeat (first | (with_reducible first | exact HB.out | apply below_alloc | apply pw_below_drewN | apply below_drew1) | exact HB.out)) hb); clear HB; have HB := n0_; clear n0_; (try clear hb); (try clear hb2); (try clear hk); (try clear hi)) | ((with_reducible refine gate_callee (f := 19) rfl ?_); refine goesL_ (some 34) rfl rfl Try.func19 (by kernel_rfl) rfl #[.string (⟨#[90, 121, 121, 121]⟩ : ByteArray)] rfl (by (try simp only [List.map_toArray, List.map_cons, List.map_nil]); first | done | rfl | (simp only [List.length_drop, List.length_take]; rfl)) ?_; (with_reducible refine (impl_ScriptParse.calls (⟨#[90, 121, 121, 121]⟩ : ByteArray) t117 t118 _ A6.out).mono ?_); rintro e w37 ⟨rfl, hb⟩; refine ⟨_, rfl, ?_⟩; have n0_ := Aside0.mk (below_step (by repeat (first | (with_reducible first | exact HB.out | apply below_alloc | apply pw_below_drewN | apply below_drew1) | exact HB.out)) hb); clear HB; have HB := n0_; clear n0_; (try clear hb); (try clear hb2); (try clear hk); (try clear hi)) | ((with_reducible refine gate_callee (f := 19) rfl ?_); refine goesL_ (some 38) rfl rfl Try.func19 (by kernel_rfl) rfl #[.string (⟨#[90, 105, 110, 104]⟩ : ByteArray)] rfl (by (try simp only [List.map_toArray, List.map_cons, List.map_nil]); first | done | rfl | (simp only [List.length_drop, List.length_take]; rfl)) ?_; (with_reducible refine (impl_ScriptParse.calls (⟨#[90, 105, 110, 104]⟩ : ByteArray) t119 t120 _ A7.out).mono ?_); rintro e w38 ⟨rfl, hb⟩; refine ⟨_, rfl, ?_⟩; have n0_ := Aside0.mk (below_step (by repeat (first | (with_reducible first | exact HB.out | apply below_alloc | apply pw_below_drewN | apply below_drew1) | exact HB.out)) hb); clear HB; have HB := n0_; clear n0_; (try clear hb); (try clear hb2); (try clear hk); (try clear hi)) | ((with_reducible refine gate_callee (f := 25) rfl ?_); refine goesL_ (some 43) rfl rfl Try.func25 (by kernel_rfl) rfl #[.int .u32 t117] rfl (by (try simp only [List.map_toArray, List.map_cons, List.map_nil]); first | done | rfl | (simp only [List.length_drop, List.length_take]; rfl)) ?_; (with_reducible refine (impl_ScriptTells.calls t117 t121 false _ A8.out).mono ?_); rintro e w39 ⟨rfl, hb⟩; refine ⟨_, rfl, ?_⟩; have n0_ := Aside0.mk (below_step (by repeat (first | (with_reducible first | exact HB.out | apply below_alloc | apply pw_below_drewN | apply below_drew1) | exact HB.out)) hb); clear HB; have HB := n0_; clear n0_; (try clear hb); (try clear hb2); (try clear hk); (try clear hi)) | ((with_reducible refine gate_callee (f := 25) rfl ?_); refine goesL_ (some 48) rfl rfl Try.func25 (by kernel_rfl) rfl #[.int .u32 t119] rfl (by (try simp only [List.map_toArray, List.map_cons, List.map_nil]); first | done | rfl | (simp only [List.length_drop, List.length_take]; rfl)) ?_; (with_reducible refine (impl_ScriptTells.calls t119 t123 t124 _ A9.out).mono ?_); rintro e w40 ⟨rfl, hb⟩; refine ⟨_, rfl, ?_⟩; have n0_ := Aside0.mk (below_step (by repeat (first | (with_reducible first | exact HB.out | apply below_alloc | apply pw_below_drewN | apply below_drew1) | exact HB.out)) hb); clear HB; have HB := n0_; clear n0_; (try clear hb); (try clear hb2); (try clear hk); (try clear hi)))
                go_ret
                exact ⟨by first | rfl | (simp [errW_none, errW_some] <;> rfl) | (simp [*, errW_none, errW_some] <;> rfl), by repeat (first | (with_reducible first | exact HB.out | apply below_alloc | apply pw_below_drewN | apply below_drew1) | exact HB.out)⟩
          · rw [if_neg c14] at H
            have c14b0 : (t111 == t117) = false := beq_eq_false_iff_ne.mpr c14
            have c14b1 : (t111 != t117) = true := bne_iff_ne.mpr c14
            by_cases c41 : (t114 == (t111 != t119)) = true
            · rw [if_pos c41] at H
              have c41b0 : (t114 == (t111 != t119)) = true := c41
              (try (have c41b1 : decide (t114 = (t111 != t119)) = true := by simpa using c41))
              (try (have c41b2 : (t114 == (t111 != t119)) = true := by simpa using c41))
              clear c41
              by_cases c42 : t122 = true
              · subst c42
                have H1 : (some false) = some r := by rw [if_pos rfl] at H; exact H
                clear H
                have H := H1
                clear H1
                obtain rfl := Option.some.inj H
                go_enter Try.func9, Try.ntmps9
                go_wp2_with (first | ((with_reducible refine gate_callee (f := 18) rfl ?_); refine goesL_ (some 19) rfl rfl Try.func18 (by kernel_rfl) rfl #[.int .u32 a0] rfl (by (try simp only [List.map_toArray, List.map_cons, List.map_nil]); first | done | rfl | (simp only [List.length_drop, List.length_take]; rfl)) ?_; (with_reducible refine (laws_four.calls k a0 t110 _ A2.out).mono ?_); rintro e w43 ⟨rfl, hb⟩; refine ⟨_, rfl, ?_⟩; have n0_ := Aside0.mk (below_step (by repeat (first | (with_reducible first | exact HB.out | apply below_alloc | apply pw_below_drewN | apply below_drew1) | exact HB.out)) hb); clear HB; have HB := n0_; clear n0_; (try clear hb); (try clear hb2); (try clear hk); (try clear hi)) | ((with_reducible refine gate_callee (f := 19) rfl ?_); refine goesL_ (some 20) rfl rfl Try.func19 (by kernel_rfl) rfl #[.string t110] rfl (by (try simp only [List.map_toArray, List.map_cons, List.map_nil]); first | done | rfl | (simp only [List.length_drop, List.length_take]; rfl)) ?_; (with_reducible refine (impl_ScriptParse.calls t110 t111 true _ A3.out).mono ?_); rintro e w44 ⟨rfl, hb⟩; refine ⟨_, rfl, ?_⟩; have n0_ := Aside0.mk (below_step (by repeat (first | (with_reducible first | exact HB.out | apply below_alloc | apply pw_below_drewN | apply below_drew1) | exact HB.out)) hb); clear HB; have HB := n0_; clear n0_; (try clear hb); (try clear hb2); (try clear hk); (try clear hi)) | ((with_reducible refine gate_callee (f := 25) rfl ?_); refine goesL_ (some 25) rfl rfl Try.func25 (by kernel_rfl) rfl #[.int .u32 t111] rfl (by (try simp only [List.map_toArray, List.map_cons, List.map_nil]); first | done | rfl | (simp only [List.length_drop, List.length_take]; rfl)) ?_; (with_reducible refine (impl_ScriptTells.calls t111 t113 t114 _ A4.out).mono ?_); rintro e w45 ⟨rfl, hb⟩; refine ⟨_, rfl, ?_⟩; have n0_ := Aside0.mk (below_step (by repeat (first | (with_reducible first | exact HB.out | apply below_alloc | apply pw_below_drewN | apply below_drew1) | exact HB.out)) hb); clear HB; have HB := n0_; clear n0_; (try clear hb); (try clear hb2); (try clear hk); (try clear hi)) | ((with_reducible refine gate_callee (f := 19) rfl ?_); refine goesL_ (some 30) rfl rfl Try.func19 (by kernel_rfl) rfl #[.string t113] rfl (by (try simp only [List.map_toArray, List.map_cons, List.map_nil]); first | done | rfl | (simp only [List.length_drop, List.length_take]; rfl)) ?_; (with_reducible refine (impl_ScriptParse.calls t113 t115 true _ A5.out).mono ?_); rintro e w46 ⟨rfl, hb⟩; refine ⟨_, rfl, ?_⟩; have n0_ := Aside0.mk (below_step (by repeat (first | (with_reducible first | exact HB.out | apply below_alloc | apply pw_below_drewN | apply below_drew1) | exact HB.out)) hb); clear HB; have HB := n0_; clear n0_; (try clear hb); (try clear hb2); (try clear hk); (try clear hi)) | ((with_reducible refine gate_callee (f := 19) rfl ?_); refine goesL_ (some 34) rfl rfl Try.func19 (by kernel_rfl) rfl #[.string (⟨#[90, 121, 121, 121]⟩ : ByteArray)] rfl (by (try simp only [List.map_toArray, List.map_cons, List.map_nil]); first | done | rfl | (simp only [List.length_drop, List.length_take]; rfl)) ?_; (with_reducible refine (impl_ScriptParse.calls (⟨#[90, 121, 121, 121]⟩ : ByteArray) t117 t118 _ A6.out).mono ?_); rintro e w47 ⟨rfl, hb⟩; refine ⟨_, rfl, ?_⟩; have n0_ := Aside0.mk (below_step (by repeat (first | (with_reducible first | exact HB.out | apply below_alloc | apply pw_below_drewN | apply below_drew1) | exact HB.out)) hb); clear HB; have HB := n0_; clear n0_; (try clear hb); (try clear hb2); (try clear hk); (try clear hi)) | ((with_reducible refine gate_callee (f := 19) rfl ?_); refine goesL_ (some 38) rfl rfl Try.func19 (by kernel_rfl) rfl #[.string (⟨#[90, 105, 110, 104]⟩ : ByteArray)] rfl (by (try simp only [List.map_toArray, List.map_cons, List.map_nil]); first | done | rfl | (simp only [List.length_drop, List.length_take]; rfl)) ?_; (with_reducible refine (impl_ScriptParse.calls (⟨#[90, 105, 110, 104]⟩ : ByteArray) t119 t120 _ A7.out).mono ?_); rintro e w48 ⟨rfl, hb⟩; refine ⟨_, rfl, ?_⟩; have n0_ := Aside0.mk (below_step (by repeat (first | (with_reducible first | exact HB.out | apply below_alloc | apply pw_below_drewN | apply below_drew1) | exact HB.out)) hb); clear HB; have HB := n0_; clear n0_; (try clear hb); (try clear hb2); (try clear hk); (try clear hi)) | ((with_reducible refine gate_callee (f := 25) rfl ?_); refine goesL_ (some 43) rfl rfl Try.func25 (by kernel_rfl) rfl #[.int .u32 t117] rfl (by (try simp only [List.map_toArray, List.map_cons, List.map_nil]); first | done | rfl | (simp only [List.length_drop, List.length_take]; rfl)) ?_; (with_reducible refine (impl_ScriptTells.calls t117 t121 true _ A8.out).mono ?_); rintro e w49 ⟨rfl, hb⟩; refine ⟨_, rfl, ?_⟩; have n0_ := Aside0.mk (below_step (by repeat (first | (with_reducible first | exact HB.out | apply below_alloc | apply pw_below_drewN | apply below_drew1) | exact HB.out)) hb); clear HB; have HB := n0_; clear n0_; (try clear hb); (try clear hb2); (try clear hk); (try clear hi)) | ((with_reducible refine gate_callee (f := 25) rfl ?_); refine goesL_ (some 48) rfl rfl Try.func25 (by kernel_rfl) rfl #[.int .u32 t119] rfl (by (try simp only [List.map_toArray, List.map_cons, List.map_nil]); first | done | rfl | (simp only [List.length_drop, List.length_take]; rfl)) ?_; (with_reducible refine (impl_ScriptTells.calls t119 t123 t124 _ A9.out).mono ?_); rintro e w50 ⟨rfl, hb⟩; refine ⟨_, rfl, ?_⟩; have n0_ := Aside0.mk (below_step (by repeat (first | (with_reducible first | exact HB.out | apply below_alloc | apply pw_below_drewN | apply below_drew1) | exact HB.out)) hb); clear HB; have HB := n0_; clear n0_; (try clear hb); (try clear hb2); (try clear hk); (try clear hi)))
                go_ret
                exact ⟨by first | rfl | (simp [errW_none, errW_some] <;> rfl) | (simp [*, errW_none, errW_some] <;> rfl), by repeat (first | (with_reducible first | exact HB.out | apply below_alloc | apply pw_below_drewN | apply below_drew1) | exact HB.out)⟩
              · replace c42 := Bool.eq_false_iff.mpr c42
                subst c42
                have H1 : (some (!t124)) = some r := by rw [if_neg (show ¬ (false = true) by decide)] at H; exact H
                clear H
                have H := H1
                clear H1
                obtain rfl := Option.some.inj H
                go_enter Try.func9, Try.ntmps9
                go_wp2_with (first | ((with_reducible refine gate_callee (f := 18) rfl ?_); refine goesL_ (some 19) rfl rfl Try.func18 (by kernel_rfl) rfl #[.int .u32 a0] rfl (by (try simp only [List.map_toArray, List.map_cons, List.map_nil]); first | done | rfl | (simp only [List.length_drop, List.length_take]; rfl)) ?_; (with_reducible refine (laws_four.calls k a0 t110 _ A2.out).mono ?_); rintro e w51 ⟨rfl, hb⟩; refine ⟨_, rfl, ?_⟩; have n0_ := Aside0.mk (below_step (by repeat (first | (with_reducible first | exact HB.out | apply below_alloc | apply pw_below_drewN | apply below_drew1) | exact HB.out)) hb); clear HB; have HB := n0_; clear n0_; (try clear hb); (try clear hb2); (try clear hk); (try clear hi)) | ((with_reducible refine gate_callee (f := 19) rfl ?_); refine goesL_ (some 20) rfl rfl Try.func19 (by kernel_rfl) rfl #[.string t110] rfl (by (try simp only [List.map_toArray, List.map_cons, List.map_nil]); first | done | rfl | (simp only [List.length_drop, List.length_take]; rfl)) ?_; (with_reducible refine (impl_ScriptParse.calls t110 t111 true _ A3.out).mono ?_); rintro e w52 ⟨rfl, hb⟩; refine ⟨_, rfl, ?_⟩; have n0_ := Aside0.mk (below_step (by repeat (first | (with_reducible first | exact HB.out | apply below_alloc | apply pw_below_drewN | apply below_drew1) | exact HB.out)) hb); clear HB; have HB := n0_; clear n0_; (try clear hb); (try clear hb2); (try clear hk); (try clear hi)) | ((with_reducible refine gate_callee (f := 25) rfl ?_); refine goesL_ (some 25) rfl rfl Try.func25 (by kernel_rfl) rfl #[.int .u32 t111] rfl (by (try simp only [List.map_toArray, List.map_cons, List.map_nil]); first | done | rfl | (simp only [List.length_drop, List.length_take]; rfl)) ?_; (with_reducible refine (impl_ScriptTells.calls t111 t113 t114 _ A4.out).mono ?_); rintro e w53 ⟨rfl, hb⟩; refine ⟨_, rfl, ?_⟩; have n0_ := Aside0.mk (below_step (by repeat (first | (with_reducible first | exact HB.out | apply below_alloc | apply pw_below_drewN | apply below_drew1) | exact HB.out)) hb); clear HB; have HB := n0_; clear n0_; (try clear hb); (try clear hb2); (try clear hk); (try clear hi)) | ((with_reducible refine gate_callee (f := 19) rfl ?_); refine goesL_ (some 30) rfl rfl Try.func19 (by kernel_rfl) rfl #[.string t113] rfl (by (try simp only [List.map_toArray, List.map_cons, List.map_nil]); first | done | rfl | (simp only [List.length_drop, List.length_take]; rfl)) ?_; (with_reducible refine (impl_ScriptParse.calls t113 t115 true _ A5.out).mono ?_); rintro e w54 ⟨rfl, hb⟩; refine ⟨_, rfl, ?_⟩; have n0_ := Aside0.mk (below_step (by repeat (first | (with_reducible first | exact HB.out | apply below_alloc | apply pw_below_drewN | apply below_drew1) | exact HB.out)) hb); clear HB; have HB := n0_; clear n0_; (try clear hb); (try clear hb2); (try clear hk); (try clear hi)) | ((with_reducible refine gate_callee (f := 19) rfl ?_); refine goesL_ (some 34) rfl rfl Try.func19 (by kernel_rfl) rfl #[.string (⟨#[90, 121, 121, 121]⟩ : ByteArray)] rfl (by (try simp only [List.map_toArray, List.map_cons, List.map_nil]); first | done | rfl | (simp only [List.length_drop, List.length_take]; rfl)) ?_; (with_reducible refine (impl_ScriptParse.calls (⟨#[90, 121, 121, 121]⟩ : ByteArray) t117 t118 _ A6.out).mono ?_); rintro e w55 ⟨rfl, hb⟩; refine ⟨_, rfl, ?_⟩; have n0_ := Aside0.mk (below_step (by repeat (first | (with_reducible first | exact HB.out | apply below_alloc | apply pw_below_drewN | apply below_drew1) | exact HB.out)) hb); clear HB; have HB := n0_; clear n0_; (try clear hb); (try clear hb2); (try clear hk); (try clear hi)) | ((with_reducible refine gate_callee (f := 19) rfl ?_); refine goesL_ (some 38) rfl rfl Try.func19 (by kernel_rfl) rfl #[.string (⟨#[90, 105, 110, 104]⟩ : ByteArray)] rfl (by (try simp only [List.map_toArray, List.map_cons, List.map_nil]); first | done | rfl | (simp only [List.length_drop, List.length_take]; rfl)) ?_; (with_reducible refine (impl_ScriptParse.calls (⟨#[90, 105, 110, 104]⟩ : ByteArray) t119 t120 _ A7.out).mono ?_); rintro e w56 ⟨rfl, hb⟩; refine ⟨_, rfl, ?_⟩; have n0_ := Aside0.mk (below_step (by repeat (first | (with_reducible first | exact HB.out | apply below_alloc | apply pw_below_drewN | apply below_drew1) | exact HB.out)) hb); clear HB; have HB := n0_; clear n0_; (try clear hb); (try clear hb2); (try clear hk); (try clear hi)) | ((with_reducible refine gate_callee (f := 25) rfl ?_); refine goesL_ (some 43) rfl rfl Try.func25 (by kernel_rfl) rfl #[.int .u32 t117] rfl (by (try simp only [List.map_toArray, List.map_cons, List.map_nil]); first | done | rfl | (simp only [List.length_drop, List.length_take]; rfl)) ?_; (with_reducible refine (impl_ScriptTells.calls t117 t121 false _ A8.out).mono ?_); rintro e w57 ⟨rfl, hb⟩; refine ⟨_, rfl, ?_⟩; have n0_ := Aside0.mk (below_step (by repeat (first | (with_reducible first | exact HB.out | apply below_alloc | apply pw_below_drewN | apply below_drew1) | exact HB.out)) hb); clear HB; have HB := n0_; clear n0_; (try clear hb); (try clear hb2); (try clear hk); (try clear hi)) | ((with_reducible refine gate_callee (f := 25) rfl ?_); refine goesL_ (some 48) rfl rfl Try.func25 (by kernel_rfl) rfl #[.int .u32 t119] rfl (by (try simp only [List.map_toArray, List.map_cons, List.map_nil]); first | done | rfl | (simp only [List.length_drop, List.length_take]; rfl)) ?_; (with_reducible refine (impl_ScriptTells.calls t119 t123 t124 _ A9.out).mono ?_); rintro e w58 ⟨rfl, hb⟩; refine ⟨_, rfl, ?_⟩; have n0_ := Aside0.mk (below_step (by repeat (first | (with_reducible first | exact HB.out | apply below_alloc | apply pw_below_drewN | apply below_drew1) | exact HB.out)) hb); clear HB; have HB := n0_; clear n0_; (try clear hb); (try clear hb2); (try clear hk); (try clear hi)))
                go_ret
                exact ⟨by first | rfl | (simp [errW_none, errW_some] <;> rfl) | (simp [*, errW_none, errW_some] <;> rfl), by repeat (first | (with_reducible first | exact HB.out | apply below_alloc | apply pw_below_drewN | apply below_drew1) | exact HB.out)⟩
            · rw [if_neg c41] at H
              have c41b0 : (t114 == (t111 != t119)) = false := by simpa using c41
              (try (have c41b1 : decide (t114 = (t111 != t119)) = false := by simpa using c41))
              (try (have c41b2 : (t114 == (t111 != t119)) = false := by simpa using c41))
              (try (have c41b3 : ¬ (t114 = (t111 != t119)) := by simpa using c41))
              clear c41
              obtain rfl := Option.some.inj H
              go_enter Try.func9, Try.ntmps9
              go_wp2_with (first | ((with_reducible refine gate_callee (f := 18) rfl ?_); refine goesL_ (some 19) rfl rfl Try.func18 (by kernel_rfl) rfl #[.int .u32 a0] rfl (by (try simp only [List.map_toArray, List.map_cons, List.map_nil]); first | done | rfl | (simp only [List.length_drop, List.length_take]; rfl)) ?_; (with_reducible refine (laws_four.calls k a0 t110 _ A2.out).mono ?_); rintro e w59 ⟨rfl, hb⟩; refine ⟨_, rfl, ?_⟩; have n0_ := Aside0.mk (below_step (by repeat (first | (with_reducible first | exact HB.out | apply below_alloc | apply pw_below_drewN | apply below_drew1) | exact HB.out)) hb); clear HB; have HB := n0_; clear n0_; (try clear hb); (try clear hb2); (try clear hk); (try clear hi)) | ((with_reducible refine gate_callee (f := 19) rfl ?_); refine goesL_ (some 20) rfl rfl Try.func19 (by kernel_rfl) rfl #[.string t110] rfl (by (try simp only [List.map_toArray, List.map_cons, List.map_nil]); first | done | rfl | (simp only [List.length_drop, List.length_take]; rfl)) ?_; (with_reducible refine (impl_ScriptParse.calls t110 t111 true _ A3.out).mono ?_); rintro e w60 ⟨rfl, hb⟩; refine ⟨_, rfl, ?_⟩; have n0_ := Aside0.mk (below_step (by repeat (first | (with_reducible first | exact HB.out | apply below_alloc | apply pw_below_drewN | apply below_drew1) | exact HB.out)) hb); clear HB; have HB := n0_; clear n0_; (try clear hb); (try clear hb2); (try clear hk); (try clear hi)) | ((with_reducible refine gate_callee (f := 25) rfl ?_); refine goesL_ (some 25) rfl rfl Try.func25 (by kernel_rfl) rfl #[.int .u32 t111] rfl (by (try simp only [List.map_toArray, List.map_cons, List.map_nil]); first | done | rfl | (simp only [List.length_drop, List.length_take]; rfl)) ?_; (with_reducible refine (impl_ScriptTells.calls t111 t113 t114 _ A4.out).mono ?_); rintro e w61 ⟨rfl, hb⟩; refine ⟨_, rfl, ?_⟩; have n0_ := Aside0.mk (below_step (by repeat (first | (with_reducible first | exact HB.out | apply below_alloc | apply pw_below_drewN | apply below_drew1) | exact HB.out)) hb); clear HB; have HB := n0_; clear n0_; (try clear hb); (try clear hb2); (try clear hk); (try clear hi)) | ((with_reducible refine gate_callee (f := 19) rfl ?_); refine goesL_ (some 30) rfl rfl Try.func19 (by kernel_rfl) rfl #[.string t113] rfl (by (try simp only [List.map_toArray, List.map_cons, List.map_nil]); first | done | rfl | (simp only [List.length_drop, List.length_take]; rfl)) ?_; (with_reducible refine (impl_ScriptParse.calls t113 t115 true _ A5.out).mono ?_); rintro e w62 ⟨rfl, hb⟩; refine ⟨_, rfl, ?_⟩; have n0_ := Aside0.mk (below_step (by repeat (first | (with_reducible first | exact HB.out | apply below_alloc | apply pw_below_drewN | apply below_drew1) | exact HB.out)) hb); clear HB; have HB := n0_; clear n0_; (try clear hb); (try clear hb2); (try clear hk); (try clear hi)) | ((with_reducible refine gate_callee (f := 19) rfl ?_); refine goesL_ (some 34) rfl rfl Try.func19 (by kernel_rfl) rfl #[.string (⟨#[90, 121, 121, 121]⟩ : ByteArray)] rfl (by (try simp only [List.map_toArray, List.map_cons, List.map_nil]); first | done | rfl | (simp only [List.length_drop, List.length_take]; rfl)) ?_; (with_reducible refine (impl_ScriptParse.calls (⟨#[90, 121, 121, 121]⟩ : ByteArray) t117 t118 _ A6.out).mono ?_); rintro e w63 ⟨rfl, hb⟩; refine ⟨_, rfl, ?_⟩; have n0_ := Aside0.mk (below_step (by repeat (first | (with_reducible first | exact HB.out | apply below_alloc | apply pw_below_drewN | apply below_drew1) | exact HB.out)) hb); clear HB; have HB := n0_; clear n0_; (try clear hb); (try clear hb2); (try clear hk); (try clear hi)) | ((with_reducible refine gate_callee (f := 19) rfl ?_); refine goesL_ (some 38) rfl rfl Try.func19 (by kernel_rfl) rfl #[.string (⟨#[90, 105, 110, 104]⟩ : ByteArray)] rfl (by (try simp only [List.map_toArray, List.map_cons, List.map_nil]); first | done | rfl | (simp only [List.length_drop, List.length_take]; rfl)) ?_; (with_reducible refine (impl_ScriptParse.calls (⟨#[90, 105, 110, 104]⟩ : ByteArray) t119 t120 _ A7.out).mono ?_); rintro e w64 ⟨rfl, hb⟩; refine ⟨_, rfl, ?_⟩; have n0_ := Aside0.mk (below_step (by repeat (first | (with_reducible first | exact HB.out | apply below_alloc | apply pw_below_drewN | apply below_drew1) | exact HB.out)) hb); clear HB; have HB := n0_; clear n0_; (try clear hb); (try clear hb2); (try clear hk); (try clear hi)) | ((with_reducible refine gate_callee (f := 25) rfl ?_); refine goesL_ (some 43) rfl rfl Try.func25 (by kernel_rfl) rfl #[.int .u32 t117] rfl (by (try simp only [List.map_toArray, List.map_cons, List.map_nil]); first | done | rfl | (simp only [List.length_drop, List.length_take]; rfl)) ?_; (with_reducible refine (impl_ScriptTells.calls t117 t121 t122 _ A8.out).mono ?_); rintro e w65 ⟨rfl, hb⟩; refine ⟨_, rfl, ?_⟩; have n0_ := Aside0.mk (below_step (by repeat (first | (with_reducible first | exact HB.out | apply below_alloc | apply pw_below_drewN | apply below_drew1) | exact HB.out)) hb); clear HB; have HB := n0_; clear n0_; (try clear hb); (try clear hb2); (try clear hk); (try clear hi)) | ((with_reducible refine gate_callee (f := 25) rfl ?_); refine goesL_ (some 48) rfl rfl Try.func25 (by kernel_rfl) rfl #[.int .u32 t119] rfl (by (try simp only [List.map_toArray, List.map_cons, List.map_nil]); first | done | rfl | (simp only [List.length_drop, List.length_take]; rfl)) ?_; (with_reducible refine (impl_ScriptTells.calls t119 t123 t124 _ A9.out).mono ?_); rintro e w66 ⟨rfl, hb⟩; refine ⟨_, rfl, ?_⟩; have n0_ := Aside0.mk (below_step (by repeat (first | (with_reducible first | exact HB.out | apply below_alloc | apply pw_below_drewN | apply below_drew1) | exact HB.out)) hb); clear HB; have HB := n0_; clear n0_; (try clear hb); (try clear hb2); (try clear hk); (try clear hi)))
              go_ret
              exact ⟨by first | rfl | (simp [errW_none, errW_some] <;> rfl) | (simp [*, errW_none, errW_some] <;> rfl), by repeat (first | (with_reducible first | exact HB.out | apply below_alloc | apply pw_below_drewN | apply below_drew1) | exact HB.out)⟩
        · rw [if_neg c13] at H
          have c13b0 : ((t113.size : Int) == 4) = false := beq_eq_false_iff_ne.mpr c13
          have c13b1 : ((t113.size : Int) != 4) = true := bne_iff_ne.mpr c13
          obtain rfl := Option.some.inj H
          go_enter Try.func9, Try.ntmps9
          go_wp2_with (first | ((with_reducible refine gate_callee (f := 18) rfl ?_); refine goesL_ (some 19) rfl rfl Try.func18 (by kernel_rfl) rfl #[.int .u32 a0] rfl (by (try simp only [List.map_toArray, List.map_cons, List.map_nil]); first | done | rfl | (simp only [List.length_drop, List.length_take]; rfl)) ?_; (with_reducible refine (laws_four.calls k a0 t110 _ A2.out).mono ?_); rintro e w67 ⟨rfl, hb⟩; refine ⟨_, rfl, ?_⟩; have n0_ := Aside0.mk (below_step (by repeat (first | (with_reducible first | exact HB.out | apply below_alloc | apply pw_below_drewN | apply below_drew1) | exact HB.out)) hb); clear HB; have HB := n0_; clear n0_; (try clear hb); (try clear hb2); (try clear hk); (try clear hi)) | ((with_reducible refine gate_callee (f := 19) rfl ?_); refine goesL_ (some 20) rfl rfl Try.func19 (by kernel_rfl) rfl #[.string t110] rfl (by (try simp only [List.map_toArray, List.map_cons, List.map_nil]); first | done | rfl | (simp only [List.length_drop, List.length_take]; rfl)) ?_; (with_reducible refine (impl_ScriptParse.calls t110 t111 true _ A3.out).mono ?_); rintro e w68 ⟨rfl, hb⟩; refine ⟨_, rfl, ?_⟩; have n0_ := Aside0.mk (below_step (by repeat (first | (with_reducible first | exact HB.out | apply below_alloc | apply pw_below_drewN | apply below_drew1) | exact HB.out)) hb); clear HB; have HB := n0_; clear n0_; (try clear hb); (try clear hb2); (try clear hk); (try clear hi)) | ((with_reducible refine gate_callee (f := 25) rfl ?_); refine goesL_ (some 25) rfl rfl Try.func25 (by kernel_rfl) rfl #[.int .u32 t111] rfl (by (try simp only [List.map_toArray, List.map_cons, List.map_nil]); first | done | rfl | (simp only [List.length_drop, List.length_take]; rfl)) ?_; (with_reducible refine (impl_ScriptTells.calls t111 t113 t114 _ A4.out).mono ?_); rintro e w69 ⟨rfl, hb⟩; refine ⟨_, rfl, ?_⟩; have n0_ := Aside0.mk (below_step (by repeat (first | (with_reducible first | exact HB.out | apply below_alloc | apply pw_below_drewN | apply below_drew1) | exact HB.out)) hb); clear HB; have HB := n0_; clear n0_; (try clear hb); (try clear hb2); (try clear hk); (try clear hi)) | ((with_reducible refine gate_callee (f := 19) rfl ?_); refine goesL_ (some 30) rfl rfl Try.func19 (by kernel_rfl) rfl #[.string t113] rfl (by (try simp only [List.map_toArray, List.map_cons, List.map_nil]); first | done | rfl | (simp only [List.length_drop, List.length_take]; rfl)) ?_; (with_reducible refine (impl_ScriptParse.calls t113 t115 true _ A5.out).mono ?_); rintro e w70 ⟨rfl, hb⟩; refine ⟨_, rfl, ?_⟩; have n0_ := Aside0.mk (below_step (by repeat (first | (with_reducible first | exact HB.out | apply below_alloc | apply pw_below_drewN | apply below_drew1) | exact HB.out)) hb); clear HB; have HB := n0_; clear n0_; (try clear hb); (try clear hb2); (try clear hk); (try clear hi)) | ((with_reducible refine gate_callee (f := 19) rfl ?_); refine goesL_ (some 34) rfl rfl Try.func19 (by kernel_rfl) rfl #[.string (⟨#[90, 121, 121, 121]⟩ : ByteArray)] rfl (by (try simp only [List.map_toArray, List.map_cons, List.map_nil]); first | done | rfl | (simp only [List.length_drop, List.length_take]; rfl)) ?_; (with_reducible refine (impl_ScriptParse.calls (⟨#[90, 121, 121, 121]⟩ : ByteArray) t117 t118 _ A6.out).mono ?_); rintro e w71 ⟨rfl, hb⟩; refine ⟨_, rfl, ?_⟩; have n0_ := Aside0.mk (below_step (by repeat (first | (with_reducible first | exact HB.out | apply below_alloc | apply pw_below_drewN | apply below_drew1) | exact HB.out)) hb); clear HB; have HB := n0_; clear n0_; (try clear hb); (try clear hb2); (try clear hk); (try clear hi)) | ((with_reducible refine gate_callee (f := 19) rfl ?_); refine goesL_ (some 38) rfl rfl Try.func19 (by kernel_rfl) rfl #[.string (⟨#[90, 105, 110, 104]⟩ : ByteArray)] rfl (by (try simp only [List.map_toArray, List.map_cons, List.map_nil]); first | done | rfl | (simp only [List.length_drop, List.length_take]; rfl)) ?_; (with_reducible refine (impl_ScriptParse.calls (⟨#[90, 105, 110, 104]⟩ : ByteArray) t119 t120 _ A7.out).mono ?_); rintro e w72 ⟨rfl, hb⟩; refine ⟨_, rfl, ?_⟩; have n0_ := Aside0.mk (below_step (by repeat (first | (with_reducible first | exact HB.out | apply below_alloc | apply pw_below_drewN | apply below_drew1) | exact HB.out)) hb); clear HB; have HB := n0_; clear n0_; (try clear hb); (try clear hb2); (try clear hk); (try clear hi)) | ((with_reducible refine gate_callee (f := 25) rfl ?_); refine goesL_ (some 43) rfl rfl Try.func25 (by kernel_rfl) rfl #[.int .u32 t117] rfl (by (try simp only [List.map_toArray, List.map_cons, List.map_nil]); first | done | rfl | (simp only [List.length_drop, List.length_take]; rfl)) ?_; (with_reducible refine (impl_ScriptTells.calls t117 t121 t122 _ A8.out).mono ?_); rintro e w73 ⟨rfl, hb⟩; refine ⟨_, rfl, ?_⟩; have n0_ := Aside0.mk (below_step (by repeat (first | (with_reducible first | exact HB.out | apply below_alloc | apply pw_below_drewN | apply below_drew1) | exact HB.out)) hb); clear HB; have HB := n0_; clear n0_; (try clear hb); (try clear hb2); (try clear hk); (try clear hi)) | ((with_reducible refine gate_callee (f := 25) rfl ?_); refine goesL_ (some 48) rfl rfl Try.func25 (by kernel_rfl) rfl #[.int .u32 t119] rfl (by (try simp only [List.map_toArray, List.map_cons, List.map_nil]); first | done | rfl | (simp only [List.length_drop, List.length_take]; rfl)) ?_; (with_reducible refine (impl_ScriptTells.calls t119 t123 t124 _ A9.out).mono ?_); rintro e w74 ⟨rfl, hb⟩; refine ⟨_, rfl, ?_⟩; have n0_ := Aside0.mk (below_step (by repeat (first | (with_reducible first | exact HB.out | apply below_alloc | apply pw_below_drewN | apply below_drew1) | exact HB.out)) hb); clear HB; have HB := n0_; clear n0_; (try clear hb); (try clear hb2); (try clear hk); (try clear hi)))
          go_ret
          exact ⟨by first | rfl | (simp [errW_none, errW_some] <;> rfl) | (simp [*, errW_none, errW_some] <;> rfl), by repeat (first | (with_reducible first | exact HB.out | apply below_alloc | apply pw_below_drewN | apply below_drew1) | exact HB.out)⟩
      · rw [if_neg c12] at H
        have c12b0 : (t115 == t111) = false := beq_eq_false_iff_ne.mpr c12
        have c12b1 : (t115 != t111) = true := bne_iff_ne.mpr c12
        obtain rfl := Option.some.inj H
        go_enter Try.func9, Try.ntmps9
        go_wp2_with (first | ((with_reducible refine gate_callee (f := 18) rfl ?_); refine goesL_ (some 19) rfl rfl Try.func18 (by kernel_rfl) rfl #[.int .u32 a0] rfl (by (try simp only [List.map_toArray, List.map_cons, List.map_nil]); first | done | rfl | (simp only [List.length_drop, List.length_take]; rfl)) ?_; (with_reducible refine (laws_four.calls k a0 t110 _ A2.out).mono ?_); rintro e w75 ⟨rfl, hb⟩; refine ⟨_, rfl, ?_⟩; have n0_ := Aside0.mk (below_step (by repeat (first | (with_reducible first | exact HB.out | apply below_alloc | apply pw_below_drewN | apply below_drew1) | exact HB.out)) hb); clear HB; have HB := n0_; clear n0_; (try clear hb); (try clear hb2); (try clear hk); (try clear hi)) | ((with_reducible refine gate_callee (f := 19) rfl ?_); refine goesL_ (some 20) rfl rfl Try.func19 (by kernel_rfl) rfl #[.string t110] rfl (by (try simp only [List.map_toArray, List.map_cons, List.map_nil]); first | done | rfl | (simp only [List.length_drop, List.length_take]; rfl)) ?_; (with_reducible refine (impl_ScriptParse.calls t110 t111 true _ A3.out).mono ?_); rintro e w76 ⟨rfl, hb⟩; refine ⟨_, rfl, ?_⟩; have n0_ := Aside0.mk (below_step (by repeat (first | (with_reducible first | exact HB.out | apply below_alloc | apply pw_below_drewN | apply below_drew1) | exact HB.out)) hb); clear HB; have HB := n0_; clear n0_; (try clear hb); (try clear hb2); (try clear hk); (try clear hi)) | ((with_reducible refine gate_callee (f := 25) rfl ?_); refine goesL_ (some 25) rfl rfl Try.func25 (by kernel_rfl) rfl #[.int .u32 t111] rfl (by (try simp only [List.map_toArray, List.map_cons, List.map_nil]); first | done | rfl | (simp only [List.length_drop, List.length_take]; rfl)) ?_; (with_reducible refine (impl_ScriptTells.calls t111 t113 t114 _ A4.out).mono ?_); rintro e w77 ⟨rfl, hb⟩; refine ⟨_, rfl, ?_⟩; have n0_ := Aside0.mk (below_step (by repeat (first | (with_reducible first | exact HB.out | apply below_alloc | apply pw_below_drewN | apply below_drew1) | exact HB.out)) hb); clear HB; have HB := n0_; clear n0_; (try clear hb); (try clear hb2); (try clear hk); (try clear hi)) | ((with_reducible refine gate_callee (f := 19) rfl ?_); refine goesL_ (some 30) rfl rfl Try.func19 (by kernel_rfl) rfl #[.string t113] rfl (by (try simp only [List.map_toArray, List.map_cons, List.map_nil]); first | done | rfl | (simp only [List.length_drop, List.length_take]; rfl)) ?_; (with_reducible refine (impl_ScriptParse.calls t113 t115 true _ A5.out).mono ?_); rintro e w78 ⟨rfl, hb⟩; refine ⟨_, rfl, ?_⟩; have n0_ := Aside0.mk (below_step (by repeat (first | (with_reducible first | exact HB.out | apply below_alloc | apply pw_below_drewN | apply below_drew1) | exact HB.out)) hb); clear HB; have HB := n0_; clear n0_; (try clear hb); (try clear hb2); (try clear hk); (try clear hi)) | ((with_reducible refine gate_callee (f := 19) rfl ?_); refine goesL_ (some 34) rfl rfl Try.func19 (by kernel_rfl) rfl #[.string (⟨#[90, 121, 121, 121]⟩ : ByteArray)] rfl (by (try simp only [List.map_toArray, List.map_cons, List.map_nil]); first | done | rfl | (simp only [List.length_drop, List.length_take]; rfl)) ?_; (with_reducible refine (impl_ScriptParse.calls (⟨#[90, 121, 121, 121]⟩ : ByteArray) t117 t118 _ A6.out).mono ?_); rintro e w79 ⟨rfl, hb⟩; refine ⟨_, rfl, ?_⟩; have n0_ := Aside0.mk (below_step (by repeat (first | (with_reducible first | exact HB.out | apply below_alloc | apply pw_below_drewN | apply below_drew1) | exact HB.out)) hb); clear HB; have HB := n0_; clear n0_; (try clear hb); (try clear hb2); (try clear hk); (try clear hi)) | ((with_reducible refine gate_callee (f := 19) rfl ?_); refine goesL_ (some 38) rfl rfl Try.func19 (by kernel_rfl) rfl #[.string (⟨#[90, 105, 110, 104]⟩ : ByteArray)] rfl (by (try simp only [List.map_toArray, List.map_cons, List.map_nil]); first | done | rfl | (simp only [List.length_drop, List.length_take]; rfl)) ?_; (with_reducible refine (impl_ScriptParse.calls (⟨#[90, 105, 110, 104]⟩ : ByteArray) t119 t120 _ A7.out).mono ?_); rintro e w80 ⟨rfl, hb⟩; refine ⟨_, rfl, ?_⟩; have n0_ := Aside0.mk (below_step (by repeat (first | (with_reducible first | exact HB.out | apply below_alloc | apply pw_below_drewN | apply below_drew1) | exact HB.out)) hb); clear HB; have HB := n0_; clear n0_; (try clear hb); (try clear hb2); (try clear hk); (try clear hi)) | ((with_reducible refine gate_callee (f := 25) rfl ?_); refine goesL_ (some 43) rfl rfl Try.func25 (by kernel_rfl) rfl #[.int .u32 t117] rfl (by (try simp only [List.map_toArray, List.map_cons, List.map_nil]); first | done | rfl | (simp only [List.length_drop, List.length_take]; rfl)) ?_; (with_reducible refine (impl_ScriptTells.calls t117 t121 t122 _ A8.out).mono ?_); rintro e w81 ⟨rfl, hb⟩; refine ⟨_, rfl, ?_⟩; have n0_ := Aside0.mk (below_step (by repeat (first | (with_reducible first | exact HB.out | apply below_alloc | apply pw_below_drewN | apply below_drew1) | exact HB.out)) hb); clear HB; have HB := n0_; clear n0_; (try clear hb); (try clear hb2); (try clear hk); (try clear hi)) | ((with_reducible refine gate_callee (f := 25) rfl ?_); refine goesL_ (some 48) rfl rfl Try.func25 (by kernel_rfl) rfl #[.int .u32 t119] rfl (by (try simp only [List.map_toArray, List.map_cons, List.map_nil]); first | done | rfl | (simp only [List.length_drop, List.length_take]; rfl)) ?_; (with_reducible refine (impl_ScriptTells.calls t119 t123 t124 _ A9.out).mono ?_); rintro e w82 ⟨rfl, hb⟩; refine ⟨_, rfl, ?_⟩; have n0_ := Aside0.mk (below_step (by repeat (first | (with_reducible first | exact HB.out | apply below_alloc | apply pw_below_drewN | apply below_drew1) | exact HB.out)) hb); clear HB; have HB := n0_; clear n0_; (try clear hb); (try clear hb2); (try clear hk); (try clear hi)))
        go_ret
        exact ⟨by first | rfl | (simp [errW_none, errW_some] <;> rfl) | (simp [*, errW_none, errW_some] <;> rfl), by repeat (first | (with_reducible first | exact HB.out | apply below_alloc | apply pw_below_drewN | apply below_drew1) | exact HB.out)⟩
    · replace c11 := Bool.eq_false_iff.mpr c11
      subst c11
      have H1 : (some false) = some r := by rw [if_neg (show ¬ (false = true) by decide)] at H; exact H
      clear H
      have H := H1
      clear H1
      obtain rfl := Option.some.inj H
      go_enter Try.func9, Try.ntmps9
      go_wp2_with (first | ((with_reducible refine gate_callee (f := 18) rfl ?_); refine goesL_ (some 19) rfl rfl Try.func18 (by kernel_rfl) rfl #[.int .u32 a0] rfl (by (try simp only [List.map_toArray, List.map_cons, List.map_nil]); first | done | rfl | (simp only [List.length_drop, List.length_take]; rfl)) ?_; (with_reducible refine (laws_four.calls k a0 t110 _ A2.out).mono ?_); rintro e w83 ⟨rfl, hb⟩; refine ⟨_, rfl, ?_⟩; have n0_ := Aside0.mk (below_step (by repeat (first | (with_reducible first | exact HB.out | apply below_alloc | apply pw_below_drewN | apply below_drew1) | exact HB.out)) hb); clear HB; have HB := n0_; clear n0_; (try clear hb); (try clear hb2); (try clear hk); (try clear hi)) | ((with_reducible refine gate_callee (f := 19) rfl ?_); refine goesL_ (some 20) rfl rfl Try.func19 (by kernel_rfl) rfl #[.string t110] rfl (by (try simp only [List.map_toArray, List.map_cons, List.map_nil]); first | done | rfl | (simp only [List.length_drop, List.length_take]; rfl)) ?_; (with_reducible refine (impl_ScriptParse.calls t110 t111 true _ A3.out).mono ?_); rintro e w84 ⟨rfl, hb⟩; refine ⟨_, rfl, ?_⟩; have n0_ := Aside0.mk (below_step (by repeat (first | (with_reducible first | exact HB.out | apply below_alloc | apply pw_below_drewN | apply below_drew1) | exact HB.out)) hb); clear HB; have HB := n0_; clear n0_; (try clear hb); (try clear hb2); (try clear hk); (try clear hi)) | ((with_reducible refine gate_callee (f := 25) rfl ?_); refine goesL_ (some 25) rfl rfl Try.func25 (by kernel_rfl) rfl #[.int .u32 t111] rfl (by (try simp only [List.map_toArray, List.map_cons, List.map_nil]); first | done | rfl | (simp only [List.length_drop, List.length_take]; rfl)) ?_; (with_reducible refine (impl_ScriptTells.calls t111 t113 t114 _ A4.out).mono ?_); rintro e w85 ⟨rfl, hb⟩; refine ⟨_, rfl, ?_⟩; have n0_ := Aside0.mk (below_step (by repeat (first | (with_reducible first | exact HB.out | apply below_alloc | apply pw_below_drewN | apply below_drew1) | exact HB.out)) hb); clear HB; have HB := n0_; clear n0_; (try clear hb); (try clear hb2); (try clear hk); (try clear hi)) | ((with_reducible refine gate_callee (f := 19) rfl ?_); refine goesL_ (some 30) rfl rfl Try.func19 (by kernel_rfl) rfl #[.string t113] rfl (by (try simp only [List.map_toArray, List.map_cons, List.map_nil]); first | done | rfl | (simp only [List.length_drop, List.length_take]; rfl)) ?_; (with_reducible refine (impl_ScriptParse.calls t113 t115 false _ A5.out).mono ?_); rintro e w86 ⟨rfl, hb⟩; refine ⟨_, rfl, ?_⟩; have n0_ := Aside0.mk (below_step (by repeat (first | (with_reducible first | exact HB.out | apply below_alloc | apply pw_below_drewN | apply below_drew1) | exact HB.out)) hb); clear HB; have HB := n0_; clear n0_; (try clear hb); (try clear hb2); (try clear hk); (try clear hi)) | ((with_reducible refine gate_callee (f := 19) rfl ?_); refine goesL_ (some 34) rfl rfl Try.func19 (by kernel_rfl) rfl #[.string (⟨#[90, 121, 121, 121]⟩ : ByteArray)] rfl (by (try simp only [List.map_toArray, List.map_cons, List.map_nil]); first | done | rfl | (simp only [List.length_drop, List.length_take]; rfl)) ?_; (with_reducible refine (impl_ScriptParse.calls (⟨#[90, 121, 121, 121]⟩ : ByteArray) t117 t118 _ A6.out).mono ?_); rintro e w87 ⟨rfl, hb⟩; refine ⟨_, rfl, ?_⟩; have n0_ := Aside0.mk (below_step (by repeat (first | (with_reducible first | exact HB.out | apply below_alloc | apply pw_below_drewN | apply below_drew1) | exact HB.out)) hb); clear HB; have HB := n0_; clear n0_; (try clear hb); (try clear hb2); (try clear hk); (try clear hi)) | ((with_reducible refine gate_callee (f := 19) rfl ?_); refine goesL_ (some 38) rfl rfl Try.func19 (by kernel_rfl) rfl #[.string (⟨#[90, 105, 110, 104]⟩ : ByteArray)] rfl (by (try simp only [List.map_toArray, List.map_cons, List.map_nil]); first | done | rfl | (simp only [List.length_drop, List.length_take]; rfl)) ?_; (with_reducible refine (impl_ScriptParse.calls (⟨#[90, 105, 110, 104]⟩ : ByteArray) t119 t120 _ A7.out).mono ?_); rintro e w88 ⟨rfl, hb⟩; refine ⟨_, rfl, ?_⟩; have n0_ := Aside0.mk (below_step (by repeat (first | (with_reducible first | exact HB.out | apply below_alloc | apply pw_below_drewN | apply below_drew1) | exact HB.out)) hb); clear HB; have HB := n0_; clear n0_; (try clear hb); (try clear hb2); (try clear hk); (try clear hi)) | ((with_reducible refine gate_callee (f := 25) rfl ?_); refine goesL_ (some 43) rfl rfl Try.func25 (by kernel_rfl) rfl #[.int .u32 t117] rfl (by (try simp only [List.map_toArray, List.map_cons, List.map_nil]); first | done | rfl | (simp only [List.length_drop, List.length_take]; rfl)) ?_; (with_reducible refine (impl_ScriptTells.calls t117 t121 t122 _ A8.out).mono ?_); rintro e w89 ⟨rfl, hb⟩; refine ⟨_, rfl, ?_⟩; have n0_ := Aside0.mk (below_step (by repeat (first | (with_reducible first | exact HB.out | apply below_alloc | apply pw_below_drewN | apply below_drew1) | exact HB.out)) hb); clear HB; have HB := n0_; clear n0_; (try clear hb); (try clear hb2); (try clear hk); (try clear hi)) | ((with_reducible refine gate_callee (f := 25) rfl ?_); refine goesL_ (some 48) rfl rfl Try.func25 (by kernel_rfl) rfl #[.int .u32 t119] rfl (by (try simp only [List.map_toArray, List.map_cons, List.map_nil]); first | done | rfl | (simp only [List.length_drop, List.length_take]; rfl)) ?_; (with_reducible refine (impl_ScriptTells.calls t119 t123 t124 _ A9.out).mono ?_); rintro e w90 ⟨rfl, hb⟩; refine ⟨_, rfl, ?_⟩; have n0_ := Aside0.mk (below_step (by repeat (first | (with_reducible first | exact HB.out | apply below_alloc | apply pw_below_drewN | apply below_drew1) | exact HB.out)) hb); clear HB; have HB := n0_; clear n0_; (try clear hb); (try clear hb2); (try clear hk); (try clear hi)))
      go_ret
      exact ⟨by first | rfl | (simp [errW_none, errW_some] <;> rfl) | (simp [*, errW_none, errW_some] <;> rfl), by repeat (first | (with_reducible first | exact HB.out | apply below_alloc | apply pw_below_drewN | apply below_drew1) | exact HB.out)⟩
  · replace c10 := Bool.eq_false_iff.mpr c10
    subst c10
    have H1 : (some false) = some r := by rw [if_neg (show ¬ (false = true) by decide)] at H; exact H
    clear H
    have H := H1
    clear H1
    obtain rfl := Option.some.inj H
    go_enter Try.func9, Try.ntmps9
    go_wp2_with (first | ((with_reducible refine gate_callee (f := 18) rfl ?_); refine goesL_ (some 19) rfl rfl Try.func18 (by kernel_rfl) rfl #[.int .u32 a0] rfl (by (try simp only [List.map_toArray, List.map_cons, List.map_nil]); first | done | rfl | (simp only [List.length_drop, List.length_take]; rfl)) ?_; (with_reducible refine (laws_four.calls k a0 t110 _ A2.out).mono ?_); rintro e w91 ⟨rfl, hb⟩; refine ⟨_, rfl, ?_⟩; have n0_ := Aside0.mk (below_step (by repeat (first | (with_reducible first | exact HB.out | apply below_alloc | apply pw_below_drewN | apply below_drew1) | exact HB.out)) hb); clear HB; have HB := n0_; clear n0_; (try clear hb); (try clear hb2); (try clear hk); (try clear hi)) | ((with_reducible refine gate_callee (f := 19) rfl ?_); refine goesL_ (some 20) rfl rfl Try.func19 (by kernel_rfl) rfl #[.string t110] rfl (by (try simp only [List.map_toArray, List.map_cons, List.map_nil]); first | done | rfl | (simp only [List.length_drop, List.length_take]; rfl)) ?_; (with_reducible refine (impl_ScriptParse.calls t110 t111 false _ A3.out).mono ?_); rintro e w92 ⟨rfl, hb⟩; refine ⟨_, rfl, ?_⟩; have n0_ := Aside0.mk (below_step (by repeat (first | (with_reducible first | exact HB.out | apply below_alloc | apply pw_below_drewN | apply below_drew1) | exact HB.out)) hb); clear HB; have HB := n0_; clear n0_; (try clear hb); (try clear hb2); (try clear hk); (try clear hi)) | ((with_reducible refine gate_callee (f := 25) rfl ?_); refine goesL_ (some 25) rfl rfl Try.func25 (by kernel_rfl) rfl #[.int .u32 t111] rfl (by (try simp only [List.map_toArray, List.map_cons, List.map_nil]); first | done | rfl | (simp only [List.length_drop, List.length_take]; rfl)) ?_; (with_reducible refine (impl_ScriptTells.calls t111 t113 t114 _ A4.out).mono ?_); rintro e w93 ⟨rfl, hb⟩; refine ⟨_, rfl, ?_⟩; have n0_ := Aside0.mk (below_step (by repeat (first | (with_reducible first | exact HB.out | apply below_alloc | apply pw_below_drewN | apply below_drew1) | exact HB.out)) hb); clear HB; have HB := n0_; clear n0_; (try clear hb); (try clear hb2); (try clear hk); (try clear hi)) | ((with_reducible refine gate_callee (f := 19) rfl ?_); refine goesL_ (some 30) rfl rfl Try.func19 (by kernel_rfl) rfl #[.string t113] rfl (by (try simp only [List.map_toArray, List.map_cons, List.map_nil]); first | done | rfl | (simp only [List.length_drop, List.length_take]; rfl)) ?_; (with_reducible refine (impl_ScriptParse.calls t113 t115 t116 _ A5.out).mono ?_); rintro e w94 ⟨rfl, hb⟩; refine ⟨_, rfl, ?_⟩; have n0_ := Aside0.mk (below_step (by repeat (first | (with_reducible first | exact HB.out | apply below_alloc | apply pw_below_drewN | apply below_drew1) | exact HB.out)) hb); clear HB; have HB := n0_; clear n0_; (try clear hb); (try clear hb2); (try clear hk); (try clear hi)) | ((with_reducible refine gate_callee (f := 19) rfl ?_); refine goesL_ (some 34) rfl rfl Try.func19 (by kernel_rfl) rfl #[.string (⟨#[90, 121, 121, 121]⟩ : ByteArray)] rfl (by (try simp only [List.map_toArray, List.map_cons, List.map_nil]); first | done | rfl | (simp only [List.length_drop, List.length_take]; rfl)) ?_; (with_reducible refine (impl_ScriptParse.calls (⟨#[90, 121, 121, 121]⟩ : ByteArray) t117 t118 _ A6.out).mono ?_); rintro e w95 ⟨rfl, hb⟩; refine ⟨_, rfl, ?_⟩; have n0_ := Aside0.mk (below_step (by repeat (first | (with_reducible first | exact HB.out | apply below_alloc | apply pw_below_drewN | apply below_drew1) | exact HB.out)) hb); clear HB; have HB := n0_; clear n0_; (try clear hb); (try clear hb2); (try clear hk); (try clear hi)) | ((with_reducible refine gate_callee (f := 19) rfl ?_); refine goesL_ (some 38) rfl rfl Try.func19 (by kernel_rfl) rfl #[.string (⟨#[90, 105, 110, 104]⟩ : ByteArray)] rfl (by (try simp only [List.map_toArray, List.map_cons, List.map_nil]); first | done | rfl | (simp only [List.length_drop, List.length_take]; rfl)) ?_; (with_reducible refine (impl_ScriptParse.calls (⟨#[90, 105, 110, 104]⟩ : ByteArray) t119 t120 _ A7.out).mono ?_); rintro e w96 ⟨rfl, hb⟩; refine ⟨_, rfl, ?_⟩; have n0_ := Aside0.mk (below_step (by repeat (first | (with_reducible first | exact HB.out | apply below_alloc | apply pw_below_drewN | apply below_drew1) | exact HB.out)) hb); clear HB; have HB := n0_; clear n0_; (try clear hb); (try clear hb2); (try clear hk); (try clear hi)) | ((with_reducible refine gate_callee (f := 25) rfl ?_); refine goesL_ (some 43) rfl rfl Try.func25 (by kernel_rfl) rfl #[.int .u32 t117] rfl (by (try simp only [List.map_toArray, List.map_cons, List.map_nil]); first | done | rfl | (simp only [List.length_drop, List.length_take]; rfl)) ?_; (with_reducible refine (impl_ScriptTells.calls t117 t121 t122 _ A8.out).mono ?_); rintro e w97 ⟨rfl, hb⟩; refine ⟨_, rfl, ?_⟩; have n0_ := Aside0.mk (below_step (by repeat (first | (with_reducible first | exact HB.out | apply below_alloc | apply pw_below_drewN | apply below_drew1) | exact HB.out)) hb); clear HB; have HB := n0_; clear n0_; (try clear hb); (try clear hb2); (try clear hk); (try clear hi)) | ((with_reducible refine gate_callee (f := 25) rfl ?_); refine goesL_ (some 48) rfl rfl Try.func25 (by kernel_rfl) rfl #[.int .u32 t119] rfl (by (try simp only [List.map_toArray, List.map_cons, List.map_nil]); first | done | rfl | (simp only [List.length_drop, List.length_take]; rfl)) ?_; (with_reducible refine (impl_ScriptTells.calls t119 t123 t124 _ A9.out).mono ?_); rintro e w98 ⟨rfl, hb⟩; refine ⟨_, rfl, ?_⟩; have n0_ := Aside0.mk (below_step (by repeat (first | (with_reducible first | exact HB.out | apply below_alloc | apply pw_below_drewN | apply below_drew1) | exact HB.out)) hb); clear HB; have HB := n0_; clear n0_; (try clear hb); (try clear hb2); (try clear hk); (try clear hi)))
    go_ret
    exact ⟨by first | rfl | (simp [errW_none, errW_some] <;> rfl) | (simp [*, errW_none, errW_some] <;> rfl), by repeat (first | (with_reducible first | exact HB.out | apply below_alloc | apply pw_below_drewN | apply below_drew1) | exact HB.out)⟩

/-- THE ONE PURE STATEMENT of laws_FnScriptTells: yours. -/
def laws_FnScriptTells.Pure : Prop := ∀ (a0 : Int), (Lit.int .u32 a0).wf = true → ∃ k, laws_FnScriptTells.f k a0 = some true
theorem laws_FnScriptTells.walk (P : laws_FnScriptTells.Pure) (a0 : Int) (w : World) (w0 : (Lit.int .u32 a0).wf = true) :
    Calls Try.prog 9 #[.int .u32 a0] w fun e w' => e = .returned (.bool true) ∧ Below w.heap.size w w' := by
  obtain ⟨k, h⟩ := P a0 w0
  refine (laws_FnScriptTells.calls k a0 true w h).mono ?_
  rintro e w' ⟨rfl, hd⟩
  exact ⟨rfl, hd⟩

end Go.Proofs.Ytkfphiccfnfkdaa.PFnScriptTells
