-- Written by a program of this session (xprint) out of the translation; Lean checks it.
import Derived.Test.YtkfphiccfnfkdaaPFnScriptParsex0
namespace Go.Proofs.Ytkfphiccfnfkdaa.PFnScriptParse
open Go.RowKit Go.Proofs.YtkfphiccfnfkdaaW.PrintWords Go.Proofs.YtkfphiccfnfkdaaW.PrintLast Go.Proofs.YtkfphiccfnfkdaaW.PrintMore
attribute [local go_sem] max2_int min2_int max_two min_two max_three min_three max_four min_four   -- for this text's walks alone
set_option linter.unusedVariables false
set_option linter.unusedSimpArgs false

/-! ### laws_four: function 18 -/
def laws_four.l0 : Nat → Int → List Int → Int → Int → Option (ByteArray)
  | 0, _, _, _, _ => none
  | k + 1, x0, x3, x7, x8 => if x8 < x7 then (if 0 ≤ x8 then (if x8 < (x3.length : Int) then ((some (x3.set (x8 : Int).toNat (((97 + (Int.tmod x0 26)) % 4294967296) % 256) : List Int)).bind fun y104 => (if (((Int.tdiv x0 26) % 4294967296) % 2) = 1 then (laws_four.l0 k ((Int.tdiv x0 52) % 4294967296) (y104.set (x8 : Int).toNat (((rd y104 x8) - 32) % 256)) x7 (wrap64 (x8 + 1))) else (laws_four.l0 k ((Int.tdiv x0 52) % 4294967296) y104 x7 (wrap64 (x8 + 1))))) else (none)) else (none)) else (some (strOfNums x3))
def laws_four.f (k : Nat) (a0 : Int) : Option (ByteArray) := if 4 ≤ 281474976710656 then ((some (List.replicate 4 0 : List Int)).bind fun y101 => (laws_four.l0 k a0 y101 (y101.length : Int) 0)) else (none)
theorem laws_four.mono_l : ∀ k, (∀ y0 y1 y2 y3, LeO (laws_four.l0 k y0 y1 y2 y3) (laws_four.l0 (k + 1) y0 y1 y2 y3))
  | 0 => fun _ _ _ _ r h => by simp [laws_four.l0] at h
  | k + 1 => by
    have ih0 := laws_four.mono_l k
    · intro y0 y1 y2 y3
      unfold laws_four.l0
      repeat' first
      | (with_reducible exact ih0 _ _ _ _)
      | (with_reducible exact LeO.refl _)
      | (with_reducible exact LeO.none _)
      | (with_reducible refine LeO.ite ?_ ?_)
      | (with_reducible refine LeO.bind ?_ (fun _ => ?_))
      | exact ih0 _ _ _ _
      | exact LeO.none _
      | refine LeO.ite ?_ ?_
      | refine LeO.bind ?_ (fun _ => ?_)
theorem laws_four.mono : ∀ a0 k, LeO (laws_four.f k a0) (laws_four.f (k + 1) a0) := by
  intro a0 k
  have ih0 := laws_four.mono_l k
  unfold laws_four.f
  repeat' first
      | (with_reducible exact ih0 _ _ _ _)
      | (with_reducible exact LeO.refl _)
      | (with_reducible exact LeO.none _)
      | (with_reducible refine LeO.ite ?_ ?_)
      | (with_reducible refine LeO.bind ?_ (fun _ => ?_))
      | exact ih0 _ _ _ _
      | exact LeO.none _
      | refine LeO.ite ?_ ?_
      | refine LeO.bind ?_ (fun _ => ?_)
set_option maxHeartbeats 8000000 in
set_option maxRecDepth 100000 in
theorem laws_four.calls (k : Nat) (a0 : Int) (r : ByteArray) (w : World) (h : laws_four.f k a0 = some r) :
    Calls Try.prog 18 #[.int .u32 a0] w fun e w' => e = .returned (.string r) ∧ Below w.heap.size w w' := by
  have HB := Aside0.mk (Below.refl w.heap.size w)
  have H : (if 4 ≤ 281474976710656 then ((some (List.replicate 4 0 : List Int)).bind fun y101 => (laws_four.l0 k a0 y101 (y101.length : Int) 0)) else (none)) = some r := h
  clear h
  by_cases c2 : 4 ≤ 281474976710656
  · rw [if_pos c2] at H
    have c2b0 := eq_true c2
    have c2b1 : decide (4 ≤ 281474976710656) = true := decide_eq_true c2
    clear c2
    obtain ⟨y101, hy101⟩ : ∃ y_ : List Int, y_ = (List.replicate 4 0) := ⟨_, rfl⟩
    replace H : (laws_four.l0 k a0 y101 (y101.length : Int) 0) = some r := by first | (rw [hy101]; with_reducible exact H) | (have H2_ := (Option.bind_some _ _).symm.trans H; rw [hy101]; with_reducible exact H2_) | (have H2_ := (Option.bind_some _ _).symm.trans H; with_reducible exact H2_) | with_reducible exact H | (rw [hy101]; exact H) | exact H
    have Ny101 := Aside0.mk hy101
    clear hy101
    have H' := Aside0.mk H
    clear H
    go_enter Try.func18, Try.ntmps18
    go_wp2_with (first | ((with_reducible refine gate_dst (N := 5) rfl ?_); refine Kd.R_make (Kd.int .u8) _ 5 rfl (N := 5) rfl 47 _ _ rfl 4 rfl rfl Try.underlying47 (.int .u8 0) 1 info5 rfl (by decide) (by omega) 0 (ok := fun _ => True) (okp := fun _ => True) rfl (fun _ hk => hk) trivial (by omega) (by omega) (Below.refl _ _) (Nat.le_refl _) ?_; intro v102 w3 ho4 hb hg_ hnew_; clear hg_ hnew_; (first | rw [← Ny101.out] at ho4 | (simp only [Int.reduceToNat] at ho4; rw [← Ny101.out] at ho4)); have n0_ := Aside0.mk (Kd.R_lower ho4 (below_size (by repeat (first | (with_reducible first | exact HB.out | apply below_alloc | apply pw_below_drewN | apply below_drew1) | exact HB.out)))); have n1_ := Aside0.mk (below_step (by repeat (first | (with_reducible first | exact HB.out | apply below_alloc | apply pw_below_drewN | apply below_drew1) | exact HB.out)) hb); clear HB; have HO103 := n0_; have HB := n1_; clear n0_ n1_; clear hb ho4; obtain ⟨Ao5, co5, eo5⟩ := Kd.R_slice HO103.out; subst eo5))
    go_loopg [0, 8] k (fun kq v0 v8 w' => ∃ (x0_1 : Int) (x3_1 : List Int) (x8_1 : Int), v0 = .int .u32 x0_1 ∧ v8 = .int .i64 x8_1 ∧ Aside0 (laws_four.l0 kq x0_1 x3_1 (y101.length : Int) x8_1 = some r) ∧ Aside0 (kq ≤ k) ∧ Aside0 (Kd.R (Kd.int .u8) 5 w' w.heap.size (fun _ => True) (.slice Ao5 y101.length co5) x3_1) ∧ Aside0 (Below w.heap.size w w'))
    case atStart => exact ⟨(a0), (y101), (0), (by first | rfl | (simp; done) | (simp [*]; done)), (by first | rfl | (simp; done) | (simp [*]; done)), H', ⟨Nat.le_refl _⟩, ⟨by (with_reducible repeat (first | apply Kd.R_alloc | apply Kd.R_drewN | apply Kd.R_drew)); exact HO103.out⟩, ⟨by repeat (first | (with_reducible first | exact HB.out | apply below_alloc | apply pw_below_drewN | apply below_drew1) | exact HB.out)⟩⟩
    case round =>
      clear H'
      try clear c1
      try clear c2
      try clear c2b0
      try clear c2b1
      try clear p2
      obtain ⟨x0_1, x3_1, x8_1, rfl, rfl, HA, HK1, HO_3, HB⟩ := hrel
      have hl3_1 := (Kd.R_reads' HO_3.out).1
      rw [hl3_1] at HO_3
      (try simp only [hl3_1])
      cases gk with
      | zero => exact absurd HA.out (by simp [laws_four.l0])
      | succ k1 =>
        have H := HA.out
        clear HA
        simp only [laws_four.l0] at H
        by_cases c6 : x8_1 < (y101.length : Int)
        · rw [if_pos c6] at H
          have c6b0 : decide (x8_1 < (y101.length : Int)) = true := decide_eq_true c6
          (try simp only [hl3_1] at c6b0)
          clear c6
          by_cases c7 : 0 ≤ x8_1
          · rw [if_pos c7] at H
            have c7b0 : decide (0 ≤ x8_1) = true := decide_eq_true c7
            clear c7
            by_cases c8 : x8_1 < (x3_1.length : Int)
            · rw [if_pos c8] at H
              have c8b0 : decide (x8_1 < (x3_1.length : Int)) = true := decide_eq_true c8
              (try simp only [hl3_1] at c8b0)
              clear c8
              obtain ⟨y104, hy104⟩ : ∃ y_ : List Int, y_ = (x3_1.set (x8_1 : Int).toNat (((97 + (Int.tmod x0_1 26)) % 4294967296) % 256)) := ⟨_, rfl⟩
              replace H : (if (((Int.tdiv x0_1 26) % 4294967296) % 2) = 1 then (laws_four.l0 k1 ((Int.tdiv x0_1 52) % 4294967296) (y104.set (x8_1 : Int).toNat (((rd y104 x8_1) - 32) % 256)) (y101.length : Int) (wrap64 (x8_1 + 1))) else (laws_four.l0 k1 ((Int.tdiv x0_1 52) % 4294967296) y104 (y101.length : Int) (wrap64 (x8_1 + 1)))) = some r := by first | (rw [hy104]; with_reducible exact H) | (have H2_ := (Option.bind_some _ _).symm.trans H; rw [hy104]; with_reducible exact H2_) | (have H2_ := (Option.bind_some _ _).symm.trans H; with_reducible exact H2_) | with_reducible exact H | (rw [hy104]; exact H) | exact H
              have Ny104 := Aside0.mk hy104
              clear hy104
              by_cases c10 : (((Int.tdiv x0_1 26) % 4294967296) % 2) = 1
              · rw [if_pos c10] at H
                have c10b0 : ((((Int.tdiv x0_1 26) % 4294967296) % 2) == 1) = true := beq_iff_eq.mpr c10
                have c10b1 : ((((Int.tdiv x0_1 26) % 4294967296) % 2) != 1) = false := bne_eq_false_iff_eq.mpr c10
                clear c10
                obtain ⟨y106, hy106⟩ : ∃ y_ : List Int, y_ = (y104.set (x8_1 : Int).toNat (((rd y104 x8_1) - 32) % 256)) := ⟨_, rfl⟩
                replace H : (laws_four.l0 k1 ((Int.tdiv x0_1 52) % 4294967296) y106 (y101.length : Int) (wrap64 (x8_1 + 1))) = some r := by first | (rw [hy106]; with_reducible exact H) | (have H2_ := (Option.bind_some _ _).symm.trans H; rw [hy106]; with_reducible exact H2_) | (have H2_ := (Option.bind_some _ _).symm.trans H; with_reducible exact H2_) | with_reducible exact H | (rw [hy106]; exact H) | exact H
                have Ny106 := Aside0.mk hy106
                clear hy106
                have H' := Aside0.mk H
                clear H
                have p9 : 0 ≤ (x8_1 : Int) := of_decide_eq_true (by first | (with_reducible assumption) | assumption)
                have q9 : (x8_1 : Int) < ((x3_1.length : Int) : Int) := of_decide_eq_true (by first | (with_reducible assumption) | assumption)
                obtain ⟨go9, co9, eo9, gb9, gl9, cl9, HG9⟩ := Kd.R_form HO_3.out (by omega)
                (first | cases eo9 | (injection eo9 with ea_ en_ ec_; (first | subst ea_ | (injection ea_ with ea_; subst ea_)); subst ec_; clear en_))
                have GB9 := Aside0.mk gb9
                have GG9 := Aside0.mk HG9
                clear gb9 gl9 HG9
                obtain ⟨hx9_0, hf9_0⟩ := Kd.R_celln 0 HO_3.out (x8_1 : Int) p9 q9
                replace p9 := eq_true p9
                replace q9 := eq_true q9
                have HP12 := Kd.R_putg HO_3.out (x8_1 : Int) (((97 + (Int.tmod x0_1 26)) % 4294967296) % 256)
                go_wp2_with (first | ((with_reducible refine gate_store (t := 5) (p := 17) rfl ?_); refine store_event (t := 5) (p := 17) (v := ?vo_w13) (w1 := (wr.setCell ⟨go9, (x8_1 : Int).toNat, none⟩ (.int .u8 (((97 + (Int.tmod x0_1 26)) % 4294967296) % 256)))) ?hg ?ho ?hn ?hr ?_; (case ho => rfl); (case hg => rfl); (case hn => rfl); (case hr => first | (go_simp; done) | (go_simp; rfl)); intro w13 hw; have hg : wr.grownBy w13 (some go9) := (by rw [hw]; exact HP12.2); have hp_ : Kd.R (Kd.int .u8) 5 w13 w.heap.size (fun _ => True) (.slice (some ⟨go9, 0, none⟩) x3_1.length co5) y104 := (by rw [hw, Ny104.out]; exact HP12.1); clear HP12; have n0_ := Aside0.mk (hp_); have n1_ := Aside0.mk ((by rw [hw]; exact below_set (HB.out) GB9.out : Below w.heap.size w w13)); clear HO_3; clear HB; have HO_3 := n0_; have HB := n1_; clear n0_ n1_; clear hg hw hp_; have p105 : 0 ≤ (x8_1 : Int) := of_decide_eq_true (by first | (with_reducible assumption) | assumption); have q105 : x8_1 < (y104.length : Int) := (by have h_ : (x8_1 : Int) < ((x3_1.length : Int) : Int) := of_decide_eq_true (by first | (with_reducible assumption) | assumption); first | (have e_ := (Kd.R_reads' HO_3.out).1; omega) | simpa only [Ny104.out, List.length_set] using h_); have ql105 : ((x8_1 : Int) < ((x3_1.length : Int) : Int)) = True := eq_true (of_decide_eq_true (by first | (with_reducible assumption) | assumption)); obtain ⟨ad105, e105, hx105_0⟩ := Kd.at_int (Kd.R_reads' HO_3.out).2.2 x8_1 p105 q105; obtain rfl : (⟨go9, 0, none⟩ : Addr) = ad105 := (by injection e105); (first | simp only [add_plain] at hx105_0 | simp only [add_at] at hx105_0 | simp only [Addr.add, Nat.zero_add] at hx105_0 | skip); replace p105 := eq_true p105; replace q105 := eq_true q105; have p11 : 0 ≤ (x8_1 : Int) := of_decide_eq_true (by first | (with_reducible assumption) | assumption); have q11 : (x8_1 : Int) < ((x3_1.length : Int) : Int) := of_decide_eq_true (by first | (with_reducible assumption) | assumption); obtain ⟨hx11_0, hf11_0⟩ := Kd.R_celln 0 HO_3.out (x8_1 : Int) p11 q11; replace p11 := eq_true p11; replace q11 := eq_true q11; obtain ⟨hy14_, hz14_⟩ := Kd.R_celln 0 HO_3.out (x8_1 : Int) (of_decide_eq_true (by first | (with_reducible assumption) | assumption)) (of_decide_eq_true (by first | (with_reducible assumption) | assumption)); have HP14 := Kd.R_putg HO_3.out (x8_1 : Int) (((rd y104 x8_1) - 32) % 256)) | ((with_reducible refine gate_store (t := 5) (p := 27) rfl ?_); refine store_event (t := 5) (p := 27) (v := ?vo_w15) (w1 := (w13.setCell ⟨go9, (x8_1 : Int).toNat, none⟩ (.int .u8 (((rd y104 x8_1) - 32) % 256)))) ?hg ?ho ?hn ?hr ?_; (case ho => rfl); (case hg => rfl); (case hn => rfl); (case hr => first | (go_simp; done) | (go_simp; rfl)); intro w15 hw; have hg : w13.grownBy w15 (some go9) := (by rw [hw]; exact HP14.2); have hp_ : Kd.R (Kd.int .u8) 5 w15 w.heap.size (fun _ => True) (.slice (some ⟨go9, 0, none⟩) x3_1.length co5) y106 := (by rw [hw, Ny106.out]; exact HP14.1); clear HP14; have n0_ := Aside0.mk (hp_); have n1_ := Aside0.mk ((by rw [hw]; exact below_set (HB.out) GB9.out : Below w.heap.size w w15)); clear HO_3; clear HB; have HO_3 := n0_; have HB := n1_; clear n0_ n1_; clear hg hw hp_))
                (try simp only [← hl3_1])
                go_roundg k1
                case measure => have := HK1.out; omega
                case rel => exact ⟨((Int.tdiv x0_1 52) % 4294967296), (y106), (wrap64 (x8_1 + 1)), (by first | rfl | (simp; done) | (simp [*]; done)), (by first | rfl | (simp; done) | (simp [*]; done)), H', ⟨by have := HK1.out; omega⟩, ⟨by (try simp only [hl3_1]); (with_reducible repeat (first | apply Kd.R_alloc | apply Kd.R_drewN | apply Kd.R_drew)); exact HO_3.out⟩, ⟨by repeat (first | (with_reducible first | exact HB.out | apply below_alloc | apply pw_below_drewN | apply below_drew1) | exact HB.out)⟩⟩
              · rw [if_neg c10] at H
                have c10b0 : ((((Int.tdiv x0_1 26) % 4294967296) % 2) == 1) = false := beq_eq_false_iff_ne.mpr c10
                have c10b1 : ((((Int.tdiv x0_1 26) % 4294967296) % 2) != 1) = true := bne_iff_ne.mpr c10
                have H' := Aside0.mk H
                clear H
                have p9 : 0 ≤ (x8_1 : Int) := of_decide_eq_true (by first | (with_reducible assumption) | assumption)
                have q9 : (x8_1 : Int) < ((x3_1.length : Int) : Int) := of_decide_eq_true (by first | (with_reducible assumption) | assumption)
                obtain ⟨go9, co9, eo9, gb9, gl9, cl9, HG9⟩ := Kd.R_form HO_3.out (by omega)
                (first | cases eo9 | (injection eo9 with ea_ en_ ec_; (first | subst ea_ | (injection ea_ with ea_; subst ea_)); subst ec_; clear en_))
                have GB9 := Aside0.mk gb9
                have GG9 := Aside0.mk HG9
                clear gb9 gl9 HG9
                obtain ⟨hx9_0, hf9_0⟩ := Kd.R_celln 0 HO_3.out (x8_1 : Int) p9 q9
                replace p9 := eq_true p9
                replace q9 := eq_true q9
                have HP16 := Kd.R_putg HO_3.out (x8_1 : Int) (((97 + (Int.tmod x0_1 26)) % 4294967296) % 256)
                go_wp2_with (first | ((with_reducible refine gate_store (t := 5) (p := 17) rfl ?_); refine store_event (t := 5) (p := 17) (v := ?vo_w17) (w1 := (wr.setCell ⟨go9, (x8_1 : Int).toNat, none⟩ (.int .u8 (((97 + (Int.tmod x0_1 26)) % 4294967296) % 256)))) ?hg ?ho ?hn ?hr ?_; (case ho => rfl); (case hg => rfl); (case hn => rfl); (case hr => first | (go_simp; done) | (go_simp; rfl)); intro w17 hw; have hg : wr.grownBy w17 (some go9) := (by rw [hw]; exact HP16.2); have hp_ : Kd.R (Kd.int .u8) 5 w17 w.heap.size (fun _ => True) (.slice (some ⟨go9, 0, none⟩) x3_1.length co5) y104 := (by rw [hw, Ny104.out]; exact HP16.1); clear HP16; have n0_ := Aside0.mk (hp_); have n1_ := Aside0.mk ((by rw [hw]; exact below_set (HB.out) GB9.out : Below w.heap.size w w17)); clear HO_3; clear HB; have HO_3 := n0_; have HB := n1_; clear n0_ n1_; clear hg hw hp_))
                (try simp only [← hl3_1])
                go_roundg k1
                case measure => have := HK1.out; omega
                case rel => exact ⟨((Int.tdiv x0_1 52) % 4294967296), (y104), (wrap64 (x8_1 + 1)), (by first | rfl | (simp; done) | (simp [*]; done)), (by first | rfl | (simp; done) | (simp [*]; done)), H', ⟨by have := HK1.out; omega⟩, ⟨by (try simp only [hl3_1]); (with_reducible repeat (first | apply Kd.R_alloc | apply Kd.R_drewN | apply Kd.R_drew)); exact HO_3.out⟩, ⟨by repeat (first | (with_reducible first | exact HB.out | apply below_alloc | apply pw_below_drewN | apply below_drew1) | exact HB.out)⟩⟩
            · rw [if_neg c8] at H
              exact absurd H (by simp)
          · rw [if_neg c7] at H
            exact absurd H (by simp)
        · rw [if_neg c6] at H
          have c6b0 : decide (x8_1 < (y101.length : Int)) = false := decide_eq_false c6
          (try simp only [hl3_1] at c6b0)
          clear c6
          obtain rfl := Option.some.inj H
          have hcv18 := own_string (P := Try.prog) Try.underlying47 Try.underlying5 Try.underlying9 (Kd.own_of_R HO_3.out)
          go_wp2
          go_ret
          exact ⟨by first | rfl | (simp [errW_none, errW_some] <;> rfl) | (simp [*, errW_none, errW_some] <;> rfl), by repeat (first | (with_reducible first | exact HB.out | apply below_alloc | apply pw_below_drewN | apply below_drew1) | exact HB.out)⟩
  · rw [if_neg c2] at H
    exact absurd H (by simp)

-- NOT PRINTED: function 67 (errors_New)

-- NOT PRINTED: function 68 (binary_bigEndian_Uint32)

-- NOT PRINTED: function 42 (language_ParseScript)

/-! ### impl_ScriptParse: function 19 -/
def impl_ScriptParse.byteAt (s : ByteArray) (j : Nat) : UInt8 := s.data.toList.getD j 0
theorem impl_ScriptParse.byteAt_bt (s : ByteArray) (j : Nat) (h : j < s.size) : ((impl_ScriptParse.byteAt s j).toNat : Int) = bt s (j : Int) := by
  have := bt_at s (j : Int) (by simpa using h)
  rw [← this]
  have hl : j < s.data.toList.length := by simpa using h
  simp only [impl_ScriptParse.byteAt, List.getD_eq_getElem?_getD, List.getElem?_eq_getElem hl, Option.getD_some, Int.toNat_natCast]
  simp
  rfl
def impl_ScriptParse.tag (s : ByteArray) : Int := Go.bits .or .u32 (Go.bits .and .u32 (bt s 0 * 16777216 + bt s 1 * 65536 + bt s 2 * 256 + bt s 3) 3758096383) 2105376
theorem impl_ScriptParse.be (s : ByteArray) (h : 4 ≤ s.size) : ((Go.Lib.beNat [impl_ScriptParse.byteAt s 0, impl_ScriptParse.byteAt s 1, impl_ScriptParse.byteAt s 2, impl_ScriptParse.byteAt s 3] : Nat) : Int) = bt s 0 * 16777216 + bt s 1 * 65536 + bt s 2 * 256 + bt s 3 := by
  have h0 : ((impl_ScriptParse.byteAt s 0).toNat : Int) = bt s 0 := impl_ScriptParse.byteAt_bt s 0 (by omega)
  have h1 : ((impl_ScriptParse.byteAt s 1).toNat : Int) = bt s 1 := impl_ScriptParse.byteAt_bt s 1 (by omega)
  have h2 : ((impl_ScriptParse.byteAt s 2).toNat : Int) = bt s 2 := impl_ScriptParse.byteAt_bt s 2 (by omega)
  have h3 : ((impl_ScriptParse.byteAt s 3).toNat : Int) = bt s 3 := impl_ScriptParse.byteAt_bt s 3 (by omega)
  simp only [Go.Lib.beNat, Go.Lib.beFrom]
  omega
def impl_ScriptParse.f (a0 : ByteArray) : Option (Int × Bool) := if (a0.size : Int) < 4 then some (0, false) else some (impl_ScriptParse.tag a0, true)
set_option maxHeartbeats 400000 in
theorem impl_ScriptParse.inner (a0 : ByteArray) (w : World) (h : 4 ≤ a0.size) :
    Calls Try.prog 42 #[.string a0] w fun e w' => e = .returned (.tuple #[.int .u32 (impl_ScriptParse.tag a0), .nilIface]) ∧ Below w.heap.size w w' := by
  have h' : decide (a0.size < 4) = false := decide_eq_false (by omega)
  have kc : ∀ W : World, (convert 9 47 (.string a0)).run Try.prog W = .ok (.slice (some ⟨W.heap.size, 0, none⟩) a0.size (grownCap W a0.size 0 5)) (Go.Lib.bytesWorld W 5 a0) := fun W => Go.Lib.run_convert_string_bytes W 9 47 5 a0 Try.underlying9 Try.underlying47 Try.underlying5
  have hbe := Aside0.mk (impl_ScriptParse.be a0 h)
  go_enter Try.func42, Try.ntmps42
  go_wp2_with fail
  refine (Try.binary_BE_Uint32 _ _ _ _ (impl_ScriptParse.byteAt a0 0) (impl_ScriptParse.byteAt a0 1) (impl_ScriptParse.byteAt a0 2) (impl_ScriptParse.byteAt a0 3) _ h (Go.Lib.bytesWorld_cell _ 5 a0 0 (by omega)) (Go.Lib.bytesWorld_cell _ 5 a0 1 (by omega)) (Go.Lib.bytesWorld_cell _ 5 a0 2 (by omega)) (Go.Lib.bytesWorld_cell _ 5 a0 3 (by omega))).mono ?_
  rintro e w' ⟨rfl, hb⟩
  go_wp2
  go_ret2
  refine ⟨?_, below_step (Go.Joins.below_bytesWorld _ w 5 a0 (Nat.le_refl _)) hb⟩
  unfold impl_ScriptParse.tag
  rw [← hbe.out]
  rfl
set_option maxHeartbeats 400000 in
theorem impl_ScriptParse.long (a0 : ByteArray) (w : World) (h : 4 ≤ a0.size) :
    Calls Try.prog 19 #[.string a0] w fun e w' => e = .returned (.tuple #[.int .u32 (impl_ScriptParse.tag a0), .bool true]) ∧ Below w.heap.size w w' := by
  go_enter Try.func19, Try.ntmps19
  go_wp2_with (go_at_call 42; refine (impl_ScriptParse.inner a0 _ h).mono ?_; rintro e w' ⟨rfl, hb⟩)
  repeat (go_quiet (fail); go_wp2)
  go_ret2
  exact ⟨rfl, by repeat (first | exact hb | apply below_alloc | apply pw_below_drewN | apply below_drew1)⟩
set_option maxHeartbeats 400000 in
theorem impl_ScriptParse.short (a0 : ByteArray) (w : World) (h : a0.size < 4) :
    Calls Try.prog 19 #[.string a0] w fun e w' => e = .returned (.tuple #[.int .u32 0, .bool false]) ∧ Below w.heap.size w w' := by
  have h' : decide (a0.size < 4) = true := decide_eq_true h
  go_enter Try.func19, Try.ntmps19
  go_wp2
  go_quiet (fail)
  go_wp2
  go_ret2
  exact ⟨rfl, by repeat (first | exact Below.refl _ _ | apply below_alloc | apply pw_below_drewN | apply below_drew1)⟩
theorem impl_ScriptParse.calls (a0 : ByteArray) (r1 : Int) (r2 : Bool) (w : World) (h : impl_ScriptParse.f a0 = some (r1, r2)) :
    Calls Try.prog 19 #[.string a0] w fun e w' => e = .returned (.tuple #[.int .u32 r1, .bool r2]) ∧ Below w.heap.size w w' := by
  unfold impl_ScriptParse.f at h
  by_cases c : (a0.size : Int) < 4
  · rw [if_pos c] at h
    simp only [Option.some.injEq, Prod.mk.injEq] at h
    obtain ⟨rfl, rfl⟩ := h
    exact impl_ScriptParse.short a0 w (by omega)
  · rw [if_neg c] at h
    simp only [Option.some.injEq, Prod.mk.injEq] at h
    obtain ⟨rfl, rfl⟩ := h
    exact impl_ScriptParse.long a0 w (by omega)


/-! ### laws_FnScriptParse: function 5 -/
def laws_FnScriptParse.f (k : Nat) (a0 : Int) (a1 : ByteArray) : Option (Bool) := if (a1.size : Int) > 2147483647 then (some true) else ((laws_four.f k a0).bind fun t108 => (if t108.size + a1.size ≤ 9223372036854775807 then ((impl_ScriptParse.f (t108 ++ a1)).bind fun bt109 => (if 0 < (t108.size : Int) then (if 1 < (t108.size : Int) then (if 2 < (t108.size : Int) then (if 3 < (t108.size : Int) then (if 0 ≤ (Int.tmod a0 4) then (if (Int.tmod a0 4) ≤ (t108.size : Int) then ((impl_ScriptParse.f (t108.extract 0 ((Int.tmod a0 4) : Int).toNat)).bind fun bt111 => (if bt109.2 = true then (if bt109.1 = (Go.bits .or .u32 (Go.bits .or .u32 (Go.bits .or .u32 ((((Go.bits .andNot .u8 (bt t108 0) 32) % 4294967296) * 16777216) % 4294967296) ((((Go.bits .or .u8 (bt t108 1) 32) % 4294967296) * 65536) % 4294967296)) ((((Go.bits .or .u8 (bt t108 2) 32) % 4294967296) * 256) % 4294967296)) ((Go.bits .or .u8 (bt t108 3) 32) % 4294967296)) then (some (!bt111.2)) else (some false)) else (some false))) else (none)) else (none)) else (none)) else (none)) else (none)) else (none))) else (none)))
theorem laws_FnScriptParse.mono : ∀ a0 a1 k, LeO (laws_FnScriptParse.f k a0 a1) (laws_FnScriptParse.f (k + 1) a0 a1) := by
  intro a0 a1 k
  unfold laws_FnScriptParse.f
  repeat' first
      | (with_reducible exact laws_four.mono _ _)
      | (with_reducible exact LeO.refl _)
      | (with_reducible exact LeO.none _)
      | (with_reducible refine LeO.ite ?_ ?_)
      | (with_reducible refine LeO.bind ?_ (fun _ => ?_))
      | exact laws_four.mono _ _
      | exact LeO.none _
      | refine LeO.ite ?_ ?_
      | refine LeO.bind ?_ (fun _ => ?_)
set_option maxHeartbeats 8000000 in
set_option maxRecDepth 100000 in
theorem laws_FnScriptParse.calls (k : Nat) (a0 : Int) (a1 : ByteArray) (r : Bool) (w : World) (h : laws_FnScriptParse.f k a0 a1 = some r) :
    Calls Try.prog 5 #[.int .u32 a0, .string a1] w fun e w' => e = .returned (.bool r) ∧ Below w.heap.size w w' := by
  have HB := Aside0.mk (Below.refl w.heap.size w)
  have H : (if (a1.size : Int) > 2147483647 then (some true) else ((laws_four.f k a0).bind fun t108 => (if t108.size + a1.size ≤ 9223372036854775807 then ((impl_ScriptParse.f (t108 ++ a1)).bind fun bt109 => (if 0 < (t108.size : Int) then (if 1 < (t108.size : Int) then (if 2 < (t108.size : Int) then (if 3 < (t108.size : Int) then (if 0 ≤ (Int.tmod a0 4) then (if (Int.tmod a0 4) ≤ (t108.size : Int) then ((impl_ScriptParse.f (t108.extract 0 ((Int.tmod a0 4) : Int).toNat)).bind fun bt111 => (if bt109.2 = true then (if bt109.1 = (Go.bits .or .u32 (Go.bits .or .u32 (Go.bits .or .u32 ((((Go.bits .andNot .u8 (bt t108 0) 32) % 4294967296) * 16777216) % 4294967296) ((((Go.bits .or .u8 (bt t108 1) 32) % 4294967296) * 65536) % 4294967296)) ((((Go.bits .or .u8 (bt t108 2) 32) % 4294967296) * 256) % 4294967296)) ((Go.bits .or .u8 (bt t108 3) 32) % 4294967296)) then (some (!bt111.2)) else (some false)) else (some false))) else (none)) else (none)) else (none)) else (none)) else (none)) else (none))) else (none)))) = some r := h
  clear h
  by_cases c3 : (a1.size : Int) > 2147483647
  · rw [if_pos c3] at H
    have c3b0 : decide (2147483647 < (a1.size : Int)) = true := decide_eq_true c3
    have c3b1 : decide (2147483647 < a1.size) = true := decide_eq_true (by omega)
    clear c3
    obtain rfl := Option.some.inj H
    go_enter Try.func5, Try.ntmps5
    go_wp2
    repeat (go_quiet (fail); try go_wp2)
    go_ret
    exact ⟨by first | rfl | (simp [errW_none, errW_some] <;> rfl) | (simp [*, errW_none, errW_some] <;> rfl), by repeat (first | (with_reducible first | exact HB.out | apply below_alloc | apply pw_below_drewN | apply below_drew1) | exact HB.out)⟩
  · rw [if_neg c3] at H
    have c3b0 : decide (2147483647 < (a1.size : Int)) = false := decide_eq_false c3
    have c3b1 : decide (2147483647 < a1.size) = false := decide_eq_false (by omega)
    clear c3
    replace H := Option.bind_eq_some_iff.mp H
    obtain ⟨t108, A40, H⟩ := H
    replace H : (if t108.size + a1.size ≤ 9223372036854775807 then ((impl_ScriptParse.f (t108 ++ a1)).bind fun bt109 => (if 0 < (t108.size : Int) then (if 1 < (t108.size : Int) then (if 2 < (t108.size : Int) then (if 3 < (t108.size : Int) then (if 0 ≤ (Int.tmod a0 4) then (if (Int.tmod a0 4) ≤ (t108.size : Int) then ((impl_ScriptParse.f (t108.extract 0 ((Int.tmod a0 4) : Int).toNat)).bind fun bt111 => (if bt109.2 = true then (if bt109.1 = (Go.bits .or .u32 (Go.bits .or .u32 (Go.bits .or .u32 ((((Go.bits .andNot .u8 (bt t108 0) 32) % 4294967296) * 16777216) % 4294967296) ((((Go.bits .or .u8 (bt t108 1) 32) % 4294967296) * 65536) % 4294967296)) ((((Go.bits .or .u8 (bt t108 2) 32) % 4294967296) * 256) % 4294967296)) ((Go.bits .or .u8 (bt t108 3) 32) % 4294967296)) then (some (!bt111.2)) else (some false)) else (some false))) else (none)) else (none)) else (none)) else (none)) else (none)) else (none))) else (none)) = some r := H
    have A4 := Aside0.mk A40
    clear A40
    by_cases c5 : t108.size + a1.size ≤ 9223372036854775807
    · rw [if_pos c5] at H
      have c5b0 := eq_true c5
      have c5b1 : decide (t108.size + a1.size ≤ 9223372036854775807) = true := decide_eq_true c5
      try have c5b2 : (9223372036854775807 < t108.size + a1.size) = False := eq_false (Nat.not_lt.2 c5)
      replace H := Option.bind_eq_some_iff.mp H
      obtain ⟨⟨t109, t110⟩, A60, H⟩ := H
      replace H : (if 0 < (t108.size : Int) then (if 1 < (t108.size : Int) then (if 2 < (t108.size : Int) then (if 3 < (t108.size : Int) then (if 0 ≤ (Int.tmod a0 4) then (if (Int.tmod a0 4) ≤ (t108.size : Int) then ((impl_ScriptParse.f (t108.extract 0 ((Int.tmod a0 4) : Int).toNat)).bind fun bt111 => (if t110 = true then (if t109 = (Go.bits .or .u32 (Go.bits .or .u32 (Go.bits .or .u32 ((((Go.bits .andNot .u8 (bt t108 0) 32) % 4294967296) * 16777216) % 4294967296) ((((Go.bits .or .u8 (bt t108 1) 32) % 4294967296) * 65536) % 4294967296)) ((((Go.bits .or .u8 (bt t108 2) 32) % 4294967296) * 256) % 4294967296)) ((Go.bits .or .u8 (bt t108 3) 32) % 4294967296)) then (some (!bt111.2)) else (some false)) else (some false))) else (none)) else (none)) else (none)) else (none)) else (none)) else (none)) = some r := H
      have A6 := Aside0.mk A60
      clear A60
      by_cases c7 : 0 < (t108.size : Int)
      · rw [if_pos c7] at H
        have c7b0 : decide (0 < (t108.size : Int)) = true := decide_eq_true c7
        have c7b1 : decide (0 < t108.size) = true := decide_eq_true (by omega)
        clear c7
        by_cases c9 : 1 < (t108.size : Int)
        · rw [if_pos c9] at H
          have c9b0 : decide (1 < (t108.size : Int)) = true := decide_eq_true c9
          have c9b1 : decide (1 < t108.size) = true := decide_eq_true (by omega)
          clear c9
          by_cases c11 : 2 < (t108.size : Int)
          · rw [if_pos c11] at H
            have c11b0 : decide (2 < (t108.size : Int)) = true := decide_eq_true c11
            have c11b1 : decide (2 < t108.size) = true := decide_eq_true (by omega)
            clear c11
            by_cases c13 : 3 < (t108.size : Int)
            · rw [if_pos c13] at H
              have c13b0 : decide (3 < (t108.size : Int)) = true := decide_eq_true c13
              have c13b1 : decide (3 < t108.size) = true := decide_eq_true (by omega)
              clear c13
              obtain ⟨ji15, hji15⟩ : ∃ j_ : Int, (Int.tmod a0 4) = j_ := ⟨_, rfl⟩
              replace H : (if 0 ≤ (ji15) then (if (ji15) ≤ (t108.size : Int) then ((impl_ScriptParse.f (t108.extract 0 ((ji15) : Int).toNat)).bind fun bt111 => (if t110 = true then (if t109 = (Go.bits .or .u32 (Go.bits .or .u32 (Go.bits .or .u32 ((((Go.bits .andNot .u8 (bt t108 0) 32) % 4294967296) * 16777216) % 4294967296) ((((Go.bits .or .u8 (bt t108 1) 32) % 4294967296) * 65536) % 4294967296)) ((((Go.bits .or .u8 (bt t108 2) 32) % 4294967296) * 256) % 4294967296)) ((Go.bits .or .u8 (bt t108 3) 32) % 4294967296)) then (some (!bt111.2)) else (some false)) else (some false))) else (none)) else (none)) = some r := by first | (rw [hji15] at H; exact H) | (simp only [hji15] at H ⊢; exact H)
              (try rw [hji15] at A4)
              (try rw [hji15] at A6)
              by_cases c16 : 0 ≤ (ji15)
              · rw [if_pos c16] at H
                have c16b0 := eq_true c16
                have c16b1 : decide (0 ≤ (ji15)) = true := decide_eq_true c16
                clear c16
                by_cases c17 : (ji15) ≤ (t108.size : Int)
                · rw [if_pos c17] at H
                  have c17b0 := eq_true c17
                  have c17b1 : decide ((ji15) ≤ (t108.size : Int)) = true := decide_eq_true c17
                  clear c17
                  replace H := Option.bind_eq_some_iff.mp H
                  obtain ⟨⟨t111, t112⟩, A180, H⟩ := H
                  replace H : (if t110 = true then (if t109 = (Go.bits .or .u32 (Go.bits .or .u32 (Go.bits .or .u32 ((((Go.bits .andNot .u8 (bt t108 0) 32) % 4294967296) * 16777216) % 4294967296) ((((Go.bits .or .u8 (bt t108 1) 32) % 4294967296) * 65536) % 4294967296)) ((((Go.bits .or .u8 (bt t108 2) 32) % 4294967296) * 256) % 4294967296)) ((Go.bits .or .u8 (bt t108 3) 32) % 4294967296)) then (some (!t112)) else (some false)) else (some false)) = some r := H
                  have A18 := Aside0.mk A180
                  clear A180
                  by_cases c19 : t110 = true
                  · subst c19
                    have H1 : (if t109 = (Go.bits .or .u32 (Go.bits .or .u32 (Go.bits .or .u32 ((((Go.bits .andNot .u8 (bt t108 0) 32) % 4294967296) * 16777216) % 4294967296) ((((Go.bits .or .u8 (bt t108 1) 32) % 4294967296) * 65536) % 4294967296)) ((((Go.bits .or .u8 (bt t108 2) 32) % 4294967296) * 256) % 4294967296)) ((Go.bits .or .u8 (bt t108 3) 32) % 4294967296)) then (some (!t112)) else (some false)) = some r := by rw [if_pos rfl] at H; exact H
                    clear H
                    have H := H1
                    clear H1
                    by_cases c20 : t109 = (Go.bits .or .u32 (Go.bits .or .u32 (Go.bits .or .u32 ((((Go.bits .andNot .u8 (bt t108 0) 32) % 4294967296) * 16777216) % 4294967296) ((((Go.bits .or .u8 (bt t108 1) 32) % 4294967296) * 65536) % 4294967296)) ((((Go.bits .or .u8 (bt t108 2) 32) % 4294967296) * 256) % 4294967296)) ((Go.bits .or .u8 (bt t108 3) 32) % 4294967296))
                    · rw [if_pos c20] at H
                      have c20b0 : (t109 == (Go.bits .or .u32 (Go.bits .or .u32 (Go.bits .or .u32 ((((Go.bits .andNot .u8 (bt t108 0) 32) % 4294967296) * 16777216) % 4294967296) ((((Go.bits .or .u8 (bt t108 1) 32) % 4294967296) * 65536) % 4294967296)) ((((Go.bits .or .u8 (bt t108 2) 32) % 4294967296) * 256) % 4294967296)) ((Go.bits .or .u8 (bt t108 3) 32) % 4294967296))) = true := beq_iff_eq.mpr c20
                      have c20b1 : (t109 != (Go.bits .or .u32 (Go.bits .or .u32 (Go.bits .or .u32 ((((Go.bits .andNot .u8 (bt t108 0) 32) % 4294967296) * 16777216) % 4294967296) ((((Go.bits .or .u8 (bt t108 1) 32) % 4294967296) * 65536) % 4294967296)) ((((Go.bits .or .u8 (bt t108 2) 32) % 4294967296) * 256) % 4294967296)) ((Go.bits .or .u8 (bt t108 3) 32) % 4294967296))) = false := bne_eq_false_iff_eq.mpr c20
                      clear c20
                      obtain rfl := Option.some.inj H
                      go_enter Try.func5, Try.ntmps5
                      go_wp2_with (first | (go_at_call 18; (with_reducible refine (laws_four.calls k a0 t108 _ A4.out).mono ?_); rintro e w21 ⟨rfl, hb⟩; have n0_ := Aside0.mk (below_step (by repeat (first | (with_reducible first | exact HB.out | apply below_alloc | apply pw_below_drewN | apply below_drew1) | exact HB.out)) hb); clear HB; have HB := n0_; clear n0_; (try clear hb); (try clear hb2); (try clear hk); (try clear hi)) | (go_at_call 19; (with_reducible refine (impl_ScriptParse.calls (t108 ++ a1) t109 true _ A6.out).mono ?_); rintro e w22 ⟨rfl, hb⟩; have n0_ := Aside0.mk (below_step (by repeat (first | (with_reducible first | exact HB.out | apply below_alloc | apply pw_below_drewN | apply below_drew1) | exact HB.out)) hb); clear HB; have HB := n0_; clear n0_; (try clear hb); (try clear hb2); (try clear hk); (try clear hi); have p8 : 0 ≤ (0 : Int) := (by omega); have q8 : 0 < t108.size := (by have : (0 : Int) < (t108.size : Int) := of_decide_eq_true (by first | (with_reducible assumption) | assumption); omega); have hx8 : ∀ h : 0 < t108.size, ((t108[0]'h).toNat : Int) = bt t108 0 := bt_at t108 0; clear p8; have qi8 : (0 < (t108.size : Int)) = True := eq_true (of_decide_eq_true (by first | (with_reducible assumption) | assumption)); replace q8 := eq_true q8; have p10 : 0 ≤ (1 : Int) := (by omega); have q10 : 1 < t108.size := (by have : (1 : Int) < (t108.size : Int) := of_decide_eq_true (by first | (with_reducible assumption) | assumption); omega); have hx10 : ∀ h : 1 < t108.size, ((t108[1]'h).toNat : Int) = bt t108 1 := bt_at t108 1; clear p10; have qi10 : (1 < (t108.size : Int)) = True := eq_true (of_decide_eq_true (by first | (with_reducible assumption) | assumption)); replace q10 := eq_true q10; have p12 : 0 ≤ (2 : Int) := (by omega); have q12 : 2 < t108.size := (by have : (2 : Int) < (t108.size : Int) := of_decide_eq_true (by first | (with_reducible assumption) | assumption); omega); have hx12 : ∀ h : 2 < t108.size, ((t108[2]'h).toNat : Int) = bt t108 2 := bt_at t108 2; clear p12; have qi12 : (2 < (t108.size : Int)) = True := eq_true (of_decide_eq_true (by first | (with_reducible assumption) | assumption)); replace q12 := eq_true q12; have p14 : 0 ≤ (3 : Int) := (by omega); have q14 : 3 < t108.size := (by have : (3 : Int) < (t108.size : Int) := of_decide_eq_true (by first | (with_reducible assumption) | assumption); omega); have hx14 : ∀ h : 3 < t108.size, ((t108[3]'h).toNat : Int) = bt t108 3 := bt_at t108 3; clear p14; have qi14 : (3 < (t108.size : Int)) = True := eq_true (of_decide_eq_true (by first | (with_reducible assumption) | assumption)); replace q14 := eq_true q14) | (go_at_call 19; (with_reducible refine (impl_ScriptParse.calls (t108.extract 0 ((ji15) : Int).toNat) t111 t112 _ A18.out).mono ?_); rintro e w23 ⟨rfl, hb⟩; have n0_ := Aside0.mk (below_step (by repeat (first | (with_reducible first | exact HB.out | apply below_alloc | apply pw_below_drewN | apply below_drew1) | exact HB.out)) hb); clear HB; have HB := n0_; clear n0_; (try clear hb); (try clear hb2); (try clear hk); (try clear hi)))
                      repeat (go_quiet (first | (go_at_call 18; (with_reducible refine (laws_four.calls k a0 t108 _ A4.out).mono ?_); rintro e w21 ⟨rfl, hb⟩; have n0_ := Aside0.mk (below_step (by repeat (first | (with_reducible first | exact HB.out | apply below_alloc | apply pw_below_drewN | apply below_drew1) | exact HB.out)) hb); clear HB; have HB := n0_; clear n0_; (try clear hb); (try clear hb2); (try clear hk); (try clear hi)) | (go_at_call 19; (with_reducible refine (impl_ScriptParse.calls (t108 ++ a1) t109 true _ A6.out).mono ?_); rintro e w22 ⟨rfl, hb⟩; have n0_ := Aside0.mk (below_step (by repeat (first | (with_reducible first | exact HB.out | apply below_alloc | apply pw_below_drewN | apply below_drew1) | exact HB.out)) hb); clear HB; have HB := n0_; clear n0_; (try clear hb); (try clear hb2); (try clear hk); (try clear hi); have p8 : 0 ≤ (0 : Int) := (by omega); have q8 : 0 < t108.size := (by have : (0 : Int) < (t108.size : Int) := of_decide_eq_true (by first | (with_reducible assumption) | assumption); omega); have hx8 : ∀ h : 0 < t108.size, ((t108[0]'h).toNat : Int) = bt t108 0 := bt_at t108 0; clear p8; have qi8 : (0 < (t108.size : Int)) = True := eq_true (of_decide_eq_true (by first | (with_reducible assumption) | assumption)); replace q8 := eq_true q8; have p10 : 0 ≤ (1 : Int) := (by omega); have q10 : 1 < t108.size := (by have : (1 : Int) < (t108.size : Int) := of_decide_eq_true (by first | (with_reducible assumption) | assumption); omega); have hx10 : ∀ h : 1 < t108.size, ((t108[1]'h).toNat : Int) = bt t108 1 := bt_at t108 1; clear p10; have qi10 : (1 < (t108.size : Int)) = True := eq_true (of_decide_eq_true (by first | (with_reducible assumption) | assumption)); replace q10 := eq_true q10; have p12 : 0 ≤ (2 : Int) := (by omega); have q12 : 2 < t108.size := (by have : (2 : Int) < (t108.size : Int) := of_decide_eq_true (by first | (with_reducible assumption) | assumption); omega); have hx12 : ∀ h : 2 < t108.size, ((t108[2]'h).toNat : Int) = bt t108 2 := bt_at t108 2; clear p12; have qi12 : (2 < (t108.size : Int)) = True := eq_true (of_decide_eq_true (by first | (with_reducible assumption) | assumption)); replace q12 := eq_true q12; have p14 : 0 ≤ (3 : Int) := (by omega); have q14 : 3 < t108.size := (by have : (3 : Int) < (t108.size : Int) := of_decide_eq_true (by first | (with_reducible assumption) | assumption); omega); have hx14 : ∀ h : 3 < t108.size, ((t108[3]'h).toNat : Int) = bt t108 3 := bt_at t108 3; clear p14; have qi14 : (3 < (t108.size : Int)) = True := eq_true (of_decide_eq_true (by first | (with_reducible assumption) | assumption)); replace q14 := eq_true q14) | (go_at_call 19; (with_reducible refine (impl_ScriptParse.calls (t108.extract 0 ((ji15) : Int).toNat) t111 t112 _ A18.out).mono ?_); rintro e w23 ⟨rfl, hb⟩; have n0_ := Aside0.mk (below_step (by repeat (first | (with_reducible first | exact HB.out | apply below_alloc | apply pw_below_drewN | apply below_drew1) | exact HB.out)) hb); clear HB; have HB := n0_; clear n0_; (try clear hb); (try clear hb2); (try clear hk); (try clear hi))); try go_wp2_with (first | (go_at_call 18; (with_reducible refine (laws_four.calls k a0 t108 _ A4.out).mono ?_); rintro e w21 ⟨rfl, hb⟩; have n0_ := Aside0.mk (below_step (by repeat (first | (with_reducible first | exact HB.out | apply below_alloc | apply pw_below_drewN | apply below_drew1) | exact HB.out)) hb); clear HB; have HB := n0_; clear n0_; (try clear hb); (try clear hb2); (try clear hk); (try clear hi)) | (go_at_call 19; (with_reducible refine (impl_ScriptParse.calls (t108 ++ a1) t109 true _ A6.out).mono ?_); rintro e w22 ⟨rfl, hb⟩; have n0_ := Aside0.mk (below_step (by repeat (first | (with_reducible first | exact HB.out | apply below_alloc | apply pw_below_drewN | apply below_drew1) | exact HB.out)) hb); clear HB; have HB := n0_; clear n0_; (try clear hb); (try clear hb2); (try clear hk); (try clear hi); have p8 : 0 ≤ (0 : Int) := (by omega); have q8 : 0 < t108.size := (by have : (0 : Int) < (t108.size : Int) := of_decide_eq_true (by first | (with_reducible assumption) | assumption); omega); have hx8 : ∀ h : 0 < t108.size, ((t108[0]'h).toNat : Int) = bt t108 0 := bt_at t108 0; clear p8; have qi8 : (0 < (t108.size : Int)) = True := eq_true (of_decide_eq_true (by first | (with_reducible assumption) | assumption)); replace q8 := eq_true q8; have p10 : 0 ≤ (1 : Int) := (by omega); have q10 : 1 < t108.size := (by have : (1 : Int) < (t108.size : Int) := of_decide_eq_true (by first | (with_reducible assumption) | assumption); omega); have hx10 : ∀ h : 1 < t108.size, ((t108[1]'h).toNat : Int) = bt t108 1 := bt_at t108 1; clear p10; have qi10 : (1 < (t108.size : Int)) = True := eq_true (of_decide_eq_true (by first | (with_reducible assumption) | assumption)); replace q10 := eq_true q10; have p12 : 0 ≤ (2 : Int) := (by omega); have q12 : 2 < t108.size := (by have : (2 : Int) < (t108.size : Int) := of_decide_eq_true (by first | (with_reducible assumption) | assumption); omega); have hx12 : ∀ h : 2 < t108.size, ((t108[2]'h).toNat : Int) = bt t108 2 := bt_at t108 2; clear p12; have qi12 : (2 < (t108.size : Int)) = True := eq_true (of_decide_eq_true (by first | (with_reducible assumption) | assumption)); replace q12 := eq_true q12; have p14 : 0 ≤ (3 : Int) := (by omega); have q14 : 3 < t108.size := (by have : (3 : Int) < (t108.size : Int) := of_decide_eq_true (by first | (with_reducible assumption) | assumption); omega); have hx14 : ∀ h : 3 < t108.size, ((t108[3]'h).toNat : Int) = bt t108 3 := bt_at t108 3; clear p14; have qi14 : (3 < (t108.size : Int)) = True := eq_true (of_decide_eq_true (by first | (with_reducible assumption) | assumption)); replace q14 := eq_true q14) | (go_at_call 19; (with_reducible refine (impl_ScriptParse.calls (t108.extract 0 ((ji15) : Int).toNat) t111 t112 _ A18.out).mono ?_); rintro e w23 ⟨rfl, hb⟩; have n0_ := Aside0.mk (below_step (by repeat (first | (with_reducible first | exact HB.out | apply below_alloc | apply pw_below_drewN | apply below_drew1) | exact HB.out)) hb); clear HB; have HB := n0_; clear n0_; (try clear hb); (try clear hb2); (try clear hk); (try clear hi))))
                      go_ret
                      exact ⟨by first | rfl | (simp [errW_none, errW_some] <;> rfl) | (simp only [← hji15]; first | rfl | (simp [errW_none, errW_some] <;> rfl)) | (simp [*, errW_none, errW_some] <;> rfl), by repeat (first | (with_reducible first | exact HB.out | apply below_alloc | apply pw_below_drewN | apply below_drew1) | exact HB.out)⟩
                    · rw [if_neg c20] at H
                      have c20b0 : (t109 == (Go.bits .or .u32 (Go.bits .or .u32 (Go.bits .or .u32 ((((Go.bits .andNot .u8 (bt t108 0) 32) % 4294967296) * 16777216) % 4294967296) ((((Go.bits .or .u8 (bt t108 1) 32) % 4294967296) * 65536) % 4294967296)) ((((Go.bits .or .u8 (bt t108 2) 32) % 4294967296) * 256) % 4294967296)) ((Go.bits .or .u8 (bt t108 3) 32) % 4294967296))) = false := beq_eq_false_iff_ne.mpr c20
                      have c20b1 : (t109 != (Go.bits .or .u32 (Go.bits .or .u32 (Go.bits .or .u32 ((((Go.bits .andNot .u8 (bt t108 0) 32) % 4294967296) * 16777216) % 4294967296) ((((Go.bits .or .u8 (bt t108 1) 32) % 4294967296) * 65536) % 4294967296)) ((((Go.bits .or .u8 (bt t108 2) 32) % 4294967296) * 256) % 4294967296)) ((Go.bits .or .u8 (bt t108 3) 32) % 4294967296))) = true := bne_iff_ne.mpr c20
                      obtain rfl := Option.some.inj H
                      go_enter Try.func5, Try.ntmps5
                      go_wp2_with (first | (go_at_call 18; (with_reducible refine (laws_four.calls k a0 t108 _ A4.out).mono ?_); rintro e w24 ⟨rfl, hb⟩; have n0_ := Aside0.mk (below_step (by repeat (first | (with_reducible first | exact HB.out | apply below_alloc | apply pw_below_drewN | apply below_drew1) | exact HB.out)) hb); clear HB; have HB := n0_; clear n0_; (try clear hb); (try clear hb2); (try clear hk); (try clear hi)) | (go_at_call 19; (with_reducible refine (impl_ScriptParse.calls (t108 ++ a1) t109 true _ A6.out).mono ?_); rintro e w25 ⟨rfl, hb⟩; have n0_ := Aside0.mk (below_step (by repeat (first | (with_reducible first | exact HB.out | apply below_alloc | apply pw_below_drewN | apply below_drew1) | exact HB.out)) hb); clear HB; have HB := n0_; clear n0_; (try clear hb); (try clear hb2); (try clear hk); (try clear hi); have p8 : 0 ≤ (0 : Int) := (by omega); have q8 : 0 < t108.size := (by have : (0 : Int) < (t108.size : Int) := of_decide_eq_true (by first | (with_reducible assumption) | assumption); omega); have hx8 : ∀ h : 0 < t108.size, ((t108[0]'h).toNat : Int) = bt t108 0 := bt_at t108 0; clear p8; have qi8 : (0 < (t108.size : Int)) = True := eq_true (of_decide_eq_true (by first | (with_reducible assumption) | assumption)); replace q8 := eq_true q8; have p10 : 0 ≤ (1 : Int) := (by omega); have q10 : 1 < t108.size := (by have : (1 : Int) < (t108.size : Int) := of_decide_eq_true (by first | (with_reducible assumption) | assumption); omega); have hx10 : ∀ h : 1 < t108.size, ((t108[1]'h).toNat : Int) = bt t108 1 := bt_at t108 1; clear p10; have qi10 : (1 < (t108.size : Int)) = True := eq_true (of_decide_eq_true (by first | (with_reducible assumption) | assumption)); replace q10 := eq_true q10; have p12 : 0 ≤ (2 : Int) := (by omega); have q12 : 2 < t108.size := (by have : (2 : Int) < (t108.size : Int) := of_decide_eq_true (by first | (with_reducible assumption) | assumption); omega); have hx12 : ∀ h : 2 < t108.size, ((t108[2]'h).toNat : Int) = bt t108 2 := bt_at t108 2; clear p12; have qi12 : (2 < (t108.size : Int)) = True := eq_true (of_decide_eq_true (by first | (with_reducible assumption) | assumption)); replace q12 := eq_true q12; have p14 : 0 ≤ (3 : Int) := (by omega); have q14 : 3 < t108.size := (by have : (3 : Int) < (t108.size : Int) := of_decide_eq_true (by first | (with_reducible assumption) | assumption); omega); have hx14 : ∀ h : 3 < t108.size, ((t108[3]'h).toNat : Int) = bt t108 3 := bt_at t108 3; clear p14; have qi14 : (3 < (t108.size : Int)) = True := eq_true (of_decide_eq_true (by first | (with_reducible assumption) | assumption)); replace q14 := eq_true q14) | (go_at_call 19; (with_reducible refine (impl_ScriptParse.calls (t108.extract 0 ((ji15) : Int).toNat) t111 t112 _ A18.out).mono ?_); rintro e w26 ⟨rfl, hb⟩; have n0_ := Aside0.mk (below_step (by repeat (first | (with_reducible first | exact HB.out | apply below_alloc | apply pw_below_drewN | apply below_drew1) | exact HB.out)) hb); clear HB; have HB := n0_; clear n0_; (try clear hb); (try clear hb2); (try clear hk); (try clear hi)))
                      repeat (go_quiet (first | (go_at_call 18; (with_reducible refine (laws_four.calls k a0 t108 _ A4.out).mono ?_); rintro e w24 ⟨rfl, hb⟩; have n0_ := Aside0.mk (below_step (by repeat (first | (with_reducible first | exact HB.out | apply below_alloc | apply pw_below_drewN | apply below_drew1) | exact HB.out)) hb); clear HB; have HB := n0_; clear n0_; (try clear hb); (try clear hb2); (try clear hk); (try clear hi)) | (go_at_call 19; (with_reducible refine (impl_ScriptParse.calls (t108 ++ a1) t109 true _ A6.out).mono ?_); rintro e w25 ⟨rfl, hb⟩; have n0_ := Aside0.mk (below_step (by repeat (first | (with_reducible first | exact HB.out | apply below_alloc | apply pw_below_drewN | apply below_drew1) | exact HB.out)) hb); clear HB; have HB := n0_; clear n0_; (try clear hb); (try clear hb2); (try clear hk); (try clear hi); have p8 : 0 ≤ (0 : Int) := (by omega); have q8 : 0 < t108.size := (by have : (0 : Int) < (t108.size : Int) := of_decide_eq_true (by first | (with_reducible assumption) | assumption); omega); have hx8 : ∀ h : 0 < t108.size, ((t108[0]'h).toNat : Int) = bt t108 0 := bt_at t108 0; clear p8; have qi8 : (0 < (t108.size : Int)) = True := eq_true (of_decide_eq_true (by first | (with_reducible assumption) | assumption)); replace q8 := eq_true q8; have p10 : 0 ≤ (1 : Int) := (by omega); have q10 : 1 < t108.size := (by have : (1 : Int) < (t108.size : Int) := of_decide_eq_true (by first | (with_reducible assumption) | assumption); omega); have hx10 : ∀ h : 1 < t108.size, ((t108[1]'h).toNat : Int) = bt t108 1 := bt_at t108 1; clear p10; have qi10 : (1 < (t108.size : Int)) = True := eq_true (of_decide_eq_true (by first | (with_reducible assumption) | assumption)); replace q10 := eq_true q10; have p12 : 0 ≤ (2 : Int) := (by omega); have q12 : 2 < t108.size := (by have : (2 : Int) < (t108.size : Int) := of_decide_eq_true (by first | (with_reducible assumption) | assumption); omega); have hx12 : ∀ h : 2 < t108.size, ((t108[2]'h).toNat : Int) = bt t108 2 := bt_at t108 2; clear p12; have qi12 : (2 < (t108.size : Int)) = True := eq_true (of_decide_eq_true (by first | (with_reducible assumption) | assumption)); replace q12 := eq_true q12; have p14 : 0 ≤ (3 : Int) := (by omega); have q14 : 3 < t108.size := (by have : (3 : Int) < (t108.size : Int) := of_decide_eq_true (by first | (with_reducible assumption) | assumption); omega); have hx14 : ∀ h : 3 < t108.size, ((t108[3]'h).toNat : Int) = bt t108 3 := bt_at t108 3; clear p14; have qi14 : (3 < (t108.size : Int)) = True := eq_true (of_decide_eq_true (by first | (with_reducible assumption) | assumption)); replace q14 := eq_true q14) | (go_at_call 19; (with_reducible refine (impl_ScriptParse.calls (t108.extract 0 ((ji15) : Int).toNat) t111 t112 _ A18.out).mono ?_); rintro e w26 ⟨rfl, hb⟩; have n0_ := Aside0.mk (below_step (by repeat (first | (with_reducible first | exact HB.out | apply below_alloc | apply pw_below_drewN | apply below_drew1) | exact HB.out)) hb); clear HB; have HB := n0_; clear n0_; (try clear hb); (try clear hb2); (try clear hk); (try clear hi))); try go_wp2_with (first | (go_at_call 18; (with_reducible refine (laws_four.calls k a0 t108 _ A4.out).mono ?_); rintro e w24 ⟨rfl, hb⟩; have n0_ := Aside0.mk (below_step (by repeat (first | (with_reducible first | exact HB.out | apply below_alloc | apply pw_below_drewN | apply below_drew1) | exact HB.out)) hb); clear HB; have HB := n0_; clear n0_; (try clear hb); (try clear hb2); (try clear hk); (try clear hi)) | (go_at_call 19; (with_reducible refine (impl_ScriptParse.calls (t108 ++ a1) t109 true _ A6.out).mono ?_); rintro e w25 ⟨rfl, hb⟩; have n0_ := Aside0.mk (below_step (by repeat (first | (with_reducible first | exact HB.out | apply below_alloc | apply pw_below_drewN | apply below_drew1) | exact HB.out)) hb); clear HB; have HB := n0_; clear n0_; (try clear hb); (try clear hb2); (try clear hk); (try clear hi); have p8 : 0 ≤ (0 : Int) := (by omega); have q8 : 0 < t108.size := (by have : (0 : Int) < (t108.size : Int) := of_decide_eq_true (by first | (with_reducible assumption) | assumption); omega); have hx8 : ∀ h : 0 < t108.size, ((t108[0]'h).toNat : Int) = bt t108 0 := bt_at t108 0; clear p8; have qi8 : (0 < (t108.size : Int)) = True := eq_true (of_decide_eq_true (by first | (with_reducible assumption) | assumption)); replace q8 := eq_true q8; have p10 : 0 ≤ (1 : Int) := (by omega); have q10 : 1 < t108.size := (by have : (1 : Int) < (t108.size : Int) := of_decide_eq_true (by first | (with_reducible assumption) | assumption); omega); have hx10 : ∀ h : 1 < t108.size, ((t108[1]'h).toNat : Int) = bt t108 1 := bt_at t108 1; clear p10; have qi10 : (1 < (t108.size : Int)) = True := eq_true (of_decide_eq_true (by first | (with_reducible assumption) | assumption)); replace q10 := eq_true q10; have p12 : 0 ≤ (2 : Int) := (by omega); have q12 : 2 < t108.size := (by have : (2 : Int) < (t108.size : Int) := of_decide_eq_true (by first | (with_reducible assumption) | assumption); omega); have hx12 : ∀ h : 2 < t108.size, ((t108[2]'h).toNat : Int) = bt t108 2 := bt_at t108 2; clear p12; have qi12 : (2 < (t108.size : Int)) = True := eq_true (of_decide_eq_true (by first | (with_reducible assumption) | assumption)); replace q12 := eq_true q12; have p14 : 0 ≤ (3 : Int) := (by omega); have q14 : 3 < t108.size := (by have : (3 : Int) < (t108.size : Int) := of_decide_eq_true (by first | (with_reducible assumption) | assumption); omega); have hx14 : ∀ h : 3 < t108.size, ((t108[3]'h).toNat : Int) = bt t108 3 := bt_at t108 3; clear p14; have qi14 : (3 < (t108.size : Int)) = True := eq_true (of_decide_eq_true (by first | (with_reducible assumption) | assumption)); replace q14 := eq_true q14) | (go_at_call 19; (with_reducible refine (impl_ScriptParse.calls (t108.extract 0 ((ji15) : Int).toNat) t111 t112 _ A18.out).mono ?_); rintro e w26 ⟨rfl, hb⟩; have n0_ := Aside0.mk (below_step (by repeat (first | (with_reducible first | exact HB.out | apply below_alloc | apply pw_below_drewN | apply below_drew1) | exact HB.out)) hb); clear HB; have HB := n0_; clear n0_; (try clear hb); (try clear hb2); (try clear hk); (try clear hi))))
                      go_ret
                      exact ⟨by first | rfl | (simp [errW_none, errW_some] <;> rfl) | (simp only [← hji15]; first | rfl | (simp [errW_none, errW_some] <;> rfl)) | (simp [*, errW_none, errW_some] <;> rfl), by repeat (first | (with_reducible first | exact HB.out | apply below_alloc | apply pw_below_drewN | apply below_drew1) | exact HB.out)⟩
                  · replace c19 := Bool.eq_false_iff.mpr c19
                    subst c19
                    have H1 : (some false) = some r := by rw [if_neg (show ¬ (false = true) by decide)] at H; exact H
                    clear H
                    have H := H1
                    clear H1
                    obtain rfl := Option.some.inj H
                    go_enter Try.func5, Try.ntmps5
                    go_wp2_with (first | (go_at_call 18; (with_reducible refine (laws_four.calls k a0 t108 _ A4.out).mono ?_); rintro e w27 ⟨rfl, hb⟩; have n0_ := Aside0.mk (below_step (by repeat (first | (with_reducible first | exact HB.out | apply below_alloc | apply pw_below_drewN | apply below_drew1) | exact HB.out)) hb); clear HB; have HB := n0_; clear n0_; (try clear hb); (try clear hb2); (try clear hk); (try clear hi)) | (go_at_call 19; (with_reducible refine (impl_ScriptParse.calls (t108 ++ a1) t109 false _ A6.out).mono ?_); rintro e w28 ⟨rfl, hb⟩; have n0_ := Aside0.mk (below_step (by repeat (first | (with_reducible first | exact HB.out | apply below_alloc | apply pw_below_drewN | apply below_drew1) | exact HB.out)) hb); clear HB; have HB := n0_; clear n0_; (try clear hb); (try clear hb2); (try clear hk); (try clear hi); have p8 : 0 ≤ (0 : Int) := (by omega); have q8 : 0 < t108.size := (by have : (0 : Int) < (t108.size : Int) := of_decide_eq_true (by first | (with_reducible assumption) | assumption); omega); have hx8 : ∀ h : 0 < t108.size, ((t108[0]'h).toNat : Int) = bt t108 0 := bt_at t108 0; clear p8; have qi8 : (0 < (t108.size : Int)) = True := eq_true (of_decide_eq_true (by first | (with_reducible assumption) | assumption)); replace q8 := eq_true q8; have p10 : 0 ≤ (1 : Int) := (by omega); have q10 : 1 < t108.size := (by have : (1 : Int) < (t108.size : Int) := of_decide_eq_true (by first | (with_reducible assumption) | assumption); omega); have hx10 : ∀ h : 1 < t108.size, ((t108[1]'h).toNat : Int) = bt t108 1 := bt_at t108 1; clear p10; have qi10 : (1 < (t108.size : Int)) = True := eq_true (of_decide_eq_true (by first | (with_reducible assumption) | assumption)); replace q10 := eq_true q10; have p12 : 0 ≤ (2 : Int) := (by omega); have q12 : 2 < t108.size := (by have : (2 : Int) < (t108.size : Int) := of_decide_eq_true (by first | (with_reducible assumption) | assumption); omega); have hx12 : ∀ h : 2 < t108.size, ((t108[2]'h).toNat : Int) = bt t108 2 := bt_at t108 2; clear p12; have qi12 : (2 < (t108.size : Int)) = True := eq_true (of_decide_eq_true (by first | (with_reducible assumption) | assumption)); replace q12 := eq_true q12; have p14 : 0 ≤ (3 : Int) := (by omega); have q14 : 3 < t108.size := (by have : (3 : Int) < (t108.size : Int) := of_decide_eq_true (by first | (with_reducible assumption) | assumption); omega); have hx14 : ∀ h : 3 < t108.size, ((t108[3]'h).toNat : Int) = bt t108 3 := bt_at t108 3; clear p14; have qi14 : (3 < (t108.size : Int)) = True := eq_true (of_decide_eq_true (by first | (with_reducible assumption) | assumption)); replace q14 := eq_true q14) | (go_at_call 19; (with_reducible refine (impl_ScriptParse.calls (t108.extract 0 ((ji15) : Int).toNat) t111 t112 _ A18.out).mono ?_); rintro e w29 ⟨rfl, hb⟩; have n0_ := Aside0.mk (below_step (by repeat (first | (with_reducible first | exact HB.out | apply below_alloc | apply pw_below_drewN | apply below_drew1) | exact HB.out)) hb); clear HB; have HB := n0_; clear n0_; (try clear hb); (try clear hb2); (try clear hk); (try clear hi)))
                    repeat (go_quiet (first | (go_at_call 18; (with_reducible refine (laws_four.calls k a0 t108 _ A4.out).mono ?_); rintro e w27 ⟨rfl, hb⟩; have n0_ := Aside0.mk (below_step (by repeat (first | (with_reducible first | exact HB.out | apply below_alloc | apply pw_below_drewN | apply below_drew1) | exact HB.out)) hb); clear HB; have HB := n0_; clear n0_; (try clear hb); (try clear hb2); (try clear hk); (try clear hi)) | (go_at_call 19; (with_reducible refine (impl_ScriptParse.calls (t108 ++ a1) t109 false _ A6.out).mono ?_); rintro e w28 ⟨rfl, hb⟩; have n0_ := Aside0.mk (below_step (by repeat (first | (with_reducible first | exact HB.out | apply below_alloc | apply pw_below_drewN | apply below_drew1) | exact HB.out)) hb); clear HB; have HB := n0_; clear n0_; (try clear hb); (try clear hb2); (try clear hk); (try clear hi); have p8 : 0 ≤ (0 : Int) := (by omega); have q8 : 0 < t108.size := (by have : (0 : Int) < (t108.size : Int) := of_decide_eq_true (by first | (with_reducible assumption) | assumption); omega); have hx8 : ∀ h : 0 < t108.size, ((t108[0]'h).toNat : Int) = bt t108 0 := bt_at t108 0; clear p8; have qi8 : (0 < (t108.size : Int)) = True := eq_true (of_decide_eq_true (by first | (with_reducible assumption) | assumption)); replace q8 := eq_true q8; have p10 : 0 ≤ (1 : Int) := (by omega); have q10 : 1 < t108.size := (by have : (1 : Int) < (t108.size : Int) := of_decide_eq_true (by first | (with_reducible assumption) | assumption); omega); have hx10 : ∀ h : 1 < t108.size, ((t108[1]'h).toNat : Int) = bt t108 1 := bt_at t108 1; clear p10; have qi10 : (1 < (t108.size : Int)) = True := eq_true (of_decide_eq_true (by first | (with_reducible assumption) | assumption)); replace q10 := eq_true q10; have p12 : 0 ≤ (2 : Int) := (by omega); have q12 : 2 < t108.size := (by have : (2 : Int) < (t108.size : Int) := of_decide_eq_true (by first | (with_reducible assumption) | assumption); omega); have hx12 : ∀ h : 2 < t108.size, ((t108[2]'h).toNat : Int) = bt t108 2 := bt_at t108 2; clear p12; have qi12 : (2 < (t108.size : Int)) = True := eq_true (of_decide_eq_true (by first | (with_reducible assumption) | assumption)); replace q12 := eq_true q12; have p14 : 0 ≤ (3 : Int) := (by omega); have q14 : 3 < t108.size := (by have : (3 : Int) < (t108.size : Int) := of_decide_eq_true (by first | (with_reducible assumption) | assumption); omega); have hx14 : ∀ h : 3 < t108.size, ((t108[3]'h).toNat : Int) = bt t108 3 := bt_at t108 3; clear p14; have qi14 : (3 < (t108.size : Int)) = True := eq_true (of_decide_eq_true (by first | (with_reducible assumption) | assumption)); replace q14 := eq_true q14) | (go_at_call 19; (with_reducible refine (impl_ScriptParse.calls (t108.extract 0 ((ji15) : Int).toNat) t111 t112 _ A18.out).mono ?_); rintro e w29 ⟨rfl, hb⟩; have n0_ := Aside0.mk (below_step (by repeat (first | (with_reducible first | exact HB.out | apply below_alloc | apply pw_below_drewN | apply below_drew1) | exact HB.out)) hb); clear HB; have HB := n0_; clear n0_; (try clear hb); (try clear hb2); (try clear hk); (try clear hi))); try go_wp2_with (first | (go_at_call 18; (with_reducible refine (laws_four.calls k a0 t108 _ A4.out).mono ?_); rintro e w27 ⟨rfl, hb⟩; have n0_ := Aside0.mk (below_step (by repeat (first | (with_reducible first | exact HB.out | apply below_alloc | apply pw_below_drewN | apply below_drew1) | exact HB.out)) hb); clear HB; have HB := n0_; clear n0_; (try clear hb); (try clear hb2); (try clear hk); (try clear hi)) | (go_at_call 19; (with_reducible refine (impl_ScriptParse.calls (t108 ++ a1) t109 false _ A6.out).mono ?_); rintro e w28 ⟨rfl, hb⟩; have n0_ := Aside0.mk (below_step (by repeat (first | (with_reducible first | exact HB.out | apply below_alloc | apply pw_below_drewN | apply below_drew1) | exact HB.out)) hb); clear HB; have HB := n0_; clear n0_; (try clear hb); (try clear hb2); (try clear hk); (try clear hi); have p8 : 0 ≤ (0 : Int) := (by omega); have q8 : 0 < t108.size := (by have : (0 : Int) < (t108.size : Int) := of_decide_eq_true (by first | (with_reducible assumption) | assumption); omega); have hx8 : ∀ h : 0 < t108.size, ((t108[0]'h).toNat : Int) = bt t108 0 := bt_at t108 0; clear p8; have qi8 : (0 < (t108.size : Int)) = True := eq_true (of_decide_eq_true (by first | (with_reducible assumption) | assumption)); replace q8 := eq_true q8; have p10 : 0 ≤ (1 : Int) := (by omega); have q10 : 1 < t108.size := (by have : (1 : Int) < (t108.size : Int) := of_decide_eq_true (by first | (with_reducible assumption) | assumption); omega); have hx10 : ∀ h : 1 < t108.size, ((t108[1]'h).toNat : Int) = bt t108 1 := bt_at t108 1; clear p10; have qi10 : (1 < (t108.size : Int)) = True := eq_true (of_decide_eq_true (by first | (with_reducible assumption) | assumption)); replace q10 := eq_true q10; have p12 : 0 ≤ (2 : Int) := (by omega); have q12 : 2 < t108.size := (by have : (2 : Int) < (t108.size : Int) := of_decide_eq_true (by first | (with_reducible assumption) | assumption); omega); have hx12 : ∀ h : 2 < t108.size, ((t108[2]'h).toNat : Int) = bt t108 2 := bt_at t108 2; clear p12; have qi12 : (2 < (t108.size : Int)) = True := eq_true (of_decide_eq_true (by first | (with_reducible assumption) | assumption)); replace q12 := eq_true q12; have p14 : 0 ≤ (3 : Int) := (by omega); have q14 : 3 < t108.size := (by have : (3 : Int) < (t108.size : Int) := of_decide_eq_true (by first | (with_reducible assumption) | assumption); omega); have hx14 : ∀ h : 3 < t108.size, ((t108[3]'h).toNat : Int) = bt t108 3 := bt_at t108 3; clear p14; have qi14 : (3 < (t108.size : Int)) = True := eq_true (of_decide_eq_true (by first | (with_reducible assumption) | assumption)); replace q14 := eq_true q14) | (go_at_call 19; (with_reducible refine (impl_ScriptParse.calls (t108.extract 0 ((ji15) : Int).toNat) t111 t112 _ A18.out).mono ?_); rintro e w29 ⟨rfl, hb⟩; have n0_ := Aside0.mk (below_step (by repeat (first | (with_reducible first | exact HB.out | apply below_alloc | apply pw_below_drewN | apply below_drew1) | exact HB.out)) hb); clear HB; have HB := n0_; clear n0_; (try clear hb); (try clear hb2); (try clear hk); (try clear hi))))
                    go_ret
                    exact ⟨by first | rfl | (simp [errW_none, errW_some] <;> rfl) | (simp only [← hji15]; first | rfl | (simp [errW_none, errW_some] <;> rfl)) | (simp [*, errW_none, errW_some] <;> rfl), by repeat (first | (with_reducible first | exact HB.out | apply below_alloc | apply pw_below_drewN | apply below_drew1) | exact HB.out)⟩
                · rw [if_neg c17] at H
                  exact absurd H (by simp)
              · rw [if_neg c16] at H
                exact absurd H (by simp)
            · rw [if_neg c13] at H
              exact absurd H (by simp)
          · rw [if_neg c11] at H
            exact absurd H (by simp)
        · rw [if_neg c9] at H
          exact absurd H (by simp)
      · rw [if_neg c7] at H
        exact absurd H (by simp)
    · rw [if_neg c5] at H
      exact absurd H (by simp)

/-- THE ONE PURE STATEMENT of laws_FnScriptParse: yours. -/
def laws_FnScriptParse.Pure : Prop := ∀ (a0 : Int) (a1 : ByteArray), (Lit.int .u32 a0).wf = true → a1.size ≤ 140737488351232 → ∃ k, laws_FnScriptParse.f k a0 a1 = some true
theorem laws_FnScriptParse.walk (P : laws_FnScriptParse.Pure) (a0 : Int) (a1 : ByteArray) (w : World) (w0 : (Lit.int .u32 a0).wf = true) (w1 : a1.size ≤ 140737488351232) :
    Calls Try.prog 5 #[.int .u32 a0, .string a1] w fun e w' => e = .returned (.bool true) ∧ Below w.heap.size w w' := by
  obtain ⟨k, h⟩ := P a0 a1 w0 w1
  refine (laws_FnScriptParse.calls k a0 a1 true w h).mono ?_
  rintro e w' ⟨rfl, hd⟩
  exact ⟨rfl, hd⟩

end Go.Proofs.Ytkfphiccfnfkdaa.PFnScriptParse
