-- Written by a program of this session (xprint) out of the translation; Lean checks it.
import Derived.Test.YtkfphiccfnfkdaaDoorPFnLangNewx0
namespace Go.Proofs.YtkfphiccfnfkdaaDoor.PFnLangNew
open Go.RowKit Go.Proofs.YtkfphiccfnfkdaaDoorW.PrintWords Go.Proofs.YtkfphiccfnfkdaaDoorW.PrintLast Go.Proofs.YtkfphiccfnfkdaaDoorW.PrintMore
attribute [local go_sem] max2_int min2_int max_two min_two max_three min_three max_four min_four   -- for this text's walks alone
set_option linter.unusedVariables false
set_option linter.unusedSimpArgs false

/-! ### impl_plainText: function 7 -/
def impl_plainText.l0 : Nat → ByteArray → Int → Int → Option (Bool)
  | 0, _, _, _ => none
  | k + 1, x0, x5, x6 => if x6 < x5 then (if 0 ≤ x6 then (if x6 < (x0.size : Int) then (if (bt x0 x6) ≥ 128 then (some false) else (impl_plainText.l0 k x0 x5 (wrap64 (x6 + 1)))) else (none)) else (none)) else (some true)
def impl_plainText.f (k : Nat) (a0 : ByteArray) : Option (Bool) := impl_plainText.l0 k a0 (a0.size : Int) 0
theorem impl_plainText.mono_l : ∀ k, (∀ y0 y1 y2, LeO (impl_plainText.l0 k y0 y1 y2) (impl_plainText.l0 (k + 1) y0 y1 y2))
  | 0 => fun _ _ _ r h => by simp [impl_plainText.l0] at h
  | k + 1 => by
    have ih0 := impl_plainText.mono_l k
    · intro y0 y1 y2
      unfold impl_plainText.l0
      repeat' first
      | (with_reducible exact ih0 _ _ _)
      | (with_reducible exact LeO.refl _)
      | (with_reducible exact LeO.none _)
      | (with_reducible refine LeO.ite ?_ ?_)
      | (with_reducible refine LeO.bind ?_ (fun _ => ?_))
      | exact ih0 _ _ _
      | exact LeO.none _
      | refine LeO.ite ?_ ?_
      | refine LeO.bind ?_ (fun _ => ?_)
theorem impl_plainText.mono : ∀ a0 k, LeO (impl_plainText.f k a0) (impl_plainText.f (k + 1) a0) := by
  intro a0 k
  have ih0 := impl_plainText.mono_l k
  unfold impl_plainText.f
  repeat' first
      | (with_reducible exact ih0 _ _ _)
      | (with_reducible exact LeO.refl _)
      | (with_reducible exact LeO.none _)
      | (with_reducible refine LeO.ite ?_ ?_)
      | (with_reducible refine LeO.bind ?_ (fun _ => ?_))
      | exact ih0 _ _ _
      | exact LeO.none _
      | refine LeO.ite ?_ ?_
      | refine LeO.bind ?_ (fun _ => ?_)
set_option maxHeartbeats 8000000 in
set_option maxRecDepth 100000 in
theorem impl_plainText.calls (k : Nat) (a0 : ByteArray) (r : Bool) (w : World) (h : impl_plainText.f k a0 = some r) :
    Calls Tryd.prog 7 #[.string a0] w fun e w' => e = .returned (.bool r) ∧ Drawn0 w w' := by
  have H : (impl_plainText.l0 k a0 (a0.size : Int) 0) = some r := h
  clear h
  have H' := Aside0.mk H
  clear H
  go_enter Tryd.func7, Tryd.ntmps7
  go_wp2
  go_loopg [6] k (fun kq v6 w' => ∃ (x6_1 : Int), v6 = .int .i64 x6_1 ∧ Aside0 (impl_plainText.l0 kq a0 (a0.size : Int) x6_1 = some r) ∧ Aside0 (kq ≤ k) ∧ Drawn0 w w')
  case atStart => exact ⟨(0), (by first | rfl | (simp; done) | (simp [*]; done)), H', ⟨Nat.le_refl _⟩, by repeat (first | exact Drawn0.refl _ | apply Drawn0.step)⟩
  case round =>
    clear H'
    obtain ⟨x6_1, rfl, HA, HK1, ⟨m1, rfl⟩⟩ := hrel
    cases gk with
    | zero => exact absurd HA.out (by simp [impl_plainText.l0])
    | succ k1 =>
      have H := HA.out
      clear HA
      simp only [impl_plainText.l0] at H
      by_cases c2 : x6_1 < (a0.size : Int)
      · rw [if_pos c2] at H
        have c2b0 : decide (x6_1 < (a0.size : Int)) = true := decide_eq_true c2
        clear c2
        by_cases c3 : 0 ≤ x6_1
        · rw [if_pos c3] at H
          have c3b0 : decide (0 ≤ x6_1) = true := decide_eq_true c3
          clear c3
          by_cases c4 : x6_1 < (a0.size : Int)
          · rw [if_pos c4] at H
            have c4b0 : decide (x6_1 < (a0.size : Int)) = true := decide_eq_true c4
            clear c4
            by_cases c6 : (bt a0 x6_1) ≥ 128
            · rw [if_pos c6] at H
              have c6b0 : decide (128 ≤ (bt a0 x6_1)) = true := decide_eq_true c6
              clear c6
              obtain rfl := Option.some.inj H
              have p5 : 0 ≤ (x6_1 : Int) := of_decide_eq_true (by first | (with_reducible assumption) | assumption)
              have q5 : x6_1 < (a0.size : Int) := of_decide_eq_true (by first | (with_reducible assumption) | assumption)
              have hx5 := bt_at a0 x6_1
              replace p5 := eq_true p5
              replace q5 := eq_true q5
              go_wp2
              go_ret
              exact ⟨by first | rfl | (simp; done) | (simp [*]; done), by repeat (first | exact Drawn0.refl _ | apply Drawn0.step)⟩
            · rw [if_neg c6] at H
              have c6b0 : decide (128 ≤ (bt a0 x6_1)) = false := decide_eq_false c6
              clear c6
              have H' := Aside0.mk H
              clear H
              have p5 : 0 ≤ (x6_1 : Int) := of_decide_eq_true (by first | (with_reducible assumption) | assumption)
              have q5 : x6_1 < (a0.size : Int) := of_decide_eq_true (by first | (with_reducible assumption) | assumption)
              have hx5 := bt_at a0 x6_1
              replace p5 := eq_true p5
              replace q5 := eq_true q5
              go_wp2
              go_roundg k1
              case measure => have := HK1.out; omega
              case rel => exact ⟨(wrap64 (x6_1 + 1)), (by first | rfl | (simp; done) | (simp [*]; done)), H', ⟨by have := HK1.out; omega⟩, by repeat (first | exact Drawn0.refl _ | apply Drawn0.step)⟩
          · rw [if_neg c4] at H
            exact absurd H (by simp)
        · rw [if_neg c3] at H
          exact absurd H (by simp)
      · rw [if_neg c2] at H
        have c2b0 : decide (x6_1 < (a0.size : Int)) = false := decide_eq_false c2
        clear c2
        obtain rfl := Option.some.inj H
        go_wp2
        go_ret
        exact ⟨by first | rfl | (simp; done) | (simp [*]; done), by repeat (first | exact Drawn0.refl _ | apply Drawn0.step)⟩

/-! ### language_NewLanguage: function 8 -/
/-- What the table holds. -/
def canon : List Int := [0, 0, 0, 0, 0, 0, 0, 0, 0, 0, 0, 0, 0, 0, 0, 0, 0, 0, 0, 0, 0, 0, 0, 0, 0, 0, 0, 0, 0, 0, 0, 0, 0, 0, 0, 0, 0, 0, 0, 0, 0, 0, 0, 0, 0, 45, 0, 0, 48, 49, 50, 51, 52, 53, 54, 55, 56, 57, 0, 0, 0, 0, 0, 0, 45, 97, 98, 99, 100, 101, 102, 103, 104, 105, 106, 107, 108, 109, 110, 111, 112, 113, 114, 115, 116, 117, 118, 119, 120, 121, 122, 0, 0, 0, 0, 45, 0, 97, 98, 99, 100, 101, 102, 103, 104, 105, 106, 107, 108, 109, 110, 111, 112, 113, 114, 115, 116, 117, 118, 119, 120, 121, 122, 0, 0, 0, 0, 0, 0, 0, 0, 0, 0, 0, 0, 0, 0, 0, 0, 0, 0, 0, 0, 0, 0, 0, 0, 0, 0, 0, 0, 0, 0, 0, 0, 0, 0, 0, 0, 0, 0, 0, 0, 0, 0, 0, 0, 0, 0, 0, 0, 0, 0, 0, 0, 0, 0, 0, 0, 0, 0, 0, 0, 0, 0, 0, 0, 0, 0, 0, 0, 0, 0, 0, 0, 0, 0, 0, 0, 0, 0, 0, 0, 0, 0, 0, 0, 0, 0, 0, 0, 0, 0, 0, 0, 0, 0, 0, 0, 0, 0, 0, 0, 0, 0, 0, 0, 0, 0, 0, 0, 0, 0, 0, 0, 0, 0, 0, 0, 0, 0, 0, 0, 0, 0, 0, 0, 0, 0, 0, 0, 0, 0, 0, 0, 0]
/-- The table as it lies in memory. -/
def Tab (w : World) : Prop := ∀ i : Nat, i < 256 → w.cell? ⟨0, i, none⟩ = some (.int .u8 (canon.getD i 0))

def language_NewLanguage.l0 : Nat → ByteArray → Nat → List Int → Option ByteArray
  | 0, _, _, _ => none
  | k + 1, s, pos, xs => if h : pos < s.size then (if (s[pos]'h).toNat < 128 then (if canon.getD (s[pos]'h).toNat 0 = 0 then language_NewLanguage.l0 k s (pos + 1) xs else (if xs.length < 140737488355328 then language_NewLanguage.l0 k s (pos + 1) (xs ++ [canon.getD (s[pos]'h).toNat 0]) else none)) else none) else some (strOfNums xs)
def language_NewLanguage.g (k : Nat) (s : ByteArray) : Option ByteArray := if s.size ≤ 2147483647 then language_NewLanguage.l0 k s 0 [] else none

theorem lt_of_heap {w : World} {k : Nat} {o : Obj} (h : w.heap[k]? = some o) : k < w.heap.size := (Array.getElem?_eq_some_iff.1 h).1
theorem heap_alloc_old {w : World} {k : Nat} {o : Obj} (o' : Obj) (h : w.heap[k]? = some o) : (w.alloc o').heap[k]? = some o := (Below.heap_alloc w o' k (lt_of_heap h)).trans h
theorem sz_ (w : World) (o : Obj) : (w.alloc o).heap.size = w.heap.size + 1 := by unfold World.alloc; simp

set_option maxHeartbeats 8000000 in
set_option maxRecDepth 100000 in
theorem language_NewLanguage.calls_ (k : Nat) (a0 : ByteArray) (r : ByteArray) (w : World) (GG : Tab w) (h : language_NewLanguage.g k a0 = some r) :
    Calls Tryd.prog 8 #[.string a0] w fun e w' => e = .returned (.string r) ∧ Below w.heap.size w w' := by
  have hs : a0.size ≤ 2147483647 := by
    unfold language_NewLanguage.g at h
    split at h
    · assumption
    · cases h
  have H : language_NewLanguage.l0 k a0 0 [] = some r := by
    unfold language_NewLanguage.g at h
    rwa [if_pos hs] at h
  clear h
  have H' := Aside0.mk H
  clear H
  have hmk : (Instr.makeSlice 26 (.int .i64 0) (.int .i64 (a0.size : Int))).run Tryd.prog w = .ok (.slice (some ⟨w.heap.size, 0, none⟩) 0 a0.size) (w.alloc (.cells (madeCells #[Value.int .u8 0] (a0.size * 1)) 5)) := by
    obtain ⟨i0, hi, hzz⟩ := Option.map_eq_some_iff.1 info5
    simp only [Prod.mk.injEq] at hzz
    obtain ⟨hz0, hz1, hz2⟩ := hzz
    have q := run_make (P := Tryd.prog) w 26 5 i0 (.int .u8 0) Tryd.underlying26 hi hz0 .i64 .i64 0 (a0.size : Int) (by omega) (by omega) (by rw [hz2]; omega) (by omega)
    simpa [hz1, Value.cells] using q
  go_enter Tryd.func8, Tryd.ntmps8
  go_wp2
  have hn : w.heap.size < (w.alloc (Obj.cells (madeCells #[Value.int IntKind.u8 0] a0.size) 5)).heap.size := by rw [sz_]; exact Nat.lt_succ_self _
  have hW1 : (w.alloc (Obj.cells (madeCells #[Value.int IntKind.u8 0] a0.size) 5)).heap.size = w.heap.size + 1 := sz_ _ _
  go_loopg [3] k (fun kq v3 w' => ∃ (pos : Nat) (xs : List Int), Aside0 (language_NewLanguage.l0 kq a0 pos xs = some r) ∧ Aside0 (kq ≤ k) ∧ Aside0 (Kd.R (Kd.int .u8) 5 w' w.heap.size (fun k_ => k_ ≠ w.heap.size + 1) v3 xs) ∧ Aside0 (w'.heap[w.heap.size + 1]? = some (.stringIter a0 pos)) ∧ Aside0 (Below w.heap.size w w'))
  case atStart =>
    refine ⟨0, [], H', ⟨Nat.le_refl _⟩, ⟨?_⟩, ⟨?_⟩, ⟨?_⟩⟩
    · refine ⟨fun k_ hk => ?_, [], ⟨rfl, Or.inr ⟨w.heap.size, a0.size, madeCells #[Value.int IntKind.u8 0] a0.size, rfl, Nat.le_refl _, ?_, Nat.zero_le _, ?_, ?_, rfl⟩⟩, Reps.none _ _⟩
      · have : w.heap.size = k_ := by simpa [Value.ownBlock] using hk
        omega
      · have h1 : (w.alloc (Obj.cells (madeCells #[Value.int IntKind.u8 0] a0.size) 5)).heap[w.heap.size]? = some (Obj.cells (madeCells #[Value.int IntKind.u8 0] a0.size) 5) := heap_alloc_new w _
        exact (Below.heap_alloc _ _ _ hn).trans h1
      · unfold maxLen; omega
      · rw [size_madeCells]; exact (Nat.mul_one _).symm
    · rw [← hW1]; exact World.iter_heap _ a0 0
    · exact ((Below.refl _ _).alloc (Nat.le_refl _) _).alloc (Nat.le_of_lt hn) _
  case round =>
    clear H'
    obtain ⟨pos, xs, HA, HK1, HO, HI, HB⟩ := hrel
    cases gk with
    | zero => exact absurd HA.out (by simp [language_NewLanguage.l0])
    | succ k1 =>
      have H := HA.out
      clear HA
      simp only [language_NewLanguage.l0] at H
      by_cases hp : pos < a0.size
      · rw [dif_pos hp] at H
        by_cases ha : (a0[pos]'hp).toNat < 128
        · rw [if_pos ha] at H
          have hnx : ∀ ty, (Instr.next (.pointer (some ⟨w.heap.size + 1, 0, none⟩)) true ty).run Tryd.prog wr = _ := fun ty => Go.Lib.run_next_ascii_at wr (w.heap.size + 1) a0 pos ty HI.out hp ha
          have h0 : 0 < w.heap.size := World.block_lt_of_cell? (w := w) (a := ⟨0, 0, none⟩) (GG 0 (by omega))
          have HB2 := Aside0.mk (Go.Lib.below_iterAt HB.out (Nat.le_succ w.heap.size) a0 (pos + 1))
          have hcell0 : (wr.iterAt (w.heap.size + 1) a0 (pos + 1)).cell? ⟨0, (a0[pos]'hp).toNat, none⟩ = some (.int .u8 (canon.getD (a0[pos]'hp).toNat 0)) := (HB2.out.cell h0).trans (GG _ (by omega))
          have hge : decide ((255 : Int) ≤ ((a0[pos]'hp).toNat : Int)) = false := decide_eq_false (by omega)
          have HI2 := Aside0.mk (Go.Lib.iterAt_heap wr (w.heap.size + 1) a0 pos (pos + 1) HI.out)
          have HO2 : Aside0 ((Kd.int .u8).R 5 (wr.iterAt (w.heap.size + 1) a0 (pos + 1)) w.heap.size (fun k_ => k_ ≠ w.heap.size + 1) u3 xs) := by
            obtain ⟨h1, inner, ho, hr⟩ := HO.out
            exact ⟨h1, inner, own_move ho (fun k_ hk => Go.Lib.iterAt_other wr (w.heap.size + 1) k_ a0 (pos + 1) (h1 k_ hk)), hr.imp_ (fun _ _ hp => (Kd.int .u8).M_move (fun k_ hk => Go.Lib.iterAt_other wr (w.heap.size + 1) k_ a0 (pos + 1) hk.1) hp)⟩
          obtain ⟨c, hcc⟩ : ∃ c, c = canon.getD (a0[pos]'hp).toNat 0 := ⟨_, rfl⟩
          rw [← hcc] at hcell0 H
          clear hcc
          by_cases hc0 : c = 0
          · rw [if_pos hc0] at H
            have hcb : (c != 0) = false := by rw [hc0]; rfl
            have H' := Aside0.mk H
            clear H hc0
            go_wp2
            go_roundg k1
            case measure => have := HK1.out; omega
            case rel => exact ⟨pos + 1, xs, H', ⟨by have := HK1.out; omega⟩, HO2, HI2, HB2⟩
          · rw [if_neg hc0] at H
            have hcb : (c != 0) = true := bne_iff_ne.2 hc0
            by_cases hl : xs.length < 140737488355328
            · rw [if_pos hl] at H
              have LM := Aside0.mk hl
              have H' := Aside0.mk H
              clear H hc0 hl
              clear HO HI HB
              go_wp2_with (first | ((with_reducible refine gate_builtin (b := .append) (xs := #[.tmp 22, .tmp 24]) rfl ?_); at_builtin; refine Kd.R_append (Kd.int .u8) (w0 := w) w.heap.size rfl (.tmp 22) (.tmp 24) 26 5 (.int .u8 0) 1 rfl Tryd.underlying26 info5 rfl (by decide) (by omega) u3 xs c [.int .u8 c] (fun k_ => k_ ≠ w.heap.size + 1) (fun _ => False) rfl rfl ?aP (fun _ hk => hk.elim) ?aF ?aO ?aB ?aS ?aL ?_; (case aP => exact rfl); (case aB => exact HB2.out); (case aF => exact (fun k_ hk e_ => by have q := lt_of_heap HI2.out; omega)); (case aO => exact HO2.out); (case aS => exact below_size HB2.out); (case aL => have := LM.out; omega); intro v109 w23 ho hb hg hat; have n0_ := Aside0.mk hb; have n1_ := Aside0.mk ho; have n2_ := Aside0.mk (show w23.heap[w.heap.size + 1]? = some (.stringIter a0 (pos + 1)) from (hg.block _ (lt_of_heap HI2.out) (fun e_ => HO2.out.1 _ e_.symm rfl)).trans HI2.out); clear ho hb hg hat HB2 HO2 HI2))
              go_roundg k1
              case measure => have := HK1.out; omega
              case rel => exact ⟨pos + 1, xs ++ [c], H', ⟨by have := HK1.out; omega⟩, n1_, n2_, n0_⟩
            · rw [if_neg hl] at H; cases H
        · rw [if_neg ha] at H; cases H
      · rw [dif_neg hp] at H
        obtain rfl := Option.some.inj H
        have hnx : ∀ ty, (Instr.next (.pointer (some ⟨w.heap.size + 1, 0, none⟩)) true ty).run Tryd.prog wr = _ := fun ty => Go.Lib.run_next_end_at wr (w.heap.size + 1) a0 pos ty HI.out hp
        have hcv24 := own_string (P := Tryd.prog) Tryd.underlying26 Tryd.underlying5 Tryd.underlying24 (Kd.own_of_R HO.out)
        go_wp2
        go_ret
        exact ⟨rfl, HB.out⟩

def language_NewLanguage.f (a0 : ByteArray) : Option ByteArray := language_NewLanguage.g (a0.size + 1) a0
theorem language_NewLanguage.calls (a0 : ByteArray) (r : ByteArray) (w : World) (h : language_NewLanguage.f a0 = some r) (GG : Tab w) :
    Calls Tryd.prog 8 #[.string a0] w fun e w' => e = .returned (.string r) ∧ Below w.heap.size w w' := language_NewLanguage.calls_ (a0.size + 1) a0 r w GG h
theorem tab_below {w w1 : World} (h : Tab w) (hb : Below w.heap.size w w1) : Tab w1 := fun i hi => (hb.cell (World.block_lt_of_cell? (w := w) (a := ⟨0, i, none⟩) (h i hi))).trans (h i hi)

/-! ### impl_LangNew: function 4 -/
def impl_LangNew.f (k : Nat) (a0 : ByteArray) : Option (ByteArray) := (impl_plainText.f k a0).bind fun t101 => (if t101 = true then ((language_NewLanguage.f a0).bind fun t102 => (some t102)) else (some (⟨#[]⟩ : ByteArray)))
theorem impl_LangNew.mono : ∀ a0 k, LeO (impl_LangNew.f k a0) (impl_LangNew.f (k + 1) a0) := by
  intro a0 k
  unfold impl_LangNew.f
  repeat' first
      | (with_reducible exact impl_plainText.mono _ _)
      | (with_reducible exact LeO.refl _)
      | (with_reducible exact LeO.none _)
      | (with_reducible refine LeO.ite ?_ ?_)
      | (with_reducible refine LeO.bind ?_ (fun _ => ?_))
      | exact impl_plainText.mono _ _
      | exact LeO.none _
      | refine LeO.ite ?_ ?_
      | refine LeO.bind ?_ (fun _ => ?_)
set_option maxHeartbeats 8000000 in
set_option maxRecDepth 100000 in
theorem impl_LangNew.calls (k : Nat) (a0 : ByteArray) (r : ByteArray) (w : World) (h : impl_LangNew.f k a0 = some r) (GG : Tab w) :
    Calls Tryd.prog 4 #[.string a0] w fun e w' => e = .returned (.string r) ∧ Below w.heap.size w w' := by
  have HB := Aside0.mk (Below.refl w.heap.size w)
  have H : ((impl_plainText.f k a0).bind fun t101 => (if t101 = true then ((language_NewLanguage.f a0).bind fun t102 => (some t102)) else (some (⟨#[]⟩ : ByteArray)))) = some r := h
  clear h
  replace H := Option.bind_eq_some_iff.mp H
  obtain ⟨t101, A20, H⟩ := H
  replace H : (if t101 = true then ((language_NewLanguage.f a0).bind fun t102 => (some t102)) else (some (⟨#[]⟩ : ByteArray))) = some r := H
  have A2 := Aside0.mk A20
  clear A20
  by_cases c3 : t101 = true
  · subst c3
    have H1 : ((language_NewLanguage.f a0).bind fun t102 => (some t102)) = some r := by rw [if_pos rfl] at H; exact H
    clear H
    have H := H1
    clear H1
    replace H := Option.bind_eq_some_iff.mp H
    obtain ⟨t102, A40, H⟩ := H
    replace H : (some t102) = some r := H
    have A4 := Aside0.mk A40
    clear A40
    obtain rfl := Option.some.inj H
    go_enter Tryd.func4, Tryd.ntmps4
    go_wp2_with (first | ((with_reducible refine gate_callee (f := 7) rfl ?_); refine goesL_ (some 4) rfl rfl Tryd.func7 (by kernel_rfl) rfl #[.string a0] rfl (by (try simp only [List.map_toArray, List.map_cons, List.map_nil]); first | done | rfl | (simp only [List.length_drop, List.length_take]; rfl)) ?_; (with_reducible refine (impl_plainText.calls k a0 true _ A2.out).mono ?_); rintro e w' ⟨rfl, ⟨nd, rfl⟩⟩; refine ⟨_, rfl, ?_⟩) | ((with_reducible refine gate_callee (f := 8) rfl ?_); refine goesL_ (some 7) rfl rfl Tryd.func8 (by kernel_rfl) rfl #[.string a0] rfl (by (try simp only [List.map_toArray, List.map_cons, List.map_nil]); first | done | rfl | (simp only [List.length_drop, List.length_take]; rfl)) ?_; (with_reducible refine (language_NewLanguage.calls a0 t102 _ A4.out (tab_below GG (by repeat (first | (with_reducible first | exact HB.out | apply below_alloc | apply pw_below_drewN | apply below_drew1) | exact HB.out)))).mono ?_); rintro e w5 ⟨rfl, hb⟩; refine ⟨_, rfl, ?_⟩; have n0_ := Aside0.mk (below_step (by repeat (first | (with_reducible first | exact HB.out | apply below_alloc | apply pw_below_drewN | apply below_drew1) | exact HB.out)) hb); clear HB; have HB := n0_; clear n0_; (try clear hb); (try clear hb2); (try clear hk); (try clear hi)))
    go_ret
    exact ⟨by first | rfl | (simp [errW_none, errW_some] <;> rfl) | (simp [*, errW_none, errW_some] <;> rfl), by repeat (first | (with_reducible first | exact HB.out | apply below_alloc | apply pw_below_drewN | apply below_drew1) | exact HB.out)⟩
  · replace c3 := Bool.eq_false_iff.mpr c3
    subst c3
    have H1 : (some (⟨#[]⟩ : ByteArray)) = some r := by rw [if_neg (show ¬ (false = true) by decide)] at H; exact H
    clear H
    have H := H1
    clear H1
    obtain rfl := Option.some.inj H
    go_enter Tryd.func4, Tryd.ntmps4
    go_wp2_with (first | ((with_reducible refine gate_callee (f := 7) rfl ?_); refine goesL_ (some 4) rfl rfl Tryd.func7 (by kernel_rfl) rfl #[.string a0] rfl (by (try simp only [List.map_toArray, List.map_cons, List.map_nil]); first | done | rfl | (simp only [List.length_drop, List.length_take]; rfl)) ?_; (with_reducible refine (impl_plainText.calls k a0 false _ A2.out).mono ?_); rintro e w' ⟨rfl, ⟨nd, rfl⟩⟩; refine ⟨_, rfl, ?_⟩))
    go_ret
    exact ⟨by first | rfl | (simp [errW_none, errW_some] <;> rfl) | (simp [*, errW_none, errW_some] <;> rfl), by repeat (first | (with_reducible first | exact HB.out | apply below_alloc | apply pw_below_drewN | apply below_drew1) | exact HB.out)⟩

/-! ### laws_plainText: function 5 -/
mutual
def laws_plainText.l0 : Nat → ByteArray → Int → Int → Option (Bool)
  | 0, _, _, _ => none
  | k + 1, x0, x5, x6 => if x6 < x5 then (if 0 ≤ x6 then (if x6 < (x0.size : Int) then (if (bt x0 x6) ≥ 128 then (laws_plainText.j1 k x0 x5 x6 true) else (laws_plainText.j1 k x0 x5 x6 ((bt x0 x6) == 64))) else (none)) else (none)) else (some (decide ((x0.size : Int) ≤ 1000)))
def laws_plainText.j1 : Nat → ByteArray → Int → Int → Bool → Option (Bool)
  | 0, _, _, _, _ => none
  | k + 1, x0, x5, x6, x18 => if x18 = true then (some false) else (laws_plainText.l0 k x0 x5 (wrap64 (x6 + 1)))
end
def laws_plainText.f (k : Nat) (a0 : ByteArray) : Option (Bool) := laws_plainText.l0 k a0 (a0.size : Int) 0
theorem laws_plainText.mono_l : ∀ k, (∀ y0 y1 y2, LeO (laws_plainText.l0 k y0 y1 y2) (laws_plainText.l0 (k + 1) y0 y1 y2)) ∧ (∀ y0 y1 y2 y3, LeO (laws_plainText.j1 k y0 y1 y2 y3) (laws_plainText.j1 (k + 1) y0 y1 y2 y3))
  | 0 => ⟨fun _ _ _ r h => by simp [laws_plainText.l0] at h, fun _ _ _ _ r h => by simp [laws_plainText.j1] at h⟩
  | k + 1 => by
    obtain ⟨ih0, ih1⟩ := laws_plainText.mono_l k
    refine ⟨?_, ?_⟩
    · intro y0 y1 y2
      unfold laws_plainText.l0
      repeat' first
      | (with_reducible exact ih0 _ _ _)
      | (with_reducible exact ih1 _ _ _ _)
      | (with_reducible exact LeO.refl _)
      | (with_reducible exact LeO.none _)
      | (with_reducible refine LeO.ite ?_ ?_)
      | (with_reducible refine LeO.bind ?_ (fun _ => ?_))
      | exact ih0 _ _ _
      | exact ih1 _ _ _ _
      | exact LeO.none _
      | refine LeO.ite ?_ ?_
      | refine LeO.bind ?_ (fun _ => ?_)
    · intro y0 y1 y2 y3
      unfold laws_plainText.j1
      repeat' first
      | (with_reducible exact ih0 _ _ _)
      | (with_reducible exact ih1 _ _ _ _)
      | (with_reducible exact LeO.refl _)
      | (with_reducible exact LeO.none _)
      | (with_reducible refine LeO.ite ?_ ?_)
      | (with_reducible refine LeO.bind ?_ (fun _ => ?_))
      | exact ih0 _ _ _
      | exact ih1 _ _ _ _
      | exact LeO.none _
      | refine LeO.ite ?_ ?_
      | refine LeO.bind ?_ (fun _ => ?_)
theorem laws_plainText.mono : ∀ a0 k, LeO (laws_plainText.f k a0) (laws_plainText.f (k + 1) a0) := by
  intro a0 k
  obtain ⟨ih0, ih1⟩ := laws_plainText.mono_l k
  unfold laws_plainText.f
  repeat' first
      | (with_reducible exact ih0 _ _ _)
      | (with_reducible exact ih1 _ _ _ _)
      | (with_reducible exact LeO.refl _)
      | (with_reducible exact LeO.none _)
      | (with_reducible refine LeO.ite ?_ ?_)
      | (with_reducible refine LeO.bind ?_ (fun _ => ?_))
      | exact ih0 _ _ _
      | exact ih1 _ _ _ _
      | exact LeO.none _
      | refine LeO.ite ?_ ?_
      | refine LeO.bind ?_ (fun _ => ?_)
set_option maxHeartbeats 8000000 in
set_option maxRecDepth 100000 in
theorem laws_plainText.calls (k : Nat) (a0 : ByteArray) (r : Bool) (w : World) (h : laws_plainText.f k a0 = some r) :
    Calls Tryd.prog 5 #[.string a0] w fun e w' => e = .returned (.bool r) ∧ Drawn0 w w' := by
  have H : (laws_plainText.l0 k a0 (a0.size : Int) 0) = some r := h
  clear h
  have H' := Aside0.mk H
  clear H
  go_enter Tryd.func5, Tryd.ntmps5
  go_wp2
  go_loopg [6] k (fun kq v6 w' => ∃ (x6_1 : Int), v6 = .int .i64 x6_1 ∧ Aside0 (laws_plainText.l0 kq a0 (a0.size : Int) x6_1 = some r) ∧ Aside0 (kq ≤ k) ∧ Drawn0 w w')
  case atStart => exact ⟨(0), (by first | rfl | (simp; done) | (simp [*]; done)), H', ⟨Nat.le_refl _⟩, by repeat (first | exact Drawn0.refl _ | apply Drawn0.step)⟩
  case round =>
    clear H'
    obtain ⟨x6_1, rfl, HA, HK1, ⟨m1, rfl⟩⟩ := hrel
    cases gk with
    | zero => exact absurd HA.out (by simp [laws_plainText.l0])
    | succ k1 =>
      have H := HA.out
      clear HA
      simp only [laws_plainText.l0] at H
      by_cases c2 : x6_1 < (a0.size : Int)
      · rw [if_pos c2] at H
        have c2b0 : decide (x6_1 < (a0.size : Int)) = true := decide_eq_true c2
        clear c2
        have HC3 := Aside0.mk H
        clear H
        go_upto_region 4 with (fail)
        go_cut [18] (fun v18 wc => ∃ (kq : Nat) (x18_2 : Bool), v18 = .bool x18_2 ∧ Aside0 (laws_plainText.j1 kq a0 (a0.size : Int) x6_1 x18_2 = some r) ∧ Aside0 (kq ≤ k1) ∧ Drawn0 w wc)
        case first =>
          have H := HC3.out
          clear HC3
          by_cases c4 : 0 ≤ x6_1
          · rw [if_pos c4] at H
            have c4b0 : decide (0 ≤ x6_1) = true := decide_eq_true c4
            clear c4
            (first | rw [c4b0] | (simp only [i64_w, i32_w]; rw [c4b0]) | skip)
            by_cases c5 : x6_1 < (a0.size : Int)
            · rw [if_pos c5] at H
              have c5b0 : decide (x6_1 < (a0.size : Int)) = true := decide_eq_true c5
              clear c5
              by_cases c7 : (bt a0 x6_1) ≥ 128
              · rw [if_pos c7] at H
                have c7b0 : decide (128 ≤ (bt a0 x6_1)) = true := decide_eq_true c7
                clear c7
                have H' := Aside0.mk H
                clear H
                have p6 : 0 ≤ (x6_1 : Int) := of_decide_eq_true (by first | (with_reducible assumption) | assumption)
                have q6 : x6_1 < (a0.size : Int) := of_decide_eq_true (by first | (with_reducible assumption) | assumption)
                have hx6 := bt_at a0 x6_1
                replace p6 := eq_true p6
                replace q6 := eq_true q6
                go_wp2
                go_meet
                case rel => exact ⟨_, (true), (by first | rfl | (simp; done) | (simp [*]; done)), H', ⟨by have := HK1.out; first | omega | exact Nat.le_refl _⟩, by repeat (first | exact Drawn0.refl _ | apply Drawn0.step)⟩
              · rw [if_neg c7] at H
                have c7b0 : decide (128 ≤ (bt a0 x6_1)) = false := decide_eq_false c7
                clear c7
                have H' := Aside0.mk H
                clear H
                have p6 : 0 ≤ (x6_1 : Int) := of_decide_eq_true (by first | (with_reducible assumption) | assumption)
                have q6 : x6_1 < (a0.size : Int) := of_decide_eq_true (by first | (with_reducible assumption) | assumption)
                have hx6 := bt_at a0 x6_1
                replace p6 := eq_true p6
                replace q6 := eq_true q6
                have p8 : 0 ≤ (x6_1 : Int) := of_decide_eq_true (by first | (with_reducible assumption) | assumption)
                have q8 : x6_1 < (a0.size : Int) := of_decide_eq_true (by first | (with_reducible assumption) | assumption)
                have hx8 := bt_at a0 x6_1
                replace p8 := eq_true p8
                replace q8 := eq_true q8
                go_wp2
                go_meet
                case rel => exact ⟨_, (((bt a0 x6_1) == 64)), (by first | rfl | (simp; done) | (simp [*]; done)), H', ⟨by have := HK1.out; first | omega | exact Nat.le_refl _⟩, by repeat (first | exact Drawn0.refl _ | apply Drawn0.step)⟩
            · rw [if_neg c5] at H
              exact absurd H (by simp)
          · rw [if_neg c4] at H
            exact absurd H (by simp)
        case rest =>
          clear HC3
          try clear c2
          try clear c2b0
          try clear p2
          try clear c4
          try clear c4b0
          try clear c5
          try clear c5b0
          try clear p6
          try clear q6
          try clear hx6
          try clear c7
          try clear c7b0
          try clear p8
          try clear q8
          try clear hx8
          try clear p6
          try clear p8
          try clear q6
          try clear q8
          obtain ⟨kq, x18_2, rfl, HA, HJ2, ⟨mc2, rfl⟩⟩ := hcut
          cases kq with
          | zero => exact absurd HA.out (by simp [laws_plainText.j1])
          | succ kj2 =>
            have H := HA.out
            clear HA
            simp only [laws_plainText.j1] at H
            by_cases c9 : x18_2 = true
            · subst c9
              have H1 : (some false) = some r := by rw [if_pos rfl] at H; exact H
              clear H
              have H := H1
              clear H1
              obtain rfl := Option.some.inj H
              go_wp2
              go_ret
              exact ⟨by first | rfl | (simp; done) | (simp [*]; done), by repeat (first | exact Drawn0.refl _ | apply Drawn0.step)⟩
            · replace c9 := Bool.eq_false_iff.mpr c9
              subst c9
              have H1 : (laws_plainText.l0 kj2 a0 (a0.size : Int) (wrap64 (x6_1 + 1))) = some r := by rw [if_neg (show ¬ (false = true) by decide)] at H; exact H
              clear H
              have H := H1
              clear H1
              have H' := Aside0.mk H
              clear H
              go_wp2
              go_roundg kj2
              case measure => have := HK1.out; have := HJ2.out; omega
              case rel => exact ⟨(wrap64 (x6_1 + 1)), (by first | rfl | (simp; done) | (simp [*]; done)), H', ⟨by have := HK1.out; have := HJ2.out; omega⟩, by repeat (first | exact Drawn0.refl _ | apply Drawn0.step)⟩
      · rw [if_neg c2] at H
        have c2b0 : decide (x6_1 < (a0.size : Int)) = false := decide_eq_false c2
        clear c2
        obtain rfl := Option.some.inj H
        go_wp2
        go_ret
        exact ⟨by first | rfl | (simp; done) | (simp [*]; done), by repeat (first | exact Drawn0.refl _ | apply Drawn0.step)⟩

/-! ### spec_LangNew: function 6 -/
mutual
def spec_LangNew.l0 : Nat → ByteArray → List Int → Int → Int → Option (ByteArray)
  | 0, _, _, _, _ => none
  | k + 1, x0, x3, x7, x8 => if x8 < x7 then (if 0 ≤ x8 then (if x8 < (x0.size : Int) then (if (bt x0 x8) ≥ 65 then (spec_LangNew.j1 k x0 x3 (bt x0 x8) x7 x8 (decide ((bt x0 x8) ≤ 90))) else (spec_LangNew.j1 k x0 x3 (bt x0 x8) x7 x8 false)) else (none)) else (none)) else (some (strOfNums x3))
def spec_LangNew.j1 : Nat → ByteArray → List Int → Int → Int → Int → Bool → Option (ByteArray)
  | 0, _, _, _, _, _, _ => none
  | k + 1, x0, x3, x5, x7, x8, x14 => if x14 = true then (if x3.length < 140737488355328 then (spec_LangNew.l0 k x0 (x3 ++ [(x5 + 32) % 256]) x7 (wrap64 (x8 + 1))) else (none)) else (if x5 = 95 then (if x3.length < 140737488355328 then (spec_LangNew.l0 k x0 (x3 ++ [45]) x7 (wrap64 (x8 + 1))) else (none)) else (if x5 ≥ 97 then (if x5 ≤ 122 then (spec_LangNew.j2 k x0 x3 x5 x7 x8 true) else (if x5 ≥ 48 then (if x5 ≤ 57 then (spec_LangNew.j2 k x0 x3 x5 x7 x8 true) else (spec_LangNew.j2 k x0 x3 x5 x7 x8 (x5 == 45))) else (spec_LangNew.j2 k x0 x3 x5 x7 x8 (x5 == 45)))) else (if x5 ≥ 48 then (if x5 ≤ 57 then (spec_LangNew.j2 k x0 x3 x5 x7 x8 true) else (spec_LangNew.j2 k x0 x3 x5 x7 x8 (x5 == 45))) else (spec_LangNew.j2 k x0 x3 x5 x7 x8 (x5 == 45)))))
def spec_LangNew.j2 : Nat → ByteArray → List Int → Int → Int → Int → Bool → Option (ByteArray)
  | 0, _, _, _, _, _, _ => none
  | k + 1, x0, x3, x5, x7, x8, x32 => if x32 = true then (if x3.length < 140737488355328 then (spec_LangNew.l0 k x0 (x3 ++ [x5]) x7 (wrap64 (x8 + 1))) else (none)) else (spec_LangNew.l0 k x0 x3 x7 (wrap64 (x8 + 1)))
end
def spec_LangNew.f (k : Nat) (a0 : ByteArray) : Option (ByteArray) := spec_LangNew.l0 k a0 ([] : List Int) (a0.size : Int) 0
theorem spec_LangNew.mono_l : ∀ k, (∀ y0 y1 y2 y3, LeO (spec_LangNew.l0 k y0 y1 y2 y3) (spec_LangNew.l0 (k + 1) y0 y1 y2 y3)) ∧ (∀ y0 y1 y2 y3 y4 y5, LeO (spec_LangNew.j1 k y0 y1 y2 y3 y4 y5) (spec_LangNew.j1 (k + 1) y0 y1 y2 y3 y4 y5)) ∧ (∀ y0 y1 y2 y3 y4 y5, LeO (spec_LangNew.j2 k y0 y1 y2 y3 y4 y5) (spec_LangNew.j2 (k + 1) y0 y1 y2 y3 y4 y5))
  | 0 => ⟨fun _ _ _ _ r h => by simp [spec_LangNew.l0] at h, fun _ _ _ _ _ _ r h => by simp [spec_LangNew.j1] at h, fun _ _ _ _ _ _ r h => by simp [spec_LangNew.j2] at h⟩
  | k + 1 => by
    obtain ⟨ih0, ih1, ih2⟩ := spec_LangNew.mono_l k
    refine ⟨?_, ?_, ?_⟩
    · intro y0 y1 y2 y3
      unfold spec_LangNew.l0
      repeat' first
      | (with_reducible exact ih0 _ _ _ _)
      | (with_reducible exact ih1 _ _ _ _ _ _)
      | (with_reducible exact ih2 _ _ _ _ _ _)
      | (with_reducible exact LeO.refl _)
      | (with_reducible exact LeO.none _)
      | (with_reducible refine LeO.ite ?_ ?_)
      | (with_reducible refine LeO.bind ?_ (fun _ => ?_))
      | exact ih0 _ _ _ _
      | exact ih1 _ _ _ _ _ _
      | exact ih2 _ _ _ _ _ _
      | exact LeO.none _
      | refine LeO.ite ?_ ?_
      | refine LeO.bind ?_ (fun _ => ?_)
    · intro y0 y1 y2 y3 y4 y5
      unfold spec_LangNew.j1
      repeat' first
      | (with_reducible exact ih0 _ _ _ _)
      | (with_reducible exact ih1 _ _ _ _ _ _)
      | (with_reducible exact ih2 _ _ _ _ _ _)
      | (with_reducible exact LeO.refl _)
      | (with_reducible exact LeO.none _)
      | (with_reducible refine LeO.ite ?_ ?_)
      | (with_reducible refine LeO.bind ?_ (fun _ => ?_))
      | exact ih0 _ _ _ _
      | exact ih1 _ _ _ _ _ _
      | exact ih2 _ _ _ _ _ _
      | exact LeO.none _
      | refine LeO.ite ?_ ?_
      | refine LeO.bind ?_ (fun _ => ?_)
    · intro y0 y1 y2 y3 y4 y5
      unfold spec_LangNew.j2
      repeat' first
      | (with_reducible exact ih0 _ _ _ _)
      | (with_reducible exact ih1 _ _ _ _ _ _)
      | (with_reducible exact ih2 _ _ _ _ _ _)
      | (with_reducible exact LeO.refl _)
      | (with_reducible exact LeO.none _)
      | (with_reducible refine LeO.ite ?_ ?_)
      | (with_reducible refine LeO.bind ?_ (fun _ => ?_))
      | exact ih0 _ _ _ _
      | exact ih1 _ _ _ _ _ _
      | exact ih2 _ _ _ _ _ _
      | exact LeO.none _
      | refine LeO.ite ?_ ?_
      | refine LeO.bind ?_ (fun _ => ?_)
theorem spec_LangNew.mono : ∀ a0 k, LeO (spec_LangNew.f k a0) (spec_LangNew.f (k + 1) a0) := by
  intro a0 k
  obtain ⟨ih0, ih1, ih2⟩ := spec_LangNew.mono_l k
  unfold spec_LangNew.f
  repeat' first
      | (with_reducible exact ih0 _ _ _ _)
      | (with_reducible exact ih1 _ _ _ _ _ _)
      | (with_reducible exact ih2 _ _ _ _ _ _)
      | (with_reducible exact LeO.refl _)
      | (with_reducible exact LeO.none _)
      | (with_reducible refine LeO.ite ?_ ?_)
      | (with_reducible refine LeO.bind ?_ (fun _ => ?_))
      | exact ih0 _ _ _ _
      | exact ih1 _ _ _ _ _ _
      | exact ih2 _ _ _ _ _ _
      | exact LeO.none _
      | refine LeO.ite ?_ ?_
      | refine LeO.bind ?_ (fun _ => ?_)
set_option maxHeartbeats 8000000 in
set_option maxRecDepth 100000 in
theorem spec_LangNew.calls (k : Nat) (a0 : ByteArray) (r : ByteArray) (w : World) (h : spec_LangNew.f k a0 = some r) :
    Calls Tryd.prog 6 #[.string a0] w fun e w' => e = .returned (.string r) ∧ Below w.heap.size w w' := by
  have HB := Aside0.mk (Below.refl w.heap.size w)
  have H : (spec_LangNew.l0 k a0 ([] : List Int) (a0.size : Int) 0) = some r := h
  clear h
  have H' := Aside0.mk H
  clear H
  go_enter Tryd.func6, Tryd.ntmps6
  go_wp2
  go_loopg [3, 8] k (fun kq v3 v8 w' => ∃ (x3_1 : List Int) (x8_1 : Int), v8 = .int .i64 x8_1 ∧ Aside0 (spec_LangNew.l0 kq a0 x3_1 (a0.size : Int) x8_1 = some r) ∧ Aside0 (kq ≤ k) ∧ Aside0 (Kd.R (Kd.int .u8) 5 w' w.heap.size (fun _ => True) v3 x3_1) ∧ Aside0 (Below w.heap.size w w'))
  case atStart => exact ⟨(([] : List Int)), (0), (by first | rfl | (simp; done) | (simp [*]; done)), H', ⟨Nat.le_refl _⟩, ⟨by first | exact Kd.R_nil _ _ _ _ _ | exact Kd.N_nil _ _ _ _ _ | exact Kd.V_nil _ _ _ _ _ | exact Kd.Q_nil _ _ _ _ _ | exact Kd.S_nil _ _ _ _ _⟩, ⟨by repeat (first | (with_reducible first | exact HB.out | apply below_alloc | apply pw_below_drewN | apply below_drew1) | exact HB.out)⟩⟩
  case round =>
    clear H'
    obtain ⟨x3_1, x8_1, rfl, HA, HK1, HO_3, HB⟩ := hrel
    cases gk with
    | zero => exact absurd HA.out (by simp [spec_LangNew.l0])
    | succ k1 =>
      have H := HA.out
      clear HA
      simp only [spec_LangNew.l0] at H
      by_cases c2 : x8_1 < (a0.size : Int)
      · rw [if_pos c2] at H
        have c2b0 : decide (x8_1 < (a0.size : Int)) = true := decide_eq_true c2
        clear c2
        by_cases c3 : 0 ≤ x8_1
        · rw [if_pos c3] at H
          have c3b0 : decide (0 ≤ x8_1) = true := decide_eq_true c3
          clear c3
          by_cases c4 : x8_1 < (a0.size : Int)
          · rw [if_pos c4] at H
            have c4b0 : decide (x8_1 < (a0.size : Int)) = true := decide_eq_true c4
            clear c4
            have HC6 := Aside0.mk H
            clear H
            have p5 : 0 ≤ (x8_1 : Int) := of_decide_eq_true (by first | (with_reducible assumption) | assumption)
            have q5 : x8_1 < (a0.size : Int) := of_decide_eq_true (by first | (with_reducible assumption) | assumption)
            have hx5 := bt_at a0 x8_1
            replace p5 := eq_true p5
            replace q5 := eq_true q5
            go_upto_region 6 with (fail)
            go_cut [14] (fun v14 wc => ∃ (kq : Nat) (x14_5 : Bool), v14 = .bool x14_5 ∧ Aside0 (spec_LangNew.j1 kq a0 x3_1 (bt a0 x8_1) (a0.size : Int) x8_1 x14_5 = some r) ∧ Aside0 (kq ≤ k1) ∧ Aside0 (Kd.R (Kd.int .u8) 5 wc w.heap.size (fun _ => True) u3 x3_1) ∧ Aside0 (Below w.heap.size w wc))
            case first =>
              have H := HC6.out
              clear HC6
              by_cases c7 : (bt a0 x8_1) ≥ 65
              · rw [if_pos c7] at H
                have c7b0 : decide (65 ≤ (bt a0 x8_1)) = true := decide_eq_true c7
                clear c7
                (first | rw [c7b0] | (simp only [i64_w, i32_w]; rw [c7b0]) | skip)
                have H' := Aside0.mk H
                clear H
                go_wp2
                go_meet
                case rel => exact ⟨_, (decide ((bt a0 x8_1) ≤ 90)), (by first | rfl | (simp; done) | (simp [*]; done)), H', ⟨by have := HK1.out; first | omega | exact Nat.le_refl _⟩, ⟨by (with_reducible repeat (first | apply Kd.R_alloc | apply Kd.R_drewN | apply Kd.R_drew)); exact HO_3.out⟩, ⟨by repeat (first | (with_reducible first | exact HB.out | apply below_alloc | apply pw_below_drewN | apply below_drew1) | exact HB.out)⟩⟩
              · rw [if_neg c7] at H
                have c7b0 : decide (65 ≤ (bt a0 x8_1)) = false := decide_eq_false c7
                clear c7
                (first | rw [c7b0] | (simp only [i64_w, i32_w]; rw [c7b0]) | skip)
                have H' := Aside0.mk H
                clear H
                go_wp2
                go_meet
                case rel => exact ⟨_, (false), (by first | rfl | (simp; done) | (simp [*]; done)), H', ⟨by have := HK1.out; first | omega | exact Nat.le_refl _⟩, ⟨by (with_reducible repeat (first | apply Kd.R_alloc | apply Kd.R_drewN | apply Kd.R_drew)); exact HO_3.out⟩, ⟨by repeat (first | (with_reducible first | exact HB.out | apply below_alloc | apply pw_below_drewN | apply below_drew1) | exact HB.out)⟩⟩
            case rest =>
              clear HC6
              try clear c2
              try clear c2b0
              try clear p2
              try clear c3
              try clear c3b0
              try clear c4
              try clear c4b0
              try clear p5
              try clear q5
              try clear hx5
              try clear c6
              try clear c7
              try clear c7b0
              try clear p5
              try clear q5
              obtain ⟨kq, x14_5, rfl, HA, HJ5, HO_3, HB⟩ := hcut
              cases kq with
              | zero => exact absurd HA.out (by simp [spec_LangNew.j1])
              | succ kj5 =>
                have H := HA.out
                clear HA
                simp only [spec_LangNew.j1] at H
                by_cases c8 : x14_5 = true
                · subst c8
                  have H1 : (if x3_1.length < 140737488355328 then (spec_LangNew.l0 kj5 a0 (x3_1 ++ [((bt a0 x8_1) + 32) % 256]) (a0.size : Int) (wrap64 (x8_1 + 1))) else (none)) = some r := by rw [if_pos rfl] at H; exact H
                  clear H
                  have H := H1
                  clear H1
                  by_cases c9 : x3_1.length < 140737488355328
                  · rw [if_pos c9] at H
                    have LMc9 := Aside0.mk c9
                    clear c9
                    obtain ⟨y103, hy103⟩ : ∃ y_ : List Int, y_ = (x3_1 ++ [((bt a0 x8_1) + 32) % 256]) := ⟨_, rfl⟩
                    replace H : (spec_LangNew.l0 kj5 a0 y103 (a0.size : Int) (wrap64 (x8_1 + 1))) = some r := by first | (rw [hy103]; with_reducible exact H) | (have H2_ := (Option.bind_some _ _).symm.trans H; rw [hy103]; with_reducible exact H2_) | (have H2_ := (Option.bind_some _ _).symm.trans H; with_reducible exact H2_) | with_reducible exact H | (rw [hy103]; exact H) | exact H
                    have Ny103 := Aside0.mk hy103
                    clear hy103
                    have H' := Aside0.mk H
                    clear H
                    go_wp2_with (first | ((with_reducible refine gate_builtin (b := .append) (xs := #[.tmp 21, .tmp 24]) rfl ?_); at_builtin; refine Kd.R_append (Kd.int .u8) (w0 := w) w.heap.size rfl (.tmp 21) (.tmp 24) 26 5 (.int .u8 0) 1 rfl Tryd.underlying26 info5 rfl (by decide) (by omega) u3 x3_1 (((bt a0 x8_1) + 32) % 256) [.int .u8 (((bt a0 x8_1) + 32) % 256)] (fun _ => True) (fun _ => False) rfl rfl ?aP (fun _ hk => hk.elim) ?aF ?aO ?aB ?aS ?aL ?_; (case aP => exact rfl); (case aB => exact (by repeat (first | (with_reducible first | exact HB.out | apply below_alloc | apply pw_below_drewN | apply below_drew1) | exact HB.out))); (case aF => exact (fun _ _ => trivial)); (case aO => exact (by (with_reducible repeat (first | apply Kd.R_alloc | apply Kd.R_drewN | apply Kd.R_drew)); exact HO_3.out)); (case aS => exact (below_size (by repeat (first | (with_reducible first | exact HB.out | apply below_alloc | apply pw_below_drewN | apply below_drew1) | exact HB.out)))); (case aL => have := LMc9.out; omega); intro v104 w10 ho hb hg hat; rw [← Ny103.out] at ho; have n0_ := Aside0.mk (hb); have n1_ := Aside0.mk (ho); clear HB; clear HO_3; have HB := n0_; have HO105 := n1_; clear n0_ n1_; clear ho hb hg hat))
                    go_roundg kj5
                    case measure => have := HK1.out; have := HJ5.out; omega
                    case rel => exact ⟨(y103), (wrap64 (x8_1 + 1)), (by first | rfl | (simp; done) | (simp [*]; done)), H', ⟨by have := HK1.out; have := HJ5.out; omega⟩, ⟨by (with_reducible repeat (first | apply Kd.R_alloc | apply Kd.R_drewN | apply Kd.R_drew)); exact HO105.out⟩, ⟨by repeat (first | (with_reducible first | exact HB.out | apply below_alloc | apply pw_below_drewN | apply below_drew1) | exact HB.out)⟩⟩
                  · rw [if_neg c9] at H
                    exact absurd H (by simp)
                · replace c8 := Bool.eq_false_iff.mpr c8
                  subst c8
                  have H1 : (if (bt a0 x8_1) = 95 then (if x3_1.length < 140737488355328 then (spec_LangNew.l0 kj5 a0 (x3_1 ++ [45]) (a0.size : Int) (wrap64 (x8_1 + 1))) else (none)) else (if (bt a0 x8_1) ≥ 97 then (if (bt a0 x8_1) ≤ 122 then (spec_LangNew.j2 kj5 a0 x3_1 (bt a0 x8_1) (a0.size : Int) x8_1 true) else (if (bt a0 x8_1) ≥ 48 then (if (bt a0 x8_1) ≤ 57 then (spec_LangNew.j2 kj5 a0 x3_1 (bt a0 x8_1) (a0.size : Int) x8_1 true) else (spec_LangNew.j2 kj5 a0 x3_1 (bt a0 x8_1) (a0.size : Int) x8_1 ((bt a0 x8_1) == 45))) else (spec_LangNew.j2 kj5 a0 x3_1 (bt a0 x8_1) (a0.size : Int) x8_1 ((bt a0 x8_1) == 45)))) else (if (bt a0 x8_1) ≥ 48 then (if (bt a0 x8_1) ≤ 57 then (spec_LangNew.j2 kj5 a0 x3_1 (bt a0 x8_1) (a0.size : Int) x8_1 true) else (spec_LangNew.j2 kj5 a0 x3_1 (bt a0 x8_1) (a0.size : Int) x8_1 ((bt a0 x8_1) == 45))) else (spec_LangNew.j2 kj5 a0 x3_1 (bt a0 x8_1) (a0.size : Int) x8_1 ((bt a0 x8_1) == 45))))) = some r := by rw [if_neg (show ¬ (false = true) by decide)] at H; exact H
                  clear H
                  have H := H1
                  clear H1
                  by_cases c11 : (bt a0 x8_1) = 95
                  · rw [if_pos c11] at H
                    have c11b0 : ((bt a0 x8_1) == 95) = true := beq_iff_eq.mpr c11
                    have c11b1 : ((bt a0 x8_1) != 95) = false := bne_eq_false_iff_eq.mpr c11
                    clear c11
                    by_cases c12 : x3_1.length < 140737488355328
                    · rw [if_pos c12] at H
                      have LMc12 := Aside0.mk c12
                      clear c12
                      obtain ⟨y106, hy106⟩ : ∃ y_ : List Int, y_ = (x3_1 ++ [45]) := ⟨_, rfl⟩
                      replace H : (spec_LangNew.l0 kj5 a0 y106 (a0.size : Int) (wrap64 (x8_1 + 1))) = some r := by first | (rw [hy106]; with_reducible exact H) | (have H2_ := (Option.bind_some _ _).symm.trans H; rw [hy106]; with_reducible exact H2_) | (have H2_ := (Option.bind_some _ _).symm.trans H; with_reducible exact H2_) | with_reducible exact H | (rw [hy106]; exact H) | exact H
                      have Ny106 := Aside0.mk hy106
                      clear hy106
                      have H' := Aside0.mk H
                      clear H
                      go_wp2_with (first | ((with_reducible refine gate_builtin (b := .append) (xs := #[.tmp 29, .tmp 30]) rfl ?_); at_builtin; refine Kd.R_append (Kd.int .u8) (w0 := w) w.heap.size rfl (.tmp 29) (.tmp 30) 26 5 (.int .u8 0) 1 rfl Tryd.underlying26 info5 rfl (by decide) (by omega) u3 x3_1 45 [.int .u8 45] (fun _ => True) (fun _ => False) rfl rfl ?aP (fun _ hk => hk.elim) ?aF ?aO ?aB ?aS ?aL ?_; (case aP => exact rfl); (case aB => exact (by repeat (first | (with_reducible first | exact HB.out | apply below_alloc | apply pw_below_drewN | apply below_drew1) | exact HB.out))); (case aF => exact (fun _ _ => trivial)); (case aO => exact (by (with_reducible repeat (first | apply Kd.R_alloc | apply Kd.R_drewN | apply Kd.R_drew)); exact HO_3.out)); (case aS => exact (below_size (by repeat (first | (with_reducible first | exact HB.out | apply below_alloc | apply pw_below_drewN | apply below_drew1) | exact HB.out)))); (case aL => have := LMc12.out; omega); intro v107 w13 ho hb hg hat; rw [← Ny106.out] at ho; have n0_ := Aside0.mk (hb); have n1_ := Aside0.mk (ho); clear HB; clear HO_3; have HB := n0_; have HO108 := n1_; clear n0_ n1_; clear ho hb hg hat))
                      go_roundg kj5
                      case measure => have := HK1.out; have := HJ5.out; omega
                      case rel => exact ⟨(y106), (wrap64 (x8_1 + 1)), (by first | rfl | (simp; done) | (simp [*]; done)), H', ⟨by have := HK1.out; have := HJ5.out; omega⟩, ⟨by (with_reducible repeat (first | apply Kd.R_alloc | apply Kd.R_drewN | apply Kd.R_drew)); exact HO108.out⟩, ⟨by repeat (first | (with_reducible first | exact HB.out | apply below_alloc | apply pw_below_drewN | apply below_drew1) | exact HB.out)⟩⟩
                    · rw [if_neg c12] at H
                      exact absurd H (by simp)
                  · rw [if_neg c11] at H
                    have c11b0 : ((bt a0 x8_1) == 95) = false := beq_eq_false_iff_ne.mpr c11
                    have c11b1 : ((bt a0 x8_1) != 95) = true := bne_iff_ne.mpr c11
                    have HC14 := Aside0.mk H
                    clear H
                    go_upto_region 10 with (fail)
                    go_cut [32] (fun v32 wc => ∃ (kq : Nat) (x32_13 : Bool), v32 = .bool x32_13 ∧ Aside0 (spec_LangNew.j2 kq a0 x3_1 (bt a0 x8_1) (a0.size : Int) x8_1 x32_13 = some r) ∧ Aside0 (kq ≤ kj5) ∧ Aside0 (Kd.R (Kd.int .u8) 5 wc w.heap.size (fun _ => True) u3 x3_1) ∧ Aside0 (Below w.heap.size w wc))
                    case first =>
                      have H := HC14.out
                      clear HC14
                      by_cases c15 : (bt a0 x8_1) ≥ 97
                      · rw [if_pos c15] at H
                        have c15b0 : decide (97 ≤ (bt a0 x8_1)) = true := decide_eq_true c15
                        clear c15
                        (first | rw [c15b0] | (simp only [i64_w, i32_w]; rw [c15b0]) | skip)
                        by_cases c16 : (bt a0 x8_1) ≤ 122
                        · rw [if_pos c16] at H
                          have c16b0 : decide ((bt a0 x8_1) ≤ 122) = true := decide_eq_true c16
                          clear c16
                          have H' := Aside0.mk H
                          clear H
                          go_wp2
                          go_meet
                          case rel => exact ⟨_, (true), (by first | rfl | (simp; done) | (simp [*]; done)), H', ⟨by have := HK1.out; have := HJ5.out; first | omega | exact Nat.le_refl _⟩, ⟨by (with_reducible repeat (first | apply Kd.R_alloc | apply Kd.R_drewN | apply Kd.R_drew)); exact HO_3.out⟩, ⟨by repeat (first | (with_reducible first | exact HB.out | apply below_alloc | apply pw_below_drewN | apply below_drew1) | exact HB.out)⟩⟩
                        · rw [if_neg c16] at H
                          have c16b0 : decide ((bt a0 x8_1) ≤ 122) = false := decide_eq_false c16
                          clear c16
                          by_cases c17 : (bt a0 x8_1) ≥ 48
                          · rw [if_pos c17] at H
                            have c17b0 : decide (48 ≤ (bt a0 x8_1)) = true := decide_eq_true c17
                            clear c17
                            by_cases c18 : (bt a0 x8_1) ≤ 57
                            · rw [if_pos c18] at H
                              have c18b0 : decide ((bt a0 x8_1) ≤ 57) = true := decide_eq_true c18
                              clear c18
                              have H' := Aside0.mk H
                              clear H
                              go_wp2
                              go_meet
                              case rel => exact ⟨_, (true), (by first | rfl | (simp; done) | (simp [*]; done)), H', ⟨by have := HK1.out; have := HJ5.out; first | omega | exact Nat.le_refl _⟩, ⟨by (with_reducible repeat (first | apply Kd.R_alloc | apply Kd.R_drewN | apply Kd.R_drew)); exact HO_3.out⟩, ⟨by repeat (first | (with_reducible first | exact HB.out | apply below_alloc | apply pw_below_drewN | apply below_drew1) | exact HB.out)⟩⟩
                            · rw [if_neg c18] at H
                              have c18b0 : decide ((bt a0 x8_1) ≤ 57) = false := decide_eq_false c18
                              clear c18
                              have H' := Aside0.mk H
                              clear H
                              go_wp2
                              go_meet
                              case rel => exact ⟨_, (((bt a0 x8_1) == 45)), (by first | rfl | (simp; done) | (simp [*]; done)), H', ⟨by have := HK1.out; have := HJ5.out; first | omega | exact Nat.le_refl _⟩, ⟨by (with_reducible repeat (first | apply Kd.R_alloc | apply Kd.R_drewN | apply Kd.R_drew)); exact HO_3.out⟩, ⟨by repeat (first | (with_reducible first | exact HB.out | apply below_alloc | apply pw_below_drewN | apply below_drew1) | exact HB.out)⟩⟩
                          · rw [if_neg c17] at H
                            have c17b0 : decide (48 ≤ (bt a0 x8_1)) = false := decide_eq_false c17
                            clear c17
                            have H' := Aside0.mk H
                            clear H
                            go_wp2
                            go_meet
                            case rel => exact ⟨_, (((bt a0 x8_1) == 45)), (by first | rfl | (simp; done) | (simp [*]; done)), H', ⟨by have := HK1.out; have := HJ5.out; first | omega | exact Nat.le_refl _⟩, ⟨by (with_reducible repeat (first | apply Kd.R_alloc | apply Kd.R_drewN | apply Kd.R_drew)); exact HO_3.out⟩, ⟨by repeat (first | (with_reducible first | exact HB.out | apply below_alloc | apply pw_below_drewN | apply below_drew1) | exact HB.out)⟩⟩
                      · rw [if_neg c15] at H
                        have c15b0 : decide (97 ≤ (bt a0 x8_1)) = false := decide_eq_false c15
                        clear c15
                        (first | rw [c15b0] | (simp only [i64_w, i32_w]; rw [c15b0]) | skip)
                        by_cases c19 : (bt a0 x8_1) ≥ 48
                        · rw [if_pos c19] at H
                          have c19b0 : decide (48 ≤ (bt a0 x8_1)) = true := decide_eq_true c19
                          clear c19
                          by_cases c20 : (bt a0 x8_1) ≤ 57
                          · rw [if_pos c20] at H
                            have c20b0 : decide ((bt a0 x8_1) ≤ 57) = true := decide_eq_true c20
                            clear c20
                            have H' := Aside0.mk H
                            clear H
                            go_wp2
                            go_meet
                            case rel => exact ⟨_, (true), (by first | rfl | (simp; done) | (simp [*]; done)), H', ⟨by have := HK1.out; have := HJ5.out; first | omega | exact Nat.le_refl _⟩, ⟨by (with_reducible repeat (first | apply Kd.R_alloc | apply Kd.R_drewN | apply Kd.R_drew)); exact HO_3.out⟩, ⟨by repeat (first | (with_reducible first | exact HB.out | apply below_alloc | apply pw_below_drewN | apply below_drew1) | exact HB.out)⟩⟩
                          · rw [if_neg c20] at H
                            have c20b0 : decide ((bt a0 x8_1) ≤ 57) = false := decide_eq_false c20
                            clear c20
                            have H' := Aside0.mk H
                            clear H
                            go_wp2
                            go_meet
                            case rel => exact ⟨_, (((bt a0 x8_1) == 45)), (by first | rfl | (simp; done) | (simp [*]; done)), H', ⟨by have := HK1.out; have := HJ5.out; first | omega | exact Nat.le_refl _⟩, ⟨by (with_reducible repeat (first | apply Kd.R_alloc | apply Kd.R_drewN | apply Kd.R_drew)); exact HO_3.out⟩, ⟨by repeat (first | (with_reducible first | exact HB.out | apply below_alloc | apply pw_below_drewN | apply below_drew1) | exact HB.out)⟩⟩
                        · rw [if_neg c19] at H
                          have c19b0 : decide (48 ≤ (bt a0 x8_1)) = false := decide_eq_false c19
                          clear c19
                          have H' := Aside0.mk H
                          clear H
                          go_wp2
                          go_meet
                          case rel => exact ⟨_, (((bt a0 x8_1) == 45)), (by first | rfl | (simp; done) | (simp [*]; done)), H', ⟨by have := HK1.out; have := HJ5.out; first | omega | exact Nat.le_refl _⟩, ⟨by (with_reducible repeat (first | apply Kd.R_alloc | apply Kd.R_drewN | apply Kd.R_drew)); exact HO_3.out⟩, ⟨by repeat (first | (with_reducible first | exact HB.out | apply below_alloc | apply pw_below_drewN | apply below_drew1) | exact HB.out)⟩⟩
                    case rest =>
                      clear HC14
                      try clear c1
                      try clear c2
                      try clear c2b0
                      try clear p2
                      try clear c3
                      try clear c3b0
                      try clear c4
                      try clear c4b0
                      try clear p5
                      try clear q5
                      try clear hx5
                      try clear c6
                      try clear p6
                      try clear c7
                      try clear c7b0
                      try clear c8
                      try clear c9
                      try clear c11
                      try clear c11b0
                      try clear c11b1
                      try clear c12
                      try clear c15
                      try clear c15b0
                      try clear c16
                      try clear c16b0
                      try clear c17
                      try clear c17b0
                      try clear c18
                      try clear c18b0
                      try clear c19
                      try clear c19b0
                      try clear c20
                      try clear c20b0
                      try clear p2
                      try clear p5
                      try clear q5
                      obtain ⟨kq, x32_13, rfl, HA, HJ13, HO_3, HB⟩ := hcut
                      cases kq with
                      | zero => exact absurd HA.out (by simp [spec_LangNew.j2])
                      | succ kj13 =>
                        have H := HA.out
                        clear HA
                        simp only [spec_LangNew.j2] at H
                        by_cases c21 : x32_13 = true
                        · subst c21
                          have H1 : (if x3_1.length < 140737488355328 then (spec_LangNew.l0 kj13 a0 (x3_1 ++ [(bt a0 x8_1)]) (a0.size : Int) (wrap64 (x8_1 + 1))) else (none)) = some r := by rw [if_pos rfl] at H; exact H
                          clear H
                          have H := H1
                          clear H1
                          by_cases c22 : x3_1.length < 140737488355328
                          · rw [if_pos c22] at H
                            have LMc22 := Aside0.mk c22
                            clear c22
                            obtain ⟨y109, hy109⟩ : ∃ y_ : List Int, y_ = (x3_1 ++ [(bt a0 x8_1)]) := ⟨_, rfl⟩
                            replace H : (spec_LangNew.l0 kj13 a0 y109 (a0.size : Int) (wrap64 (x8_1 + 1))) = some r := by first | (rw [hy109]; with_reducible exact H) | (have H2_ := (Option.bind_some _ _).symm.trans H; rw [hy109]; with_reducible exact H2_) | (have H2_ := (Option.bind_some _ _).symm.trans H; with_reducible exact H2_) | with_reducible exact H | (rw [hy109]; exact H) | exact H
                            have Ny109 := Aside0.mk hy109
                            clear hy109
                            have H' := Aside0.mk H
                            clear H
                            go_wp2_with (first | ((with_reducible refine gate_builtin (b := .append) (xs := #[.tmp 51, .tmp 53]) rfl ?_); at_builtin; refine Kd.R_append (Kd.int .u8) (w0 := w) w.heap.size rfl (.tmp 51) (.tmp 53) 26 5 (.int .u8 0) 1 rfl Tryd.underlying26 info5 rfl (by decide) (by omega) u3 x3_1 (bt a0 x8_1) [.int .u8 (bt a0 x8_1)] (fun _ => True) (fun _ => False) rfl rfl ?aP (fun _ hk => hk.elim) ?aF ?aO ?aB ?aS ?aL ?_; (case aP => exact rfl); (case aB => exact (by repeat (first | (with_reducible first | exact HB.out | apply below_alloc | apply pw_below_drewN | apply below_drew1) | exact HB.out))); (case aF => exact (fun _ _ => trivial)); (case aO => exact (by (with_reducible repeat (first | apply Kd.R_alloc | apply Kd.R_drewN | apply Kd.R_drew)); exact HO_3.out)); (case aS => exact (below_size (by repeat (first | (with_reducible first | exact HB.out | apply below_alloc | apply pw_below_drewN | apply below_drew1) | exact HB.out)))); (case aL => have := LMc22.out; omega); intro v110 w23 ho hb hg hat; rw [← Ny109.out] at ho; have n0_ := Aside0.mk (hb); have n1_ := Aside0.mk (ho); clear HB; clear HO_3; have HB := n0_; have HO111 := n1_; clear n0_ n1_; clear ho hb hg hat))
                            go_roundg kj13
                            case measure => have := HK1.out; have := HJ5.out; have := HJ13.out; omega
                            case rel => exact ⟨(y109), (wrap64 (x8_1 + 1)), (by first | rfl | (simp; done) | (simp [*]; done)), H', ⟨by have := HK1.out; have := HJ5.out; have := HJ13.out; omega⟩, ⟨by (with_reducible repeat (first | apply Kd.R_alloc | apply Kd.R_drewN | apply Kd.R_drew)); exact HO111.out⟩, ⟨by repeat (first | (with_reducible first | exact HB.out | apply below_alloc | apply pw_below_drewN | apply below_drew1) | exact HB.out)⟩⟩
                          · rw [if_neg c22] at H
                            exact absurd H (by simp)
                        · replace c21 := Bool.eq_false_iff.mpr c21
                          subst c21
                          have H1 : (spec_LangNew.l0 kj13 a0 x3_1 (a0.size : Int) (wrap64 (x8_1 + 1))) = some r := by rw [if_neg (show ¬ (false = true) by decide)] at H; exact H
                          clear H
                          have H := H1
                          clear H1
                          have H' := Aside0.mk H
                          clear H
                          go_wp2
                          go_roundg kj13
                          case measure => have := HK1.out; have := HJ5.out; have := HJ13.out; omega
                          case rel => exact ⟨(x3_1), (wrap64 (x8_1 + 1)), (by first | rfl | (simp; done) | (simp [*]; done)), H', ⟨by have := HK1.out; have := HJ5.out; have := HJ13.out; omega⟩, ⟨by (with_reducible repeat (first | apply Kd.R_alloc | apply Kd.R_drewN | apply Kd.R_drew)); exact HO_3.out⟩, ⟨by repeat (first | (with_reducible first | exact HB.out | apply below_alloc | apply pw_below_drewN | apply below_drew1) | exact HB.out)⟩⟩
          · rw [if_neg c4] at H
            exact absurd H (by simp)
        · rw [if_neg c3] at H
          exact absurd H (by simp)
      · rw [if_neg c2] at H
        have c2b0 : decide (x8_1 < (a0.size : Int)) = false := decide_eq_false c2
        clear c2
        obtain rfl := Option.some.inj H
        have hcv24 := own_string (P := Tryd.prog) Tryd.underlying26 Tryd.underlying5 Tryd.underlying9 (Kd.own_of_R HO_3.out)
        go_wp2
        go_ret
        exact ⟨by first | rfl | (simp [errW_none, errW_some] <;> rfl) | (simp [*, errW_none, errW_some] <;> rfl), by repeat (first | (with_reducible first | exact HB.out | apply below_alloc | apply pw_below_drewN | apply below_drew1) | exact HB.out)⟩

end Go.Proofs.YtkfphiccfnfkdaaDoor.PFnLangNew
