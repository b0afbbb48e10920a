-- Written by a program of this session (xprint) out of the translation; Lean checks it.
import Derived.Test.YtchkmmbedgolbaaPFnClassOfx0
namespace Go.Proofs.Ytchkmmbedgolbaa.PFnClassOf
open Go.RowKit Go.Proofs.YtchkmmbedgolbaaW.PrintWords Go.Proofs.YtchkmmbedgolbaaW.PrintLast Go.Proofs.YtchkmmbedgolbaaW.PrintMore
attribute [local go_sem] max2_int min2_int max_two min_two max_three min_three max_four min_four   -- for this text's walks alone
set_option linter.unusedVariables false
set_option linter.unusedSimpArgs false

/-! ### slices_Sort_int_int: function 34 -/
theorem sd_own {k : IntKind} {e base : Nat} {ok : Nat → Prop} {w : World} {v : Value} {l : List Int} (h : Kd.R (Kd.int k) e w base ok v l) :
    (v = .slice none 0 0 ∧ l = []) ∨ ∃ g cap cur, v = .slice (some ⟨g, 0, none⟩) l.length cap ∧ ok g ∧ base ≤ g ∧ w.heap[g]? = some (.cells cur e (0, 0)) ∧ l.length ≤ cap ∧ cap ≤ maxLen ∧ cur.size = cap ∧ ∀ j, j < l.length → cur[j]? = some (.int k l[j]!) := by
  obtain ⟨h0, inner, ⟨hl, ho⟩, hr1, hr2⟩ := h
  have hsz : (Kd.int k).sz = 1 := rfl
  rcases ho with ⟨hv, hn⟩ | ⟨g, cap, cur, hv, hb, hg, hc1, hc2, hc3, hc4⟩
  · exact .inl ⟨hv, List.length_eq_zero_iff.1 hn⟩
  · refine .inr ⟨g, cap, cur, hv, h0 g (by rw [hv]; rfl), hb, hg, hc1, hc2, by rw [hc3, hsz, Nat.mul_one], fun j hj => ?_⟩
    have q := hr2 j l[j] (List.getElem?_eq_getElem hj)
    have q' : (inner.drop (j * 1)).take 1 = [Value.int k l[j]] := q
    rw [← hc4, Nat.mul_one] at q'
    have e1 : ((cur.toList.take (l.length * (Kd.int k).sz)).drop j)[0]? = some (Value.int k l[j]) := by
      have q2 := congrArg (fun z : List Value => z[0]?) q'
      simpa [List.getElem?_take] using q2
    rw [List.getElem?_drop, hsz, Nat.mul_one, Nat.add_zero, List.getElem?_take_of_lt hj] at e1
    rw [getElem!_pos l j hj]
    simpa using e1
theorem sd_mk {k : IntKind} {e base : Nat} {ok : Nat → Prop} {w : World} {l : List Int} {g cap n : Nat} {cur : Array Value} (hn : l.length = n) (hok : ok g) (hb : base ≤ g) (hg : w.heap[g]? = some (.cells cur e (0, 0))) (h1 : l.length ≤ cap) (h2 : cap ≤ maxLen) (h3 : cur.size = cap)
    (h4 : ∀ j, j < l.length → cur[j]? = some (.int k l[j]!)) : Kd.R (Kd.int k) e w base ok (.slice (some ⟨g, 0, none⟩) n cap) l := by
  subst hn
  refine ⟨fun b hb => ?_, l.map (Value.int k), ⟨by rw [List.length_map]; exact (Nat.mul_one _).symm, .inr ⟨g, cap, cur, rfl, hb, hg, h1, h2, by rw [h3]; exact (Nat.mul_one _).symm, ?_⟩⟩, by rw [List.length_map]; exact (Nat.mul_one _).symm, ?_⟩
  · have e1 : g = b := by simpa [Value.ownBlock] using hb
    exact e1 ▸ hok
  · show cur.toList.take (l.length * 1) = _
    rw [Nat.mul_one]
    apply List.ext_getElem?
    intro j
    by_cases hj : j < l.length
    · rw [List.getElem?_take_of_lt hj, List.getElem?_map, List.getElem?_eq_getElem hj]
      have := h4 j hj
      rw [getElem!_pos l j hj] at this
      simpa using this
    · rw [List.getElem?_eq_none (by simp; omega), List.getElem?_eq_none (by simp; omega)]
  · intro j p hp
    show ((l.map (Value.int k)).drop (j * 1)).take 1 = [Value.int k p]
    obtain ⟨hj, rfl⟩ := List.getElem?_eq_some_iff.1 hp
    rw [Nat.mul_one, List.drop_eq_getElem_cons (by simpa using hj)]
    simp
theorem sd_put {w : World} {g : Nat} {d : Array Int} {cur : Array Value} {e : TypeId} (hg : w.heap[g]? = some (.cells cur e (0, 0))) : (Go.Sort.putRow (Value.int .i64) w g 0 d).heap[g]? = some (.cells (Go.Sort.putCells (Value.int .i64) 0 d cur) e (0, 0)) := by
  unfold Go.Sort.putRow Go.Sort.mapBlock
  simp [Array.getElem?_modify, hg, Go.Sort.onCells]
theorem sd_put_ne {w : World} {g i : Nat} {d : Array Int} (h : i ≠ g) : (Go.Sort.putRow (Value.int .i64) w g 0 d).heap[i]? = w.heap[i]? := by
  unfold Go.Sort.putRow Go.Sort.mapBlock
  simp [Array.getElem?_modify, Ne.symm h]
theorem sd_put_size {w : World} {g : Nat} {d : Array Int} : (Go.Sort.putRow (Value.int .i64) w g 0 d).heap.size = w.heap.size := by
  unfold Go.Sort.putRow Go.Sort.mapBlock
  simp
theorem sd_grow {W : World} {os : Array Obj} {i : Nat} (h : i < W.heap.size) : (Go.Sort.grow W os).heap[i]? = W.heap[i]? := Array.getElem?_append_left h
theorem sd_cells {d : Array Int} {cur : Array Value} {j : Nat} (h1 : j < d.size) (h2 : j < cur.size) : (Go.Sort.putCells (Value.int .i64) 0 d cur)[j]? = some (.int .i64 d[j]!) := by
  unfold Go.Sort.putCells
  rw [Array.getElem?_mapIdx, Array.getElem?_eq_getElem h2]
  simp [h1]
theorem sd_holds {w : World} {g e : Nat} {l : List Int} {cur : Array Value} (hg : w.heap[g]? = some (.cells cur e (0, 0))) (h4 : ∀ j, j < l.length → cur[j]? = some (.int .i64 l[j]!)) : Go.Sort.Holds (Value.int .i64) w g 0 l.toArray := by
  intro j hj
  have hj' : j < l.length := by simpa using hj
  have q := h4 j hj'
  constructor
  · unfold World.cell?
    simp [hg, q]
  · unfold World.frozen?
    simp [hg]
/-- Both: a row of the call's own, its cells put anew (and more made behind). -/
theorem sd_done {e base n cap : Nat} {P0 : Nat → Prop} {w0 w W : World} {g : Nat} {l d : List Int} {cur : Array Value} (hB : Below w0.heap.size w0 w) (hok : P0 g) (hb : w0.heap.size ≤ g) (hg : w.heap[g]? = some (.cells cur e (0, 0))) (h2 : cap ≤ maxLen) (h3 : cur.size = cap)
    (hl : l.length = n) (hnc : n ≤ cap) (hd : n ≤ d.length) (hdc : d.length ≤ cap) (hdl : ∀ j, j < n → d[j]! = l[j]!) (os : Array Obj) (hbase : base = w0.heap.size)
    (hW : W.heap = w.heap ∧ W.os = w.os ∧ W.tape = w.tape ∧ W.output = w.output) :
    let w' := Go.Sort.grow (Go.Sort.putRow (Value.int .i64) W g 0 d.toArray) os
    Kd.R (Kd.int .i64) e w' base (fun k_ => (P0 k_ ∨ w.heap.size ≤ k_)) (.slice (some ⟨g, 0, none⟩) n cap) l ∧ Below w0.heap.size w0 w' ∧ Kept w w' (fun k_ => P0 k_) := by
  intro w'
  have hlt : g < w.heap.size := by
    rcases Nat.lt_or_ge g w.heap.size with h | h
    · exact h
    · rw [Array.getElem?_eq_none h] at hg; cases hg
  have hsz : (Go.Sort.putRow (Value.int .i64) W g 0 d.toArray).heap.size = w.heap.size := by rw [sd_put_size, hW.1]
  have hgg : w'.heap[g]? = some (.cells (Go.Sort.putCells (Value.int .i64) 0 d.toArray cur) e (0, 0)) := by
    rw [sd_grow (by rw [hsz]; exact hlt)]
    exact sd_put (by rw [hW.1]; exact hg)
  have hne : ∀ i, i < w.heap.size → i ≠ g → w'.heap[i]? = w.heap[i]? := fun i hi hn => by
    rw [sd_grow (by rw [hsz]; exact hi), sd_put_ne hn, hW.1]
  have hsize : w.heap.size ≤ w'.heap.size := by
    show _ ≤ (Go.Sort.grow _ os).heap.size
    simp only [Go.Sort.grow, Array.size_append, hsz]
    omega
  refine ⟨?_, ⟨(by exact hW.2.1.trans hB.os), (by exact hW.2.2.1.trans hB.tape), (by exact hW.2.2.2.trans hB.output), Nat.le_trans hB.size hsize, fun i hi => ?_⟩, hsize, fun i hi hn => ?_⟩
  · refine sd_mk hl (.inl hok) (by rw [hbase]; exact hb) hgg (by omega) h2 (by simp [Go.Sort.putCells, h3]) (fun j hj => ?_)
    rw [sd_cells (by simp; omega) (by omega)]
    have := hdl j (by omega)
    rw [← this]
    simp
  · have h := hB.size
    rw [hne i (by omega) (by omega)]
    exact hB.block i hi
  · exact hne i hi (fun e => hn (e ▸ hok))
def slices_Sort_int_int.f (l0 : List Int) : Option (List Int) := if l0.length < 4611686018427387904 then some (l0.mergeSort fun x y => decide (x ≤ y)) else none
theorem slices_Sort_int_int.calls (P0_ : Nat → Prop) (u9000_ : Value) (l0 : List Int) (r : List Int) (w0 w : World) (hB : Below w0.heap.size w0 w) (ho0 : Kd.R (Kd.int .i64) 3 w w0.heap.size P0_ u9000_ l0) (h : slices_Sort_int_int.f l0 = some r) :
    Calls Try.prog 34 #[u9000_] w fun e w' => e = .returned (.tuple #[]) ∧ Kd.R (Kd.int .i64) 3 w' w0.heap.size (fun k_ => (P0_ k_ ∨ w.heap.size ≤ k_)) u9000_ r ∧ Below w0.heap.size w0 w' ∧ Kept w w' (fun k_ => P0_ k_) := by
  unfold slices_Sort_int_int.f at h
  split at h
  · rename_i hsz
    obtain rfl := Option.some.inj h
    rcases sd_own ho0 with ⟨rfl, rfl⟩ | ⟨g, cap, cur, rfl, hok, hb, hg, h1, h2, h3, h4⟩
    · refine (Try.slices_Sort_int_none none 0 w).mono ?_
      rintro e w' ⟨rfl, rfl⟩
      exact ⟨rfl, by rw [List.mergeSort_nil]; exact Kd.R_nil _ _ _ _ _, hB, Nat.le_refl _, fun _ _ _ => rfl⟩
    · have hlt : g < w.heap.size := by
        rcases Nat.lt_or_ge g w.heap.size with h | h
        · exact h
        · rw [Array.getElem?_eq_none h] at hg; cases hg
      refine (Try.slices_Sort_int g 0 cap l0 w (sd_holds hg h4) hlt hsz).mono ?_
      rintro e w' ⟨rfl, n, os, rfl⟩
      exact ⟨rfl, sd_done hB hok hb hg h2 h3 (by rw [List.length_mergeSort]) h1 (by rw [List.length_mergeSort]; exact Nat.le_refl _) (by rw [List.length_mergeSort]; exact h1) (fun _ _ => rfl) os rfl ⟨rfl, rfl, rfl, rfl⟩⟩
  · cases h

/-! ### slices_Compact_int_int: function 35 -/
def slices_Compact_int_int.f (l0 : List Int) : Option (List Int) := if l0.length ≤ 9223372036854775807 then some (Go.Lib.compact l0) else none
theorem slices_Compact_int_int.calls (P0_ : Nat → Prop) (u9000_ : Value) (l0 : List Int) (r : List Int) (w0 w : World) (hB : Below w0.heap.size w0 w) (ho0 : Kd.R (Kd.int .i64) 3 w w0.heap.size P0_ u9000_ l0) (h : slices_Compact_int_int.f l0 = some r) :
    Calls Try.prog 35 #[u9000_] w fun e w' => ∃ v0_ : Value, e = .returned (v0_) ∧ Kd.R (Kd.int .i64) 3 w' w0.heap.size (fun k_ => (P0_ k_ ∨ w.heap.size ≤ k_)) v0_ r ∧ Below w0.heap.size w0 w' ∧ Kept w w' (fun k_ => P0_ k_) := by
  unfold slices_Compact_int_int.f at h
  split at h
  · rename_i hsz
    obtain rfl := Option.some.inj h
    rcases sd_own ho0 with ⟨rfl, rfl⟩ | ⟨g, cap, cur, rfl, hok, hb, hg, h1, h2, h3, h4⟩
    · refine (Try.slices_Compact_int_empty none 0 w).mono ?_
      rintro e w' ⟨rfl, rfl⟩
      exact ⟨_, rfl, Kd.R_nil _ _ _ _ _, hB, Nat.le_refl _, fun _ _ _ => rfl⟩
    · have hcl := Go.Lib.compact_length_le l0
      refine (Try.slices_Compact_int g 0 cap l0 w (sd_holds hg h4) hsz h1).mono ?_
      rintro e w' ⟨rfl, q, rfl⟩
      have hD := sd_done (W := Go.Sort.ahead w q) (l := Go.Lib.compact l0) (d := Go.Lib.compact l0 ++ List.replicate (l0.length - (Go.Lib.compact l0).length) 0) hB hok hb hg h2 h3 rfl (Nat.le_trans hcl h1) (by simp) (by simp; omega)
        (fun j hj => by rw [getElem!_pos _ j (by simp; omega), getElem!_pos _ j hj, List.getElem_append_left hj]) #[] rfl ⟨rfl, rfl, rfl, rfl⟩
      simp only [Go.Sort.grow_empty] at hD
      exact ⟨_, rfl, hD⟩
  · cases h

/-! ### laws_rising: function 11 -/
def laws_rising.l0 : Nat → List Int → List Int → Int → Option (List Int)
 | 0, _, _, _ => none
 | k + 1, x0, x3, x4 => if x4 < (x0.length : Int) then (if x4 < 200 then (if 0 ≤ x4 then (if x3.length < 17592186044416 then (laws_rising.l0 k x0 (x3 ++ [wrap64 (rd x0 x4)]) (wrap64 (x4 + 1))) else (none)) else (none)) else ((slices_Sort_int_int.f x3).bind fun t105 => ((slices_Compact_int_int.f t105).bind fun t106 => (some t106)))) else ((slices_Sort_int_int.f x3).bind fun t109 => ((slices_Compact_int_int.f t109).bind fun t110 => (some t110)))
def laws_rising.f (k : Nat) (l0 : List Int) : Option (List Int) := laws_rising.l0 k l0 ([] : List Int) 0
theorem laws_rising.mono_l : ∀ k, (∀ y0 y1 y2, LeO (laws_rising.l0 k y0 y1 y2) (laws_rising.l0 (k + 1) y0 y1 y2))
 | 0 => fun _ _ _ r h => by simp [laws_rising.l0] at h
 | k + 1 => by
  have ih0 := laws_rising.mono_l k
  ·intro y0 y1 y2
   unfold laws_rising.l0
   repeat' first
   | (with_reducible exact ih0 _ _ _)
   | (with_reducible exact LeO.refl _)
   | (with_reducible exact LeO.none _)
   | (with_reducible refine LeO.ite ?_ ?_)
   | (with_reducible refine LeO.bind ?_ (fun _ => ?_))
   | exact ih0 _ _ _
   | exact LeO.none _
   | refine LeO.ite ?_ ?_
   | refine LeO.bind ?_ (fun _ => ?_)
theorem laws_rising.mono : ∀ a0 k, LeO (laws_rising.f k a0) (laws_rising.f (k + 1) a0) := by
 intro a0 k
 have ih0 := laws_rising.mono_l k
 unfold laws_rising.f
 repeat' first
   | (with_reducible exact ih0 _ _ _)
   | (with_reducible exact LeO.refl _)
   | (with_reducible exact LeO.none _)
   | (with_reducible refine LeO.ite ?_ ?_)
   | (with_reducible refine LeO.bind ?_ (fun _ => ?_))
   | exact ih0 _ _ _
   | exact LeO.none _
   | refine LeO.ite ?_ ?_
   | refine LeO.bind ?_ (fun _ => ?_)
set_option maxHeartbeats 8000000 in
set_option maxRecDepth 100000 in
theorem laws_rising.calls (k : Nat) (A0 : Option Addr) (c0 : Nat) (l0 : List Int) (r : List Int) (w : World) (hr0 : Kd.C (Kd.int .u16) w A0 l0.length l0) (hc0 : l0.length ≤ c0) (h : laws_rising.f k l0 = some r) :
  Calls Try.prog 11 #[.slice A0 l0.length c0] w fun e w' => ∃ v0_ : Value, e = .returned (v0_) ∧ Kd.R (Kd.int .i64) 3 w' w.heap.size (fun _ => True) v0_ r ∧ Below w.heap.size w w' := by
 have HR0 := Aside0.mk hr0
 have HC0 := Aside0.mk hc0
 clear hr0 hc0
 have HB := Aside0.mk (Below.refl w.heap.size w)
 have H : (laws_rising.l0 k l0 ([] : List Int) 0) = some r := h
 clear h
 have H' := Aside0.mk H
 clear H
 go_enter Try.func11, Try.ntmps11
 go_wp2
 go_loopg [3, 4] k (fun kq v3 v4 w' => ∃ (x3_1 : List Int) (x4_1 : Int), v4 = .int .i64 x4_1 ∧ Aside0 (laws_rising.l0 kq l0 x3_1 x4_1 = some r) ∧ Aside0 (kq ≤ k) ∧ Aside0 (Kd.R (Kd.int .i64) 3 w' w.heap.size (fun _ => True) v3 x3_1) ∧ Aside0 (Below w.heap.size w w'))
 case atStart => exact ⟨(([] : List Int)), (0), (by first | rfl | (simp; done) | (simp [*]; done)), H', ⟨Nat.le_refl _⟩, ⟨by first | exact Kd.R_nil _ _ _ _ _ | exact Kd.N_nil _ _ _ _ _ | exact Kd.V_nil _ _ _ _ _ | exact Kd.Q_nil _ _ _ _ _ | exact Kd.S_nil _ _ _ _ _⟩, ⟨by repeat (first | (with_reducible first | exact HB.out | apply below_alloc | apply pw_below_drewN | apply below_drew1) | exact HB.out)⟩⟩
 case round =>
  clear H'
  try clear c1
  obtain ⟨x3_1, x4_1, rfl, HA, HK1, HO_3, HB⟩ := hrel
  cases gk with
  | zero => exact absurd HA.out (by simp [laws_rising.l0])
  | succ k1 =>
   have H := HA.out
   clear HA
   simp only [laws_rising.l0] at H
   by_cases c2 : x4_1 < (l0.length : Int)
   ·rw [if_pos c2] at H
    have c2b0 : decide (x4_1 < (l0.length : Int)) = true := decide_eq_true c2
    clear c2
    by_cases c3 : x4_1 < 200
    ·rw [if_pos c3] at H
     have c3b0 : decide (x4_1 < 200) = true := decide_eq_true c3
     clear c3
     by_cases c4 : 0 ≤ x4_1
     ·rw [if_pos c4] at H
      have c4b0 : decide (0 ≤ x4_1) = true := decide_eq_true c4
      clear c4
      by_cases c5 : x3_1.length < 17592186044416
      ·rw [if_pos c5] at H
       have LMc5 := Aside0.mk c5
       clear c5
       obtain ⟨y102, hy102⟩ : ∃ y_ : List Int, y_ = (x3_1 ++ [wrap64 (rd l0 x4_1)]) := ⟨_, rfl⟩
       replace H : (laws_rising.l0 k1 l0 y102 (wrap64 (x4_1 + 1))) = some r := by first | (rw [hy102]; with_reducible exact H) | (have H2_ := (Option.bind_some _ _).symm.trans H; rw [hy102]; with_reducible exact H2_) | (have H2_ := (Option.bind_some _ _).symm.trans H; with_reducible exact H2_) | with_reducible exact H | (rw [hy102]; exact H) | exact H
       have Ny102 := Aside0.mk hy102
       clear hy102
       have H' := Aside0.mk H
       clear H
       have p101 : 0 ≤ (x4_1 : Int) := of_decide_eq_true (by first | (with_reducible assumption) | assumption)
       have q101 : x4_1 < (l0.length : Int) := of_decide_eq_true (by first | (with_reducible assumption) | assumption)
       obtain ⟨ad101, e101, hx101_0⟩ := Kd.at_int HR0.out x4_1 p101 q101
       cases e101
       replace hx101_0 := (HB.out.cell (World.block_lt_of_cell? w _ hx101_0)).trans hx101_0
       replace p101 := eq_true p101
       replace q101 := eq_true q101
       go_wp2_with (first | ((with_reducible refine gate_builtin (b := .append) (xs := #[.tmp 15, .tmp 21]) rfl ?_); at_builtin; refine Kd.R_append (Kd.int .i64) (w0 := w) w.heap.size rfl (.tmp 15) (.tmp 21) 29 3 (.int .i64 0) 8 rfl Try.underlying29 info3 rfl (by decide) (by omega) u3 x3_1 (wrap64 (rd l0 x4_1)) [.int .i64 (wrap64 (rd l0 x4_1))] (fun _ => True) (fun _ => False) rfl rfl ?aP (fun _ hk => hk.elim) ?aF ?aO ?aB ?aS ?aL ?_; (case aP => exact rfl); (case aB => exact (by repeat (first | (with_reducible first | exact HB.out | apply below_alloc | apply pw_below_drewN | apply below_drew1) | exact HB.out))); (case aF => exact (fun _ _ => trivial)); (case aO => exact (by (with_reducible repeat (first | apply Kd.R_alloc | apply Kd.R_drewN | apply Kd.R_drew)); exact HO_3.out)); (case aS => exact (below_size (by repeat (first | (with_reducible first | exact HB.out | apply below_alloc | apply pw_below_drewN | apply below_drew1) | exact HB.out)))); (case aL => have := LMc5.out; omega); intro v103 w6 ho hb hg hat; rw [← Ny102.out] at ho; have n0_ := Aside0.mk (hb); have n1_ := Aside0.mk (ho); clear HB; clear HO_3; have HB := n0_; have HO104 := n1_; clear n0_ n1_; clear ho hb hg hat))
       go_roundg k1
       case measure => have := HK1.out; omega
       case rel => exact ⟨(y102), (wrap64 (x4_1 + 1)), (by first | rfl | (simp; done) | (simp [*]; done)), H', ⟨by have := HK1.out; omega⟩, ⟨by (with_reducible repeat (first | apply Kd.R_alloc | apply Kd.R_drewN | apply Kd.R_drew)); exact HO104.out⟩, ⟨by repeat (first | (with_reducible first | exact HB.out | apply below_alloc | apply pw_below_drewN | apply below_drew1) | exact HB.out)⟩⟩
      ·rw [if_neg c5] at H
       exact absurd H (by simp)
     ·rw [if_neg c4] at H
      exact absurd H (by simp)
    ·rw [if_neg c3] at H
     have c3b0 : decide (x4_1 < 200) = false := decide_eq_false c3
     clear c3
     replace H := Option.bind_eq_some_iff.mp H
     obtain ⟨t105, A70, H⟩ := H
     replace H : ((slices_Compact_int_int.f t105).bind fun t106 => (some t106)) = some r := H
     have A7 := Aside0.mk A70
     clear A70
     replace H := Option.bind_eq_some_iff.mp H
     obtain ⟨t106, A80, H⟩ := H
     replace H : (some t106) = some r := H
     have A8 := Aside0.mk A80
     clear A80
     obtain rfl := Option.some.inj H
     obtain ⟨Ao9, co9, eo9⟩ := Kd.R_slice HO_3.out
     subst eo9
     go_wp2_with (first | ((with_reducible refine gate_callee (f := 34) rfl ?_); refine goesL_ (some 24) rfl rfl Try.func34 (by kernel_rfl) rfl #[.slice Ao9 x3_1.length co9] rfl (by (try simp only [List.map_toArray, List.map_cons, List.map_nil]); first | done | rfl | (simp only [List.length_drop, List.length_take]; rfl)) ?_; (with_reducible refine (slices_Sort_int_int.calls (fun k_ => some k_ = (.slice Ao9 x3_1.length co9 : Value).ownBlock) (.slice Ao9 x3_1.length co9) x3_1 t105 w _ ?side1 ?side2 A7.out).mono ?_); (case side1 => repeat (first | (with_reducible first | exact HB.out | apply below_alloc | apply pw_below_drewN | apply below_drew1) | exact HB.out)); (case side2 => exact Kd.R_tight rfl HO_3.out); rintro e w10 ⟨rfl, hy0, hb, hkp⟩; refine ⟨_, rfl, ?_⟩; have n0_ := Aside0.mk (Kd.R_reok rfl hy0 (fun k_ e_ => HO_3.out.1 k_ e_)); have n1_ := Aside0.mk (hb); clear HO_3; clear HB; have HO_3 := n0_; have HB := n1_; clear n0_ n1_; (try clear hb); (try clear hkp); (try clear hy0)) | ((with_reducible refine gate_callee (f := 35) rfl ?_); refine goesL_ (some 26) rfl rfl Try.func35 (by kernel_rfl) rfl #[.slice Ao9 x3_1.length co9] rfl (by (try simp only [List.map_toArray, List.map_cons, List.map_nil]); first | done | rfl | (simp only [List.length_drop, List.length_take]; rfl)) ?_; (with_reducible refine (slices_Compact_int_int.calls (fun k_ => some k_ = (.slice Ao9 x3_1.length co9 : Value).ownBlock) (.slice Ao9 x3_1.length co9) t105 t106 w _ ?side1 ?side2 A8.out).mono ?_); (case side1 => repeat (first | (with_reducible first | exact HB.out | apply below_alloc | apply pw_below_drewN | apply below_drew1) | exact HB.out)); (case side2 => exact Kd.R_tight rfl HO_3.out); rintro e w11 ⟨v107, rfl, ho0, hb, hkp⟩; refine ⟨_, rfl, ?_⟩; have n0_ := Aside0.mk (Kd.R_mono (ok' := fun k_ => True) ho0 (fun k_ hk_ => trivial)); have n1_ := Aside0.mk (hb); clear HB; clear HO_3; have HO108 := n0_; have HB := n1_; clear n0_ n1_; (try clear hb); (try clear hkp); (try clear ho0)))
     go_ret
     exact ⟨_, by first | rfl | (simp [errW_none, errW_some] <;> rfl) | (simp [*, errW_none, errW_some] <;> rfl), by (with_reducible repeat (first | apply Kd.R_alloc | apply Kd.R_drewN | apply Kd.R_drew)); exact HO108.out, by repeat (first | (with_reducible first | exact HB.out | apply below_alloc | apply pw_below_drewN | apply below_drew1) | exact HB.out)⟩
   ·rw [if_neg c2] at H
    have c2b0 : decide (x4_1 < (l0.length : Int)) = false := decide_eq_false c2
    clear c2
    replace H := Option.bind_eq_some_iff.mp H
    obtain ⟨t109, A120, H⟩ := H
    replace H : ((slices_Compact_int_int.f t109).bind fun t110 => (some t110)) = some r := H
    have A12 := Aside0.mk A120
    clear A120
    replace H := Option.bind_eq_some_iff.mp H
    obtain ⟨t110, A130, H⟩ := H
    replace H : (some t110) = some r := H
    have A13 := Aside0.mk A130
    clear A130
    obtain rfl := Option.some.inj H
    obtain ⟨Ao14, co14, eo14⟩ := Kd.R_slice HO_3.out
    subst eo14
    go_wp2_with (first | ((with_reducible refine gate_callee (f := 34) rfl ?_); refine goesL_ (some 24) rfl rfl Try.func34 (by kernel_rfl) rfl #[.slice Ao14 x3_1.length co14] rfl (by (try simp only [List.map_toArray, List.map_cons, List.map_nil]); first | done | rfl | (simp only [List.length_drop, List.length_take]; rfl)) ?_; (with_reducible refine (slices_Sort_int_int.calls (fun k_ => some k_ = (.slice Ao14 x3_1.length co14 : Value).ownBlock) (.slice Ao14 x3_1.length co14) x3_1 t109 w _ ?side1 ?side2 A12.out).mono ?_); (case side1 => repeat (first | (with_reducible first | exact HB.out | apply below_alloc | apply pw_below_drewN | apply below_drew1) | exact HB.out)); (case side2 => exact Kd.R_tight rfl HO_3.out); rintro e w15 ⟨rfl, hy0, hb, hkp⟩; refine ⟨_, rfl, ?_⟩; have n0_ := Aside0.mk (Kd.R_reok rfl hy0 (fun k_ e_ => HO_3.out.1 k_ e_)); have n1_ := Aside0.mk (hb); clear HO_3; clear HB; have HO_3 := n0_; have HB := n1_; clear n0_ n1_; (try clear hb); (try clear hkp); (try clear hy0)) | ((with_reducible refine gate_callee (f := 35) rfl ?_); refine goesL_ (some 26) rfl rfl Try.func35 (by kernel_rfl) rfl #[.slice Ao14 x3_1.length co14] rfl (by (try simp only [List.map_toArray, List.map_cons, List.map_nil]); first | done | rfl | (simp only [List.length_drop, List.length_take]; rfl)) ?_; (with_reducible refine (slices_Compact_int_int.calls (fun k_ => some k_ = (.slice Ao14 x3_1.length co14 : Value).ownBlock) (.slice Ao14 x3_1.length co14) t109 t110 w _ ?side1 ?side2 A13.out).mono ?_); (case side1 => repeat (first | (with_reducible first | exact HB.out | apply below_alloc | apply pw_below_drewN | apply below_drew1) | exact HB.out)); (case side2 => exact Kd.R_tight rfl HO_3.out); rintro e w16 ⟨v111, rfl, ho0, hb, hkp⟩; refine ⟨_, rfl, ?_⟩; have n0_ := Aside0.mk (Kd.R_mono (ok' := fun k_ => True) ho0 (fun k_ hk_ => trivial)); have n1_ := Aside0.mk (hb); clear HB; clear HO_3; have HO112 := n0_; have HB := n1_; clear n0_ n1_; (try clear hb); (try clear hkp); (try clear ho0)))
    go_ret
    exact ⟨_, by first | rfl | (simp [errW_none, errW_some] <;> rfl) | (simp [*, errW_none, errW_some] <;> rfl), by (with_reducible repeat (first | apply Kd.R_alloc | apply Kd.R_drewN | apply Kd.R_drew)); exact HO112.out, by repeat (first | (with_reducible first | exact HB.out | apply below_alloc | apply pw_below_drewN | apply below_drew1) | exact HB.out)⟩

/-! ### laws_at: function 14 -/
def laws_at.f (l0 : List Int) (a1 : Int) : Option (Int) := if a1 < (l0.length : Int) then (if 0 ≤ a1 then (some (rd l0 a1)) else (none)) else (some 0)
set_option maxHeartbeats 8000000 in
set_option maxRecDepth 100000 in
theorem laws_at.calls (A0 : Option Addr) (c0 : Nat) (l0 : List Int) (a1 : Int) (r : Int) (w : World) (hr0 : Kd.C (Kd.int .u8) w A0 l0.length l0) (hc0 : l0.length ≤ c0) (h : laws_at.f l0 a1 = some r) :
  Calls Try.prog 14 #[.slice A0 l0.length c0, .int .i64 a1] w fun e w' => e = .returned (.int .u8 r) ∧ Drawn0 w w' := by
 have HR0 := Aside0.mk hr0
 have HC0 := Aside0.mk hc0
 clear hr0 hc0
 have H : (if a1 < (l0.length : Int) then (if 0 ≤ a1 then (some (rd l0 a1)) else (none)) else (some 0)) = some r := h
 clear h
 by_cases c3 : a1 < (l0.length : Int)
 ·rw [if_pos c3] at H
  have c3b0 : decide (a1 < (l0.length : Int)) = true := decide_eq_true c3
  clear c3
  by_cases c4 : 0 ≤ a1
  ·rw [if_pos c4] at H
   have c4b0 : decide (0 ≤ a1) = true := decide_eq_true c4
   clear c4
   obtain rfl := Option.some.inj H
   have p113 : 0 ≤ (a1 : Int) := of_decide_eq_true (by first | (with_reducible assumption) | assumption)
   have q113 : a1 < (l0.length : Int) := of_decide_eq_true (by first | (with_reducible assumption) | assumption)
   obtain ⟨ad113, e113, hx113_0⟩ := Kd.at_int HR0.out a1 p113 q113
   cases e113
   replace p113 := eq_true p113
   replace q113 := eq_true q113
   go_enter Try.func14, Try.ntmps14
   go_wp2
   go_ret
   exact ⟨by first | rfl | (simp; done) | (simp [*]; done), by repeat (first | exact Drawn0.refl _ | apply Drawn0.step)⟩
  ·rw [if_neg c4] at H
   exact absurd H (by simp)
 ·rw [if_neg c3] at H
  have c3b0 : decide (a1 < (l0.length : Int)) = false := decide_eq_false c3
  clear c3
  obtain rfl := Option.some.inj H
  go_enter Try.func14, Try.ntmps14
  go_wp2
  go_ret
  exact ⟨by first | rfl | (simp; done) | (simp [*]; done), by repeat (first | exact Drawn0.refl _ | apply Drawn0.step)⟩

/-! ### impl_rising: function 36 -/
mutual
def impl_rising.j0 : Nat → List Int → Bool → Option (Bool)
 | 0, _, _ => none
 | k + 1, x0, x5 => impl_rising.l0 k x0 x5 x0 (x0.length : Int) 0
def impl_rising.l0 : Nat → List Int → Bool → List Int → Int → Int → Option (Bool)
 | 0, _, _, _, _, _ => none
 | k + 1, x0, x5, x14, x15, x16 => if x16 < x15 then (if 0 ≤ x16 then (if x16 < (x14.length : Int) then (if x5 = true then (if (rd x14 x16) ≥ 0 then (if (rd x14 x16) ≤ 65535 then (if x16 = 0 then (impl_rising.l0 k x0 true x14 x15 (wrap64 (x16 + 1))) else (if 0 ≤ (wrap64 (x16 - 1)) then (if (wrap64 (x16 - 1)) < (x0.length : Int) then (impl_rising.l0 k x0 (decide ((rd x14 x16) > (rd x0 (wrap64 (x16 - 1))))) x14 x15 (wrap64 (x16 + 1))) else (none)) else (none))) else (impl_rising.l0 k x0 false x14 x15 (wrap64 (x16 + 1)))) else (impl_rising.l0 k x0 false x14 x15 (wrap64 (x16 + 1)))) else (impl_rising.l0 k x0 false x14 x15 (wrap64 (x16 + 1)))) else (none)) else (none)) else (some x5)
end
def impl_rising.f (k : Nat) (l0 : List Int) (a1 : Int) : Option (Bool) := if a1 ≥ 0 then (impl_rising.j0 k l0 (decide (a1 ≤ 65535))) else (impl_rising.j0 k l0 false)
theorem impl_rising.mono_l : ∀ k, (∀ y0 y1, LeO (impl_rising.j0 k y0 y1) (impl_rising.j0 (k + 1) y0 y1)) ∧ (∀ y0 y1 y2 y3 y4, LeO (impl_rising.l0 k y0 y1 y2 y3 y4) (impl_rising.l0 (k + 1) y0 y1 y2 y3 y4))
 | 0 => ⟨fun _ _ r h => by simp [impl_rising.j0] at h, fun _ _ _ _ _ r h => by simp [impl_rising.l0] at h⟩
 | k + 1 => by
  obtain ⟨ih0, ih1⟩ := impl_rising.mono_l k
  refine ⟨?_, ?_⟩
  ·intro y0 y1
   unfold impl_rising.j0
   repeat' first
   | (with_reducible exact ih0 _ _)
   | (with_reducible exact ih1 _ _ _ _ _)
   | (with_reducible exact LeO.refl _)
   | (with_reducible exact LeO.none _)
   | (with_reducible refine LeO.ite ?_ ?_)
   | (with_reducible refine LeO.bind ?_ (fun _ => ?_))
   | exact ih0 _ _
   | exact ih1 _ _ _ _ _
   | exact LeO.none _
   | refine LeO.ite ?_ ?_
   | refine LeO.bind ?_ (fun _ => ?_)
  ·intro y0 y1 y2 y3 y4
   unfold impl_rising.l0
   repeat' first
   | (with_reducible exact ih0 _ _)
   | (with_reducible exact ih1 _ _ _ _ _)
   | (with_reducible exact LeO.refl _)
   | (with_reducible exact LeO.none _)
   | (with_reducible refine LeO.ite ?_ ?_)
   | (with_reducible refine LeO.bind ?_ (fun _ => ?_))
   | exact ih0 _ _
   | exact ih1 _ _ _ _ _
   | exact LeO.none _
   | refine LeO.ite ?_ ?_
   | refine LeO.bind ?_ (fun _ => ?_)
theorem impl_rising.mono : ∀ a0 a1 k, LeO (impl_rising.f k a0 a1) (impl_rising.f (k + 1) a0 a1) := by
 intro a0 a1 k
 obtain ⟨ih0, ih1⟩ := impl_rising.mono_l k
 unfold impl_rising.f
 repeat' first
   | (with_reducible exact ih0 _ _)
   | (with_reducible exact ih1 _ _ _ _ _)
   | (with_reducible exact LeO.refl _)
   | (with_reducible exact LeO.none _)
   | (with_reducible refine LeO.ite ?_ ?_)
   | (with_reducible refine LeO.bind ?_ (fun _ => ?_))
   | exact ih0 _ _
   | exact ih1 _ _ _ _ _
   | exact LeO.none _
   | refine LeO.ite ?_ ?_
   | refine LeO.bind ?_ (fun _ => ?_)
set_option maxHeartbeats 8000000 in
set_option maxRecDepth 100000 in
theorem impl_rising.calls (k : Nat) (A0 : Option Addr) (c0 : Nat) (l0 : List Int) (a1 : Int) (r : Bool) (w : World) (hr0 : Kd.C (Kd.int .i64) w A0 l0.length l0) (hc0 : l0.length ≤ c0) (h : impl_rising.f k l0 a1 = some r) :
  Calls Try.prog 36 #[.slice A0 l0.length c0, .int .i64 a1] w fun e w' => e = .returned (.bool r) ∧ Drawn0 w w' := by
 have HR0 := Aside0.mk hr0
 have HC0 := Aside0.mk hc0
 clear hr0 hc0
 have H : (if a1 ≥ 0 then (impl_rising.j0 k l0 (decide (a1 ≤ 65535))) else (impl_rising.j0 k l0 false)) = some r := h
 clear h
 have HC3 := Aside0.mk H
 clear H
 go_enter Try.func36, Try.ntmps36
 go_upto_region 1 with (fail)
 go_cut [5] (fun v5 wc => ∃ (kq : Nat) (x5_2 : Bool), v5 = .bool x5_2 ∧ Aside0 (impl_rising.j0 kq l0 x5_2 = some r) ∧ Aside0 (kq ≤ k) ∧ Drawn0 w wc)
 case first =>
  have H := HC3.out
  clear HC3
  by_cases c4 : a1 ≥ 0
  ·rw [if_pos c4] at H
   have c4b0 : decide (0 ≤ a1) = true := decide_eq_true c4
   clear c4
   (first | rw [c4b0] | (simp only [i64_w, i32_w]; rw [c4b0]) | skip)
   have H' := Aside0.mk H
   clear H
   go_wp2
   go_meet
   case rel => exact ⟨_, (decide (a1 ≤ 65535)), (by first | rfl | (simp; done) | (simp [*]; done)), H', ⟨by first | omega | exact Nat.le_refl _⟩, by repeat (first | exact Drawn0.refl _ | apply Drawn0.step)⟩
  ·rw [if_neg c4] at H
   have c4b0 : decide (0 ≤ a1) = false := decide_eq_false c4
   clear c4
   (first | rw [c4b0] | (simp only [i64_w, i32_w]; rw [c4b0]) | skip)
   have H' := Aside0.mk H
   clear H
   go_wp2
   go_meet
   case rel => exact ⟨_, (false), (by first | rfl | (simp; done) | (simp [*]; done)), H', ⟨by first | omega | exact Nat.le_refl _⟩, by repeat (first | exact Drawn0.refl _ | apply Drawn0.step)⟩
 case rest =>
  clear HC3
  try clear p2
  try clear c3
  try clear c4
  try clear c4b0
  obtain ⟨kq, x5_2, rfl, HA, HJ2, ⟨mc2, rfl⟩⟩ := hcut
  cases kq with
  | zero => exact absurd HA.out (by simp [impl_rising.j0])
  | succ kj2 =>
   have H := HA.out
   clear HA
   simp only [impl_rising.j0] at H
   have H' := Aside0.mk H
   clear H
   go_wp2
   go_loopg [5, 16] kj2 (fun kq v5 v16 w' => ∃ (x5_2 : Bool) (x16_2 : Int), v5 = .bool x5_2 ∧ v16 = .int .i64 x16_2 ∧ Aside0 (impl_rising.l0 kq l0 x5_2 l0 (l0.length : Int) x16_2 = some r) ∧ Aside0 (kq ≤ kj2) ∧ Drawn0 w w')
   case atStart => exact ⟨(x5_2), (0), (by first | rfl | (simp; done) | (simp [*]; done)), (by first | rfl | (simp; done) | (simp [*]; done)), H', ⟨Nat.le_refl _⟩, by repeat (first | exact Drawn0.refl _ | apply Drawn0.step)⟩
   case round =>
    clear H'
    try clear c2
    try clear p2
    try clear c3
    try clear c4
    try clear c4b0
    try clear p2
    obtain ⟨x5_2, x16_2, rfl, rfl, HA, HK2, ⟨m2, rfl⟩⟩ := hrel
    cases gk with
    | zero => exact absurd HA.out (by simp [impl_rising.l0])
    | succ k2 =>
     have H := HA.out
     clear HA
     simp only [impl_rising.l0] at H
     by_cases c5 : x16_2 < (l0.length : Int)
     ·rw [if_pos c5] at H
      have c5b0 : decide (x16_2 < (l0.length : Int)) = true := decide_eq_true c5
      clear c5
      by_cases c6 : 0 ≤ x16_2
      ·rw [if_pos c6] at H
       have c6b0 : decide (0 ≤ x16_2) = true := decide_eq_true c6
       clear c6
       by_cases c7 : x16_2 < (l0.length : Int)
       ·rw [if_pos c7] at H
        have c7b0 : decide (x16_2 < (l0.length : Int)) = true := decide_eq_true c7
        clear c7
        by_cases c8 : x5_2 = true
        ·subst c8
         have H1 : (if (rd l0 x16_2) ≥ 0 then (if (rd l0 x16_2) ≤ 65535 then (if x16_2 = 0 then (impl_rising.l0 k2 l0 true l0 (l0.length : Int) (wrap64 (x16_2 + 1))) else (if 0 ≤ (wrap64 (x16_2 - 1)) then (if (wrap64 (x16_2 - 1)) < (l0.length : Int) then (impl_rising.l0 k2 l0 (decide ((rd l0 x16_2) > (rd l0 (wrap64 (x16_2 - 1))))) l0 (l0.length : Int) (wrap64 (x16_2 + 1))) else (none)) else (none))) else (impl_rising.l0 k2 l0 false l0 (l0.length : Int) (wrap64 (x16_2 + 1)))) else (impl_rising.l0 k2 l0 false l0 (l0.length : Int) (wrap64 (x16_2 + 1)))) = some r := by rw [if_pos rfl] at H; exact H
         clear H
         have H := H1
         clear H1
         by_cases c9 : (rd l0 x16_2) ≥ 0
         ·rw [if_pos c9] at H
          have c9b0 : decide (0 ≤ (rd l0 x16_2)) = true := decide_eq_true c9
          clear c9
          by_cases c10 : (rd l0 x16_2) ≤ 65535
          ·rw [if_pos c10] at H
           have c10b0 : decide ((rd l0 x16_2) ≤ 65535) = true := decide_eq_true c10
           clear c10
           by_cases c11 : x16_2 = 0
           ·rw [if_pos c11] at H
            have c11b0 : (x16_2 == 0) = true := beq_iff_eq.mpr c11
            have c11b1 : (x16_2 != 0) = false := bne_eq_false_iff_eq.mpr c11
            clear c11
            have H' := Aside0.mk H
            clear H
            have p114 : 0 ≤ (x16_2 : Int) := of_decide_eq_true (by first | (with_reducible assumption) | assumption)
            have q114 : x16_2 < (l0.length : Int) := of_decide_eq_true (by first | (with_reducible assumption) | assumption)
            obtain ⟨ad114, e114, hx114_0⟩ := Kd.at_int HR0.out x16_2 p114 q114
            cases e114
            replace p114 := eq_true p114
            replace q114 := eq_true q114
            go_wp2
            go_roundg k2
            case measure => have := HJ2.out; have := HK2.out; omega
            case rel => exact ⟨(true), (wrap64 (x16_2 + 1)), (by first | rfl | (simp; done) | (simp [*]; done)), (by first | rfl | (simp; done) | (simp [*]; done)), H', ⟨by have := HJ2.out; have := HK2.out; omega⟩, by repeat (first | exact Drawn0.refl _ | apply Drawn0.step)⟩
           ·rw [if_neg c11] at H
            have c11b0 : (x16_2 == 0) = false := beq_eq_false_iff_ne.mpr c11
            have c11b1 : (x16_2 != 0) = true := bne_iff_ne.mpr c11
            obtain ⟨ji12, hji12⟩ : ∃ j_ : Int, (wrap64 (x16_2 - 1)) = j_ := ⟨_, rfl⟩
            replace H : (if 0 ≤ (ji12) then (if (ji12) < (l0.length : Int) then (impl_rising.l0 k2 l0 (decide ((rd l0 x16_2) > (rd l0 (ji12)))) l0 (l0.length : Int) (wrap64 (x16_2 + 1))) else (none)) else (none)) = some r := by first | (rw [hji12] at H; exact H) | (simp only [hji12] at H ⊢; exact H)
            have hji12w : (IntKind.i64.wrap (x16_2 - 1)) = ji12 := (i64_w _).trans hji12
            by_cases c13 : 0 ≤ (ji12)
            ·rw [if_pos c13] at H
             have c13b0 : decide (0 ≤ (ji12)) = true := decide_eq_true c13
             clear c13
             by_cases c14 : (ji12) < (l0.length : Int)
             ·rw [if_pos c14] at H
              have c14b0 : decide ((ji12) < (l0.length : Int)) = true := decide_eq_true c14
              clear c14
              have H' := Aside0.mk H
              clear H
              have p114 : 0 ≤ (x16_2 : Int) := of_decide_eq_true (by first | (with_reducible assumption) | assumption)
              have q114 : x16_2 < (l0.length : Int) := of_decide_eq_true (by first | (with_reducible assumption) | assumption)
              obtain ⟨ad114, e114, hx114_0⟩ := Kd.at_int HR0.out x16_2 p114 q114
              cases e114
              replace p114 := eq_true p114
              replace q114 := eq_true q114
              have p115 : 0 ≤ ((ji12) : Int) := of_decide_eq_true (by first | (with_reducible assumption) | assumption)
              have q115 : (ji12) < (l0.length : Int) := of_decide_eq_true (by first | (with_reducible assumption) | assumption)
              obtain ⟨ad115, e115, hx115_0⟩ := Kd.at_int HR0.out (ji12) p115 q115
              obtain rfl : ad114 = ad115 := (by injection e115)
              replace p115 := eq_true p115
              replace q115 := eq_true q115
              go_wp2
              go_roundg k2
              case measure => have := HJ2.out; have := HK2.out; omega
              case rel => exact ⟨(decide ((rd l0 x16_2) > (rd l0 (ji12)))), (wrap64 (x16_2 + 1)), (by first | rfl | (simp; done) | (simp only [← hji12] <;> (first | rfl | simp)) | (simp [*]; done)), (by first | rfl | (simp; done) | (simp [*]; done)), H', ⟨by have := HJ2.out; have := HK2.out; omega⟩, by repeat (first | exact Drawn0.refl _ | apply Drawn0.step)⟩
             ·rw [if_neg c14] at H
              exact absurd H (by simp)
            ·rw [if_neg c13] at H
             exact absurd H (by simp)
          ·rw [if_neg c10] at H
           have c10b0 : decide ((rd l0 x16_2) ≤ 65535) = false := decide_eq_false c10
           clear c10
           have H' := Aside0.mk H
           clear H
           have p114 : 0 ≤ (x16_2 : Int) := of_decide_eq_true (by first | (with_reducible assumption) | assumption)
           have q114 : x16_2 < (l0.length : Int) := of_decide_eq_true (by first | (with_reducible assumption) | assumption)
           obtain ⟨ad114, e114, hx114_0⟩ := Kd.at_int HR0.out x16_2 p114 q114
           cases e114
           replace p114 := eq_true p114
           replace q114 := eq_true q114
           go_wp2
           go_roundg k2
           case measure => have := HJ2.out; have := HK2.out; omega
           case rel => exact ⟨(false), (wrap64 (x16_2 + 1)), (by first | rfl | (simp; done) | (simp [*]; done)), (by first | rfl | (simp; done) | (simp [*]; done)), H', ⟨by have := HJ2.out; have := HK2.out; omega⟩, by repeat (first | exact Drawn0.refl _ | apply Drawn0.step)⟩
         ·rw [if_neg c9] at H
          have c9b0 : decide (0 ≤ (rd l0 x16_2)) = false := decide_eq_false c9
          clear c9
          have H' := Aside0.mk H
          clear H
          have p114 : 0 ≤ (x16_2 : Int) := of_decide_eq_true (by first | (with_reducible assumption) | assumption)
          have q114 : x16_2 < (l0.length : Int) := of_decide_eq_true (by first | (with_reducible assumption) | assumption)
          obtain ⟨ad114, e114, hx114_0⟩ := Kd.at_int HR0.out x16_2 p114 q114
          cases e114
          replace p114 := eq_true p114
          replace q114 := eq_true q114
          go_wp2
          go_roundg k2
          case measure => have := HJ2.out; have := HK2.out; omega
          case rel => exact ⟨(false), (wrap64 (x16_2 + 1)), (by first | rfl | (simp; done) | (simp [*]; done)), (by first | rfl | (simp; done) | (simp [*]; done)), H', ⟨by have := HJ2.out; have := HK2.out; omega⟩, by repeat (first | exact Drawn0.refl _ | apply Drawn0.step)⟩
        ·replace c8 := Bool.eq_false_iff.mpr c8
         subst c8
         have H1 : (impl_rising.l0 k2 l0 false l0 (l0.length : Int) (wrap64 (x16_2 + 1))) = some r := by rw [if_neg (show ¬ (false = true) by decide)] at H; exact H
         clear H
         have H := H1
         clear H1
         have H' := Aside0.mk H
         clear H
         have p114 : 0 ≤ (x16_2 : Int) := of_decide_eq_true (by first | (with_reducible assumption) | assumption)
         have q114 : x16_2 < (l0.length : Int) := of_decide_eq_true (by first | (with_reducible assumption) | assumption)
         obtain ⟨ad114, e114, hx114_0⟩ := Kd.at_int HR0.out x16_2 p114 q114
         cases e114
         replace p114 := eq_true p114
         replace q114 := eq_true q114
         go_wp2
         go_roundg k2
         case measure => have := HJ2.out; have := HK2.out; omega
         case rel => exact ⟨(false), (wrap64 (x16_2 + 1)), (by first | rfl | (simp; done) | (simp [*]; done)), (by first | rfl | (simp; done) | (simp [*]; done)), H', ⟨by have := HJ2.out; have := HK2.out; omega⟩, by repeat (first | exact Drawn0.refl _ | apply Drawn0.step)⟩
       ·rw [if_neg c7] at H
        exact absurd H (by simp)
      ·rw [if_neg c6] at H
       exact absurd H (by simp)
     ·rw [if_neg c5] at H
      have c5b0 : decide (x16_2 < (l0.length : Int)) = false := decide_eq_false c5
      clear c5
      obtain rfl := Option.some.inj H
      go_wp2
      go_ret
      exact ⟨by first | rfl | (simp; done) | (simp [*]; done), by repeat (first | exact Drawn0.refl _ | apply Drawn0.step)⟩

/-! ### tables_ClassDef1_Class: function 123 -/
def tables_ClassDef1_Class.f (a0_0 : Int) (a0_1 : Int) (l0_2 : List Int) (a1 : Int) : Option (Int × Bool) := if a1 < a0_1 then (some (0, false)) else (if a1 ≥ (IntKind.u16.wrap (a0_1 + (IntKind.u16.wrap ((l0_2.length : Int))))) then (some (0, false)) else (if 0 ≤ (IntKind.u16.wrap (a1 - a0_1)) then (if (IntKind.u16.wrap (a1 - a0_1)) < (l0_2.length : Int) then (some (rd l0_2 (IntKind.u16.wrap (a1 - a0_1)), true)) else (none)) else (none)))
set_option maxHeartbeats 8000000 in
set_option maxRecDepth 100000 in
theorem tables_ClassDef1_Class.calls (a0_0 : Int) (a0_1 : Int) (A0_2 : Option Addr) (c0_2 : Nat) (l0_2 : List Int) (a1 : Int) (r1 : Int) (r2 : Bool) (w : World) (hr0_2 : Kd.C (Kd.int .u16) w A0_2 l0_2.length l0_2) (hc0_2 : l0_2.length ≤ c0_2) (h : tables_ClassDef1_Class.f a0_0 a0_1 l0_2 a1 = some (r1, r2)) :
  Calls Try.prog 123 #[.agg #[.int .u16 a0_0, .int .u16 a0_1, .slice A0_2 l0_2.length c0_2], .int .u16 a1] w fun e w' => e = .returned (.tuple #[.int .u16 r1, .bool r2]) ∧ Below w.heap.size w w' := by
 have hu102 := Try.underlying102
 have HR0_2 := Aside0.mk hr0_2
 have HC0_2 := Aside0.mk hc0_2
 clear hr0_2 hc0_2
 have HB := Aside0.mk (Below.refl w.heap.size w)
 have H : (if a1 < a0_1 then (some (0, false)) else (if a1 ≥ (IntKind.u16.wrap (a0_1 + (IntKind.u16.wrap ((l0_2.length : Int))))) then (some (0, false)) else (if 0 ≤ (IntKind.u16.wrap (a1 - a0_1)) then (if (IntKind.u16.wrap (a1 - a0_1)) < (l0_2.length : Int) then (some (rd l0_2 (IntKind.u16.wrap (a1 - a0_1)), true)) else (none)) else (none)))) = some (r1, r2) := h
 clear h
 by_cases c3 : a1 < a0_1
 ·rw [if_pos c3] at H
  have c3b0 : decide (a1 < a0_1) = true := decide_eq_true c3
  clear c3
  simp only [Option.some.injEq, Prod.mk.injEq] at H
  obtain ⟨rfl, rfl⟩ := H
  go_enter Try.func123, Try.ntmps123
  go_wp2_with (first | ((with_reducible refine gate_dst (N := 2) rfl ?_); (try (refine gate_guard (by rfl) ?_; dsimp only)); refine box_event ?hg (N := 2) ?hd (cs := #[.int .u16 a0_0, .int .u16 a0_1, .slice A0_2 l0_2.length c0_2]) (t := 102) ?hr ?_; (case hd => rfl); (case hg => rfl); (case hr => first | (go_simp; done) | (go_simp; rfl)); intro gb116 hg w4 hbox hb; have n0_ := Aside0.mk (below_step (by repeat (first | (with_reducible first | exact HB.out | apply below_alloc | apply pw_below_drewN | apply below_drew1) | exact HB.out)) hb); have n1_ := Aside0.mk (hbox); have n2_ := Aside0.mk ((by rw [hg]; exact (below_size (by repeat (first | (with_reducible first | exact HB.out | apply below_alloc | apply pw_below_drewN | apply below_drew1) | exact HB.out))) : w.heap.size ≤ gb116)); have n3_ := Aside0.mk ((by rw [hg]; exact (below_size (by repeat (first | (with_reducible first | exact HB.out | apply below_alloc | apply pw_below_drewN | apply below_drew1) | exact HB.out))) : w.heap.size ≤ gb116)); clear HB; have HB := n0_; have BK116 := n1_; have GW116 := n2_; have GE116 := n3_; clear n0_ n1_ n2_ n3_; clear hb hbox hg; have hcz5_0 : w4.cell? ⟨gb116, 0, none⟩ = some (.int .u16 a0_0) := (blk_cell BK116.out 0).trans rfl; have hcz5_1 : w4.cell? ⟨gb116, 1, none⟩ = some (.int .u16 a0_1) := (blk_cell BK116.out 1).trans rfl; have hcz5_2 : w4.cell? ⟨gb116, 2, none⟩ = some (.slice A0_2 l0_2.length c0_2) := (blk_cell BK116.out 2).trans rfl; have hfz5_0 := blk_frozen BK116.out 0; have hfz5_1 := blk_frozen BK116.out 1; have hfz5_2 := blk_frozen BK116.out 2))
  go_ret2
  exact ⟨by first | rfl | (simp [errW_none, errW_some] <;> rfl) | (simp [*, errW_none, errW_some] <;> rfl), by repeat (first | (with_reducible first | exact HB.out | apply below_alloc | apply pw_below_drewN | apply below_drew1 | refine below_set ?_ GE116.out) | exact HB.out)⟩
 ·rw [if_neg c3] at H
  have c3b0 : decide (a1 < a0_1) = false := decide_eq_false c3
  clear c3
  by_cases c6 : a1 ≥ (IntKind.u16.wrap (a0_1 + (IntKind.u16.wrap ((l0_2.length : Int)))))
  ·rw [if_pos c6] at H
   have c6b0 : decide ((IntKind.u16.wrap (a0_1 + (IntKind.u16.wrap ((l0_2.length : Int))))) ≤ a1) = true := decide_eq_true c6
   clear c6
   simp only [Option.some.injEq, Prod.mk.injEq] at H
   obtain ⟨rfl, rfl⟩ := H
   go_enter Try.func123, Try.ntmps123
   go_wp2_with (first | ((with_reducible refine gate_dst (N := 2) rfl ?_); (try (refine gate_guard (by rfl) ?_; dsimp only)); refine box_event ?hg (N := 2) ?hd (cs := #[.int .u16 a0_0, .int .u16 a0_1, .slice A0_2 l0_2.length c0_2]) (t := 102) ?hr ?_; (case hd => rfl); (case hg => rfl); (case hr => first | (go_simp; done) | (go_simp; rfl)); intro gb116 hg w7 hbox hb; have n0_ := Aside0.mk (below_step (by repeat (first | (with_reducible first | exact HB.out | apply below_alloc | apply pw_below_drewN | apply below_drew1) | exact HB.out)) hb); have n1_ := Aside0.mk (hbox); have n2_ := Aside0.mk ((by rw [hg]; exact (below_size (by repeat (first | (with_reducible first | exact HB.out | apply below_alloc | apply pw_below_drewN | apply below_drew1) | exact HB.out))) : w.heap.size ≤ gb116)); have n3_ := Aside0.mk ((by rw [hg]; exact (below_size (by repeat (first | (with_reducible first | exact HB.out | apply below_alloc | apply pw_below_drewN | apply below_drew1) | exact HB.out))) : w.heap.size ≤ gb116)); clear HB; have HB := n0_; have BK116 := n1_; have GW116 := n2_; have GE116 := n3_; clear n0_ n1_ n2_ n3_; clear hb hbox hg; have hcz8_0 : w7.cell? ⟨gb116, 0, none⟩ = some (.int .u16 a0_0) := (blk_cell BK116.out 0).trans rfl; have hcz8_1 : w7.cell? ⟨gb116, 1, none⟩ = some (.int .u16 a0_1) := (blk_cell BK116.out 1).trans rfl; have hcz8_2 : w7.cell? ⟨gb116, 2, none⟩ = some (.slice A0_2 l0_2.length c0_2) := (blk_cell BK116.out 2).trans rfl; have hfz8_0 := blk_frozen BK116.out 0; have hfz8_1 := blk_frozen BK116.out 1; have hfz8_2 := blk_frozen BK116.out 2))
   go_ret2
   exact ⟨by first | rfl | (simp [errW_none, errW_some] <;> rfl) | (simp [*, errW_none, errW_some] <;> rfl), by repeat (first | (with_reducible first | exact HB.out | apply below_alloc | apply pw_below_drewN | apply below_drew1 | refine below_set ?_ GE116.out) | exact HB.out)⟩
  ·rw [if_neg c6] at H
   have c6b0 : decide ((IntKind.u16.wrap (a0_1 + (IntKind.u16.wrap ((l0_2.length : Int))))) ≤ a1) = false := decide_eq_false c6
   clear c6
   obtain ⟨ji9, hji9⟩ : ∃ j_ : Int, (IntKind.u16.wrap (a1 - a0_1)) = j_ := ⟨_, rfl⟩
   replace H : (if 0 ≤ (ji9) then (if (ji9) < (l0_2.length : Int) then (some (rd l0_2 (ji9), true)) else (none)) else (none)) = some (r1, r2) := by first | (rw [hji9] at H; exact H) | (simp only [hji9] at H ⊢; exact H)
   by_cases c10 : 0 ≤ (ji9)
   ·rw [if_pos c10] at H
    have c10b0 : decide (0 ≤ (ji9)) = true := decide_eq_true c10
    clear c10
    by_cases c11 : (ji9) < (l0_2.length : Int)
    ·rw [if_pos c11] at H
     have c11b0 : decide ((ji9) < (l0_2.length : Int)) = true := decide_eq_true c11
     clear c11
     simp only [Option.some.injEq, Prod.mk.injEq] at H
     obtain ⟨rfl, rfl⟩ := H
     go_enter Try.func123, Try.ntmps123
     go_wp2_with (first | ((with_reducible refine gate_dst (N := 2) rfl ?_); (try (refine gate_guard (by rfl) ?_; dsimp only)); refine box_event ?hg (N := 2) ?hd (cs := #[.int .u16 a0_0, .int .u16 a0_1, .slice A0_2 l0_2.length c0_2]) (t := 102) ?hr ?_; (case hd => rfl); (case hg => rfl); (case hr => first | (go_simp; done) | (go_simp; rfl)); intro gb116 hg w12 hbox hb; have n0_ := Aside0.mk (below_step (by repeat (first | (with_reducible first | exact HB.out | apply below_alloc | apply pw_below_drewN | apply below_drew1) | exact HB.out)) hb); have n1_ := Aside0.mk (hbox); have n2_ := Aside0.mk ((by rw [hg]; exact (below_size (by repeat (first | (with_reducible first | exact HB.out | apply below_alloc | apply pw_below_drewN | apply below_drew1) | exact HB.out))) : w.heap.size ≤ gb116)); have n3_ := Aside0.mk ((by rw [hg]; exact (below_size (by repeat (first | (with_reducible first | exact HB.out | apply below_alloc | apply pw_below_drewN | apply below_drew1) | exact HB.out))) : w.heap.size ≤ gb116)); clear HB; have HB := n0_; have BK116 := n1_; have GW116 := n2_; have GE116 := n3_; clear n0_ n1_ n2_ n3_; clear hb hbox hg; have hcz13_0 : w12.cell? ⟨gb116, 0, none⟩ = some (.int .u16 a0_0) := (blk_cell BK116.out 0).trans rfl; have hcz13_1 : w12.cell? ⟨gb116, 1, none⟩ = some (.int .u16 a0_1) := (blk_cell BK116.out 1).trans rfl; have hcz13_2 : w12.cell? ⟨gb116, 2, none⟩ = some (.slice A0_2 l0_2.length c0_2) := (blk_cell BK116.out 2).trans rfl; have hfz13_0 := blk_frozen BK116.out 0; have hfz13_1 := blk_frozen BK116.out 1; have hfz13_2 := blk_frozen BK116.out 2; have p117 : 0 ≤ ((ji9) : Int) := of_decide_eq_true (by first | (with_reducible assumption) | assumption); have q117 : (ji9) < (l0_2.length : Int) := of_decide_eq_true (by first | (with_reducible assumption) | assumption); obtain ⟨ad117, e117, hx117_0⟩ := Kd.at_int HR0_2.out (ji9) p117 q117; cases e117; replace hx117_0 := (HB.out.cell (World.block_lt_of_cell? w _ hx117_0)).trans hx117_0; replace p117 := eq_true p117; replace q117 := eq_true q117))
     go_ret2
     exact ⟨by first | rfl | (simp [errW_none, errW_some] <;> rfl) | (simp only [← hji9]; first | rfl | (simp [errW_none, errW_some] <;> rfl)) | (simp [*, errW_none, errW_some] <;> rfl), by repeat (first | (with_reducible first | exact HB.out | apply below_alloc | apply pw_below_drewN | apply below_drew1 | refine below_set ?_ GE116.out) | exact HB.out)⟩
    ·rw [if_neg c11] at H
     exact absurd H (by simp)
   ·rw [if_neg c10] at H
    exact absurd H (by simp)

/-! ### tables_ClassDef2_Class: function 126 -/
theorem sx_ad {w : World} {bk o : Nat} {sp} {v : Value} (h0 : w.cell? ⟨bk, o, sp⟩ = some v) : sp = none := by
  cases sp with
  | none => rfl
  | some z =>
    unfold World.cell? at h0
    split at h0 <;> simp at h0
theorem sx_add (bk o j : Nat) : (⟨bk, o, none⟩ : Addr).add j = ⟨bk, o + j, none⟩ := by
  unfold Addr.add
  split
  · rename_i e; subst e; rfl
  · rfl
/-- The cells of a row of whole numbers that is read. -/
theorem sx_int {k : IntKind} {w : World} {A : Option Addr} {l : List Int} (hr : Kd.C (Kd.int k) w A l.length l) (hl : 0 < l.length) : ∃ bk o, A = some ⟨bk, o, none⟩ ∧ ∀ i, i < l.length → w.cell? ⟨bk, o + i, none⟩ = some (.int k l[i]!) := by
  obtain ⟨⟨bk, o, sp⟩, rfl, hc⟩ := hr.2.2 hl
  have hcell : ∀ i, i < l.length → w.cell? ((⟨bk, o, sp⟩ : Addr).add i) = some (.int k l[i]!) := by
    intro i hi
    obtain ⟨c, hlen, hK, hcc⟩ := hc i l[i] (List.getElem?_eq_getElem hi)
    have e : c = [.int k l[i]] := hK
    subst e
    have q := hcc 0 _ rfl
    have e1 : i * (Kd.int k).sz + 0 = i := Nat.mul_one i
    rw [e1] at q
    rw [getElem!_pos l i hi]
    exact q
  have hs : sp = none := by
    have h0 := hcell 0 hl
    unfold Addr.add at h0
    split at h0
    · exact sx_ad h0
    · rename_i e; exact absurd rfl e
  subst hs
  exact ⟨bk, o, rfl, fun i hi => by have := hcell i hi; rwa [sx_add] at this⟩
/-- The cells of a row of structs of three numbers that is read. -/
theorem sx_tri {α : Type} {d : Kd α} (hsz : d.sz = 3) (f g h : α → Int) (hopen : ∀ (w : World) (x : α) (cs : List Value), d.K w x cs → cs = [.int .u16 (f x), .int .u16 (g x), .int .u16 (h x)]) (z : α) {w : World} {A : Option Addr} {l : List α} (hr : d.C w A l.length l) (hl : 0 < l.length) :
    ∃ bk o, A = some ⟨bk, o, none⟩ ∧ ∀ i, i < l.length → w.cell? ⟨bk, o + i * 3, none⟩ = some (.int .u16 (f (l.getD i z))) ∧ w.cell? ⟨bk, o + i * 3 + 1, none⟩ = some (.int .u16 (g (l.getD i z))) ∧ w.cell? ⟨bk, o + i * 3 + 2, none⟩ = some (.int .u16 (h (l.getD i z))) := by
  obtain ⟨⟨bk, o, sp⟩, rfl, hc⟩ := hr.2.2 hl
  have hcell : ∀ i, i < l.length → w.cell? ((⟨bk, o, sp⟩ : Addr).add (i * 3)) = some (.int .u16 (f (l.getD i z))) ∧ w.cell? ((⟨bk, o, sp⟩ : Addr).add (i * 3 + 1)) = some (.int .u16 (g (l.getD i z))) ∧ w.cell? ((⟨bk, o, sp⟩ : Addr).add (i * 3 + 2)) = some (.int .u16 (h (l.getD i z))) := by
    intro i hi
    obtain ⟨c, hlen, hK, hcc⟩ := hc i l[i] (List.getElem?_eq_getElem hi)
    have e := hopen _ _ _ hK
    subst e
    have q0 := hcc 0 _ rfl
    have q1 := hcc 1 _ rfl
    have q2 := hcc 2 _ rfl
    rw [hsz] at q0 q1 q2
    rw [List.getD_eq_getElem?_getD, List.getElem?_eq_getElem hi]
    exact ⟨q0, q1, q2⟩
  have hs : sp = none := by
    have h0 := (hcell 0 hl).1
    unfold Addr.add at h0
    split at h0
    · exact sx_ad h0
    · rename_i e; exact absurd rfl e
  subst hs
  refine ⟨bk, o, rfl, fun i hi => ?_⟩
  have := hcell i hi
  rw [sx_add, sx_add, sx_add] at this
  exact this

theorem sx_mono3 {α : Type} (z : α) (f : α → Int) {l : List α} (h : l.Pairwise (fun a b => f a ≤ f b)) (a b : Nat) (hab : a ≤ b) (hb : b < l.length) : f (l.getD a z) ≤ f (l.getD b z) := by
  rcases Nat.eq_or_lt_of_le hab with rfl | hlt
  · exact Int.le_refl _
  · rw [List.getD_eq_getElem?_getD, List.getElem?_eq_getElem (by omega), List.getD_eq_getElem?_getD, List.getElem?_eq_getElem hb]
    exact List.pairwise_iff_getElem.1 h a b (by omega) hb hlt
theorem sx_new3 (W : World) (v0 v1 v2 : Value) (t : TypeId) : (W.alloc (.cells #[v0, v1, v2] t)).cell? ⟨W.heap.size, 0, none⟩ = some v0 ∧ (W.alloc (.cells #[v0, v1, v2] t)).cell? ⟨W.heap.size, 1, none⟩ = some v1 ∧ (W.alloc (.cells #[v0, v1, v2] t)).cell? ⟨W.heap.size, 2, none⟩ = some v2 := by
  refine ⟨?_, ?_, ?_⟩ <;> rw [World.cell?_alloc_at _ _ _ _ (by simp)] <;> rfl
set_option maxHeartbeats 2000000 in
theorem d2_clo (bg bc : Nat) (blk off n c : Nat) (x y : Int) (i : Nat) (W : World) (hi : i < n) (hg : W.cell? ⟨bg, 0, none⟩ = some (.int .u16 x)) (hc : W.cell? ⟨bc, 0, none⟩ = some (.slice (some ⟨blk, off, none⟩) n c)) (hy : W.cell? ⟨blk, off + i * 3, none⟩ = some (.int .u16 y)) :
    Calls Try.prog 129 (#[.int .i64 i] ++ #[.pointer (some ⟨bg, 0, none⟩), .pointer (some ⟨bc, 0, none⟩)]) W fun e w' => e = .returned (.bool (decide (x ≤ y))) ∧ ∃ q, w' = W.drewN q := by
  have hiz : (i : Int) < (n : Int) := by omega
  go_enter Try.func129, Try.ntmps129
  go_wp2
  go_region
  all_goals go_wp2
  all_goals go_ret
  all_goals exact ⟨by first | rfl | simp, 1, rfl⟩

def d2_n (l : List S107) (x : Int) : Nat := (List.range l.length).countP (fun i => !decide (x ≤ (l.getD i z107).f0))
theorem d2_cells {w : World} {A : Option Addr} {l : List S107} (hr : Kd.C k107 w A l.length l) (hl : 0 < l.length) : ∃ bk o, A = some ⟨bk, o, none⟩ ∧ ∀ i, i < l.length → w.cell? ⟨bk, o + i * 3, none⟩ = some (.int .u16 (l.getD i z107).f0) ∧ w.cell? ⟨bk, o + i * 3 + 1, none⟩ = some (.int .u16 (l.getD i z107).f1) ∧ w.cell? ⟨bk, o + i * 3 + 2, none⟩ = some (.int .u16 (l.getD i z107).f2) :=
  sx_tri rfl (·.f0) (·.f1) (·.f2) (fun _ _ _ h => k107_open h) z107 hr hl

theorem d2_search (fm : Int) (A : Option Addr) (c : Nat) (l : List S107) (x : Int) (w W0 : World) (hr : Kd.C k107 w A l.length l) (hs : l.Pairwise (fun a b => a.f0 ≤ b.f0)) (hsz : l.length < 4611686018427387904)
    (hW0 : W0 = ((w.alloc (.cells #[.int .u16 fm, .slice A l.length c] 105)).alloc (.cells #[.int .u16 x] 35)).alloc (.cells #[.slice A l.length c] 103)) :
    Calls Try.prog 117 #[.int .i64 (l.length : Int), .func (.func 129) #[] #[.pointer (some ⟨w.heap.size + 1, 0, none⟩), .pointer (some ⟨w.heap.size + 1 + 1, 0, none⟩)]] W0 fun e W1 => e = .returned (.int .i64 (d2_n l x : Int)) ∧
      W1.cell? ⟨w.heap.size + 1 + 1, 0, none⟩ = some (.slice A l.length c) ∧ W1.cell? ⟨w.heap.size + 1, 0, none⟩ = some (.int .u16 x) ∧
      (∀ bk o, A = some ⟨bk, o, none⟩ → ∀ i, i < l.length → W1.cell? ⟨bk, o + i * 3, none⟩ = some (.int .u16 (l.getD i z107).f0) ∧ W1.cell? ⟨bk, o + i * 3 + 1, none⟩ = some (.int .u16 (l.getD i z107).f1) ∧ W1.cell? ⟨bk, o + i * 3 + 2, none⟩ = some (.int .u16 (l.getD i z107).f2)) ∧
      w.heap.size + 3 ≤ W1.heap.size ∧ Below w.heap.size w W1 := by
  have hsize : W0.heap.size = w.heap.size + 1 + 1 + 1 := by rw [hW0]; simp
  have ca : W0.cell? ⟨w.heap.size + 1 + 1, 0, none⟩ = some (.slice A l.length c) := by rw [hW0]; have := cell_new_sl ((w.alloc (.cells #[.int .u16 fm, .slice A l.length c] 105)).alloc (.cells #[.int .u16 x] 35)) (.slice A l.length c) 103; rwa [World.size_alloc, World.size_alloc] at this
  have cx : W0.cell? ⟨w.heap.size + 1, 0, none⟩ = some (.int .u16 x) := by rw [hW0]; have := cell_new_sl (w.alloc (.cells #[.int .u16 fm, .slice A l.length c] 105)) (.int .u16 x) 35; rw [World.size_alloc] at this; exact cell_alloc_sl _ this
  have cw : ∀ bk o, A = some ⟨bk, o, none⟩ → ∀ i, i < l.length → w.cell? ⟨bk, o + i * 3, none⟩ = some (.int .u16 (l.getD i z107).f0) ∧ w.cell? ⟨bk, o + i * 3 + 1, none⟩ = some (.int .u16 (l.getD i z107).f1) ∧ w.cell? ⟨bk, o + i * 3 + 2, none⟩ = some (.int .u16 (l.getD i z107).f2) := by
    intro bk o hA i hi
    obtain ⟨bk', o', hA', hc⟩ := d2_cells hr (by omega)
    rw [hA] at hA'
    injection hA' with e1
    injection e1 with e1 e2 e3
    subst e1; subst e2
    exact hc i hi
  have cc : ∀ bk o, A = some ⟨bk, o, none⟩ → ∀ i, i < l.length → W0.cell? ⟨bk, o + i * 3, none⟩ = some (.int .u16 (l.getD i z107).f0) ∧ W0.cell? ⟨bk, o + i * 3 + 1, none⟩ = some (.int .u16 (l.getD i z107).f1) ∧ W0.cell? ⟨bk, o + i * 3 + 2, none⟩ = some (.int .u16 (l.getD i z107).f2) := fun bk o hA i hi => by
    obtain ⟨q0, q1, q2⟩ := cw bk o hA i hi
    rw [hW0]; exact ⟨cell_alloc_sl _ (cell_alloc_sl _ (cell_alloc_sl _ q0)), cell_alloc_sl _ (cell_alloc_sl _ (cell_alloc_sl _ q1)), cell_alloc_sl _ (cell_alloc_sl _ (cell_alloc_sl _ q2))⟩
  have hb : ∀ bk o, A = some ⟨bk, o, none⟩ → 0 < l.length → bk < W0.heap.size := fun bk o hA hi => World.block_lt_of_cell? (w := W0) (a := ⟨bk, o + 0 * 3, none⟩) (cc bk o hA 0 hi).1
  have eg : ∀ args w, (callFunc 129 args).run Try.prog w = .ok (.enter 129 args) w := enters_of Try.func129 (by kernel_rfl) rfl
  have hS := Try.sort_Search 129 #[.pointer (some ⟨w.heap.size + 1, 0, none⟩), .pointer (some ⟨w.heap.size + 1 + 1, 0, none⟩)] l.length (fun i => decide (x ≤ (l.getD i z107).f0)) W0 eg hsz
    (fun m os i hi => by
      obtain ⟨bk, o, hA, _⟩ := d2_cells hr (by omega)
      have h1 := cell_grown (by simp [hsize]) ca m os
      have h2 := cell_grown (by simp [hsize]) cx m os
      have h3 := cell_grown (by have := hb bk o hA (by omega); exact this) (cc bk o hA i hi).1 m os
      rw [hA] at h1
      exact (d2_clo (w.heap.size + 1) (w.heap.size + 1 + 1) bk o l.length c x (l.getD i z107).f0 i _ hi h2 h1 h3).mono fun _ _ ⟨he, q, hq⟩ => ⟨he, q, #[], by rw [hq, Go.Sort.grow_empty]⟩)
    (fun a b hab hb h => decide_eq_true (Int.le_trans (of_decide_eq_true h) (sx_mono3 z107 (·.f0) hs a b hab hb)))
  refine hS.mono ?_
  rintro e W1 ⟨rfl, q, os, rfl⟩
  refine ⟨rfl, cell_grown (by simp [hsize]) ca q os, cell_grown (by simp [hsize]) cx q os, fun bk o hA i hi => ?_, ?_, ?_⟩
  · obtain ⟨q0, q1, q2⟩ := cc bk o hA i hi
    have hl := hb bk o hA (by omega)
    exact ⟨cell_grown hl q0 q os, cell_grown hl q1 q os, cell_grown hl q2 q os⟩
  · show _ ≤ (Go.Sort.grow _ os).heap.size
    simp only [Go.Sort.grow, Array.size_append]
    have : (W0.drewN q).heap.size = W0.heap.size := rfl
    omega
  · have hB0 : Below w.heap.size w W0 := by rw [hW0]; exact (((Below.refl _ w).alloc (Nat.le_refl _) _).alloc (by simp) _).alloc (by simp; omega) _
    exact hB0.trans (below_grown_sl w.heap.size W0 q os (by omega))
def d2_res (l : List S107) (x : Int) : Int × Bool :=
  if d2_n l x < l.length ∧ x = (l.getD (d2_n l x) z107).f0 then ((l.getD (d2_n l x) z107).f2, true)
  else if 0 < d2_n l x ∧ (l.getD (d2_n l x - 1) z107).f0 ≤ x ∧ x ≤ (l.getD (d2_n l x - 1) z107).f1 then ((l.getD (d2_n l x - 1) z107).f2, true)
  else (0, false)
theorem d2_n_le (l : List S107) (x : Int) : d2_n l x ≤ l.length := by
  have := List.countP_le_length (p := fun i => !decide (x ≤ (l.getD i z107).f0)) (l := List.range l.length)
  simpa [d2_n] using this
set_option maxHeartbeats 8000000 in
theorem d2_idx (fm : Int) (A : Option Addr) (c : Nat) (l : List S107) (x : Int) (r1 : Int) (r2 : Bool) (w : World) (hr : Kd.C k107 w A l.length l) (hs : l.Pairwise (fun a b => a.f0 ≤ b.f0)) (hsz : l.length < 4611686018427387904)
    (hres : d2_res l x = (r1, r2)) :
    Calls Try.prog 126 #[.agg #[.int .u16 fm, .slice A l.length c], .int .u16 x] w fun e w' => e = .returned (.tuple #[.int .u16 r1, .bool r2]) ∧ Below w.heap.size w w' := by
  obtain ⟨W0, hW0⟩ : ∃ W0, W0 = ((w.alloc (.cells #[.int .u16 fm, .slice A l.length c] 105)).alloc (.cells #[.int .u16 x] 35)).alloc (.cells #[.slice A l.length c] 103) := ⟨_, rfl⟩
  have hS := d2_search fm A c l x w W0 hr hs hsz hW0
  have hrle := d2_n_le l x
  have hB0 : Below w.heap.size w W0 := by rw [hW0]; exact (((Below.refl _ w).alloc (Nat.le_refl _) _).alloc (by simp) _).alloc (by simp; omega) _
  unfold d2_res at hres
  generalize d2_n l x = r at hS hres hrle
  by_cases hl0 : l.length = 0
  · rw [if_neg (fun h => by omega), if_neg (fun h => by omega)] at hres
    injection hres with e1 e2
    subst e1; subst e2
    generalize hn : l.length = n at hS hW0 hl0
    subst hl0
    go_enter Try.func126, Try.ntmps126
    go_wp2
    go_ret2
    exact ⟨rfl, hW0 ▸ hB0⟩
  obtain ⟨bk, o, rfl, _⟩ := d2_cells hr (by omega)
  have hlz : ¬ (l.length : Int) = 0 := by omega
  generalize hz0 : (l.getD (r - 1) z107).f0 = z0 at hres
  generalize hz1 : (l.getD (r - 1) z107).f1 = z1 at hres
  generalize hz2 : (l.getD (r - 1) z107).f2 = z2 at hres
  have hrm : 0 < r → (r : Int) - 1 < (l.length : Int) := fun _ => by omega
  have hrn : 0 < r → ((r - 1 : Nat) : Int) = (r : Int) - 1 := fun _ => by omega
  have hrt : 0 < r → ((r : Int) - 1).toNat = r - 1 := fun _ => by omega
  by_cases hrl : r < l.length
  · have hrz : (r : Int) < (l.length : Int) := by omega
    generalize hy0 : (l.getD r z107).f0 = y0 at hres
    generalize hy1 : (l.getD r z107).f1 = y1 at hres
    generalize hy2 : (l.getD r z107).f2 = y2 at hres
    generalize hn : l.length = n at hS hrl hrz hW0 hlz hrm hres hrle
    by_cases hyx : x = y0
    · subst hyx
      rw [if_pos ⟨hrl, rfl⟩] at hres
      injection hres with e1 e2
      subst e1; subst e2
      go_enter Try.func126, Try.ntmps126
      go_wp2_with (go_at_call 117; rw [← hW0]; refine hS.mono ?_; rintro e W1 ⟨rfl, f1, f2, f3, f4, f5⟩; obtain ⟨g0, g1, g2⟩ := f3 bk o rfl r hrl; rw [hy0] at g0; rw [hy1] at g1; rw [hy2] at g2; clear f3; have f1' := cell_alloc_sl (.cells #[.int .u16 x, .int .u16 y1, .int .u16 y2] 107) f1; have f2' := cell_alloc_sl (.cells #[.int .u16 x, .int .u16 y1, .int .u16 y2] 107) f2; have g0' := cell_alloc_sl (.cells #[.int .u16 x, .int .u16 y1, .int .u16 y2] 107) g0; obtain ⟨n0, n1, n2⟩ := sx_new3 W1 (.int .u16 x) (.int .u16 y1) (.int .u16 y2) 107)
      go_region
      all_goals go_wp2
      all_goals go_ret2
      all_goals exact ⟨rfl, below_drew1 (f5.alloc (by omega) _)⟩
    · rw [if_neg (fun h => hyx h.2)] at hres
      have hb : (x == y0) = false := by simpa using hyx
      by_cases hr0 : 0 < r
      · have hrg : (r : Int) > 0 := by omega
        replace hrm := hrm hr0
        replace hrn := hrn hr0
        replace hrt := hrt hr0
        go_enter Try.func126, Try.ntmps126
        go_wp2_with (go_at_call 117; rw [← hW0]; refine hS.mono ?_; rintro e W1 ⟨rfl, f1, f2, f3, f4, f5⟩; obtain ⟨g0, g1, g2⟩ := f3 bk o rfl r hrl; rw [hy0] at g0; rw [hy1] at g1; rw [hy2] at g2; obtain ⟨k0, k1, k2⟩ := f3 bk o rfl (r - 1) (by omega); rw [hz0] at k0; rw [hz1] at k1; rw [hz2] at k2; clear f3; have f1' := cell_alloc_sl (.cells #[.int .u16 y0, .int .u16 y1, .int .u16 y2] 107) f1; have f2' := cell_alloc_sl (.cells #[.int .u16 y0, .int .u16 y1, .int .u16 y2] 107) f2; have g0' := cell_alloc_sl (.cells #[.int .u16 y0, .int .u16 y1, .int .u16 y2] 107) g0; obtain ⟨n0, n1, n2⟩ := sx_new3 W1 (.int .u16 y0) (.int .u16 y1) (.int .u16 y2) 107; have k0' := cell_alloc_sl (.cells #[.int .u16 y0, .int .u16 y1, .int .u16 y2] 107) k0; have k1' := cell_alloc_sl (.cells #[.int .u16 y0, .int .u16 y1, .int .u16 y2] 107) k1; have k2' := cell_alloc_sl (.cells #[.int .u16 y0, .int .u16 y1, .int .u16 y2] 107) k2; have f2q := cell_alloc_sl (.cells #[.int .u16 z0, .int .u16 z1, .int .u16 z2] 107) f2'; obtain ⟨m0, m1, m2⟩ := sx_new3 (W1.alloc (.cells #[.int .u16 y0, .int .u16 y1, .int .u16 y2] 107)) (.int .u16 z0) (.int .u16 z1) (.int .u16 z2) 107; rw [World.size_alloc] at m0 m1 m2)
        go_region
        all_goals go_wp2
        all_goals go_ret2
        all_goals refine ⟨?_, (below_drew1 (f5.alloc (by omega) _)).alloc (by show _ ≤ (World.alloc _ _).heap.size; simp; omega) _⟩
        all_goals (split at hres <;> first | (injection hres with e1 e2; subst e1; subst e2; rfl) | (exfalso; omega))
      · rw [if_neg (fun h => hr0 h.1)] at hres
        injection hres with e1 e2
        subst e1; subst e2
        have hrg : ¬ (r : Int) > 0 := by omega
        go_enter Try.func126, Try.ntmps126
        go_wp2_with (go_at_call 117; rw [← hW0]; refine hS.mono ?_; rintro e W1 ⟨rfl, f1, f2, f3, f4, f5⟩; obtain ⟨g0, g1, g2⟩ := f3 bk o rfl r hrl; rw [hy0] at g0; rw [hy1] at g1; rw [hy2] at g2; clear f3; have f1' := cell_alloc_sl (.cells #[.int .u16 y0, .int .u16 y1, .int .u16 y2] 107) f1; have f2' := cell_alloc_sl (.cells #[.int .u16 y0, .int .u16 y1, .int .u16 y2] 107) f2; have g0' := cell_alloc_sl (.cells #[.int .u16 y0, .int .u16 y1, .int .u16 y2] 107) g0; obtain ⟨n0, n1, n2⟩ := sx_new3 W1 (.int .u16 y0) (.int .u16 y1) (.int .u16 y2) 107)
        go_region
        all_goals go_wp2
        all_goals go_ret2
        all_goals exact ⟨rfl, below_drew1 (f5.alloc (by omega) _)⟩
  · have hrz : ¬ (r : Int) < (l.length : Int) := by omega
    rw [if_neg (fun h => hrl h.1)] at hres
    have hr0 : 0 < r := by omega
    have hrg : (r : Int) > 0 := by omega
    replace hrm := hrm hr0
    replace hrn := hrn hr0
    replace hrt := hrt hr0
    generalize hn : l.length = n at hS hrl hrz hW0 hlz hrm hres hrle hl0
    go_enter Try.func126, Try.ntmps126
    go_wp2_with (go_at_call 117; rw [← hW0]; refine hS.mono ?_; rintro e W1 ⟨rfl, f1, f2, f3, f4, f5⟩; obtain ⟨k0, k1, k2⟩ := f3 bk o rfl (r - 1) (by omega); rw [hz0] at k0; rw [hz1] at k1; rw [hz2] at k2; clear f3; have f2' := cell_alloc_sl (.cells #[.int .u16 z0, .int .u16 z1, .int .u16 z2] 107) f2; obtain ⟨m0, m1, m2⟩ := sx_new3 W1 (.int .u16 z0) (.int .u16 z1) (.int .u16 z2) 107)
    all_goals go_ret2
    all_goals refine ⟨?_, f5.alloc (by omega) _⟩
    all_goals (split at hres <;> first | (injection hres with e1 e2; subst e1; subst e2; rfl) | (exfalso; omega))


def tables_ClassDef2_Class.f (a0_0 : Int) (l0_1 : List S107) (a1 : Int) : Option (Int × Bool) := if l0_1.Pairwise (fun a b => a.f0 ≤ b.f0) ∧ l0_1.length < 4611686018427387904 then some (d2_res l0_1 a1) else none
theorem tables_ClassDef2_Class.calls (a0_0 : Int) (A0_1 : Option Addr) (c0_1 : Nat) (l0_1 : List S107) (a1 : Int) (r1 : Int) (r2 : Bool) (w : World) (hr0_1 : Kd.C k107 w A0_1 l0_1.length l0_1) (hc0_1 : l0_1.length ≤ c0_1) (h : tables_ClassDef2_Class.f a0_0 l0_1 a1 = some (r1, r2)) :
    Calls Try.prog 126 #[.agg #[.int .u16 a0_0, .slice A0_1 l0_1.length c0_1], .int .u16 a1] w fun e w' => e = .returned (.tuple #[.int .u16 r1, .bool r2]) ∧ Below w.heap.size w w' := by
  unfold tables_ClassDef2_Class.f at h
  split at h
  · rename_i hj
    exact d2_idx a0_0 A0_1 c0_1 l0_1 a1 r1 r2 w hr0_1 hj.1 hj.2 (Option.some.inj h)
  · cases h

end Go.Proofs.Ytchkmmbedgolbaa.PFnClassOf
