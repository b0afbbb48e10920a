-- Written by a program of this session (xprint) out of the translation; Lean checks it.
import Derived.Test.YtlbmfnjhpojghaaPFnNormalizedx0
import Derived.Test.YtlbmfnjhpojghaaPFnNormalizedx2
import Derived.Lib.LazyBuf
namespace Go.Proofs.Ytlbmfnjhpojghaa.PFnNormalized
open Go.RowKit Go.Proofs.YtlbmfnjhpojghaaW.PrintWords Go.Proofs.YtlbmfnjhpojghaaW.PrintLast Go.Proofs.YtlbmfnjhpojghaaW.PrintMore
attribute [local go_sem] max2_int min2_int max_two min_two max_three min_three max_four min_four   -- for this text's walks alone
set_option linter.unusedVariables false
set_option linter.unusedSimpArgs false

attribute [local go_sem] f_add f_sub f_mul f_quo f_conv f_same f_int f_max f_min f_neg f_store
/-! ### slices_Sort_int16_int16: function 54 -/
def slices_Sort_int16_int16.f (k : Nat) (l0 : List Int) : Option (List Int) := (bits_Len.f (IntKind.u64.wrap ((l0.length : Int)))).bind fun t112 => ((slices_pdqsortOrdered_int16.f k l0 0 (l0.length : Int) t112).bind fun t113 => (some t113))
theorem slices_Sort_int16_int16.mono : ∀ a0 k, LeO (slices_Sort_int16_int16.f k a0) (slices_Sort_int16_int16.f (k + 1) a0) := by
 intro a0 k
 unfold slices_Sort_int16_int16.f
 repeat' first
   | (with_reducible exact slices_pdqsortOrdered_int16.mono _ _ _ _ _)
   | (with_reducible exact LeO.refl _)
   | (with_reducible exact LeO.none _)
   | (with_reducible refine LeO.ite ?_ ?_)
   | (with_reducible refine LeO.bind ?_ (fun _ => ?_))
   | exact slices_pdqsortOrdered_int16.mono _ _ _ _ _
   | exact LeO.none _
   | refine LeO.ite ?_ ?_
   | refine LeO.bind ?_ (fun _ => ?_)
set_option maxHeartbeats 8000000 in
set_option maxRecDepth 100000 in
theorem slices_Sort_int16_int16.calls (k : Nat) (P0_ : Nat → Prop) (u9000_ : Value) (l0 : List Int) (r : List Int) (w0 w : World) (hB : Below w0.heap.size w0 w) (ho0 : Kd.R (Kd.int .i16) 98 w w0.heap.size P0_ u9000_ l0) (h : slices_Sort_int16_int16.f k l0 = some r) :
  Calls Try.prog 54 #[u9000_] w fun e w' => e = .returned (.tuple #[]) ∧ Kd.R (Kd.int .i16) 98 w' w0.heap.size (fun k_ => (P0_ k_ ∨ w.heap.size ≤ k_)) u9000_ r ∧ Below w0.heap.size w0 w' ∧ Kept w w' (fun k_ => P0_ k_) := by
 have HO0 := Aside0.mk (show Kd.R (Kd.int .i16) 98 w w0.heap.size (fun k_ => (P0_ k_ ∨ w.heap.size ≤ k_)) u9000_ l0 from Kd.R_mono ho0 (fun k_ hk => (.inl hk)))
 have HK := Aside0.mk (Kept.refl w (fun k_ => P0_ k_))
 have HW0 := Aside0.mk hB.size
 have HB := Aside0.mk hB
 clear hB
 have H : ((bits_Len.f (IntKind.u64.wrap ((l0.length : Int)))).bind fun t112 => ((slices_pdqsortOrdered_int16.f k l0 0 (l0.length : Int) t112).bind fun t113 => (some t113))) = some r := h
 clear h
 replace H := Option.bind_eq_some_iff.mp H
 obtain ⟨t112, A20, H⟩ := H
 replace H : ((slices_pdqsortOrdered_int16.f k l0 0 (l0.length : Int) t112).bind fun t113 => (some t113)) = some r := H
 have A2 := Aside0.mk A20
 clear A20
 replace H := Option.bind_eq_some_iff.mp H
 obtain ⟨t113, A30, H⟩ := H
 replace H : (some t113) = some r := H
 have A3 := Aside0.mk A30
 clear A30
 obtain rfl := Option.some.inj H
 obtain ⟨Ao4, co4, eo4⟩ := Kd.R_slice HO0.out
 subst eo4
 go_enter Try.func54, Try.ntmps54
 go_wp2_with (first | ((with_reducible refine gate_callee (f := 65) rfl ?_); refine goesL_ (some 9) rfl rfl Try.func65 (by kernel_rfl) rfl #[.int .u64 (IntKind.u64.wrap ((l0.length : Int)))] rfl (by (try simp only [List.map_toArray, List.map_cons, List.map_nil]); first | done | rfl | (simp only [List.length_drop, List.length_take]; rfl)) ?_; (with_reducible refine (bits_Len.calls (IntKind.u64.wrap ((l0.length : Int))) t112 _ A2.out).mono ?_); rintro e w' ⟨rfl, ⟨nd, rfl⟩⟩; refine ⟨_, rfl, ?_⟩) | ((with_reducible refine gate_callee (f := 64) rfl ?_); refine goesL_ (some 10) rfl rfl Try.func64 (by kernel_rfl) rfl #[.slice Ao4 l0.length co4, .int .i64 0, .int .i64 (l0.length : Int), .int .i64 t112] rfl (by (try simp only [List.map_toArray, List.map_cons, List.map_nil]); first | done | rfl | (simp only [List.length_drop, List.length_take]; rfl)) ?_; (with_reducible refine (slices_pdqsortOrdered_int16.calls k (fun k_ => some k_ = (.slice Ao4 l0.length co4 : Value).ownBlock) (.slice Ao4 l0.length co4) l0 0 (l0.length : Int) t112 t113 w0 _ ?side1 ?side2 A3.out).mono ?_); (case side1 => repeat (first | (with_reducible first | exact HB.out | apply below_alloc | apply pw_below_drewN | apply below_drew1) | exact HB.out)); (case side2 => exact Kd.R_tight rfl HO0.out); rintro e w5 ⟨rfl, hy0, hb, hkp⟩; refine ⟨_, rfl, ?_⟩; have n0_ := Aside0.mk (Kd.R_reok rfl hy0 (fun k_ e_ => HO0.out.1 k_ e_)); have n1_ := Aside0.mk (Kept.then_ (S := (fun k_ => P0_ k_)) (by repeat (first | (with_reducible first | exact HK.out | apply Kept.alloc | apply Kept.drewN | apply Kept.drew) | exact HK.out)) hkp (fun k_ hs_ => (fun e_ => (HO0.out.1 k_ e_.symm)) hs_)); have n2_ := Aside0.mk (hb); clear HO0; clear HK; clear HB; have HO0 := n0_; have HK := n1_; have HB := n2_; clear n0_ n1_ n2_; (try clear hb); (try clear hkp); (try clear hy0)))
 first | go_end0 | ((try simp only [Exit.inBlock, Exit.then]); refine bodyPost_ret (results_none rfl _ _ _) rfl ?_)
 exact ⟨by first | rfl | (simp [errW_none, errW_some] <;> rfl) | (simp [*, errW_none, errW_some] <;> rfl), by (with_reducible repeat (first | apply Kd.R_alloc | apply Kd.R_drewN | apply Kd.R_drew)); exact HO0.out, by repeat (first | (with_reducible first | exact HB.out | apply below_alloc | apply pw_below_drewN | apply below_drew1) | exact HB.out), by repeat (first | (with_reducible first | exact HK.out | apply Kept.alloc | apply Kept.drewN | apply Kept.drew) | exact HK.out)⟩

/-! ### slices_Insert_2_int_2_int: function 66 -/
def slices_Insert_2_int_2_int.enc (l : List S48) : List Value := l.flatMap fun x => [.int .i64 x.f0, .int .i64 x.f1]
theorem slices_Insert_2_int_2_int.enc_len : ∀ l, (slices_Insert_2_int_2_int.enc l).length = 2 * l.length
  | [] => rfl
  | x :: l => by
    show ([Value.int .i64 x.f0, Value.int .i64 x.f1] ++ slices_Insert_2_int_2_int.enc l).length = _
    rw [List.length_append, slices_Insert_2_int_2_int.enc_len l, List.length_cons]
    simp
    omega
theorem slices_Insert_2_int_2_int.enc_app (a b : List S48) : slices_Insert_2_int_2_int.enc (a ++ b) = slices_Insert_2_int_2_int.enc a ++ slices_Insert_2_int_2_int.enc b := by simp [slices_Insert_2_int_2_int.enc]
theorem slices_Insert_2_int_2_int.enc_take : ∀ (i : Nat) (l : List S48), slices_Insert_2_int_2_int.enc (l.take i) = (slices_Insert_2_int_2_int.enc l).take (2 * i)
  | 0, _ => by simp [slices_Insert_2_int_2_int.enc]
  | i + 1, [] => by simp [slices_Insert_2_int_2_int.enc]
  | i + 1, x :: l => by
    show [Value.int .i64 x.f0, Value.int .i64 x.f1] ++ slices_Insert_2_int_2_int.enc (l.take i) = ([Value.int .i64 x.f0, Value.int .i64 x.f1] ++ slices_Insert_2_int_2_int.enc l).take (2 * (i + 1))
    rw [slices_Insert_2_int_2_int.enc_take i l, show 2 * (i + 1) = 2 * i + 1 + 1 by omega]
    simp
theorem slices_Insert_2_int_2_int.enc_drop : ∀ (i : Nat) (l : List S48), slices_Insert_2_int_2_int.enc (l.drop i) = (slices_Insert_2_int_2_int.enc l).drop (2 * i)
  | 0, _ => by simp [slices_Insert_2_int_2_int.enc]
  | i + 1, [] => by simp [slices_Insert_2_int_2_int.enc]
  | i + 1, x :: l => by
    show slices_Insert_2_int_2_int.enc (l.drop i) = ([Value.int .i64 x.f0, Value.int .i64 x.f1] ++ slices_Insert_2_int_2_int.enc l).drop (2 * (i + 1))
    rw [slices_Insert_2_int_2_int.enc_drop i l, show 2 * (i + 1) = 2 * i + 1 + 1 by omega]
    simp
theorem slices_Insert_2_int_2_int.enc_one (l : List S48) : ∀ v ∈ slices_Insert_2_int_2_int.enc l, v.oneCell' = true := by
  intro v hv
  obtain ⟨x, _, hx⟩ := List.mem_flatMap.1 hv
  simp at hx
  rcases hx with rfl | rfl <;> rfl
theorem slices_Insert_2_int_2_int.reps_of {R : S48 → List Value → Prop} (hR : ∀ x, R x [.int .i64 x.f0, .int .i64 x.f1]) : ∀ l, Reps R 2 l (slices_Insert_2_int_2_int.enc l)
  | [] => Reps.none _ _
  | x :: l => Reps.c2 (hR x) (slices_Insert_2_int_2_int.reps_of hR l)
theorem slices_Insert_2_int_2_int.reps_is {R : S48 → List Value → Prop} (hR : ∀ x c, R x c → c = [.int .i64 x.f0, .int .i64 x.f1]) : ∀ l c, Reps R 2 l c → c = slices_Insert_2_int_2_int.enc l
  | [], c, h => by
    have := h.1
    simp at this
    rw [this]
    rfl
  | x :: l, c, h => by
    have h1 := h.1
    rw [List.length_cons] at h1
    have h0 := hR x _ (h.2 0 x rfl)
    rw [Nat.zero_mul, List.drop_zero] at h0
    have ih := slices_Insert_2_int_2_int.reps_is hR l (c.drop 2) ⟨by rw [List.length_drop, h1]; omega, fun j p hp => by
      have := h.2 (j + 1) p (by simpa using hp)
      rw [List.drop_drop, show 2 + j * 2 = (j + 1) * 2 by omega]
      exact this⟩
    show c = [Value.int .i64 x.f0, Value.int .i64 x.f1] ++ slices_Insert_2_int_2_int.enc l
    rw [← ih, ← h0]
    exact (List.take_append_drop 2 c).symm
/-- A row's cells, some of them put anew. -/
def slices_Insert_2_int_2_int.put (cur : Array Value) (o : Nat) : List Value → Array Value
  | [] => cur
  | v :: r => slices_Insert_2_int_2_int.put (cur.setIfInBounds o v) (o + 1) r
theorem slices_Insert_2_int_2_int.put_size : ∀ (r : List Value) (cur : Array Value) (o : Nat), (slices_Insert_2_int_2_int.put cur o r).size = cur.size
  | [], _, _ => rfl
  | v :: r, cur, o => by rw [slices_Insert_2_int_2_int.put, slices_Insert_2_int_2_int.put_size r]; simp
theorem slices_Insert_2_int_2_int.put_list : ∀ (r : List Value) (cur : Array Value) (o : Nat), o + r.length ≤ cur.size → (slices_Insert_2_int_2_int.put cur o r).toList = cur.toList.take o ++ r ++ cur.toList.drop (o + r.length)
  | [], cur, o, _ => by simp [slices_Insert_2_int_2_int.put]
  | v :: r, cur, o, h => by
    rw [List.length_cons] at h
    rw [slices_Insert_2_int_2_int.put, slices_Insert_2_int_2_int.put_list r _ _ (by simp; omega)]
    simp only [Array.toList_setIfInBounds, List.length_cons]
    rw [List.take_set, List.drop_set_of_lt (by omega), show o + 1 + r.length = o + (r.length + 1) by omega]
    have e1 : (cur.toList.take (o + 1)).set o v = cur.toList.take o ++ [v] := by
      apply List.ext_getElem?
      intro j
      rw [List.getElem?_set]
      by_cases hj : o = j
      · subst hj
        have e9 : (cur.toList.take o).length = o := by rw [List.length_take, Array.length_toList]; omega
        have e8 : o < (cur.toList.take (o + 1)).length := by rw [List.length_take, Array.length_toList]; omega
        rw [List.getElem?_append_right (by omega), e9, Nat.sub_self, if_pos rfl, if_pos e8]
        rfl
      · rw [if_neg hj]
        rcases Nat.lt_or_ge j o with h1 | h1
        · rw [List.getElem?_take_of_lt (by omega), List.getElem?_append_left (by simp; omega), List.getElem?_take_of_lt h1]
        · rw [List.getElem?_eq_none (by simp; omega), List.getElem?_eq_none (by simp; omega)]
    rw [e1]
    simp
theorem slices_Insert_2_int_2_int.sc_heap : ∀ (vs : List Value) (w : World) (b o : Nat) (cur : Array Value) (e : TypeId) (fz : Nat × Nat), w.heap[b]? = some (.cells cur e fz) → (w.setCells b o vs).heap[b]? = some (.cells (slices_Insert_2_int_2_int.put cur o vs) e fz)
  | [], _, _, _, _, _, _, h => h
  | v :: r, w, b, o, cur, e, fz, h => by
    refine slices_Insert_2_int_2_int.sc_heap r _ b (o + 1) _ e fz ?_
    unfold World.setCell
    simp [Array.getElem?_modify, h]
theorem slices_Insert_2_int_2_int.sc_ne : ∀ (vs : List Value) (w : World) (b o k : Nat), k ≠ b → (w.setCells b o vs).heap[k]? = w.heap[k]?
  | [], _, _, _, _, _ => rfl
  | v :: r, w, b, o, k, h => by
    rw [World.setCells, slices_Insert_2_int_2_int.sc_ne r _ _ _ _ h]
    unfold World.setCell
    simp [Array.getElem?_modify, Ne.symm h]
theorem slices_Insert_2_int_2_int.sc_rest : ∀ (vs : List Value) (w : World) (b o : Nat), (w.setCells b o vs).heap.size = w.heap.size ∧ (w.setCells b o vs).os = w.os ∧ (w.setCells b o vs).tape = w.tape ∧ (w.setCells b o vs).output = w.output
  | [], _, _, _ => ⟨rfl, rfl, rfl, rfl⟩
  | v :: r, w, b, o => by
    obtain ⟨h1, h2, h3, h4⟩ := slices_Insert_2_int_2_int.sc_rest r (w.setCell ⟨b, o, none⟩ v) b (o + 1)
    refine ⟨h1.trans (by unfold World.setCell; simp), h2, h3, h4⟩
theorem slices_Insert_2_int_2_int.copy2 {P : Program} (w : World) (dT sT ty elem : TypeId) (b o dLen dCap : Nat) (a : Addr) (sLen sCap : Nat) (cs : List Value)
    (hu : P.underlying dT = some (.slice elem)) (hs : (P.info? elem).map (·.size) = some 2) (hn : cs.length = Nat.min sLen dLen * 2)
    (hsrc : ∀ j v, cs[j]? = some v → w.cell? (a.add j) = some v) (hc : ∀ j, j < cs.length → (w.cell? ⟨b, o + j, none⟩).isSome = true) (hf : ∀ j, j < cs.length → w.frozen? ⟨b, o + j, none⟩ = false) (h1 : ∀ v ∈ cs, v.oneCell' = true) :
    (Builtin.copy_ #[dT, sT] ty #[.slice (some ⟨b, o, none⟩) dLen dCap, .slice (some a) sLen sCap]).run P w = .ok (goInt (Nat.min sLen dLen)) (w.setCells b o cs) := by
  have hl := run_loadCells_list (P := P) w a cs hsrc
  have hst := run_storeCells_cells (P := P) b o cs 0 w (by simpa using hc) (by simpa using hf) h1
  cases hq : P.info? elem with
  | none => simp [hq] at hs
  | some i =>
    have hi : i.size = 2 := by simpa [hq] using hs
    simp [Builtin.copy_, run_underlying hu, Builtin.lenOf, Builtin.firstCells, sizeOf, typeInfo, hq, hi, ← hn, hl, hst]
theorem slices_Insert_2_int_2_int.wp_copy {P : Program} (w : World) {o : Oper} {a : Act} {K : Act → World → Prop} {Q : Exit → Act → World → Prop} (d s : Operand) (t t' : TypeId)
    (ho : o.op = .call { callee := .builtin .copy, args := #[d, s], argTypes := #[t, t'] }) (v u : Value) (hd : a.eval d = v) (hs : a.eval s = u) {v' : Value} {w' : World}
    (hr : (Builtin.copy_ #[t, t'] o.type #[v, u]).run P w = .ok v' w') (h : K (a.put o.dst v') w') : o.wp P a w K Q := by
  unfold Oper.wp execOp
  simp only [ho, resolve, invoke, builtin, Sem.run_bind, Sem.run_pure, Result.andThen_ok, List.map_toArray, List.map_cons, List.map_nil, hd, hs, hr]
  exact h
theorem slices_Insert_2_int_2_int.wpL_copy {P : Program} (w : World) {ops : Array Oper} {rest : List Oper} {o : Oper} {a : Act} {Q : Exit → Act → World → Prop} (hgd : o.guard = none) (d s : Operand) (t t' : TypeId)
    (ho : o.op = .call { callee := .builtin .copy, args := #[d, s], argTypes := #[t, t'] }) (v u : Value) (hd : a.eval d = v) (hs : a.eval s = u) {v' : Value} {w' : World}
    (hr : (Builtin.copy_ #[t, t'] o.type #[v, u]).run P w = .ok v' w') (h : wpList P ops Q rest (a.put o.dst v') w') : wpList P ops Q (o :: rest) a w :=
  wpList_plain hgd fun _ hK => slices_Insert_2_int_2_int.wp_copy w d s t t' ho v u hd hs hr (hK _ _ h)
theorem slices_Insert_2_int_2_int.step_copy {P : Program} {ops : Array Oper} {o : Oper} {a : Act} {w : World} {K : Act → World → Prop} {Q : Exit → Act → World → Prop} {E : Prop}
    (hg : o.guard = none) (d x : Operand) (dT sT : TypeId) (hop : o.op = Op.call { callee := Callee.builtin Builtin.copy, args := #[d, x], argTypes := #[dT, sT] })
    (v u : Value) (hd : a.eval d = v) (hx : a.eval x = u) {v' : Value} {w' : World} (hr : (Builtin.copy_ #[dT, sT] o.type #[v, u]).run P w = .ok v' w') (hK : K (a.put o.dst v') w') :
    if Region.wanted o (yielded ops a.tmps) = true then Oper.wp P o a w K Q else E := by
  have hw : Region.wanted o (yielded ops a.tmps) = true := by simp [Region.wanted, hg]
  rw [if_pos hw]
  unfold Oper.wp
  simp [execOp, hop, resolve, invoke, builtin, hd, hx, hr, Result.andThen]
  exact hK
theorem slices_Insert_2_int_2_int.isSome_sc (b : Nat) (vs : List Value) (o : Nat) (w : World) (h : ∀ j, j < vs.length → (w.cell? ⟨b, o + j, none⟩).isSome = true) (k : Nat) (hk : (w.cell? ⟨b, k, none⟩).isSome = true) : ((w.setCells b o vs).cell? ⟨b, k, none⟩).isSome = true := by
  by_cases hin : o ≤ k ∧ k < o + vs.length
  · have := World.cell?_setCells_in b vs o w h (k - o) (by omega)
    rw [show o + (k - o) = k by omega] at this
    rw [this]; rfl
  · rw [World.cell?_setCells_out b vs o w ⟨b, k, none⟩ (fun _ _ => by show k < o ∨ o + vs.length ≤ k; omega)]
    exact hk
def slices_Insert_2_int_2_int.f (l0 : List S48) (a1 : Int) (l2 : List S48) : Option (List S48) := if 0 ≤ a1 ∧ a1 < l0.length ∧ l2.length = 1 ∧ l0.length < 1000 then some (l0.take a1.toNat ++ l2 ++ l0.drop a1.toNat) else none
set_option maxHeartbeats 4000000 in
set_option maxRecDepth 100000 in
theorem slices_Insert_2_int_2_int.grow (b n c i vb vc : Nat) (cs vs : List Value) (w : World) (hi : i < n) (hnc : n ≤ c) (hroom : c < n + 1) (hbig : n < 1000)
    (hcl : cs.length = n * 2) (hvl : vs.length = 1 * 2)
    (hcs : ∀ j v, cs[j]? = some v → w.cell? ⟨b, 0 + j, none⟩ = some v)
    (hvs : ∀ j v, vs[j]? = some v → w.cell? ⟨vb, 0 + j, none⟩ = some v) (h1c : ∀ v ∈ cs, v.oneCell' = true) (h1v : ∀ v ∈ vs, v.oneCell' = true) :
    Calls Try.prog 66 #[.slice (some ⟨b, 0, none⟩) n c, .int .i64 i, .slice (some ⟨vb, 0, none⟩) 1 vc] w fun e w' =>
      e = .returned (.slice (some ⟨w.heap.size, 0, none⟩) (n + 1) (grownCap w (n + 1) c 48)) ∧
      w' = (((w.alloc (.cells ((cs.take (i * 2)).toArray ++ Builtin.zeroCells (Value.agg #[.int .i64 0, .int .i64 0]).cells (n + 1 - i) ++ Builtin.zeroCells (Value.agg #[.int .i64 0, .int .i64 0]).cells (grownCap w (n + 1) c 48 - (n + 1))) 48)).drew.setCells w.heap.size (i * 2) vs).drew).setCells w.heap.size ((i + 1) * 2) (cs.drop (i * 2)) := by
  have hinfo : ∃ i0 : TypeInfo, Try.prog.info? 48 = some i0 ∧ i0.zero = some (.agg #[.int .i64 0, .int .i64 0]) ∧ i0.size = 2 ∧ i0.bytes = 16 := ⟨_, rfl, rfl, rfl, rfl⟩
  obtain ⟨i0, hi0, hz0, hzs, hzb⟩ := hinfo
  have hsz : (Try.prog.info? 48).map (·.size) = some 2 := by rw [hi0]; simp [hzs]
  have hbw : b < w.heap.size := block_lt_of_cell (hcs 0 _ (List.getElem?_eq_getElem (by omega)))
  have hvw : vb < w.heap.size := block_lt_of_cell (hvs 0 _ (List.getElem?_eq_getElem (by omega)))
  have hkk : (n : Int) + 1 - (i : Int) = ((n + 1 - i : Nat) : Int) := by omega
  have hik : i + (n + 1 - i) = n + 1 := by omega
  have hold : (Builtin.firstCells i0.size i (.slice (some ⟨b, 0, none⟩) i c)).run Try.prog w.drew = .ok (cs.take (i * 2)).toArray w.drew := by
    rw [hzs]
    exact run_firstCells_some w.drew 2 i ⟨b, 0, none⟩ i c (cs.take (i * 2)) (by rw [List.length_take]; omega) (fun j v hj => by
      rw [Addr.add_lit]
      rw [List.getElem?_take] at hj
      split at hj
      · exact hcs j v hj
      · cases hj)
  have hrz : ∀ ty, (Builtin.append_ #[46, 3] ty #[.slice (some ⟨b, 0, none⟩) i c, .int .i64 ((n : Int) + 1 - (i : Int))]).run Try.prog w =
      .ok (.slice (some ⟨w.heap.size, 0, none⟩) (n + 1) (grownCap w (n + 1) c 48)) (w.drew.alloc (.cells ((cs.take (i * 2)).toArray ++ Builtin.zeroCells (Value.agg #[.int .i64 0, .int .i64 0]).cells (n + 1 - i) ++ Builtin.zeroCells (Value.agg #[.int .i64 0, .int .i64 0]).cells (grownCap w (n + 1) c 48 - (n + 1))) 48)) := fun ty => by
    have h := Lib.run_append_grow_zeros w 46 3 ty 48 i0 _ .i64 .i64 Try.underlying46 Try.underlying3 hi0 hz0 (some ⟨b, 0, none⟩) i c (cs.take (i * 2)) hold (n + 1 - i) (by omega) (by omega) (by omega) (by omega) (by rw [hzb]; omega) (by rw [hzb, hik]; exact growslice_fits hroom (by omega))
    rw [hik] at h
    rw [hkk]
    exact h
  obtain ⟨G, hG⟩ : ∃ G, G = grownCap w (n + 1) c 48 := ⟨_, rfl⟩
  obtain ⟨ROW, hROW⟩ : ∃ ROW : Array Value, ROW = (cs.take (i * 2)).toArray ++ Builtin.zeroCells (Value.agg #[.int .i64 0, .int .i64 0]).cells (n + 1 - i) ++ Builtin.zeroCells (Value.agg #[.int .i64 0, .int .i64 0]).cells (G - (n + 1)) := ⟨_, rfl⟩
  rw [← hG] at hrz ⊢
  rw [← hROW] at hrz ⊢
  have hRl : (n + 1) * 2 ≤ ROW.size := by
    rw [hROW]
    simp [Builtin.zeroCells, Value.cells]
    omega
  obtain ⟨W1, hW1⟩ : ∃ W1, W1 = w.drew.alloc (.cells ROW 48) := ⟨_, rfl⟩
  rw [← hW1] at hrz
  have hN : ∀ j, j < (n + 1) * 2 → (W1.cell? ⟨w.heap.size, j, none⟩).isSome = true := fun j hj => by
    rw [hW1, World.cell?_alloc_at (w := w.drew) ROW _ w.heap.size j rfl, Array.getElem?_eq_getElem (by omega)]; rfl
  have hNf : ∀ j, W1.frozen? ⟨w.heap.size, j, none⟩ = false := fun j => by rw [hW1]; exact World.frozen?_alloc_at (w := w.drew) ROW _ w.heap.size j rfl
  have hOb : ∀ j v, w.cell? ⟨b, j, none⟩ = some v → W1.cell? ⟨b, j, none⟩ = some v := fun j v h => by rw [hW1, World.cell?_alloc_past (w := w.drew) _ b j hbw]; exact h
  have hOv : ∀ j v, w.cell? ⟨vb, j, none⟩ = some v → W1.cell? ⟨vb, j, none⟩ = some v := fun j v h => by rw [hW1, World.cell?_alloc_past (w := w.drew) _ vb j hvw]; exact h
  have hcpA : ∀ (W : World), (∀ x, W.cell? x = W1.cell? x) → (∀ x, W.frozen? x = W1.frozen? x) → ∀ ty dc, (Builtin.copy_ #[46, 46] ty #[.slice (some ⟨w.heap.size, i * 2, none⟩) (n + 1 - i) dc, .slice (some ⟨vb, 0, none⟩) 1 vc]).run Try.prog W = .ok (goInt (Nat.min 1 (n + 1 - i))) (W.setCells w.heap.size (i * 2) vs) := fun W hWc hWf ty dc =>
    slices_Insert_2_int_2_int.copy2 W _ _ ty 48 w.heap.size (i * 2) (n + 1 - i) dc ⟨vb, 0, none⟩ 1 vc vs Try.underlying46 hsz (by rw [hvl]; simp only [Nat.min_def]; split <;> omega)
      (fun j v hj => by rw [Addr.add_lit, hWc]; exact hOv _ v (hvs j v hj))
      (fun j hj => by rw [hWc]; exact hN _ (by omega)) (fun j hj => by rw [hWf]; exact hNf _) h1v
  have hGn : n + 1 ≤ G := by rw [hG]; exact grownCap_ge w _ _ _
  have hG63 : G ≤ 9223372036854775807 := by
    have := grownCap_le_maxLen w (n + 1) c 48 (by unfold maxLen; omega)
    rw [← hG] at this
    unfold maxLen at this
    omega
  have hGi : ¬ (G = i) := by omega
  have hGim : ¬ (G = i + 1) := by omega
  have hci : ¬ (c = i) := by omega
  have hbN : b ≠ w.heap.size := by omega
  have hdl : (cs.drop (i * 2)).length = (n - i) * 2 := by rw [List.length_drop, hcl]; omega
  have hcpB : ∀ (W : World), (∀ x, W.cell? x = (W1.setCells w.heap.size (i * 2) vs).cell? x) → (∀ x, W.frozen? x = (W1.setCells w.heap.size (i * 2) vs).frozen? x) → ∀ ty dc sc, (Builtin.copy_ #[46, 46] ty #[.slice (some ⟨w.heap.size, (i + 1) * 2, none⟩) (n + 1 - (i + 1)) dc, .slice (some ⟨b, 0 + i * 2, none⟩) (n - i) sc]).run Try.prog W = .ok (goInt (Nat.min (n - i) (n + 1 - (i + 1)))) (W.setCells w.heap.size ((i + 1) * 2) (cs.drop (i * 2))) := fun W hWc hWf ty dc sc =>
    slices_Insert_2_int_2_int.copy2 W _ _ ty 48 w.heap.size ((i + 1) * 2) (n + 1 - (i + 1)) dc ⟨b, 0 + i * 2, none⟩ (n - i) sc (cs.drop (i * 2)) Try.underlying46 hsz (by rw [hdl]; simp only [Nat.min_def]; split <;> omega)
      (fun j v hj => by
        rw [Addr.add_lit, hWc, World.cell?_setCells_out _ _ _ _ _ (fun h _ => absurd h hbN), Nat.add_assoc, ← Nat.add_assoc]
        rw [Nat.add_assoc]
        exact hOb _ v (hcs (i * 2 + j) v (by rwa [List.getElem?_drop] at hj)))
      (fun j hj => by rw [hWc]; exact slices_Insert_2_int_2_int.isSome_sc _ _ _ _ (fun t ht => hN _ (by omega)) _ (hN _ (by omega)))
      (fun j hj => by rw [hWf, World.frozen?_setCells]; exact hNf _) (fun v hv => h1c v (List.mem_of_mem_drop hv))
  subst hW1
  have hE1 : ∀ x, ((w.alloc (.cells ROW 48)).drew).cell? x = (w.drew.alloc (.cells ROW 48)).cell? x := fun x => rfl
  have hE2 : ∀ x, ((w.alloc (.cells ROW 48)).drew).frozen? x = (w.drew.alloc (.cells ROW 48)).frozen? x := fun x => rfl
  have hF1 : ∀ x, (((w.alloc (.cells ROW 48)).drew.setCells w.heap.size (i * 2) vs).drew).cell? x = ((w.drew.alloc (.cells ROW 48)).setCells w.heap.size (i * 2) vs).cell? x := fun x => rfl
  have hF2 : ∀ x, (((w.alloc (.cells ROW 48)).drew.setCells w.heap.size (i * 2) vs).drew).frozen? x = ((w.drew.alloc (.cells ROW 48)).setCells w.heap.size (i * 2) vs).frozen? x := fun x => rfl
  have hw1 : IntKind.i64.wrap ((i : Int) + 1) = (i : Int) + 1 := by rw [IntKind.wrap_i64]; omega
  have hw2 : IntKind.i64.wrap ((n : Int) + 1) = (n : Int) + 1 := by rw [IntKind.wrap_i64]; omega
  have hw3 : IntKind.i64.wrap ((n : Int) + 1 - i) = (n : Int) + 1 - i := by rw [IntKind.wrap_i64]; omega
  have hz2 : ¬ ((i : Int) = (n : Int)) := by omega
  have hz3 : (c : Int) < (n : Int) + 1 := by omega
  have hb1 : (0 : Int) ≤ (i : Int) + 1 := by omega
  have hin : i ≤ n := by omega
  have htn : ((i : Int) + 1).toNat = i + 1 := by omega
  have hb3 : (i : Int) ≤ (n : Int) := by omega
  have mixed : Try.prog.follows Departure.mixedOrders = true := by kernel_rfl
  clear hkk hik hold hROW hG hRl
  go_enter Try.func66, Try.ntmps66
  go_wp2_with (first
    | (at_builtin; refine Lib.wpList_append_run _ rfl _ _ _ _ rfl _ _ rfl rfl _ _ (hrz _) ?_)
    | (at_builtin; refine slices_Insert_2_int_2_int.wpL_copy _ rfl _ _ 46 46 rfl _ _ rfl rfl (hcpA _ hE1 hE2 _ _) ?_)
    | (at_builtin; refine slices_Insert_2_int_2_int.wpL_copy _ rfl _ _ 46 46 rfl _ _ rfl rfl (hcpB _ (fun _ => rfl) (fun _ => rfl) _ _ _) ?_))
  go_region_law_o (refine slices_Insert_2_int_2_int.step_copy rfl _ _ 46 46 rfl (.slice (some ⟨w.heap.size, (i + 1) * 2, none⟩) (n + 1 - (i + 1)) (G - (i + 1))) (.slice (some ⟨b, 0 + i * 2, none⟩) (n - i) (c - i)) (by simp [Act.eval, Act.put]) (by simp [Act.eval, Act.put]) (hcpB _ hF1 hF2 3 (G - (i + 1)) (c - i)) ?_)
  go_wp2
  go_ret
  exact ⟨rfl, rfl⟩
set_option maxHeartbeats 4000000 in
set_option maxRecDepth 100000 in
theorem slices_Insert_2_int_2_int.shift (b n c i vb vc : Nat) (cs vs : List Value) (w : World) (hi : i < n) (hroom : n + 1 ≤ c) (hc63 : c ≤ 9223372036854775807) (hvb : vb ≠ b) (hbig : n < 1000)
    (hcl : cs.length = n * 2) (hvl : vs.length = 1 * 2)
    (hcs : ∀ j v, cs[j]? = some v → w.cell? ⟨b, 0 + j, none⟩ = some v) (hsp : ∀ j, j < (n + 1) * 2 → (w.cell? ⟨b, 0 + j, none⟩).isSome = true) (hfz : ∀ j, j < (n + 1) * 2 → w.frozen? ⟨b, 0 + j, none⟩ = false)
    (hvs : ∀ j v, vs[j]? = some v → w.cell? ⟨vb, 0 + j, none⟩ = some v) (h1c : ∀ v ∈ cs, v.oneCell' = true) (h1v : ∀ v ∈ vs, v.oneCell' = true)
    (tA tB : TypeId) (kA kB : Nat) (hsa : w.shape? vb = some (tA, kA)) (hsb : w.shape? b = some (tB, kB)) (hkB : kB ≠ 0) (hfa : w.frozen? ⟨vb, 0, none⟩ = false) (hfe : w.frozen? ⟨vb, kA, none⟩ = false) :
    Calls Try.prog 66 #[.slice (some ⟨b, 0, none⟩) n c, .int .i64 i, .slice (some ⟨vb, 0, none⟩) 1 vc] w fun e w' =>
      e = .returned (.slice (some ⟨b, 0, none⟩) (n + 1) c) ∧ w' = (w.drew.setCells b ((i + 1) * 2) (cs.drop (i * 2))).setCells b (i * 2) vs := by
  have hinfo : ∃ i0 : TypeInfo, Try.prog.info? 48 = some i0 ∧ i0.size = 2 := ⟨_, rfl, rfl⟩
  obtain ⟨i0, hi0, hzs⟩ := hinfo
  have hsz : (Try.prog.info? 48).map (·.size) = some 2 := by rw [hi0]; simp [hzs]
  have hz9 : ∀ w, (Go.sizeOf 48).run Try.prog w = .ok 2 w := fun w => by simp [sizeOf, typeInfo, hi0, hzs]
  have hov : ∀ lb cb, (callFunc 86 #[.slice (some ⟨vb, 0, none⟩) 1 vc, .slice (some ⟨b, (i + 1) * 2, none⟩) lb cb]).run Try.prog w = .ok (.value (.bool false)) w := fun lb cb => by
    rw [run_callFunc_extern Try.func86 (by kernel_rfl) (by kernel_rfl) (by kernel_rfl) (e := Extern.SlicesOverlaps.overlaps #[46, 46] #[4]) (by kernel_rfl),
      Lib.run_overlaps_apart w 46 4 48 Try.underlying46 2 hz9 ⟨vb, 0, none⟩ ⟨b, (i + 1) * 2, none⟩ 1 vc lb cb hvb tA tB kA kB hsa hsb hkB hfa hfe]
    rfl
  have hdl : (cs.drop (i * 2)).length = (n - i) * 2 := by rw [List.length_drop, hcl]; omega
  have mixed : Try.prog.follows Departure.mixedOrders = true := by kernel_rfl
  have hw1 : IntKind.i64.wrap ((i : Int) + 1) = (i : Int) + 1 := by rw [IntKind.wrap_i64]; omega
  have hw2 : IntKind.i64.wrap ((n : Int) + 1) = (n : Int) + 1 := by rw [IntKind.wrap_i64]; omega
  have hb1 : (0 : Int) ≤ (i : Int) + 1 := by omega
  have hin : i ≤ n := by omega
  have htn : ((i : Int) + 1).toNat = i + 1 := by omega
  have hz2 : ¬ ((i : Int) = (n : Int)) := by omega
  have hb2 : ¬ (c = i + 1) := by omega
  have hb3 : (i : Int) ≤ (n : Int) + 1 := by omega
  have hb4 : ¬ (c = i) := by omega
  have hb5 : ¬ ((c : Int) < (n : Int) + 1) := by omega
  have hcp1 : ∀ ty dc sc, (Builtin.copy_ #[46, 46] ty #[.slice (some ⟨b, (i + 1) * 2, none⟩) (n + 1 - (i + 1)) dc, .slice (some ⟨b, i * 2, none⟩) (n + 1 - i) sc]).run Try.prog w.drew = .ok (goInt (Nat.min (n + 1 - i) (n + 1 - (i + 1)))) (w.drew.setCells b ((i + 1) * 2) (cs.drop (i * 2))) := fun ty dc sc =>
    slices_Insert_2_int_2_int.copy2 w.drew _ _ ty 48 b ((i + 1) * 2) (n + 1 - (i + 1)) dc ⟨b, i * 2, none⟩ (n + 1 - i) sc (cs.drop (i * 2)) Try.underlying46 hsz (by rw [hdl]; simp only [Nat.min_def]; split <;> omega)
      (fun j v hj => by have := hcs (i * 2 + j) v (by rwa [List.getElem?_drop] at hj); rw [Nat.zero_add] at this; rw [Addr.add_lit]; exact this)
      (fun j hj => by have := hsp ((i + 1) * 2 + j) (by omega); rw [Nat.zero_add] at this; exact this) (fun j hj => by have := hfz ((i + 1) * 2 + j) (by omega); rw [Nat.zero_add] at this; exact this) (fun v hv => h1c v (List.mem_of_mem_drop hv))
  obtain ⟨W1, hW1⟩ : ∃ W1, W1 = w.drew.setCells b ((i + 1) * 2) (cs.drop (i * 2)) := ⟨_, rfl⟩
  have hsp1 : ∀ k, k < (n + 1) * 2 → (W1.cell? ⟨b, k, none⟩).isSome = true := fun k hk => by
    rw [hW1]
    exact slices_Insert_2_int_2_int.isSome_sc b _ _ _ (fun j hj => by have := hsp ((i + 1) * 2 + j) (by omega); rw [Nat.zero_add] at this; exact this) _ (by have := hsp k hk; rw [Nat.zero_add] at this; exact this)
  have hcp2 : ∀ (W : World), (∀ x, W.cell? x = W1.cell? x) → (∀ x, W.frozen? x = W1.frozen? x) → ∀ ty dc, (Builtin.copy_ #[46, 46] ty #[.slice (some ⟨b, i * 2, none⟩) (n + 1 - i) dc, .slice (some ⟨vb, 0, none⟩) 1 vc]).run Try.prog W = .ok (goInt (Nat.min 1 (n + 1 - i))) (W.setCells b (i * 2) vs) := fun W hWc hWf ty dc =>
    slices_Insert_2_int_2_int.copy2 W _ _ ty 48 b (i * 2) (n + 1 - i) dc ⟨vb, 0, none⟩ 1 vc vs Try.underlying46 hsz (by rw [hvl]; simp only [Nat.min_def]; split <;> omega)
      (fun j v hj => by
        rw [Addr.add_lit, hWc, hW1, World.cell?_setCells_out b _ _ _ _ (fun h _ => absurd h hvb)]
        exact hvs j v hj)
      (fun j hj => by rw [hWc]; exact hsp1 _ (by omega)) (fun j hj => by rw [hWf, hW1, World.frozen?_setCells]; have := hfz (i * 2 + j) (by omega); rw [Nat.zero_add] at this; exact this) h1v
  rw [← hW1] at hcp1
  go_enter Try.func66, Try.ntmps66
  go_wp2_with (simp only [hov])
  go_region_law_o (refine slices_Insert_2_int_2_int.step_copy rfl _ _ 46 46 rfl (.slice (some ⟨b, (i + 1) * 2, none⟩) (n + 1 - (i + 1)) (c - (i + 1))) (.slice (some ⟨b, i * 2, none⟩) (n + 1 - i) (c - i)) (by simp [Act.eval, Act.put]) (by simp [Act.eval, Act.put]) (hcp1 _ _ _) ?_)
  go_wp2_with (at_builtin; refine slices_Insert_2_int_2_int.wpL_copy _ rfl _ _ 46 46 rfl _ _ rfl rfl (hcp2 _ (fun _ => rfl) (fun _ => rfl) _ _) ?_)
  go_ret
  first | exact ⟨rfl, rfl⟩ | exact ⟨rfl, by rw [hW1]⟩
theorem slices_Insert_2_int_2_int.own {e base : Nat} {ok : Nat → Prop} {w : World} {v : Value} {l : List S48} (h : Kd.R k48 e w base ok v l) (hl : 0 < l.length) :
    ∃ g cap cur, v = .slice (some ⟨g, 0, none⟩) l.length cap ∧ ok g ∧ base ≤ g ∧ w.heap[g]? = some (.cells cur e (0, 0)) ∧ l.length ≤ cap ∧ cap ≤ maxLen ∧ cur.size = cap * 2 ∧ cur.toList.take (l.length * 2) = slices_Insert_2_int_2_int.enc l := by
  obtain ⟨h0, inner, ⟨hl2, ho⟩, hr⟩ := h
  rcases ho with ⟨hv, hn⟩ | ⟨g, cap, cur, hv, hb, hg, hc1, hc2, hc3, hc4⟩
  · omega
  · refine ⟨g, cap, cur, hv, h0 g (by rw [hv]; rfl), hb, hg, hc1, hc2, hc3, ?_⟩
    have e := slices_Insert_2_int_2_int.reps_is (fun x c hx => k48_openM hx) l inner hr
    rw [← e, ← hc4]
    rfl
theorem slices_Insert_2_int_2_int.mk {e base : Nat} {ok : Nat → Prop} {w : World} {l : List S48} {g cap n : Nat} {cur : Array Value} (hn : l.length = n) (hok : ok g) (hb : base ≤ g) (hg : w.heap[g]? = some (.cells cur e (0, 0))) (h1 : n ≤ cap) (h2 : cap ≤ maxLen) (h3 : cur.size = cap * 2)
    (h4 : cur.toList.take (n * 2) = slices_Insert_2_int_2_int.enc l) : Kd.R k48 e w base ok (.slice (some ⟨g, 0, none⟩) n cap) l := by
  subst hn
  refine ⟨fun b hb => ?_, slices_Insert_2_int_2_int.enc l, ⟨by rw [slices_Insert_2_int_2_int.enc_len]; exact Nat.mul_comm _ _, .inr ⟨g, cap, cur, rfl, hb, hg, h1, h2, h3, h4⟩⟩, slices_Insert_2_int_2_int.reps_of (fun x => k48_mkM _ _ _ x) l⟩
  have e1 : g = b := by simpa [Value.ownBlock] using hb
  exact e1 ▸ hok
theorem slices_Insert_2_int_2_int.cells {w : World} {g : Nat} {cur : Array Value} {e : TypeId} {n : Nat} {l : List S48} (hg : w.heap[g]? = some (.cells cur e (0, 0))) (h : cur.toList.take (n * 2) = slices_Insert_2_int_2_int.enc l) : ∀ j v, (slices_Insert_2_int_2_int.enc l)[j]? = some v → w.cell? ⟨g, 0 + j, none⟩ = some v := by
  intro j v hj
  rw [← h, List.getElem?_take] at hj
  split at hj
  · unfold World.cell?
    simp [hg]
    simpa using hj
  · cases hj
set_option maxHeartbeats 4000000 in
theorem slices_Insert_2_int_2_int.calls (P0_ : Nat → Prop) (u9000_ : Value) (l0 : List S48) (a1 : Int) (A2 : Option Addr) (c2 : Nat) (l2 : List S48) (r : List S48) (w0 w : World) (hB : Below w0.heap.size w0 w) (ho0 : Kd.R k48 48 w w0.heap.size P0_ u9000_ l0) (hv : Kd.R k48 48 w w0.heap.size (fun k_ => ¬ P0_ k_) (.slice A2 l2.length c2) l2) (hc2 : l2.length ≤ c2) (h : slices_Insert_2_int_2_int.f l0 a1 l2 = some r) :
    Calls Try.prog 66 #[u9000_, .int .i64 a1, .slice A2 l2.length c2] w fun e w' => ∃ v0_ : Value, e = .returned (v0_) ∧ Kd.R k48 48 w' w0.heap.size (fun k_ => (P0_ k_ ∨ w.heap.size ≤ k_)) v0_ r ∧ Below w0.heap.size w0 w' ∧ Kept w w' (fun k_ => P0_ k_) := by
  unfold slices_Insert_2_int_2_int.f at h
  by_cases hc : 0 ≤ a1 ∧ a1 < l0.length ∧ l2.length = 1 ∧ l0.length < 1000
  · rw [if_pos hc] at h
    obtain rfl := Option.some.inj h
    obtain ⟨ha0, ha1, h21, hlt⟩ := hc
    obtain ⟨i, rfl⟩ := Int.eq_ofNat_of_zero_le ha0
    rw [Int.toNat_natCast]
    have hi : i < l0.length := by omega
    obtain ⟨g, cap, cur, rfl, hok, hb, hg, h1, h2, h3, h4⟩ := slices_Insert_2_int_2_int.own ho0 (by omega)
    obtain ⟨gv, cv, curv, ev, hokv, hbv, hgv, v1, v2, v3, v4⟩ := slices_Insert_2_int_2_int.own hv (by omega)
    injection ev with ev1 ev2 ev3
    subst ev1 ev3
    rw [h21]
    rw [h21] at v4 v1
    have hne : gv ≠ g := fun e => hokv (e ▸ hok)
    have hlt1 : g < w.heap.size := by
      rcases Nat.lt_or_ge g w.heap.size with h | h
      · exact h
      · rw [Array.getElem?_eq_none h] at hg; cases hg
    have hlv : (slices_Insert_2_int_2_int.enc l2).length = 1 * 2 := by rw [slices_Insert_2_int_2_int.enc_len, h21]
    have hlc : (slices_Insert_2_int_2_int.enc l0).length = l0.length * 2 := by rw [slices_Insert_2_int_2_int.enc_len]; omega
    have hC := slices_Insert_2_int_2_int.cells hg h4
    have hV := slices_Insert_2_int_2_int.cells hgv v4
    have hlen : (l0.take i ++ l2 ++ l0.drop i).length = l0.length + 1 := by
      rw [List.length_append, List.length_append, List.length_take, List.length_drop, h21]; omega
    have henc : slices_Insert_2_int_2_int.enc (l0.take i ++ l2 ++ l0.drop i) = (slices_Insert_2_int_2_int.enc l0).take (i * 2) ++ slices_Insert_2_int_2_int.enc l2 ++ (slices_Insert_2_int_2_int.enc l0).drop (i * 2) := by
      rw [slices_Insert_2_int_2_int.enc_app, slices_Insert_2_int_2_int.enc_app, slices_Insert_2_int_2_int.enc_take, slices_Insert_2_int_2_int.enc_drop, Nat.mul_comm 2 i]
    have hcut1 : cur.toList.take (i * 2) = (slices_Insert_2_int_2_int.enc l0).take (i * 2) := by
      rw [← h4, List.take_take, Nat.min_eq_left (by omega)]
    rcases Nat.lt_or_ge cap (l0.length + 1) with hr | hr
    · refine (slices_Insert_2_int_2_int.grow g l0.length cap i gv c2 (slices_Insert_2_int_2_int.enc l0) (slices_Insert_2_int_2_int.enc l2) w hi h1 hr hlt hlc hlv hC hV (slices_Insert_2_int_2_int.enc_one _) (slices_Insert_2_int_2_int.enc_one _)).mono ?_
      rintro e w' ⟨rfl, hw'⟩
      obtain ⟨G, hG⟩ : ∃ G, G = grownCap w (l0.length + 1) cap 48 := ⟨_, rfl⟩
      rw [← hG] at hw' ⊢
      have hGn : l0.length + 1 ≤ G := by rw [hG]; exact grownCap_ge w _ _ _
      have hGm : G ≤ maxLen := by rw [hG]; exact grownCap_le_maxLen w _ _ _ (by unfold maxLen; omega)
      obtain ⟨ROW, hROW⟩ : ∃ ROW : Array Value, ROW = ((slices_Insert_2_int_2_int.enc l0).take (i * 2)).toArray ++ Builtin.zeroCells (Value.agg #[.int .i64 0, .int .i64 0]).cells (l0.length + 1 - i) ++ Builtin.zeroCells (Value.agg #[.int .i64 0, .int .i64 0]).cells (G - (l0.length + 1)) := ⟨_, rfl⟩
      rw [← hROW] at hw'
      have hRs : ROW.size = G * 2 := by
        rw [hROW]
        simp [Builtin.zeroCells, Value.cells, slices_Insert_2_int_2_int.enc_len]
        omega
      have hRt : ROW.toList.take (i * 2) = (slices_Insert_2_int_2_int.enc l0).take (i * 2) := by
        rw [hROW]
        simp only [Array.toList_append]
        rw [List.append_assoc, List.take_append_of_le_length (by simp [slices_Insert_2_int_2_int.enc_len]; omega)]
        show List.take (i * 2) (List.take (i * 2) (slices_Insert_2_int_2_int.enc l0)) = _
        rw [List.take_take, Nat.min_self]
      have hA : (w.alloc (.cells ROW 48)).heap[w.heap.size]? = some (.cells ROW 48 (0, 0)) := by
        show (w.heap.push _)[w.heap.size]? = _
        rw [Array.getElem?_push_size]
      have hA1 := slices_Insert_2_int_2_int.sc_heap (slices_Insert_2_int_2_int.enc l2) (w.alloc (.cells ROW 48)).drew w.heap.size (i * 2) ROW 48 (0, 0) hA
      have hA2 := slices_Insert_2_int_2_int.sc_heap ((slices_Insert_2_int_2_int.enc l0).drop (i * 2)) (((w.alloc (.cells ROW 48)).drew.setCells w.heap.size (i * 2) (slices_Insert_2_int_2_int.enc l2)).drew) w.heap.size ((i + 1) * 2) _ 48 (0, 0) hA1
      rw [← hw'] at hA2
      have hq1 := slices_Insert_2_int_2_int.put_list (slices_Insert_2_int_2_int.enc l2) ROW (i * 2) (by rw [hlv, hRs]; omega)
      have hs1 : (slices_Insert_2_int_2_int.put ROW (i * 2) (slices_Insert_2_int_2_int.enc l2)).size = G * 2 := by rw [slices_Insert_2_int_2_int.put_size, hRs]
      have hld : ((slices_Insert_2_int_2_int.enc l0).drop (i * 2)).length = (l0.length - i) * 2 := by rw [List.length_drop, hlc]; omega
      have hq2 := slices_Insert_2_int_2_int.put_list ((slices_Insert_2_int_2_int.enc l0).drop (i * 2)) (slices_Insert_2_int_2_int.put ROW (i * 2) (slices_Insert_2_int_2_int.enc l2)) ((i + 1) * 2) (by rw [hld, hs1]; omega)
      have hk : ∀ k, k < w.heap.size → w'.heap[k]? = w.heap[k]? := fun k hk => by
        rw [hw', slices_Insert_2_int_2_int.sc_ne _ _ _ _ _ (by omega)]
        show (World.setCells _ _ _ _).heap[k]? = _
        rw [slices_Insert_2_int_2_int.sc_ne _ _ _ _ _ (by omega)]
        show (w.heap.push _)[k]? = _
        rw [Array.getElem?_push, if_neg (by omega)]
      obtain ⟨r1, r2, r3, r4⟩ := slices_Insert_2_int_2_int.sc_rest ((slices_Insert_2_int_2_int.enc l0).drop (i * 2)) (((w.alloc (.cells ROW 48)).drew.setCells w.heap.size (i * 2) (slices_Insert_2_int_2_int.enc l2)).drew) w.heap.size ((i + 1) * 2)
      obtain ⟨s1, s2, s3, s4⟩ := slices_Insert_2_int_2_int.sc_rest (slices_Insert_2_int_2_int.enc l2) (w.alloc (.cells ROW 48)).drew w.heap.size (i * 2)
      rw [← hw'] at r1 r2 r3 r4
      have hsz : w'.heap.size = w.heap.size + 1 := by
        rw [r1]
        show (World.setCells _ _ _ _).heap.size = _
        rw [s1]
        show (w.heap.push _).size = _
        simp
      refine ⟨_, rfl, ?_, ⟨(r2.trans s2).trans hB.os, (r3.trans s3).trans hB.tape, (r4.trans s4).trans hB.output, by have := hB.size; omega, fun k hk' => ?_⟩, by omega, fun k hk' hn => hk k hk'⟩
      · refine slices_Insert_2_int_2_int.mk hlen (.inr (Nat.le_refl _)) (by have := hB.size; omega) hA2 hGn hGm (by rw [slices_Insert_2_int_2_int.put_size]; exact hs1) ?_
        have ea : (List.take (i * 2) ROW.toList).length = i * 2 := by rw [hRt, List.length_take, hlc]; omega
        have t1 : List.take ((i + 1) * 2) (slices_Insert_2_int_2_int.put ROW (i * 2) (slices_Insert_2_int_2_int.enc l2)).toList = (slices_Insert_2_int_2_int.enc l0).take (i * 2) ++ slices_Insert_2_int_2_int.enc l2 := by
          rw [hq1, List.take_left' (by rw [List.length_append, ea, hlv]; omega), hRt]
        have tl : ((slices_Insert_2_int_2_int.enc l0).take (i * 2) ++ slices_Insert_2_int_2_int.enc l2 ++ (slices_Insert_2_int_2_int.enc l0).drop (i * 2)).length = (l0.length + 1) * 2 := by
          rw [List.length_append, List.length_append, List.length_take, hlv, hld, hlc]; omega
        rw [hq2, t1, henc, List.take_left' tl]
      · rw [hk k (by have := hB.size; omega)]
        exact hB.block k hk'
    · refine (slices_Insert_2_int_2_int.shift g l0.length cap i gv c2 (slices_Insert_2_int_2_int.enc l0) (slices_Insert_2_int_2_int.enc l2) w hi hr (by unfold maxLen at h2; omega) hne hlt hlc hlv hC (fun j hj => ?_) (fun j hj => ?_) hV (slices_Insert_2_int_2_int.enc_one _) (slices_Insert_2_int_2_int.enc_one _) 48 48 curv.size cur.size ?_ ?_ (by omega) ?_ ?_).mono ?_
      · unfold World.cell?
        simp [hg]
        omega
      · unfold World.frozen?
        simp [hg]
      · unfold World.shape?
        simp [hgv]
      · unfold World.shape?
        simp [hg]
      · unfold World.frozen?
        simp [hgv]
      · unfold World.frozen?
        simp [hgv]
      rintro e w' ⟨rfl, hw'⟩
      have hA1 := slices_Insert_2_int_2_int.sc_heap ((slices_Insert_2_int_2_int.enc l0).drop (i * 2)) w.drew g ((i + 1) * 2) cur 48 (0, 0) hg
      have hA2 := slices_Insert_2_int_2_int.sc_heap (slices_Insert_2_int_2_int.enc l2) (w.drew.setCells g ((i + 1) * 2) ((slices_Insert_2_int_2_int.enc l0).drop (i * 2))) g (i * 2) _ 48 (0, 0) hA1
      rw [← hw'] at hA2
      have hld : ((slices_Insert_2_int_2_int.enc l0).drop (i * 2)).length = (l0.length - i) * 2 := by rw [List.length_drop, hlc]; omega
      have hq1 := slices_Insert_2_int_2_int.put_list ((slices_Insert_2_int_2_int.enc l0).drop (i * 2)) cur ((i + 1) * 2) (by rw [hld, h3]; omega)
      have hs1 : (slices_Insert_2_int_2_int.put cur ((i + 1) * 2) ((slices_Insert_2_int_2_int.enc l0).drop (i * 2))).size = cap * 2 := by rw [slices_Insert_2_int_2_int.put_size, h3]
      have hq2 := slices_Insert_2_int_2_int.put_list (slices_Insert_2_int_2_int.enc l2) (slices_Insert_2_int_2_int.put cur ((i + 1) * 2) ((slices_Insert_2_int_2_int.enc l0).drop (i * 2))) (i * 2) (by rw [hlv, hs1]; omega)
      have hk : ∀ k, k ≠ g → w'.heap[k]? = w.heap[k]? := fun k hk => by
        rw [hw', slices_Insert_2_int_2_int.sc_ne _ _ _ _ _ hk, slices_Insert_2_int_2_int.sc_ne _ _ _ _ _ hk]
        rfl
      obtain ⟨r1, r2, r3, r4⟩ := slices_Insert_2_int_2_int.sc_rest (slices_Insert_2_int_2_int.enc l2) (w.drew.setCells g ((i + 1) * 2) ((slices_Insert_2_int_2_int.enc l0).drop (i * 2))) g (i * 2)
      obtain ⟨s1, s2, s3, s4⟩ := slices_Insert_2_int_2_int.sc_rest ((slices_Insert_2_int_2_int.enc l0).drop (i * 2)) w.drew g ((i + 1) * 2)
      rw [← hw'] at r1 r2 r3 r4
      have hsz : w'.heap.size = w.heap.size := r1.trans s1
      refine ⟨_, rfl, ?_, ⟨(r2.trans s2).trans hB.os, (r3.trans s3).trans hB.tape, (r4.trans s4).trans hB.output, by have := hB.size; omega, fun k hk' => ?_⟩, by omega, fun k hk' hn => hk k (fun e => hn (e ▸ hok))⟩
      · refine slices_Insert_2_int_2_int.mk hlen (.inl hok) hb hA2 hr h2 (by rw [slices_Insert_2_int_2_int.put_size]; exact hs1) ?_
        rw [hq2, hq1, henc, hlv]
        have ea : (List.take ((i + 1) * 2) cur.toList).length = (i + 1) * 2 := by rw [List.length_take, Array.length_toList, h3]; omega
        have e1 : List.take (i * 2) (List.take ((i + 1) * 2) cur.toList ++ List.drop (i * 2) (slices_Insert_2_int_2_int.enc l0) ++ List.drop ((i + 1) * 2 + (List.drop (i * 2) (slices_Insert_2_int_2_int.enc l0)).length) cur.toList) = (slices_Insert_2_int_2_int.enc l0).take (i * 2) := by
          rw [List.append_assoc, List.take_append_of_le_length (by omega), List.take_take, Nat.min_eq_left (by omega), hcut1]
        have e2 : List.drop (i * 2 + 1 * 2) (List.take ((i + 1) * 2) cur.toList ++ List.drop (i * 2) (slices_Insert_2_int_2_int.enc l0) ++ List.drop ((i + 1) * 2 + (List.drop (i * 2) (slices_Insert_2_int_2_int.enc l0)).length) cur.toList) = List.drop (i * 2) (slices_Insert_2_int_2_int.enc l0) ++ List.drop ((i + 1) * 2 + (List.drop (i * 2) (slices_Insert_2_int_2_int.enc l0)).length) cur.toList := by
          rw [List.append_assoc, List.drop_left' (by omega)]
        rw [e1, e2, ← List.append_assoc, List.take_left' (by rw [List.length_append, List.length_append, List.length_take, hlv, hld, hlc]; omega)]
      · rw [hk k (by omega)]
        exact hB.block k hk'
  · rw [if_neg hc] at h
    cases h

/-! ### slices_Clone_2_int_2_int: function 67 -/
def slices_Clone_2_int_2_int.f (l0 : List (S48)) : Option ((List (S48))) := (some (([] : List (S48)) : List (S48))).bind fun y114 => (if y114.length + l0.length < 8796093022208 then (some (y114 ++ l0)) else (none))
set_option maxHeartbeats 8000000 in
set_option maxRecDepth 100000 in
theorem slices_Clone_2_int_2_int.calls (A0 : Option Addr) (c0 : Nat) (l0 : List (S48)) (r : List (S48)) (w : World) (hr0 : Kd.C k48 w A0 l0.length l0) (hc0 : l0.length ≤ c0) (h : slices_Clone_2_int_2_int.f l0 = some r) :
  Calls Try.prog 67 #[.slice A0 l0.length c0] w fun e w' => ∃ v0_ : Value, e = .returned (v0_) ∧ Kd.R k48 48 w' w.heap.size (fun _ => True) v0_ r ∧ Below w.heap.size w w' := by
 have HR0 := Aside0.mk hr0
 have HC0 := Aside0.mk hc0
 clear hr0 hc0
 have HB := Aside0.mk (Below.refl w.heap.size w)
 have H : ((some (([] : List (S48)) : List (S48))).bind fun y114 => (if y114.length + l0.length < 8796093022208 then (some (y114 ++ l0)) else (none))) = some r := h
 clear h
 obtain ⟨y114, hy114⟩ : ∃ y_ : List (S48), y_ = (([] : List (S48))) := ⟨_, rfl⟩
 replace H : (if y114.length + l0.length < 8796093022208 then (some (y114 ++ l0)) else (none)) = some r := by first | (rw [hy114]; with_reducible exact H) | (have H2_ := (Option.bind_some _ _).symm.trans H; rw [hy114]; with_reducible exact H2_) | (have H2_ := (Option.bind_some _ _).symm.trans H; with_reducible exact H2_) | with_reducible exact H | (rw [hy114]; exact H) | exact H
 have Ny114 := Aside0.mk hy114
 clear hy114
 by_cases c2 : y114.length + l0.length < 8796093022208
 ·rw [if_pos c2] at H
  have LMc2 := Aside0.mk c2
  clear c2
  obtain ⟨y117, hy117⟩ : ∃ y_ : List (S48), y_ = (y114 ++ l0) := ⟨_, rfl⟩
  replace H : (some y117) = some r := by first | (rw [hy117]; with_reducible exact H) | (have H2_ := (Option.bind_some _ _).symm.trans H; rw [hy117]; with_reducible exact H2_) | (have H2_ := (Option.bind_some _ _).symm.trans H; with_reducible exact H2_) | with_reducible exact H | (rw [hy117]; exact H) | exact H
  have Ny117 := Aside0.mk hy117
  clear hy117
  obtain rfl := Option.some.inj H
  have hnil_ : ∀ (A_ : Option Addr) (n_ c_ : Nat) (W_ : World), (binOp .eql 46 (.slice A_ n_ c_) (.slice none 0 0)).run Try.prog W_ = .ok (.bool A_.isNone) W_ := fun A_ n_ c_ W_ => Go.run_eql_slice_nil W_ 46 48 A_ n_ c_ Try.underlying46
  rcases A0 with _ | ad0
  ·have hl0 : l0.length = 0 := by
    rcases Nat.eq_zero_or_pos l0.length with h_ | h_
    ·exact h_
    ·obtain ⟨ad_, h1_, _⟩ := HR0.out.2.2 h_
     cases h1_
   have hn0 : y117 = [] := by rw [Ny117.out, Ny114.out, List.eq_nil_of_length_eq_zero hl0]; rfl
   go_enter Try.func67, Try.ntmps67
   go_wp2
   go_ret
   exact ⟨_, rfl, by first | exact Kd.R_nil _ _ _ _ _ | (rw [hn0]; exact Kd.R_nil _ _ _ _ _), HB.out⟩
  go_enter Try.func67, Try.ntmps67
  go_wp2_with (first | ((with_reducible refine gate_dst (N := 5) rfl ?_); refine Kd.R_lit k48 _ 48 ?hg (N := 5) ?hd (xs := ([] : List (S48))) (inner := []) (ok := fun _ => True) (okp := fun _ => True) ?hr ?hp (fun _ hk => hk) trivial (Below.refl _ _) (Nat.le_refl _) (by simp) ?_; (case hd => rfl); (case hg => rfl); (case hr => first | (go_simp; done) | (go_simp; rfl)); (case hp => exact (Reps.none _ _)); intro v115 w3 ho4 hb hg_ hnew_; clear hg_ hnew_; (first | rw [← Ny114.out] at ho4 | (simp only [Int.reduceToNat] at ho4; rw [← Ny114.out] at ho4)); have n0_ := Aside0.mk (Kd.R_lower ho4 (below_size (by repeat (first | (with_reducible first | exact HB.out | apply below_alloc | apply pw_below_drewN | apply below_drew1) | exact HB.out)))); have n1_ := Aside0.mk (below_step (by repeat (first | (with_reducible first | exact HB.out | apply below_alloc | apply pw_below_drewN | apply below_drew1) | exact HB.out)) hb); clear HB; have HO116 := n0_; have HB := n1_; clear n0_ n1_; clear hb ho4) | ((with_reducible refine gate_builtin (b := .append) (xs := #[.tmp 5, .tmp 6]) rfl ?_); at_builtin; refine Kd.R_append_rows k48 (w0 := w) w.heap.size rfl (.tmp 5) (.tmp 6) 46 48 (.agg #[(.int .i64 0), (.int .i64 0)]) 16 rfl Try.underlying46 info48 rfl (by decide) (by omega) v115 y114 l0 _ _ _ (fun _ => True) (fun _ => False) rfl rfl ?aO ?aR (fun _ _ h => h) (fun _ h => h.elim) ?aF ?aB ?aS ?aL ?_; (case aR => repeat (first | exact (Kd.C_below HR0.out HB.out) | (with_reducible refine Kd.C_alloc ?_ _) | (with_reducible refine Kd.C_drewN ?_ _) | (with_reducible refine Kd.C_drew ?_))); (case aB => exact (by repeat (first | (with_reducible first | exact HB.out | apply below_alloc | apply pw_below_drewN | apply below_drew1) | exact HB.out))); (case aF => exact (fun _ _ => trivial)); (case aO => exact (by (with_reducible repeat (first | apply Kd.R_alloc | apply Kd.R_drewN | apply Kd.R_drew)); exact HO116.out)); (case aS => exact (below_size (by repeat (first | (with_reducible first | exact HB.out | apply below_alloc | apply pw_below_drewN | apply below_drew1) | exact HB.out)))); (case aL => have := LMc2.out; omega); intro v118 w5 ho hb hg hat; rw [← Ny117.out] at ho; have n0_ := Aside0.mk (hb); have n1_ := Aside0.mk (ho); clear HB; clear HO116; have HB := n0_; have HO119 := n1_; clear n0_ n1_; clear ho hb hg hat))
  go_ret
  exact ⟨_, by first | rfl | (simp [errW_none, errW_some] <;> rfl) | (simp [*, errW_none, errW_some] <;> rfl), by (with_reducible repeat (first | apply Kd.R_alloc | apply Kd.R_drewN | apply Kd.R_drew)); exact HO119.out, by repeat (first | (with_reducible first | exact HB.out | apply below_alloc | apply pw_below_drewN | apply below_drew1) | exact HB.out)⟩
 ·rw [if_neg c2] at H
  exact absurd H (by simp)

end Go.Proofs.Ytlbmfnjhpojghaa.PFnNormalized
