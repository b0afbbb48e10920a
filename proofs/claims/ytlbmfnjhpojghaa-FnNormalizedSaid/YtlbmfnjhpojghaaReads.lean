/- Reading: a value of the data that came in, of whatever nested type (structs, arrays, slices of these), is told by the kinds of the print's words: its cells are those of its kind. Conditions: the type is laid out as the kind says. -/
import Derived.Test.YtlbmfnjhpojghaaWMore
import Derived.Deep.Slices
import Derived.DataReads
import Derived.OpenShut
namespace Go.Proofs.Ytlbmfnjhpojghaa.Reads
open Go.RowKit Go.Proofs.YtlbmfnjhpojghaaW.PrintWords
open Go.Deep (open_slice)

/-- A type's cells, as they are read, are those of a kind; what is good of its value. -/
def Opens {α : Type} (P : Program) (t : TypeId) (k : Kd α) (good : α → Prop) : Prop :=
  P.cellsOf t = k.sz ∧ ∀ {H : Type} (enc : TypeId × Value → H) (w : World) (base : Nat) (spare : Nat → Bool) (held : Bool) (fuel : Nat) (cs : List Value) (x : DataW H × List MemPlace),
    DataW.trod enc P w base spare held fuel t cs = some x → ∃ y, k.K w y cs ∧ good y

section
variable {P : Program} {t e : TypeId}

theorem Opens.int {k : IntKind} (hu : P.underlying t = some (.int k)) (hc : P.cellsOf t = 1) : Opens P t (Kd.int k) (fun n => (Lit.int k n).wf = true) :=
  ⟨hc, fun enc w base spare held fuel cs x h => by
    obtain ⟨n, rfl, _, hw⟩ := DataW.trod_int hu h
    exact ⟨n, rfl, hw⟩⟩

theorem Opens.bool (hu : P.underlying t = some .bool) (hc : P.cellsOf t = 1) : Opens P t Kd.bool (fun _ => True) :=
  ⟨hc, fun enc w base spare held fuel cs x h => by
    obtain ⟨n, rfl, _⟩ := DataW.trod_bool hu h
    exact ⟨n, rfl, trivial⟩⟩

theorem Opens.string (hu : P.underlying t = some .string) (hc : P.cellsOf t = 1) : Opens P t Kd.string (fun s => s.size ≤ maxLen) :=
  ⟨hc, fun enc w base spare held fuel cs x h => by
    obtain ⟨n, rfl, _, hw⟩ := DataW.trod_string hu h
    exact ⟨n, rfl, hw⟩⟩

/-- Elements one by one, out of what holds of each. -/
theorem choose_list {α : Type} {p : Nat → α → Prop} : ∀ n : Nat, (∀ i, i < n → ∃ y, p i y) → ∃ l : List α, l.length = n ∧ ∀ i y, l[i]? = some y → p i y
  | 0, _ => ⟨[], rfl, fun i y h => by simp at h⟩
  | n + 1, h => by
    obtain ⟨l, hl, hp⟩ := choose_list n (fun i hi => h i (by omega))
    obtain ⟨y, hy⟩ := h n (by omega)
    refine ⟨l ++ [y], by simp [hl], fun i z hz => ?_⟩
    rcases Nat.lt_or_ge i n with q | q
    · rw [List.getElem?_append_left (by omega)] at hz
      exact hp i z hz
    · rw [List.getElem?_append_right (by omega)] at hz
      have : i = n := by
        rcases Nat.lt_or_ge n i with r | r
        · rw [List.getElem?_eq_none (by simp; omega)] at hz; cases hz
        · omega
      subst this
      rw [hl, Nat.sub_self] at hz
      have : y = z := by simpa using hz
      subst this
      exact hy

theorem row_reads {α : Type} {k : Kd α} {good : α → Prop} (he : Opens P e k good) {H : Type} (enc : TypeId × Value → H) (w : World) (base : Nat) (spare : Nat → Bool) (held : Bool) (n len : Nat) (hm : len ≤ maxLen) (a : Addr) (D : Nat → DataW H) (Pl : Nat → List MemPlace)
    (hel : ∀ i, i < len → ∃ cs', w.cells? base (a.add (i * P.cellsOf e)) (P.cellsOf e) = some cs' ∧ DataW.trod enc P w base spare held n e cs' = some (D i, Pl i)) :
    ∃ l : List α, l.length = len ∧ k.C w (some a) len l ∧ ∀ y ∈ l, good y := by
  have each : ∀ i, i < len → ∃ y, (∃ c : List Value, c.length = k.sz ∧ k.K w y c ∧ ∀ j u, c[j]? = some u → w.cell? (a.add (i * k.sz + j)) = some u) ∧ good y := by
    intro i hi
    obtain ⟨cs', h1, h2⟩ := hel i hi
    obtain ⟨y, hk, hg⟩ := he.2 enc w base spare held n cs' _ h2
    refine ⟨y, ⟨cs', k.K_len hk, hk, ?_⟩, hg⟩
    intro j u hj
    obtain ⟨_, hlen, hcell⟩ := World.cells?_some h1
    have hjl : j < P.cellsOf e := by
      rw [← hlen]
      exact (List.getElem?_eq_some_iff.1 hj).1
    have := hcell j hjl
    rw [add_add, he.1] at this
    rw [this]; exact hj
  obtain ⟨l, hl, hp⟩ := choose_list len each
  refine ⟨l, hl, ⟨hl, by unfold maxLen at hm; omega, fun _ => ⟨a, rfl, fun j p hj => (hp j p hj).1⟩⟩, ?_⟩
  intro y hy
  obtain ⟨i, hi, rfl⟩ := List.getElem_of_mem hy
  exact (hp i _ (List.getElem?_eq_getElem hi)).2

theorem Opens.slice {α : Type} {k : Kd α} {good : α → Prop} (hu : P.underlying t = some (.slice e)) (hc : P.cellsOf t = 1) (he : Opens P e k good) : Opens P t (Kd.slice e k) (fun l => l.length ≤ maxLen ∧ ∀ y ∈ l, good y) :=
  ⟨hc, fun enc w base spare held fuel cs x h => by
    rcases open_slice hu h with ⟨rfl, _⟩ | ⟨a, len, cap, m, n, D, Pl, rfl, _, hl, hm, hm', _, hel⟩
    · exact ⟨[], ⟨none, 0, rfl, Nat.le_refl _, Kd.C_nil _ _⟩, Nat.zero_le _, by simp⟩
    · obtain ⟨l, hlen, hC, hg⟩ := row_reads he enc w base spare held n len (by omega) a D Pl (fun i hi => hel i (by rw [hm']; split <;> omega))
      subst hlen
      exact ⟨l, ⟨some a, cap, rfl, hl, hC⟩, by omega, hg⟩⟩

/-- An argument that is a slice, of whatever elements. -/
theorem arg_slice {α : Type} {k : Kd α} {good : α → Prop} {H : Type} {enc : TypeId × Value → H} {w : World} {base : Nat} {spare : Nat → Bool} {held : Bool} {A : Option Addr} {len cap : Nat} {d : DataW H} {ps : List MemPlace} (hu : P.underlying t = some (.slice e)) (he : Opens P e k good)
    (h : DataW.Trod enc P w base spare held t (.slice A len cap) d ps) : ∃ l : List α, l.length = len ∧ len ≤ cap ∧ k.C w A len l ∧ len ≤ maxLen ∧ ∀ y ∈ l, good y := by
  obtain ⟨fuel, hf⟩ := h
  rcases open_slice hu hf with ⟨hcs, _⟩ | ⟨a, len', cap', m, n, D, Pl, hcs, _, hl, hm, hm', _, hel⟩
  · simp [Value.cells] at hcs
    obtain ⟨rfl, rfl, rfl⟩ := hcs
    exact ⟨[], rfl, Nat.le_refl _, Kd.C_nil _ _, Nat.zero_le _, by simp⟩
  · simp [Value.cells] at hcs
    obtain ⟨rfl, rfl, rfl⟩ := hcs
    obtain ⟨l, hlen, hC, hg⟩ := row_reads he enc w base spare held n len (by omega) a D Pl (fun i hi => hel i (by rw [hm']; split <;> omega))
    exact ⟨l, hlen, hl, hC, by omega, hg⟩

/-! ### structs and arrays: parts in line -/
/-- Types in line: cells one behind the other. -/
def OpensL {α : Type} (P : Program) (ts : List TypeId) (k : Kd α) (good : α → Prop) : Prop :=
  (ts.map P.cellsOf).sum = k.sz ∧ ∀ {H : Type} (enc : TypeId × Value → H) (w : World) (base : Nat) (spare : Nat → Bool) (held : Bool) (fuel : Nat) (cs : List Value),
    cs.length = k.sz → (∀ i t, ts[i]? = some t → ∃ x, DataW.trod enc P w base spare held fuel t ((cs.drop ((ts.take i).map P.cellsOf).sum).take (P.cellsOf t)) = some x) → ∃ y, k.K w y cs ∧ good y

theorem OpensL.one {α : Type} {k : Kd α} {good : α → Prop} (h : Opens P t k good) : OpensL P [t] k good :=
  ⟨by simpa using h.1, fun enc w base spare held fuel cs hl hx => by
    obtain ⟨x, hx⟩ := hx 0 t rfl
    have e : (cs.drop (([t].take 0).map P.cellsOf).sum).take (P.cellsOf t) = cs := by
      simp only [List.take_zero, List.map_nil, List.sum_nil, List.drop_zero]
      exact List.take_of_length_le (by rw [hl, h.1]; exact Nat.le_refl _)
    rw [e] at hx
    exact h.2 enc w base spare held fuel cs x hx⟩

theorem OpensL.cons {α β : Type} {k : Kd α} {good : α → Prop} {ts : List TypeId} {kb : Kd β} {goodb : β → Prop} (h : Opens P t k good) (hb : OpensL P ts kb goodb) : OpensL P (t :: ts) (Kd.pair k kb) (fun y => good y.1 ∧ goodb y.2) :=
  ⟨by show _ = k.sz + kb.sz; rw [List.map_cons, List.sum_cons, h.1, hb.1], fun enc w base spare held fuel cs hl hx => by
    have hl' : cs.length = k.sz + kb.sz := hl
    obtain ⟨x, hx0⟩ := hx 0 t rfl
    have e0 : (cs.drop (((t :: ts).take 0).map P.cellsOf).sum).take (P.cellsOf t) = cs.take k.sz := by simp [h.1]
    rw [e0] at hx0
    obtain ⟨y, hy, hg⟩ := h.2 enc w base spare held fuel _ x hx0
    obtain ⟨z, hz, hgz⟩ := hb.2 enc w base spare held fuel (cs.drop k.sz) (by rw [List.length_drop]; omega) (fun i u hu => by
      obtain ⟨x', hx'⟩ := hx (i + 1) u hu
      refine ⟨x', ?_⟩
      rw [List.drop_drop]
      have es : (((t :: ts).take (i + 1)).map P.cellsOf).sum = k.sz + ((ts.take i).map P.cellsOf).sum := by
        rw [List.take_succ_cons, List.map_cons, List.sum_cons, h.1]
      rw [es] at hx'
      exact hx')
    exact ⟨(y, z), ⟨cs.take k.sz, cs.drop k.sz, (List.take_append_drop _ _).symm, hy, hz⟩, hg, hgz⟩⟩

theorem Opens.struct {α β : Type} {kb : Kd β} {goodb : β → Prop} {fs : Array Field} {f : α → β} (g : β → α) (hfg : ∀ y, f (g y) = y) (hu : P.underlying t = some (.struct fs)) (hc : P.cellsOf t = kb.sz)
    (ho : ∀ i fl, fs[i]? = some fl → fl.offset = (((fs.toList.map (·.type)).take i).map P.cellsOf).sum) (hb : OpensL P (fs.toList.map (·.type)) kb goodb) : Opens P t (Kd.iso kb f) (fun x => goodb (f x)) :=
  ⟨hc, fun enc w base spare held fuel cs x h => by
    obtain ⟨xs, n, rfl, _, hl, hxs, hx⟩ := DataW.trod_struct hu h
    obtain ⟨y, hy, hg⟩ := hb.2 enc w base spare held n cs (by rw [hl, hc]) (fun i u hi => by
      rw [List.getElem?_map] at hi
      obtain ⟨fl, hfl, rfl⟩ := Option.map_eq_some_iff.1 hi
      have hfl' : fs[i]? = some fl := by simpa using hfl
      have hx' := hx i fl hfl'
      rw [ho i fl hfl'] at hx'
      have hlt : i < xs.length := by
        rw [hxs]
        exact (Array.getElem?_eq_some_iff.1 hfl').1
      exact ⟨xs[i], by rw [hx', List.getElem?_eq_getElem hlt]⟩)
    refine ⟨g y, ?_, ?_⟩
    · show kb.K w (f (g y)) cs
      rw [hfg]; exact hy
    · show goodb (f (g y))
      rw [hfg]; exact hg⟩

/-- The same, what is asked of the offsets as one Boolean. -/
theorem Opens.structB {α β : Type} {kb : Kd β} {goodb : β → Prop} {fs : Array Field} {ts : List TypeId} {f : α → β} (g : β → α) (hfg : ∀ y, f (g y) = y) (hu : P.underlying t = some (.struct fs)) (hts : fs.toList.map (·.type) = ts) (hc : P.cellsOf t = kb.sz)
    (ho : ((List.range fs.size).all fun i => match fs[i]? with | some fl => fl.offset == ((ts.take i).map P.cellsOf).sum | none => true) = true) (hb : OpensL P ts kb goodb) : Opens P t (Kd.iso kb f) (fun x => goodb (f x)) := by
  subst hts
  refine Opens.struct g hfg hu hc (fun i fl hi => ?_) hb
  have hi' : i < fs.size := (Array.getElem?_eq_some_iff.1 hi).1
  have := List.all_eq_true.1 ho i (List.mem_range.2 hi')
  rw [hi] at this
  simpa using this

/-- An argument that is a struct. -/
theorem arg_struct {α : Type} {k : Kd α} {good : α → Prop} {H : Type} {enc : TypeId × Value → H} {w : World} {base : Nat} {spare : Nat → Bool} {held : Bool} {cs : Array Value} {d : DataW H} {ps : List MemPlace} (he : Opens P t k good)
    (h : DataW.Trod enc P w base spare held t (.agg cs) d ps) : ∃ y, k.K w y cs.toList ∧ good y := by
  obtain ⟨fuel, hf⟩ := h
  exact he.2 enc w base spare held fuel _ _ hf

theorem sum_same (c : Nat) : ∀ n i, i ≤ n → (((List.replicate n e).take i).map (fun _ => c)).sum = i * c := by
  intro n i hi
  rw [List.take_replicate, Nat.min_eq_left hi, List.map_replicate]
  simp

theorem Opens.array {α β : Type} {kb : Kd β} {goodb : β → Prop} {n : Nat} {f : α → β} (g : β → α) (hfg : ∀ y, f (g y) = y) (hu : P.underlying t = some (.array n e)) (hc : P.cellsOf t = kb.sz)
    (hb : OpensL P (List.replicate n e) kb goodb) : Opens P t (Kd.iso kb f) (fun x => goodb (f x)) :=
  ⟨hc, fun enc w base spare held fuel cs x h => by
    cases fuel with
    | zero => simp [DataW.trod] at h
    | succ m =>
      unfold DataW.trod at h
      rw [hu] at h
      have h' : (if cs.length = P.cellsOf t then ((List.range n).mapM fun i => DataW.trod enc P w base spare held m e ((cs.drop (i * P.cellsOf e)).take (P.cellsOf e))).map fun xs => (DataW.agg (xs.map (·.1)), xs.flatMap (·.2)) else none) = some x := by
        split at h <;> simp_all
      by_cases hl : cs.length = P.cellsOf t
      · rw [if_pos hl] at h'
        obtain ⟨xs, hx, _⟩ := Option.map_eq_some_iff.1 h'
        have hlen : xs.length = n := by simpa using mapM_some_length hx
        obtain ⟨y, hy, hg⟩ := hb.2 enc w base spare held m cs (by rw [hl, hc]) (fun i u hi => by
          have hin : i < n := by
            have := (List.getElem?_eq_some_iff.1 hi).1
            simpa using this
          have hue : e = u := by
            rw [List.getElem?_replicate, if_pos hin] at hi
            exact Option.some.inj hi
          subst hue
          have hx' := mapM_some_get hx i i (by simp [hin])
          have es : (((List.replicate n e).take i).map P.cellsOf).sum = i * P.cellsOf e := by
            rw [List.take_replicate, Nat.min_eq_left (by omega), List.map_replicate]
            simp
          rw [es]
          exact ⟨xs[i], by rw [hx', List.getElem?_eq_getElem (by omega)]⟩)
        refine ⟨g y, ?_, ?_⟩
        · show kb.K w (f (g y)) cs
          rw [hfg]; exact hy
        · show goodb (f (g y))
          rw [hfg]; exact hg
      · rw [if_neg hl] at h'
        cases h'⟩
end
end Go.Proofs.Ytlbmfnjhpojghaa.Reads
