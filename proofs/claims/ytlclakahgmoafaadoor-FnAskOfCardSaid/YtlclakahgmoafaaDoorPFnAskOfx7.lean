-- Written by a program of this session (xprint) out of the translation; Lean checks it.
import Derived.Test.YtlclakahgmoafaaDoorPFnAskOfx0
import Derived.Test.YtlclakahgmoafaaDoorPFnAskOfx1
import Derived.Test.YtlclakahgmoafaaDoorPFnAskOfx2
import Derived.Test.YtlclakahgmoafaaDoorPFnAskOfx6
namespace Go.Proofs.YtlclakahgmoafaaDoor.PFnAskOf
open Go.RowKit Go.Proofs.YtlclakahgmoafaaDoorW.PrintWords Go.Proofs.YtlclakahgmoafaaDoorW.PrintLast Go.Proofs.YtlclakahgmoafaaDoorW.PrintMore
attribute [local go_sem] max2_int min2_int max_two min_two max_three min_three max_four min_four   -- for this text's walks alone
set_option linter.unusedVariables false
set_option linter.unusedSimpArgs false

attribute [local go_sem high] eqA28
theorem c_sz (a : Array UInt8) : (⟨a⟩ : ByteArray).size = a.size := rfl
/-! ### laws_FnAskOf: function 4 -/
def laws_FnAskOf.j0 : Nat → Int → Int → ByteArray → ByteArray → Int → Int → Int → Option (Bool)
  | 0, _, _, _, _, _, _, _ => none
  | k + 1, x1, x3, x13, x184000, x184001, x184002, x184003 => if (Int.tmod x1 4) = 1 then (if 1 + x13.size ≤ 9223372036854775807 then ((impl_AskOf.f k ((⟨#[43]⟩ : ByteArray) ++ x13)).bind fun bt186 => (if bt186.2.2.2.2 = true then (some (bt186.1.toList == x184000.toList && (bt186.2.1 == x184001 && (bt186.2.2.1 == x184002 && (bt186.2.2.2.1 == x184003))))) else (some false))) else (none)) else (if (Int.tmod x1 4) = 2 then (if 1 + x13.size ≤ 9223372036854775807 then ((impl_AskOf.f k ((⟨#[45]⟩ : ByteArray) ++ x13)).bind fun bt192 => (if bt192.2.2.2.2 = true then (some (bt192.1.toList == x184000.toList && (bt192.2.1 == 0 && (bt192.2.2.1 == x184002 && (bt192.2.2.2.1 == x184003))))) else (some false))) else (none)) else (if (Int.tmod x1 4) = 3 then (if x13.size + 1 ≤ 9223372036854775807 then ((strconv_Itoa.f (wrap64 (x3))).bind fun t198 => (if (x13 ++ (⟨#[61]⟩ : ByteArray)).size + t198.size ≤ 9223372036854775807 then ((impl_AskOf.f k ((x13 ++ (⟨#[61]⟩ : ByteArray)) ++ t198)).bind fun bt199 => (if bt199.2.2.2.2 = true then (some (bt199.1.toList == x184000.toList && (bt199.2.1 == ((x3) % 4294967296) && (bt199.2.2.1 == x184002 && (bt199.2.2.2.1 == x184003))))) else (some false))) else (none))) else (none)) else ((impl_AskOf.f k x13).bind fun bt205 => (if bt205.2.2.2.2 = true then (some (bt205.1.toList == x184000.toList && (bt205.2.1 == x184001 && (bt205.2.2.1 == x184002 && (bt205.2.2.2.1 == x184003))))) else (some false)))))
def laws_FnAskOf.f (k : Nat) (a0 : Int) (a1 : Int) (a2 : Int) (a3 : Int) (a4 : Int) (a5 : Int) : Option (Bool) := (laws_askTag.f k a0).bind fun t182 => ((strconv_Itoa.f (wrap64 (a4))).bind fun t184 => ((strconv_Itoa.f (wrap64 (a5))).bind fun t185 => (if (Int.tmod a2 6) = 1 then (if t182.size + 2 ≤ 9223372036854775807 then (laws_FnAskOf.j0 k a1 a3 (t182 ++ (⟨#[91, 93]⟩ : ByteArray)) t182 1 0 (-1)) else (none)) else (if (Int.tmod a2 6) = 2 then (if t182.size + 3 ≤ 9223372036854775807 then (laws_FnAskOf.j0 k a1 a3 (t182 ++ (⟨#[91, 58, 93]⟩ : ByteArray)) t182 1 0 (-1)) else (none)) else (if (Int.tmod a2 6) = 3 then (if t182.size + 1 ≤ 9223372036854775807 then (if (t182 ++ (⟨#[91]⟩ : ByteArray)).size + t184.size ≤ 9223372036854775807 then (if ((t182 ++ (⟨#[91]⟩ : ByteArray)) ++ t184).size + 2 ≤ 9223372036854775807 then (laws_FnAskOf.j0 k a1 a3 (((t182 ++ (⟨#[91]⟩ : ByteArray)) ++ t184) ++ (⟨#[58, 93]⟩ : ByteArray)) t182 1 (wrap64 (a4)) (-1)) else (none)) else (none)) else (none)) else (if (Int.tmod a2 6) = 4 then (if t182.size + 2 ≤ 9223372036854775807 then (if (t182 ++ (⟨#[91, 58]⟩ : ByteArray)).size + t185.size ≤ 9223372036854775807 then (if ((t182 ++ (⟨#[91, 58]⟩ : ByteArray)) ++ t185).size + 1 ≤ 9223372036854775807 then (laws_FnAskOf.j0 k a1 a3 (((t182 ++ (⟨#[91, 58]⟩ : ByteArray)) ++ t185) ++ (⟨#[93]⟩ : ByteArray)) t182 1 0 (wrap64 (a5))) else (none)) else (none)) else (none)) else (if (Int.tmod a2 6) = 5 then (if (Int.tmod a5 2) = 0 then (if t182.size + 1 ≤ 9223372036854775807 then (if (t182 ++ (⟨#[91]⟩ : ByteArray)).size + t184.size ≤ 9223372036854775807 then (if ((t182 ++ (⟨#[91]⟩ : ByteArray)) ++ t184).size + 1 ≤ 9223372036854775807 then (if (((t182 ++ (⟨#[91]⟩ : ByteArray)) ++ t184) ++ (⟨#[58]⟩ : ByteArray)).size + t185.size ≤ 9223372036854775807 then (if ((((t182 ++ (⟨#[91]⟩ : ByteArray)) ++ t184) ++ (⟨#[58]⟩ : ByteArray)) ++ t185).size + 1 ≤ 9223372036854775807 then (laws_FnAskOf.j0 k a1 a3 (((((t182 ++ (⟨#[91]⟩ : ByteArray)) ++ t184) ++ (⟨#[58]⟩ : ByteArray)) ++ t185) ++ (⟨#[93]⟩ : ByteArray)) t182 1 (wrap64 (a4)) (wrap64 (a5))) else (none)) else (none)) else (none)) else (none)) else (none)) else (if t182.size + 1 ≤ 9223372036854775807 then (if (t182 ++ (⟨#[91]⟩ : ByteArray)).size + t184.size ≤ 9223372036854775807 then (if ((t182 ++ (⟨#[91]⟩ : ByteArray)) ++ t184).size + 1 ≤ 9223372036854775807 then (laws_FnAskOf.j0 k a1 a3 (((t182 ++ (⟨#[91]⟩ : ByteArray)) ++ t184) ++ (⟨#[93]⟩ : ByteArray)) t182 1 (wrap64 (a4)) (wrap64 ((wrap64 (a4)) + 1))) else (none)) else (none)) else (none))) else (laws_FnAskOf.j0 k a1 a3 t182 t182 1 0 (-1)))))))))
theorem laws_FnAskOf.mono_l : ∀ k, (∀ y0 y1 y2 y3 y4 y5 y6, LeO (laws_FnAskOf.j0 k y0 y1 y2 y3 y4 y5 y6) (laws_FnAskOf.j0 (k + 1) y0 y1 y2 y3 y4 y5 y6))
  | 0 => fun _ _ _ _ _ _ _ r h => by simp [laws_FnAskOf.j0] at h
  | k + 1 => by
    have ih0 := laws_FnAskOf.mono_l k
    · intro y0 y1 y2 y3 y4 y5 y6
      unfold laws_FnAskOf.j0
      repeat' first
      | (with_reducible exact ih0 _ _ _ _ _ _ _)
      | (with_reducible exact impl_AskOf.mono _ _)
      | (with_reducible exact laws_askTag.mono _ _)
      | (with_reducible exact LeO.refl _)
      | (with_reducible exact LeO.none _)
      | (with_reducible refine LeO.ite ?_ ?_)
      | (with_reducible refine LeO.bind ?_ (fun _ => ?_))
      | exact ih0 _ _ _ _ _ _ _
      | exact impl_AskOf.mono _ _
      | exact laws_askTag.mono _ _
      | exact LeO.none _
      | refine LeO.ite ?_ ?_
      | refine LeO.bind ?_ (fun _ => ?_)
theorem laws_FnAskOf.mono : ∀ a0 a1 a2 a3 a4 a5 k, LeO (laws_FnAskOf.f k a0 a1 a2 a3 a4 a5) (laws_FnAskOf.f (k + 1) a0 a1 a2 a3 a4 a5) := by
  intro a0 a1 a2 a3 a4 a5 k
  have ih0 := laws_FnAskOf.mono_l k
  unfold laws_FnAskOf.f
  repeat' first
      | (with_reducible exact ih0 _ _ _ _ _ _ _)
      | (with_reducible exact impl_AskOf.mono _ _)
      | (with_reducible exact laws_askTag.mono _ _)
      | (with_reducible exact LeO.refl _)
      | (with_reducible exact LeO.none _)
      | (with_reducible refine LeO.ite ?_ ?_)
      | (with_reducible refine LeO.bind ?_ (fun _ => ?_))
      | exact ih0 _ _ _ _ _ _ _
      | exact impl_AskOf.mono _ _
      | exact laws_askTag.mono _ _
      | exact LeO.none _
      | refine LeO.ite ?_ ?_
      | refine LeO.bind ?_ (fun _ => ?_)
set_option maxHeartbeats 8000000 in
set_option maxRecDepth 100000 in
theorem laws_FnAskOf.calls (k : Nat) (a0 : Int) (a1 : Int) (a2 : Int) (a3 : Int) (a4 : Int) (a5 : Int) (r : Bool) (w : World) (h : laws_FnAskOf.f k a0 a1 a2 a3 a4 a5 = some r) (GG : Tab w) :
    Calls Tryd.prog 4 #[.int .u32 a0, .int .u8 a1, .int .u8 a2, .int .u16 a3, .int .u16 a4, .int .u16 a5] w fun e w' => e = .returned (.bool r) ∧ Below w.heap.size w w' := by
  have hu28 := Tryd.underlying28
  have HB := Aside0.mk (Below.refl w.heap.size w)
  have H : ((laws_askTag.f k a0).bind fun t182 => ((strconv_Itoa.f (wrap64 (a4))).bind fun t184 => ((strconv_Itoa.f (wrap64 (a5))).bind fun t185 => (if (Int.tmod a2 6) = 1 then (if t182.size + 2 ≤ 9223372036854775807 then (laws_FnAskOf.j0 k a1 a3 (t182 ++ (⟨#[91, 93]⟩ : ByteArray)) t182 1 0 (-1)) else (none)) else (if (Int.tmod a2 6) = 2 then (if t182.size + 3 ≤ 9223372036854775807 then (laws_FnAskOf.j0 k a1 a3 (t182 ++ (⟨#[91, 58, 93]⟩ : ByteArray)) t182 1 0 (-1)) else (none)) else (if (Int.tmod a2 6) = 3 then (if t182.size + 1 ≤ 9223372036854775807 then (if (t182 ++ (⟨#[91]⟩ : ByteArray)).size + t184.size ≤ 9223372036854775807 then (if ((t182 ++ (⟨#[91]⟩ : ByteArray)) ++ t184).size + 2 ≤ 9223372036854775807 then (laws_FnAskOf.j0 k a1 a3 (((t182 ++ (⟨#[91]⟩ : ByteArray)) ++ t184) ++ (⟨#[58, 93]⟩ : ByteArray)) t182 1 (wrap64 (a4)) (-1)) else (none)) else (none)) else (none)) else (if (Int.tmod a2 6) = 4 then (if t182.size + 2 ≤ 9223372036854775807 then (if (t182 ++ (⟨#[91, 58]⟩ : ByteArray)).size + t185.size ≤ 9223372036854775807 then (if ((t182 ++ (⟨#[91, 58]⟩ : ByteArray)) ++ t185).size + 1 ≤ 9223372036854775807 then (laws_FnAskOf.j0 k a1 a3 (((t182 ++ (⟨#[91, 58]⟩ : ByteArray)) ++ t185) ++ (⟨#[93]⟩ : ByteArray)) t182 1 0 (wrap64 (a5))) else (none)) else (none)) else (none)) else (if (Int.tmod a2 6) = 5 then (if (Int.tmod a5 2) = 0 then (if t182.size + 1 ≤ 9223372036854775807 then (if (t182 ++ (⟨#[91]⟩ : ByteArray)).size + t184.size ≤ 9223372036854775807 then (if ((t182 ++ (⟨#[91]⟩ : ByteArray)) ++ t184).size + 1 ≤ 9223372036854775807 then (if (((t182 ++ (⟨#[91]⟩ : ByteArray)) ++ t184) ++ (⟨#[58]⟩ : ByteArray)).size + t185.size ≤ 9223372036854775807 then (if ((((t182 ++ (⟨#[91]⟩ : ByteArray)) ++ t184) ++ (⟨#[58]⟩ : ByteArray)) ++ t185).size + 1 ≤ 9223372036854775807 then (laws_FnAskOf.j0 k a1 a3 (((((t182 ++ (⟨#[91]⟩ : ByteArray)) ++ t184) ++ (⟨#[58]⟩ : ByteArray)) ++ t185) ++ (⟨#[93]⟩ : ByteArray)) t182 1 (wrap64 (a4)) (wrap64 (a5))) else (none)) else (none)) else (none)) else (none)) else (none)) else (if t182.size + 1 ≤ 9223372036854775807 then (if (t182 ++ (⟨#[91]⟩ : ByteArray)).size + t184.size ≤ 9223372036854775807 then (if ((t182 ++ (⟨#[91]⟩ : ByteArray)) ++ t184).size + 1 ≤ 9223372036854775807 then (laws_FnAskOf.j0 k a1 a3 (((t182 ++ (⟨#[91]⟩ : ByteArray)) ++ t184) ++ (⟨#[93]⟩ : ByteArray)) t182 1 (wrap64 (a4)) (wrap64 ((wrap64 (a4)) + 1))) else (none)) else (none)) else (none))) else (laws_FnAskOf.j0 k a1 a3 t182 t182 1 0 (-1)))))))))) = some r := h
  clear h
  replace H := Option.bind_eq_some_iff.mp H
  obtain ⟨t182, A70, H⟩ := H
  replace H : ((strconv_Itoa.f (wrap64 (a4))).bind fun t184 => ((strconv_Itoa.f (wrap64 (a5))).bind fun t185 => (if (Int.tmod a2 6) = 1 then (if t182.size + 2 ≤ 9223372036854775807 then (laws_FnAskOf.j0 k a1 a3 (t182 ++ (⟨#[91, 93]⟩ : ByteArray)) t182 1 0 (-1)) else (none)) else (if (Int.tmod a2 6) = 2 then (if t182.size + 3 ≤ 9223372036854775807 then (laws_FnAskOf.j0 k a1 a3 (t182 ++ (⟨#[91, 58, 93]⟩ : ByteArray)) t182 1 0 (-1)) else (none)) else (if (Int.tmod a2 6) = 3 then (if t182.size + 1 ≤ 9223372036854775807 then (if (t182 ++ (⟨#[91]⟩ : ByteArray)).size + t184.size ≤ 9223372036854775807 then (if ((t182 ++ (⟨#[91]⟩ : ByteArray)) ++ t184).size + 2 ≤ 9223372036854775807 then (laws_FnAskOf.j0 k a1 a3 (((t182 ++ (⟨#[91]⟩ : ByteArray)) ++ t184) ++ (⟨#[58, 93]⟩ : ByteArray)) t182 1 (wrap64 (a4)) (-1)) else (none)) else (none)) else (none)) else (if (Int.tmod a2 6) = 4 then (if t182.size + 2 ≤ 9223372036854775807 then (if (t182 ++ (⟨#[91, 58]⟩ : ByteArray)).size + t185.size ≤ 9223372036854775807 then (if ((t182 ++ (⟨#[91, 58]⟩ : ByteArray)) ++ t185).size + 1 ≤ 9223372036854775807 then (laws_FnAskOf.j0 k a1 a3 (((t182 ++ (⟨#[91, 58]⟩ : ByteArray)) ++ t185) ++ (⟨#[93]⟩ : ByteArray)) t182 1 0 (wrap64 (a5))) else (none)) else (none)) else (none)) else (if (Int.tmod a2 6) = 5 then (if (Int.tmod a5 2) = 0 then (if t182.size + 1 ≤ 9223372036854775807 then (if (t182 ++ (⟨#[91]⟩ : ByteArray)).size + t184.size ≤ 9223372036854775807 then (if ((t182 ++ (⟨#[91]⟩ : ByteArray)) ++ t184).size + 1 ≤ 9223372036854775807 then (if (((t182 ++ (⟨#[91]⟩ : ByteArray)) ++ t184) ++ (⟨#[58]⟩ : ByteArray)).size + t185.size ≤ 9223372036854775807 then (if ((((t182 ++ (⟨#[91]⟩ : ByteArray)) ++ t184) ++ (⟨#[58]⟩ : ByteArray)) ++ t185).size + 1 ≤ 9223372036854775807 then (laws_FnAskOf.j0 k a1 a3 (((((t182 ++ (⟨#[91]⟩ : ByteArray)) ++ t184) ++ (⟨#[58]⟩ : ByteArray)) ++ t185) ++ (⟨#[93]⟩ : ByteArray)) t182 1 (wrap64 (a4)) (wrap64 (a5))) else (none)) else (none)) else (none)) else (none)) else (none)) else (if t182.size + 1 ≤ 9223372036854775807 then (if (t182 ++ (⟨#[91]⟩ : ByteArray)).size + t184.size ≤ 9223372036854775807 then (if ((t182 ++ (⟨#[91]⟩ : ByteArray)) ++ t184).size + 1 ≤ 9223372036854775807 then (laws_FnAskOf.j0 k a1 a3 (((t182 ++ (⟨#[91]⟩ : ByteArray)) ++ t184) ++ (⟨#[93]⟩ : ByteArray)) t182 1 (wrap64 (a4)) (wrap64 ((wrap64 (a4)) + 1))) else (none)) else (none)) else (none))) else (laws_FnAskOf.j0 k a1 a3 t182 t182 1 0 (-1))))))))) = some r := H
  have A7 := Aside0.mk A70
  clear A70
  replace H := Option.bind_eq_some_iff.mp H
  obtain ⟨t184, A80, H⟩ := H
  replace H : ((strconv_Itoa.f (wrap64 (a5))).bind fun t185 => (if (Int.tmod a2 6) = 1 then (if t182.size + 2 ≤ 9223372036854775807 then (laws_FnAskOf.j0 k a1 a3 (t182 ++ (⟨#[91, 93]⟩ : ByteArray)) t182 1 0 (-1)) else (none)) else (if (Int.tmod a2 6) = 2 then (if t182.size + 3 ≤ 9223372036854775807 then (laws_FnAskOf.j0 k a1 a3 (t182 ++ (⟨#[91, 58, 93]⟩ : ByteArray)) t182 1 0 (-1)) else (none)) else (if (Int.tmod a2 6) = 3 then (if t182.size + 1 ≤ 9223372036854775807 then (if (t182 ++ (⟨#[91]⟩ : ByteArray)).size + t184.size ≤ 9223372036854775807 then (if ((t182 ++ (⟨#[91]⟩ : ByteArray)) ++ t184).size + 2 ≤ 9223372036854775807 then (laws_FnAskOf.j0 k a1 a3 (((t182 ++ (⟨#[91]⟩ : ByteArray)) ++ t184) ++ (⟨#[58, 93]⟩ : ByteArray)) t182 1 (wrap64 (a4)) (-1)) else (none)) else (none)) else (none)) else (if (Int.tmod a2 6) = 4 then (if t182.size + 2 ≤ 9223372036854775807 then (if (t182 ++ (⟨#[91, 58]⟩ : ByteArray)).size + t185.size ≤ 9223372036854775807 then (if ((t182 ++ (⟨#[91, 58]⟩ : ByteArray)) ++ t185).size + 1 ≤ 9223372036854775807 then (laws_FnAskOf.j0 k a1 a3 (((t182 ++ (⟨#[91, 58]⟩ : ByteArray)) ++ t185) ++ (⟨#[93]⟩ : ByteArray)) t182 1 0 (wrap64 (a5))) else (none)) else (none)) else (none)) else (if (Int.tmod a2 6) = 5 then (if (Int.tmod a5 2) = 0 then (if t182.size + 1 ≤ 9223372036854775807 then (if (t182 ++ (⟨#[91]⟩ : ByteArray)).size + t184.size ≤ 9223372036854775807 then (if ((t182 ++ (⟨#[91]⟩ : ByteArray)) ++ t184).size + 1 ≤ 9223372036854775807 then (if (((t182 ++ (⟨#[91]⟩ : ByteArray)) ++ t184) ++ (⟨#[58]⟩ : ByteArray)).size + t185.size ≤ 9223372036854775807 then (if ((((t182 ++ (⟨#[91]⟩ : ByteArray)) ++ t184) ++ (⟨#[58]⟩ : ByteArray)) ++ t185).size + 1 ≤ 9223372036854775807 then (laws_FnAskOf.j0 k a1 a3 (((((t182 ++ (⟨#[91]⟩ : ByteArray)) ++ t184) ++ (⟨#[58]⟩ : ByteArray)) ++ t185) ++ (⟨#[93]⟩ : ByteArray)) t182 1 (wrap64 (a4)) (wrap64 (a5))) else (none)) else (none)) else (none)) else (none)) else (none)) else (if t182.size + 1 ≤ 9223372036854775807 then (if (t182 ++ (⟨#[91]⟩ : ByteArray)).size + t184.size ≤ 9223372036854775807 then (if ((t182 ++ (⟨#[91]⟩ : ByteArray)) ++ t184).size + 1 ≤ 9223372036854775807 then (laws_FnAskOf.j0 k a1 a3 (((t182 ++ (⟨#[91]⟩ : ByteArray)) ++ t184) ++ (⟨#[93]⟩ : ByteArray)) t182 1 (wrap64 (a4)) (wrap64 ((wrap64 (a4)) + 1))) else (none)) else (none)) else (none))) else (laws_FnAskOf.j0 k a1 a3 t182 t182 1 0 (-1)))))))) = some r := H
  have A8 := Aside0.mk A80
  clear A80
  replace H := Option.bind_eq_some_iff.mp H
  obtain ⟨t185, A90, H⟩ := H
  replace H : (if (Int.tmod a2 6) = 1 then (if t182.size + 2 ≤ 9223372036854775807 then (laws_FnAskOf.j0 k a1 a3 (t182 ++ (⟨#[91, 93]⟩ : ByteArray)) t182 1 0 (-1)) else (none)) else (if (Int.tmod a2 6) = 2 then (if t182.size + 3 ≤ 9223372036854775807 then (laws_FnAskOf.j0 k a1 a3 (t182 ++ (⟨#[91, 58, 93]⟩ : ByteArray)) t182 1 0 (-1)) else (none)) else (if (Int.tmod a2 6) = 3 then (if t182.size + 1 ≤ 9223372036854775807 then (if (t182 ++ (⟨#[91]⟩ : ByteArray)).size + t184.size ≤ 9223372036854775807 then (if ((t182 ++ (⟨#[91]⟩ : ByteArray)) ++ t184).size + 2 ≤ 9223372036854775807 then (laws_FnAskOf.j0 k a1 a3 (((t182 ++ (⟨#[91]⟩ : ByteArray)) ++ t184) ++ (⟨#[58, 93]⟩ : ByteArray)) t182 1 (wrap64 (a4)) (-1)) else (none)) else (none)) else (none)) else (if (Int.tmod a2 6) = 4 then (if t182.size + 2 ≤ 9223372036854775807 then (if (t182 ++ (⟨#[91, 58]⟩ : ByteArray)).size + t185.size ≤ 9223372036854775807 then (if ((t182 ++ (⟨#[91, 58]⟩ : ByteArray)) ++ t185).size + 1 ≤ 9223372036854775807 then (laws_FnAskOf.j0 k a1 a3 (((t182 ++ (⟨#[91, 58]⟩ : ByteArray)) ++ t185) ++ (⟨#[93]⟩ : ByteArray)) t182 1 0 (wrap64 (a5))) else (none)) else (none)) else (none)) else (if (Int.tmod a2 6) = 5 then (if (Int.tmod a5 2) = 0 then (if t182.size + 1 ≤ 9223372036854775807 then (if (t182 ++ (⟨#[91]⟩ : ByteArray)).size + t184.size ≤ 9223372036854775807 then (if ((t182 ++ (⟨#[91]⟩ : ByteArray)) ++ t184).size + 1 ≤ 9223372036854775807 then (if (((t182 ++ (⟨#[91]⟩ : ByteArray)) ++ t184) ++ (⟨#[58]⟩ : ByteArray)).size + t185.size ≤ 9223372036854775807 then (if ((((t182 ++ (⟨#[91]⟩ : ByteArray)) ++ t184) ++ (⟨#[58]⟩ : ByteArray)) ++ t185).size + 1 ≤ 9223372036854775807 then (laws_FnAskOf.j0 k a1 a3 (((((t182 ++ (⟨#[91]⟩ : ByteArray)) ++ t184) ++ (⟨#[58]⟩ : ByteArray)) ++ t185) ++ (⟨#[93]⟩ : ByteArray)) t182 1 (wrap64 (a4)) (wrap64 (a5))) else (none)) else (none)) else (none)) else (none)) else (none)) else (if t182.size + 1 ≤ 9223372036854775807 then (if (t182 ++ (⟨#[91]⟩ : ByteArray)).size + t184.size ≤ 9223372036854775807 then (if ((t182 ++ (⟨#[91]⟩ : ByteArray)) ++ t184).size + 1 ≤ 9223372036854775807 then (laws_FnAskOf.j0 k a1 a3 (((t182 ++ (⟨#[91]⟩ : ByteArray)) ++ t184) ++ (⟨#[93]⟩ : ByteArray)) t182 1 (wrap64 (a4)) (wrap64 ((wrap64 (a4)) + 1))) else (none)) else (none)) else (none))) else (laws_FnAskOf.j0 k a1 a3 t182 t182 1 0 (-1))))))) = some r := H
  have A9 := Aside0.mk A90
  clear A90
  have HC10 := Aside0.mk H
  clear H
  go_enter Tryd.func4, Tryd.ntmps4
  go_upto_block 0 with (first | ((with_reducible refine gate_callee (f := 5) rfl ?_); refine goesL_ (some 20) rfl rfl Tryd.func5 (by kernel_rfl) rfl #[.int .u32 a0] rfl (by (try simp only [List.map_toArray, List.map_cons, List.map_nil]); first | done | rfl | (simp only [List.length_drop, List.length_take]; rfl)) ?_; (with_reducible refine (laws_askTag.calls k a0 t182 _ A7.out).mono ?_); rintro e w11 ⟨rfl, hb⟩; refine ⟨_, rfl, ?_⟩; have n0_ := Aside0.mk (below_step (by repeat (first | (with_reducible first | exact HB.out | apply below_alloc | apply pw_below_drewN | apply below_drew1) | exact HB.out)) hb); clear HB; have HB := n0_; clear n0_; (try clear hb); (try clear hb2); (try clear hk); (try clear hi)) | ((with_reducible refine gate_dst (N := 14) rfl ?_); refine box_event ?hg (N := 14) ?hd (cs := #[.string (⟨#[]⟩ : ByteArray), .int .u32 0, .int .i64 0, .int .i64 0]) (t := 28) ?hr ?_; (case hd => rfl); (case hg => rfl); (case hr => first | (go_simp; done) | (go_simp; rfl)); intro gb183 hg w12 hbox hb; have n0_ := Aside0.mk (below_step (by repeat (first | (with_reducible first | exact HB.out | apply below_alloc | apply pw_below_drewN | apply below_drew1) | exact HB.out)) hb); have n1_ := Aside0.mk (hbox); have n2_ := Aside0.mk ((by rw [hg]; exact (below_size (by repeat (first | (with_reducible first | exact HB.out | apply below_alloc | apply pw_below_drewN | apply below_drew1) | exact HB.out))) : w.heap.size ≤ gb183)); have n3_ := Aside0.mk ((by rw [hg]; exact (below_size (by repeat (first | (with_reducible first | exact HB.out | apply below_alloc | apply pw_below_drewN | apply below_drew1) | exact HB.out))) : w.heap.size ≤ gb183)); clear HB; have HB := n0_; have BK183 := n1_; have GW183 := n2_; have GE183 := n3_; clear n0_ n1_ n2_ n3_; clear hb hbox hg; have hcz13_0 : w12.cell? ⟨gb183, 0, none⟩ = some (.string (⟨#[]⟩ : ByteArray)) := (blk_cell BK183.out 0).trans rfl; have hcz13_1 : w12.cell? ⟨gb183, 1, none⟩ = some (.int .u32 0) := (blk_cell BK183.out 1).trans rfl; have hcz13_2 : w12.cell? ⟨gb183, 2, none⟩ = some (.int .i64 0) := (blk_cell BK183.out 2).trans rfl; have hcz13_3 : w12.cell? ⟨gb183, 3, none⟩ = some (.int .i64 0) := (blk_cell BK183.out 3).trans rfl; have hfz13_0 := blk_frozen BK183.out 0; have hfz13_1 := blk_frozen BK183.out 1; have hfz13_2 := blk_frozen BK183.out 2; have hfz13_3 := blk_frozen BK183.out 3) | ((with_reducible refine gate_callee (f := 6) rfl ?_); refine goesL_ (some 25) rfl rfl Tryd.func6 (by kernel_rfl) rfl #[.int .i64 (wrap64 (a4))] rfl (by (try simp only [List.map_toArray, List.map_cons, List.map_nil]); first | done | rfl | (simp only [List.length_drop, List.length_take]; rfl)) ?_; (with_reducible refine (strconv_Itoa.calls (wrap64 (a4)) t184 _ A8.out (tab_below GG (by repeat (first | (with_reducible first | exact HB.out | apply below_alloc | apply pw_below_drewN | apply below_drew1 | refine below_set ?_ GE183.out | refine below_set ?_ GE191.out | refine below_set ?_ GE197.out | refine below_set ?_ GE204.out | refine below_set ?_ GE210.out) | exact HB.out)))).mono ?_); rintro e w14 ⟨rfl, hb⟩; refine ⟨_, rfl, ?_⟩; have n0_ := Aside0.mk (blk_below (g := gb183) (o := .cells #[.string t182, .int .u32 1, .int .i64 0, .int .i64 (-1)] 28 (0, 0)) (by (with_reducible repeat (first | refine blk_drewN ?_ _ | refine blk_drew ?_ | refine blk_alloc ?_ _)); refine blk_put (cs := #[.string t182, .int .u32 1, .int .i64 0, .int .i64 0]) ?_ 3 _ rfl; (with_reducible repeat (first | refine blk_drewN ?_ _ | refine blk_drew ?_ | refine blk_alloc ?_ _)); refine blk_put (cs := #[.string t182, .int .u32 1, .int .i64 0, .int .i64 0]) ?_ 2 _ rfl; (with_reducible repeat (first | refine blk_drewN ?_ _ | refine blk_drew ?_ | refine blk_alloc ?_ _)); refine blk_put (cs := #[.string t182, .int .u32 0, .int .i64 0, .int .i64 0]) ?_ 1 _ rfl; (with_reducible repeat (first | refine blk_drewN ?_ _ | refine blk_drew ?_ | refine blk_alloc ?_ _)); refine blk_put (cs := #[.string (⟨#[]⟩ : ByteArray), .int .u32 0, .int .i64 0, .int .i64 0]) ?_ 0 _ rfl; (with_reducible repeat (first | refine blk_drewN ?_ _ | refine blk_drew ?_ | refine blk_alloc ?_ _)); exact BK183.out) hb); have n1_ := Aside0.mk (below_step (by repeat (first | (with_reducible first | exact HB.out | apply below_alloc | apply pw_below_drewN | apply below_drew1 | refine below_set ?_ GE183.out) | exact HB.out)) hb); clear BK183; clear HB; have BK183 := n0_; have HB := n1_; clear n0_ n1_; (try clear hb); (try clear hb2); (try clear hk); (try clear hi)) | ((with_reducible refine gate_callee (f := 6) rfl ?_); refine goesL_ (some 28) rfl rfl Tryd.func6 (by kernel_rfl) rfl #[.int .i64 (wrap64 (a5))] rfl (by (try simp only [List.map_toArray, List.map_cons, List.map_nil]); first | done | rfl | (simp only [List.length_drop, List.length_take]; rfl)) ?_; (with_reducible refine (strconv_Itoa.calls (wrap64 (a5)) t185 _ A9.out (tab_below GG (by repeat (first | (with_reducible first | exact HB.out | apply below_alloc | apply pw_below_drewN | apply below_drew1 | refine below_set ?_ GE183.out | refine below_set ?_ GE191.out | refine below_set ?_ GE197.out | refine below_set ?_ GE204.out | refine below_set ?_ GE210.out) | exact HB.out)))).mono ?_); rintro e w15 ⟨rfl, hb⟩; refine ⟨_, rfl, ?_⟩; have n0_ := Aside0.mk (blk_below (g := gb183) (o := .cells #[.string t182, .int .u32 1, .int .i64 0, .int .i64 (-1)] 28 (0, 0)) (by (with_reducible repeat (first | refine blk_drewN ?_ _ | refine blk_drew ?_ | refine blk_alloc ?_ _)); exact BK183.out) hb); have n1_ := Aside0.mk (below_step (by repeat (first | (with_reducible first | exact HB.out | apply below_alloc | apply pw_below_drewN | apply below_drew1 | refine below_set ?_ GE183.out) | exact HB.out)) hb); clear BK183; clear HB; have BK183 := n0_; have HB := n1_; clear n0_ n1_; (try clear hb); (try clear hb2); (try clear hk); (try clear hi)))
  (try simp only [Act.put, List.setIfInBounds_toArray, List.set_cons_zero, List.set_cons_succ])
  go_cut [13] (fun v13 wc => ∃ (kq : Nat) (x13_9 : ByteArray) (x184002_9 : Int) (x184003_9 : Int), v13 = .string x13_9 ∧ Aside0 (laws_FnAskOf.j0 kq a1 a3 x13_9 t182 1 x184002_9 x184003_9 = some r) ∧ Aside0 (kq ≤ k) ∧ Aside0 (wc.heap[gb183]? = some (.cells #[.string t182, .int .u32 1, .int .i64 x184002_9, .int .i64 x184003_9] 28 (0, 0))) ∧ Aside0 (Below w.heap.size w wc))
  case first =>
    have H := HC10.out
    clear HC10
    by_cases c16 : (Int.tmod a2 6) = 1
    · rw [if_pos c16] at H
      have c16b0 : ((Int.tmod a2 6) == 1) = true := beq_iff_eq.mpr c16
      have c16b1 : ((Int.tmod a2 6) != 1) = false := bne_eq_false_iff_eq.mpr c16
      clear c16
      (first | rw [c16b0] | (simp only [i64_w, i32_w]; rw [c16b0]) | skip)
      by_cases c17 : t182.size + 2 ≤ 9223372036854775807
      · rw [if_pos c17] at H
        have c17b0 := eq_true c17
        have c17b1 : decide (t182.size + 2 ≤ 9223372036854775807) = true := decide_eq_true c17
        try have c17b2 : (9223372036854775807 < t182.size + 2) = False := eq_false (Nat.not_lt.2 c17)
        have H' := Aside0.mk H
        clear H
        go_wp2
        go_meet
        case rel => exact ⟨_, (t182 ++ (⟨#[91, 93]⟩ : ByteArray)), (0), ((-1)), (by first | rfl | (simp; done) | (simp [*]; done)), H', ⟨by first | omega | exact Nat.le_refl _⟩, ⟨by (with_reducible repeat (first | refine blk_drewN ?_ _ | refine blk_drew ?_ | refine blk_alloc ?_ _)); exact BK183.out⟩, ⟨by repeat (first | (with_reducible first | exact HB.out | apply below_alloc | apply pw_below_drewN | apply below_drew1 | refine below_set ?_ GE183.out) | exact HB.out)⟩⟩
      · rw [if_neg c17] at H
        exact absurd H (by simp)
    · rw [if_neg c16] at H
      have c16b0 : ((Int.tmod a2 6) == 1) = false := beq_eq_false_iff_ne.mpr c16
      have c16b1 : ((Int.tmod a2 6) != 1) = true := bne_iff_ne.mpr c16
      (first | rw [c16b0] | (simp only [i64_w, i32_w]; rw [c16b0]) | skip)
      by_cases c18 : (Int.tmod a2 6) = 2
      · rw [if_pos c18] at H
        have c18b0 : ((Int.tmod a2 6) == 2) = true := beq_iff_eq.mpr c18
        have c18b1 : ((Int.tmod a2 6) != 2) = false := bne_eq_false_iff_eq.mpr c18
        clear c18
        by_cases c19 : t182.size + 3 ≤ 9223372036854775807
        · rw [if_pos c19] at H
          have c19b0 := eq_true c19
          have c19b1 : decide (t182.size + 3 ≤ 9223372036854775807) = true := decide_eq_true c19
          try have c19b2 : (9223372036854775807 < t182.size + 3) = False := eq_false (Nat.not_lt.2 c19)
          have H' := Aside0.mk H
          clear H
          go_wp2
          go_meet
          case rel => exact ⟨_, (t182 ++ (⟨#[91, 58, 93]⟩ : ByteArray)), (0), ((-1)), (by first | rfl | (simp; done) | (simp [*]; done)), H', ⟨by first | omega | exact Nat.le_refl _⟩, ⟨by (with_reducible repeat (first | refine blk_drewN ?_ _ | refine blk_drew ?_ | refine blk_alloc ?_ _)); exact BK183.out⟩, ⟨by repeat (first | (with_reducible first | exact HB.out | apply below_alloc | apply pw_below_drewN | apply below_drew1 | refine below_set ?_ GE183.out) | exact HB.out)⟩⟩
        · rw [if_neg c19] at H
          exact absurd H (by simp)
      · rw [if_neg c18] at H
        have c18b0 : ((Int.tmod a2 6) == 2) = false := beq_eq_false_iff_ne.mpr c18
        have c18b1 : ((Int.tmod a2 6) != 2) = true := bne_iff_ne.mpr c18
        by_cases c20 : (Int.tmod a2 6) = 3
        · rw [if_pos c20] at H
          have c20b0 : ((Int.tmod a2 6) == 3) = true := beq_iff_eq.mpr c20
          have c20b1 : ((Int.tmod a2 6) != 3) = false := bne_eq_false_iff_eq.mpr c20
          clear c20
          by_cases c21 : t182.size + 1 ≤ 9223372036854775807
          · rw [if_pos c21] at H
            have c21b0 := eq_true c21
            have c21b1 : decide (t182.size + 1 ≤ 9223372036854775807) = true := decide_eq_true c21
            try have c21b2 : (9223372036854775807 < t182.size + 1) = False := eq_false (Nat.not_lt.2 c21)
            by_cases c22 : (t182 ++ (⟨#[91]⟩ : ByteArray)).size + t184.size ≤ 9223372036854775807
            · rw [if_pos c22] at H
              have c22b0 := eq_true c22
              have c22b1 : decide ((t182 ++ (⟨#[91]⟩ : ByteArray)).size + t184.size ≤ 9223372036854775807) = true := decide_eq_true c22
              try have c22b2 : (9223372036854775807 < (t182 ++ (⟨#[91]⟩ : ByteArray)).size + t184.size) = False := eq_false (Nat.not_lt.2 c22)
              have c22_sz : (9223372036854775807 < t182.size + 1 + t184.size) = False := eq_false (by have q := c22; simp only [ByteArray.size_append] at q; (try simp only [c_sz, List.size_toArray, List.length_cons, List.length_nil] at q); omega)
              by_cases c23 : ((t182 ++ (⟨#[91]⟩ : ByteArray)) ++ t184).size + 2 ≤ 9223372036854775807
              · rw [if_pos c23] at H
                have c23b0 := eq_true c23
                have c23b1 : decide (((t182 ++ (⟨#[91]⟩ : ByteArray)) ++ t184).size + 2 ≤ 9223372036854775807) = true := decide_eq_true c23
                try have c23b2 : (9223372036854775807 < ((t182 ++ (⟨#[91]⟩ : ByteArray)) ++ t184).size + 2) = False := eq_false (Nat.not_lt.2 c23)
                have c23_sz : (9223372036854775807 < t182.size + 1 + t184.size + 2) = False := eq_false (by have q := c23; simp only [ByteArray.size_append] at q; (try simp only [c_sz, List.size_toArray, List.length_cons, List.length_nil] at q); omega)
                have H' := Aside0.mk H
                clear H
                have hcz24_0 : w15.cell? ⟨gb183, 0, none⟩ = some (.string t182) := (blk_cell BK183.out 0).trans rfl
                have hcz24_1 : w15.cell? ⟨gb183, 1, none⟩ = some (.int .u32 1) := (blk_cell BK183.out 1).trans rfl
                have hcz24_2 : w15.cell? ⟨gb183, 2, none⟩ = some (.int .i64 0) := (blk_cell BK183.out 2).trans rfl
                have hcz24_3 : w15.cell? ⟨gb183, 3, none⟩ = some (.int .i64 (-1)) := (blk_cell BK183.out 3).trans rfl
                have hfz24_0 := blk_frozen BK183.out 0
                have hfz24_1 := blk_frozen BK183.out 1
                have hfz24_2 := blk_frozen BK183.out 2
                have hfz24_3 := blk_frozen BK183.out 3
                go_wp2
                go_meet
                case rel => exact ⟨_, (((t182 ++ (⟨#[91]⟩ : ByteArray)) ++ t184) ++ (⟨#[58, 93]⟩ : ByteArray)), (wrap64 (a4)), ((-1)), (by first | rfl | (simp; done) | (simp [*]; done)), H', ⟨by first | omega | exact Nat.le_refl _⟩, ⟨by (with_reducible repeat (first | refine blk_drewN ?_ _ | refine blk_drew ?_ | refine blk_alloc ?_ _)); refine blk_put (cs := #[.string t182, .int .u32 1, .int .i64 0, .int .i64 (-1)]) ?_ 2 _ rfl; (with_reducible repeat (first | refine blk_drewN ?_ _ | refine blk_drew ?_ | refine blk_alloc ?_ _)); exact BK183.out⟩, ⟨by repeat (first | (with_reducible first | exact HB.out | apply below_alloc | apply pw_below_drewN | apply below_drew1 | refine below_set ?_ GE183.out) | exact HB.out)⟩⟩
              · rw [if_neg c23] at H
                exact absurd H (by simp)
            · rw [if_neg c22] at H
              exact absurd H (by simp)
          · rw [if_neg c21] at H
            exact absurd H (by simp)
        · rw [if_neg c20] at H
          have c20b0 : ((Int.tmod a2 6) == 3) = false := beq_eq_false_iff_ne.mpr c20
          have c20b1 : ((Int.tmod a2 6) != 3) = true := bne_iff_ne.mpr c20
          by_cases c25 : (Int.tmod a2 6) = 4
          · rw [if_pos c25] at H
            have c25b0 : ((Int.tmod a2 6) == 4) = true := beq_iff_eq.mpr c25
            have c25b1 : ((Int.tmod a2 6) != 4) = false := bne_eq_false_iff_eq.mpr c25
            clear c25
            by_cases c26 : t182.size + 2 ≤ 9223372036854775807
            · rw [if_pos c26] at H
              have c26b0 := eq_true c26
              have c26b1 : decide (t182.size + 2 ≤ 9223372036854775807) = true := decide_eq_true c26
              try have c26b2 : (9223372036854775807 < t182.size + 2) = False := eq_false (Nat.not_lt.2 c26)
              by_cases c27 : (t182 ++ (⟨#[91, 58]⟩ : ByteArray)).size + t185.size ≤ 9223372036854775807
              · rw [if_pos c27] at H
                have c27b0 := eq_true c27
                have c27b1 : decide ((t182 ++ (⟨#[91, 58]⟩ : ByteArray)).size + t185.size ≤ 9223372036854775807) = true := decide_eq_true c27
                try have c27b2 : (9223372036854775807 < (t182 ++ (⟨#[91, 58]⟩ : ByteArray)).size + t185.size) = False := eq_false (Nat.not_lt.2 c27)
                have c27_sz : (9223372036854775807 < t182.size + 2 + t185.size) = False := eq_false (by have q := c27; simp only [ByteArray.size_append] at q; (try simp only [c_sz, List.size_toArray, List.length_cons, List.length_nil] at q); omega)
                by_cases c28 : ((t182 ++ (⟨#[91, 58]⟩ : ByteArray)) ++ t185).size + 1 ≤ 9223372036854775807
                · rw [if_pos c28] at H
                  have c28b0 := eq_true c28
                  have c28b1 : decide (((t182 ++ (⟨#[91, 58]⟩ : ByteArray)) ++ t185).size + 1 ≤ 9223372036854775807) = true := decide_eq_true c28
                  try have c28b2 : (9223372036854775807 < ((t182 ++ (⟨#[91, 58]⟩ : ByteArray)) ++ t185).size + 1) = False := eq_false (Nat.not_lt.2 c28)
                  have c28_sz : (9223372036854775807 < t182.size + 2 + t185.size + 1) = False := eq_false (by have q := c28; simp only [ByteArray.size_append] at q; (try simp only [c_sz, List.size_toArray, List.length_cons, List.length_nil] at q); omega)
                  have H' := Aside0.mk H
                  clear H
                  have hcz29_0 : w15.cell? ⟨gb183, 0, none⟩ = some (.string t182) := (blk_cell BK183.out 0).trans rfl
                  have hcz29_1 : w15.cell? ⟨gb183, 1, none⟩ = some (.int .u32 1) := (blk_cell BK183.out 1).trans rfl
                  have hcz29_2 : w15.cell? ⟨gb183, 2, none⟩ = some (.int .i64 0) := (blk_cell BK183.out 2).trans rfl
                  have hcz29_3 : w15.cell? ⟨gb183, 3, none⟩ = some (.int .i64 (-1)) := (blk_cell BK183.out 3).trans rfl
                  have hfz29_0 := blk_frozen BK183.out 0
                  have hfz29_1 := blk_frozen BK183.out 1
                  have hfz29_2 := blk_frozen BK183.out 2
                  have hfz29_3 := blk_frozen BK183.out 3
                  go_wp2
                  go_meet
                  case rel => exact ⟨_, (((t182 ++ (⟨#[91, 58]⟩ : ByteArray)) ++ t185) ++ (⟨#[93]⟩ : ByteArray)), (0), (wrap64 (a5)), (by first | rfl | (simp; done) | (simp [*]; done)), H', ⟨by first | omega | exact Nat.le_refl _⟩, ⟨by (with_reducible repeat (first | refine blk_drewN ?_ _ | refine blk_drew ?_ | refine blk_alloc ?_ _)); refine blk_put (cs := #[.string t182, .int .u32 1, .int .i64 0, .int .i64 (-1)]) ?_ 3 _ rfl; (with_reducible repeat (first | refine blk_drewN ?_ _ | refine blk_drew ?_ | refine blk_alloc ?_ _)); exact BK183.out⟩, ⟨by repeat (first | (with_reducible first | exact HB.out | apply below_alloc | apply pw_below_drewN | apply below_drew1 | refine below_set ?_ GE183.out) | exact HB.out)⟩⟩
                · rw [if_neg c28] at H
                  exact absurd H (by simp)
              · rw [if_neg c27] at H
                exact absurd H (by simp)
            · rw [if_neg c26] at H
              exact absurd H (by simp)
          · rw [if_neg c25] at H
            have c25b0 : ((Int.tmod a2 6) == 4) = false := beq_eq_false_iff_ne.mpr c25
            have c25b1 : ((Int.tmod a2 6) != 4) = true := bne_iff_ne.mpr c25
            by_cases c30 : (Int.tmod a2 6) = 5
            · rw [if_pos c30] at H
              have c30b0 : ((Int.tmod a2 6) == 5) = true := beq_iff_eq.mpr c30
              have c30b1 : ((Int.tmod a2 6) != 5) = false := bne_eq_false_iff_eq.mpr c30
              clear c30
              by_cases c31 : (Int.tmod a5 2) = 0
              · rw [if_pos c31] at H
                have c31b0 : ((Int.tmod a5 2) == 0) = true := beq_iff_eq.mpr c31
                have c31b1 : ((Int.tmod a5 2) != 0) = false := bne_eq_false_iff_eq.mpr c31
                clear c31
                by_cases c32 : t182.size + 1 ≤ 9223372036854775807
                · rw [if_pos c32] at H
                  have c32b0 := eq_true c32
                  have c32b1 : decide (t182.size + 1 ≤ 9223372036854775807) = true := decide_eq_true c32
                  try have c32b2 : (9223372036854775807 < t182.size + 1) = False := eq_false (Nat.not_lt.2 c32)
                  by_cases c33 : (t182 ++ (⟨#[91]⟩ : ByteArray)).size + t184.size ≤ 9223372036854775807
                  · rw [if_pos c33] at H
                    have c33b0 := eq_true c33
                    have c33b1 : decide ((t182 ++ (⟨#[91]⟩ : ByteArray)).size + t184.size ≤ 9223372036854775807) = true := decide_eq_true c33
                    try have c33b2 : (9223372036854775807 < (t182 ++ (⟨#[91]⟩ : ByteArray)).size + t184.size) = False := eq_false (Nat.not_lt.2 c33)
                    have c33_sz : (9223372036854775807 < t182.size + 1 + t184.size) = False := eq_false (by have q := c33; simp only [ByteArray.size_append] at q; (try simp only [c_sz, List.size_toArray, List.length_cons, List.length_nil] at q); omega)
                    by_cases c34 : ((t182 ++ (⟨#[91]⟩ : ByteArray)) ++ t184).size + 1 ≤ 9223372036854775807
                    · rw [if_pos c34] at H
                      have c34b0 := eq_true c34
                      have c34b1 : decide (((t182 ++ (⟨#[91]⟩ : ByteArray)) ++ t184).size + 1 ≤ 9223372036854775807) = true := decide_eq_true c34
                      try have c34b2 : (9223372036854775807 < ((t182 ++ (⟨#[91]⟩ : ByteArray)) ++ t184).size + 1) = False := eq_false (Nat.not_lt.2 c34)
                      have c34_sz : (9223372036854775807 < t182.size + 1 + t184.size + 1) = False := eq_false (by have q := c34; simp only [ByteArray.size_append] at q; (try simp only [c_sz, List.size_toArray, List.length_cons, List.length_nil] at q); omega)
                      by_cases c35 : (((t182 ++ (⟨#[91]⟩ : ByteArray)) ++ t184) ++ (⟨#[58]⟩ : ByteArray)).size + t185.size ≤ 9223372036854775807
                      · rw [if_pos c35] at H
                        have c35b0 := eq_true c35
                        have c35b1 : decide ((((t182 ++ (⟨#[91]⟩ : ByteArray)) ++ t184) ++ (⟨#[58]⟩ : ByteArray)).size + t185.size ≤ 9223372036854775807) = true := decide_eq_true c35
                        try have c35b2 : (9223372036854775807 < (((t182 ++ (⟨#[91]⟩ : ByteArray)) ++ t184) ++ (⟨#[58]⟩ : ByteArray)).size + t185.size) = False := eq_false (Nat.not_lt.2 c35)
                        have c35_sz : (9223372036854775807 < t182.size + 1 + t184.size + 1 + t185.size) = False := eq_false (by have q := c35; simp only [ByteArray.size_append] at q; (try simp only [c_sz, List.size_toArray, List.length_cons, List.length_nil] at q); omega)
                        by_cases c36 : ((((t182 ++ (⟨#[91]⟩ : ByteArray)) ++ t184) ++ (⟨#[58]⟩ : ByteArray)) ++ t185).size + 1 ≤ 9223372036854775807
                        · rw [if_pos c36] at H
                          have c36b0 := eq_true c36
                          have c36b1 : decide (((((t182 ++ (⟨#[91]⟩ : ByteArray)) ++ t184) ++ (⟨#[58]⟩ : ByteArray)) ++ t185).size + 1 ≤ 9223372036854775807) = true := decide_eq_true c36
                          try have c36b2 : (9223372036854775807 < ((((t182 ++ (⟨#[91]⟩ : ByteArray)) ++ t184) ++ (⟨#[58]⟩ : ByteArray)) ++ t185).size + 1) = False := eq_false (Nat.not_lt.2 c36)
                          have c36_sz : (9223372036854775807 < t182.size + 1 + t184.size + 1 + t185.size + 1) = False := eq_false (by have q := c36; simp only [ByteArray.size_append] at q; (try simp only [c_sz, List.size_toArray, List.length_cons, List.length_nil] at q); omega)
                          have H' := Aside0.mk H
                          clear H
                          have hcz37_0 : w15.cell? ⟨gb183, 0, none⟩ = some (.string t182) := (blk_cell BK183.out 0).trans rfl
                          have hcz37_1 : w15.cell? ⟨gb183, 1, none⟩ = some (.int .u32 1) := (blk_cell BK183.out 1).trans rfl
                          have hcz37_2 : w15.cell? ⟨gb183, 2, none⟩ = some (.int .i64 0) := (blk_cell BK183.out 2).trans rfl
                          have hcz37_3 : w15.cell? ⟨gb183, 3, none⟩ = some (.int .i64 (-1)) := (blk_cell BK183.out 3).trans rfl
                          have hfz37_0 := blk_frozen BK183.out 0
                          have hfz37_1 := blk_frozen BK183.out 1
                          have hfz37_2 := blk_frozen BK183.out 2
                          have hfz37_3 := blk_frozen BK183.out 3
                          go_wp2
                          go_meet
                          case rel => exact ⟨_, (((((t182 ++ (⟨#[91]⟩ : ByteArray)) ++ t184) ++ (⟨#[58]⟩ : ByteArray)) ++ t185) ++ (⟨#[93]⟩ : ByteArray)), (wrap64 (a4)), (wrap64 (a5)), (by first | rfl | (simp; done) | (simp [*]; done)), H', ⟨by first | omega | exact Nat.le_refl _⟩, ⟨by (with_reducible repeat (first | refine blk_drewN ?_ _ | refine blk_drew ?_ | refine blk_alloc ?_ _)); refine blk_put (cs := #[.string t182, .int .u32 1, .int .i64 (wrap64 (a4)), .int .i64 (-1)]) ?_ 3 _ rfl; (with_reducible repeat (first | refine blk_drewN ?_ _ | refine blk_drew ?_ | refine blk_alloc ?_ _)); refine blk_put (cs := #[.string t182, .int .u32 1, .int .i64 0, .int .i64 (-1)]) ?_ 2 _ rfl; (with_reducible repeat (first | refine blk_drewN ?_ _ | refine blk_drew ?_ | refine blk_alloc ?_ _)); exact BK183.out⟩, ⟨by repeat (first | (with_reducible first | exact HB.out | apply below_alloc | apply pw_below_drewN | apply below_drew1 | refine below_set ?_ GE183.out) | exact HB.out)⟩⟩
                        · rw [if_neg c36] at H
                          exact absurd H (by simp)
                      · rw [if_neg c35] at H
                        exact absurd H (by simp)
                    · rw [if_neg c34] at H
                      exact absurd H (by simp)
                  · rw [if_neg c33] at H
                    exact absurd H (by simp)
                · rw [if_neg c32] at H
                  exact absurd H (by simp)
              · rw [if_neg c31] at H
                have c31b0 : ((Int.tmod a5 2) == 0) = false := beq_eq_false_iff_ne.mpr c31
                have c31b1 : ((Int.tmod a5 2) != 0) = true := bne_iff_ne.mpr c31
                by_cases c38 : t182.size + 1 ≤ 9223372036854775807
                · rw [if_pos c38] at H
                  have c38b0 := eq_true c38
                  have c38b1 : decide (t182.size + 1 ≤ 9223372036854775807) = true := decide_eq_true c38
                  try have c38b2 : (9223372036854775807 < t182.size + 1) = False := eq_false (Nat.not_lt.2 c38)
                  by_cases c39 : (t182 ++ (⟨#[91]⟩ : ByteArray)).size + t184.size ≤ 9223372036854775807
                  · rw [if_pos c39] at H
                    have c39b0 := eq_true c39
                    have c39b1 : decide ((t182 ++ (⟨#[91]⟩ : ByteArray)).size + t184.size ≤ 9223372036854775807) = true := decide_eq_true c39
                    try have c39b2 : (9223372036854775807 < (t182 ++ (⟨#[91]⟩ : ByteArray)).size + t184.size) = False := eq_false (Nat.not_lt.2 c39)
                    have c39_sz : (9223372036854775807 < t182.size + 1 + t184.size) = False := eq_false (by have q := c39; simp only [ByteArray.size_append] at q; (try simp only [c_sz, List.size_toArray, List.length_cons, List.length_nil] at q); omega)
                    by_cases c40 : ((t182 ++ (⟨#[91]⟩ : ByteArray)) ++ t184).size + 1 ≤ 9223372036854775807
                    · rw [if_pos c40] at H
                      have c40b0 := eq_true c40
                      have c40b1 : decide (((t182 ++ (⟨#[91]⟩ : ByteArray)) ++ t184).size + 1 ≤ 9223372036854775807) = true := decide_eq_true c40
                      try have c40b2 : (9223372036854775807 < ((t182 ++ (⟨#[91]⟩ : ByteArray)) ++ t184).size + 1) = False := eq_false (Nat.not_lt.2 c40)
                      have c40_sz : (9223372036854775807 < t182.size + 1 + t184.size + 1) = False := eq_false (by have q := c40; simp only [ByteArray.size_append] at q; (try simp only [c_sz, List.size_toArray, List.length_cons, List.length_nil] at q); omega)
                      have H' := Aside0.mk H
                      clear H
                      have hcz41_0 : w15.cell? ⟨gb183, 0, none⟩ = some (.string t182) := (blk_cell BK183.out 0).trans rfl
                      have hcz41_1 : w15.cell? ⟨gb183, 1, none⟩ = some (.int .u32 1) := (blk_cell BK183.out 1).trans rfl
                      have hcz41_2 : w15.cell? ⟨gb183, 2, none⟩ = some (.int .i64 0) := (blk_cell BK183.out 2).trans rfl
                      have hcz41_3 : w15.cell? ⟨gb183, 3, none⟩ = some (.int .i64 (-1)) := (blk_cell BK183.out 3).trans rfl
                      have hfz41_0 := blk_frozen BK183.out 0
                      have hfz41_1 := blk_frozen BK183.out 1
                      have hfz41_2 := blk_frozen BK183.out 2
                      have hfz41_3 := blk_frozen BK183.out 3
                      go_wp2
                      go_meet
                      case rel => exact ⟨_, (((t182 ++ (⟨#[91]⟩ : ByteArray)) ++ t184) ++ (⟨#[93]⟩ : ByteArray)), (wrap64 (a4)), (wrap64 ((wrap64 (a4)) + 1)), (by first | rfl | (simp; done) | (simp [*]; done)), H', ⟨by first | omega | exact Nat.le_refl _⟩, ⟨by (with_reducible repeat (first | refine blk_drewN ?_ _ | refine blk_drew ?_ | refine blk_alloc ?_ _)); refine blk_put (cs := #[.string t182, .int .u32 1, .int .i64 (wrap64 (a4)), .int .i64 (-1)]) ?_ 3 _ rfl; (with_reducible repeat (first | refine blk_drewN ?_ _ | refine blk_drew ?_ | refine blk_alloc ?_ _)); refine blk_put (cs := #[.string t182, .int .u32 1, .int .i64 0, .int .i64 (-1)]) ?_ 2 _ rfl; (with_reducible repeat (first | refine blk_drewN ?_ _ | refine blk_drew ?_ | refine blk_alloc ?_ _)); exact BK183.out⟩, ⟨by repeat (first | (with_reducible first | exact HB.out | apply below_alloc | apply pw_below_drewN | apply below_drew1 | refine below_set ?_ GE183.out) | exact HB.out)⟩⟩
                    · rw [if_neg c40] at H
                      exact absurd H (by simp)
                  · rw [if_neg c39] at H
                    exact absurd H (by simp)
                · rw [if_neg c38] at H
                  exact absurd H (by simp)
            · rw [if_neg c30] at H
              have c30b0 : ((Int.tmod a2 6) == 5) = false := beq_eq_false_iff_ne.mpr c30
              have c30b1 : ((Int.tmod a2 6) != 5) = true := bne_iff_ne.mpr c30
              have H' := Aside0.mk H
              clear H
              go_wp2
              go_meet
              case rel => exact ⟨_, (t182), (0), ((-1)), (by first | rfl | (simp; done) | (simp [*]; done)), H', ⟨by first | omega | exact Nat.le_refl _⟩, ⟨by (with_reducible repeat (first | refine blk_drewN ?_ _ | refine blk_drew ?_ | refine blk_alloc ?_ _)); exact BK183.out⟩, ⟨by repeat (first | (with_reducible first | exact HB.out | apply below_alloc | apply pw_below_drewN | apply below_drew1 | refine below_set ?_ GE183.out) | exact HB.out)⟩⟩
  case rest =>
    clear HC10
    try clear c1
    try clear c2
    try clear p2
    try clear c3
    try clear c4
    try clear c5
    try clear c6
    try clear p6
    try clear c16
    try clear c16b0
    try clear c16b1
    try clear c17
    try clear c17b0
    try clear c17b1
    try clear c17b2
    try clear c18
    try clear c18b0
    try clear c18b1
    try clear c19
    try clear c19b0
    try clear c19b1
    try clear c19b2
    try clear c20
    try clear c20b0
    try clear c20b1
    try clear c21
    try clear c21b0
    try clear c21b1
    try clear c21b2
    try clear c22
    try clear c22b0
    try clear c22b1
    try clear c22b2
    try clear c23
    try clear c23b0
    try clear c23b1
    try clear c23b2
    try clear c25
    try clear c25b0
    try clear c25b1
    try clear c26
    try clear c26b0
    try clear c26b1
    try clear c26b2
    try clear c27
    try clear c27b0
    try clear c27b1
    try clear c27b2
    try clear c28
    try clear c28b0
    try clear c28b1
    try clear c28b2
    try clear c30
    try clear c30b0
    try clear c30b1
    try clear c31
    try clear c31b0
    try clear c31b1
    try clear c32
    try clear c32b0
    try clear c32b1
    try clear c32b2
    try clear c33
    try clear c33b0
    try clear c33b1
    try clear c33b2
    try clear c34
    try clear c34b0
    try clear c34b1
    try clear c34b2
    try clear c35
    try clear c35b0
    try clear c35b1
    try clear c35b2
    try clear c36
    try clear c36b0
    try clear c36b1
    try clear c36b2
    try clear c38
    try clear c38b0
    try clear c38b1
    try clear c38b2
    try clear c39
    try clear c39b0
    try clear c39b1
    try clear c39b2
    try clear c40
    try clear c40b0
    try clear c40b1
    try clear c40b2
    try clear hcz13_0
    try clear hcz13_1
    try clear hcz13_2
    try clear hcz13_3
    try clear hcz24_0
    try clear hcz24_1
    try clear hcz24_2
    try clear hcz24_3
    try clear hcz29_0
    try clear hcz29_1
    try clear hcz29_2
    try clear hcz29_3
    try clear hcz37_0
    try clear hcz37_1
    try clear hcz37_2
    try clear hcz37_3
    try clear hcz41_0
    try clear hcz41_1
    try clear hcz41_2
    try clear hcz41_3
    try clear hfz13_0
    try clear hfz13_1
    try clear hfz13_2
    try clear hfz13_3
    try clear hfz24_0
    try clear hfz24_1
    try clear hfz24_2
    try clear hfz24_3
    try clear hfz29_0
    try clear hfz29_1
    try clear hfz29_2
    try clear hfz29_3
    try clear hfz37_0
    try clear hfz37_1
    try clear hfz37_2
    try clear hfz37_3
    try clear hfz41_0
    try clear hfz41_1
    try clear hfz41_2
    try clear hfz41_3
    obtain ⟨kq, x13_9, x184002_9, x184003_9, rfl, HA, HJ9, BK183, HB⟩ := hcut
    cases kq with
    | zero => exact absurd HA.out (by simp [laws_FnAskOf.j0])
    | succ kj9 =>
      have H := HA.out
      clear HA
      simp only [laws_FnAskOf.j0] at H
      by_cases c42 : (Int.tmod a1 4) = 1
      · rw [if_pos c42] at H
        have c42b0 : ((Int.tmod a1 4) == 1) = true := beq_iff_eq.mpr c42
        have c42b1 : ((Int.tmod a1 4) != 1) = false := bne_eq_false_iff_eq.mpr c42
        clear c42
        by_cases c43 : 1 + x13_9.size ≤ 9223372036854775807
        · rw [if_pos c43] at H
          have c43b0 := eq_true c43
          have c43b1 : decide (1 + x13_9.size ≤ 9223372036854775807) = true := decide_eq_true c43
          try have c43b2 : (9223372036854775807 < 1 + x13_9.size) = False := eq_false (Nat.not_lt.2 c43)
          replace H := Option.bind_eq_some_iff.mp H
          obtain ⟨⟨t186, t187, t188, t189, t190⟩, A440, H⟩ := H
          replace H : (if t190 = true then (some (t186.toList == t182.toList && (t187 == 1 && (t188 == x184002_9 && (t189 == x184003_9))))) else (some false)) = some r := H
          have A44 := Aside0.mk A440
          clear A440
          by_cases c45 : t190 = true
          · subst c45
            have H1 : (some (t186.toList == t182.toList && (t187 == 1 && (t188 == x184002_9 && (t189 == x184003_9))))) = some r := by rw [if_pos rfl] at H; exact H
            clear H
            have H := H1
            clear H1
            obtain rfl := Option.some.inj H
            go_wp2_with (first | ((with_reducible refine gate_callee (f := 7) rfl ?_); refine goesL_ (some 114) rfl rfl Tryd.func7 (by kernel_rfl) rfl #[.string ((⟨#[43]⟩ : ByteArray) ++ x13_9)] rfl (by (try simp only [List.map_toArray, List.map_cons, List.map_nil]); first | done | rfl | (simp only [List.length_drop, List.length_take]; rfl)) ?_; (with_reducible refine (impl_AskOf.calls kj9 ((⟨#[43]⟩ : ByteArray) ++ x13_9) t186 t187 t188 t189 true _ A44.out (tab_below GG (by repeat (first | (with_reducible first | exact HB.out | apply below_alloc | apply pw_below_drewN | apply below_drew1 | refine below_set ?_ GE183.out | refine below_set ?_ GE191.out | refine below_set ?_ GE197.out | refine below_set ?_ GE204.out | refine below_set ?_ GE210.out) | exact HB.out)))).mono ?_); rintro e w46 ⟨rfl, hb⟩; refine ⟨_, rfl, ?_⟩; have n0_ := Aside0.mk (blk_below (g := gb183) (o := .cells #[.string t182, .int .u32 1, .int .i64 x184002_9, .int .i64 x184003_9] 28 (0, 0)) (by (with_reducible repeat (first | refine blk_drewN ?_ _ | refine blk_drew ?_ | refine blk_alloc ?_ _)); exact BK183.out) hb); have n1_ := Aside0.mk (below_step (by repeat (first | (with_reducible first | exact HB.out | apply below_alloc | apply pw_below_drewN | apply below_drew1 | refine below_set ?_ GE183.out) | exact HB.out)) hb); clear BK183; clear HB; have BK183 := n0_; have HB := n1_; clear n0_ n1_; (try clear hb); (try clear hb2); (try clear hk); (try clear hi)) | ((with_reducible refine gate_dst (N := 17) rfl ?_); refine box_event ?hg (N := 17) ?hd (cs := #[.string (⟨#[]⟩ : ByteArray), .int .u32 0, .int .i64 0, .int .i64 0]) (t := 28) ?hr ?_; (case hd => rfl); (case hg => rfl); (case hr => first | (go_simp; done) | (go_simp; rfl)); intro gb191 hg w47 hbox hb; have n0_ := Aside0.mk (blk_below (g := gb183) (o := .cells #[.string t182, .int .u32 1, .int .i64 x184002_9, .int .i64 x184003_9] 28 (0, 0)) (by (with_reducible repeat (first | refine blk_drewN ?_ _ | refine blk_drew ?_ | refine blk_alloc ?_ _)); exact BK183.out) hb); have n1_ := Aside0.mk (below_step (by repeat (first | (with_reducible first | exact HB.out | apply below_alloc | apply pw_below_drewN | apply below_drew1 | refine below_set ?_ GE183.out) | exact HB.out)) hb); have n2_ := Aside0.mk (hbox); have n3_ := Aside0.mk ((by rw [hg]; exact (below_size (by repeat (first | (with_reducible first | exact HB.out | apply below_alloc | apply pw_below_drewN | apply below_drew1 | refine below_set ?_ GE183.out) | exact HB.out))) : w.heap.size ≤ gb191)); have n4_ := Aside0.mk ((by rw [hg]; exact (below_size (by repeat (first | (with_reducible first | exact HB.out | apply below_alloc | apply pw_below_drewN | apply below_drew1 | refine below_set ?_ GE183.out) | exact HB.out))) : w.heap.size ≤ gb191)); have n5_ := Aside0.mk ((by rw [hg]; exact Nat.ne_of_lt (blk_lt (g := gb183) (o := .cells #[.string t182, .int .u32 1, .int .i64 x184002_9, .int .i64 x184003_9] 28 (0, 0)) (by (with_reducible repeat (first | refine blk_drewN ?_ _ | refine blk_drew ?_ | refine blk_alloc ?_ _)); exact BK183.out)) : gb183 ≠ gb191)); have n6_ := Aside0.mk ((by rw [hg]; exact Nat.ne_of_gt (blk_lt (g := gb183) (o := .cells #[.string t182, .int .u32 1, .int .i64 x184002_9, .int .i64 x184003_9] 28 (0, 0)) (by (with_reducible repeat (first | refine blk_drewN ?_ _ | refine blk_drew ?_ | refine blk_alloc ?_ _)); exact BK183.out)) : gb191 ≠ gb183)); clear BK183; clear HB; have BK183 := n0_; have HB := n1_; have BK191 := n2_; have GW191 := n3_; have GE191 := n4_; have NB183_191 := n5_; have NB191_183 := n6_; clear n0_ n1_ n2_ n3_ n4_ n5_ n6_; clear hb hbox hg; have hnb48 := NB191_183.out; have hnc48 := NB183_191.out; have hcz49_0 : w47.cell? ⟨gb191, 0, none⟩ = some (.string (⟨#[]⟩ : ByteArray)) := (blk_cell BK191.out 0).trans rfl; have hcz49_1 : w47.cell? ⟨gb191, 1, none⟩ = some (.int .u32 0) := (blk_cell BK191.out 1).trans rfl; have hcz49_2 : w47.cell? ⟨gb191, 2, none⟩ = some (.int .i64 0) := (blk_cell BK191.out 2).trans rfl; have hcz49_3 : w47.cell? ⟨gb191, 3, none⟩ = some (.int .i64 0) := (blk_cell BK191.out 3).trans rfl; have hfz49_0 := blk_frozen BK191.out 0; have hfz49_1 := blk_frozen BK191.out 1; have hfz49_2 := blk_frozen BK191.out 2; have hfz49_3 := blk_frozen BK191.out 3; have hcz50_0 : w47.cell? ⟨gb183, 0, none⟩ = some (.string t182) := (blk_cell BK183.out 0).trans rfl; have hcz50_1 : w47.cell? ⟨gb183, 1, none⟩ = some (.int .u32 1) := (blk_cell BK183.out 1).trans rfl; have hcz50_2 : w47.cell? ⟨gb183, 2, none⟩ = some (.int .i64 x184002_9) := (blk_cell BK183.out 2).trans rfl; have hcz50_3 : w47.cell? ⟨gb183, 3, none⟩ = some (.int .i64 x184003_9) := (blk_cell BK183.out 3).trans rfl; have hfz50_0 := blk_frozen BK183.out 0; have hfz50_1 := blk_frozen BK183.out 1; have hfz50_2 := blk_frozen BK183.out 2; have hfz50_3 := blk_frozen BK183.out 3))
            go_ret
            exact ⟨by first | rfl | (simp [errW_none, errW_some] <;> rfl) | (simp [*, errW_none, errW_some] <;> rfl), by repeat (first | (with_reducible first | exact HB.out | apply below_alloc | apply pw_below_drewN | apply below_drew1 | refine below_set ?_ GE183.out | refine below_set ?_ GE191.out) | exact HB.out)⟩
          · replace c45 := Bool.eq_false_iff.mpr c45
            subst c45
            have H1 : (some false) = some r := by rw [if_neg (show ¬ (false = true) by decide)] at H; exact H
            clear H
            have H := H1
            clear H1
            obtain rfl := Option.some.inj H
            go_wp2_with (first | ((with_reducible refine gate_callee (f := 7) rfl ?_); refine goesL_ (some 114) rfl rfl Tryd.func7 (by kernel_rfl) rfl #[.string ((⟨#[43]⟩ : ByteArray) ++ x13_9)] rfl (by (try simp only [List.map_toArray, List.map_cons, List.map_nil]); first | done | rfl | (simp only [List.length_drop, List.length_take]; rfl)) ?_; (with_reducible refine (impl_AskOf.calls kj9 ((⟨#[43]⟩ : ByteArray) ++ x13_9) t186 t187 t188 t189 false _ A44.out (tab_below GG (by repeat (first | (with_reducible first | exact HB.out | apply below_alloc | apply pw_below_drewN | apply below_drew1 | refine below_set ?_ GE183.out | refine below_set ?_ GE191.out | refine below_set ?_ GE197.out | refine below_set ?_ GE204.out | refine below_set ?_ GE210.out) | exact HB.out)))).mono ?_); rintro e w51 ⟨rfl, hb⟩; refine ⟨_, rfl, ?_⟩; have n0_ := Aside0.mk (blk_below (g := gb183) (o := .cells #[.string t182, .int .u32 1, .int .i64 x184002_9, .int .i64 x184003_9] 28 (0, 0)) (by (with_reducible repeat (first | refine blk_drewN ?_ _ | refine blk_drew ?_ | refine blk_alloc ?_ _)); exact BK183.out) hb); have n1_ := Aside0.mk (below_step (by repeat (first | (with_reducible first | exact HB.out | apply below_alloc | apply pw_below_drewN | apply below_drew1 | refine below_set ?_ GE183.out) | exact HB.out)) hb); clear BK183; clear HB; have BK183 := n0_; have HB := n1_; clear n0_ n1_; (try clear hb); (try clear hb2); (try clear hk); (try clear hi)) | ((with_reducible refine gate_dst (N := 17) rfl ?_); refine box_event ?hg (N := 17) ?hd (cs := #[.string (⟨#[]⟩ : ByteArray), .int .u32 0, .int .i64 0, .int .i64 0]) (t := 28) ?hr ?_; (case hd => rfl); (case hg => rfl); (case hr => first | (go_simp; done) | (go_simp; rfl)); intro gb191 hg w52 hbox hb; have n0_ := Aside0.mk (blk_below (g := gb183) (o := .cells #[.string t182, .int .u32 1, .int .i64 x184002_9, .int .i64 x184003_9] 28 (0, 0)) (by (with_reducible repeat (first | refine blk_drewN ?_ _ | refine blk_drew ?_ | refine blk_alloc ?_ _)); exact BK183.out) hb); have n1_ := Aside0.mk (below_step (by repeat (first | (with_reducible first | exact HB.out | apply below_alloc | apply pw_below_drewN | apply below_drew1 | refine below_set ?_ GE183.out) | exact HB.out)) hb); have n2_ := Aside0.mk (hbox); have n3_ := Aside0.mk ((by rw [hg]; exact (below_size (by repeat (first | (with_reducible first | exact HB.out | apply below_alloc | apply pw_below_drewN | apply below_drew1 | refine below_set ?_ GE183.out) | exact HB.out))) : w.heap.size ≤ gb191)); have n4_ := Aside0.mk ((by rw [hg]; exact (below_size (by repeat (first | (with_reducible first | exact HB.out | apply below_alloc | apply pw_below_drewN | apply below_drew1 | refine below_set ?_ GE183.out) | exact HB.out))) : w.heap.size ≤ gb191)); have n5_ := Aside0.mk ((by rw [hg]; exact Nat.ne_of_lt (blk_lt (g := gb183) (o := .cells #[.string t182, .int .u32 1, .int .i64 x184002_9, .int .i64 x184003_9] 28 (0, 0)) (by (with_reducible repeat (first | refine blk_drewN ?_ _ | refine blk_drew ?_ | refine blk_alloc ?_ _)); exact BK183.out)) : gb183 ≠ gb191)); have n6_ := Aside0.mk ((by rw [hg]; exact Nat.ne_of_gt (blk_lt (g := gb183) (o := .cells #[.string t182, .int .u32 1, .int .i64 x184002_9, .int .i64 x184003_9] 28 (0, 0)) (by (with_reducible repeat (first | refine blk_drewN ?_ _ | refine blk_drew ?_ | refine blk_alloc ?_ _)); exact BK183.out)) : gb191 ≠ gb183)); clear BK183; clear HB; have BK183 := n0_; have HB := n1_; have BK191 := n2_; have GW191 := n3_; have GE191 := n4_; have NB183_191 := n5_; have NB191_183 := n6_; clear n0_ n1_ n2_ n3_ n4_ n5_ n6_; clear hb hbox hg; have hnb53 := NB191_183.out; have hnc53 := NB183_191.out; have hcz54_0 : w52.cell? ⟨gb191, 0, none⟩ = some (.string (⟨#[]⟩ : ByteArray)) := (blk_cell BK191.out 0).trans rfl; have hcz54_1 : w52.cell? ⟨gb191, 1, none⟩ = some (.int .u32 0) := (blk_cell BK191.out 1).trans rfl; have hcz54_2 : w52.cell? ⟨gb191, 2, none⟩ = some (.int .i64 0) := (blk_cell BK191.out 2).trans rfl; have hcz54_3 : w52.cell? ⟨gb191, 3, none⟩ = some (.int .i64 0) := (blk_cell BK191.out 3).trans rfl; have hfz54_0 := blk_frozen BK191.out 0; have hfz54_1 := blk_frozen BK191.out 1; have hfz54_2 := blk_frozen BK191.out 2; have hfz54_3 := blk_frozen BK191.out 3))
            go_ret
            exact ⟨by first | rfl | (simp [errW_none, errW_some] <;> rfl) | (simp [*, errW_none, errW_some] <;> rfl), by repeat (first | (with_reducible first | exact HB.out | apply below_alloc | apply pw_below_drewN | apply below_drew1 | refine below_set ?_ GE183.out | refine below_set ?_ GE191.out) | exact HB.out)⟩
        · rw [if_neg c43] at H
          exact absurd H (by simp)
      · rw [if_neg c42] at H
        have c42b0 : ((Int.tmod a1 4) == 1) = false := beq_eq_false_iff_ne.mpr c42
        have c42b1 : ((Int.tmod a1 4) != 1) = true := bne_iff_ne.mpr c42
        by_cases c55 : (Int.tmod a1 4) = 2
        · rw [if_pos c55] at H
          have c55b0 : ((Int.tmod a1 4) == 2) = true := beq_iff_eq.mpr c55
          have c55b1 : ((Int.tmod a1 4) != 2) = false := bne_eq_false_iff_eq.mpr c55
          clear c55
          by_cases c56 : 1 + x13_9.size ≤ 9223372036854775807
          · rw [if_pos c56] at H
            have c56b0 := eq_true c56
            have c56b1 : decide (1 + x13_9.size ≤ 9223372036854775807) = true := decide_eq_true c56
            try have c56b2 : (9223372036854775807 < 1 + x13_9.size) = False := eq_false (Nat.not_lt.2 c56)
            replace H := Option.bind_eq_some_iff.mp H
            obtain ⟨⟨t192, t193, t194, t195, t196⟩, A570, H⟩ := H
            replace H : (if t196 = true then (some (t192.toList == t182.toList && (t193 == 0 && (t194 == x184002_9 && (t195 == x184003_9))))) else (some false)) = some r := H
            have A57 := Aside0.mk A570
            clear A570
            by_cases c58 : t196 = true
            · subst c58
              have H1 : (some (t192.toList == t182.toList && (t193 == 0 && (t194 == x184002_9 && (t195 == x184003_9))))) = some r := by rw [if_pos rfl] at H; exact H
              clear H
              have H := H1
              clear H1
              obtain rfl := Option.some.inj H
              have hcz59_0 : wc.cell? ⟨gb183, 0, none⟩ = some (.string t182) := (blk_cell BK183.out 0).trans rfl
              have hcz59_1 : wc.cell? ⟨gb183, 1, none⟩ = some (.int .u32 1) := (blk_cell BK183.out 1).trans rfl
              have hcz59_2 : wc.cell? ⟨gb183, 2, none⟩ = some (.int .i64 x184002_9) := (blk_cell BK183.out 2).trans rfl
              have hcz59_3 : wc.cell? ⟨gb183, 3, none⟩ = some (.int .i64 x184003_9) := (blk_cell BK183.out 3).trans rfl
              have hfz59_0 := blk_frozen BK183.out 0
              have hfz59_1 := blk_frozen BK183.out 1
              have hfz59_2 := blk_frozen BK183.out 2
              have hfz59_3 := blk_frozen BK183.out 3
              go_wp2_with (first | ((with_reducible refine gate_callee (f := 7) rfl ?_); refine goesL_ (some 114) rfl rfl Tryd.func7 (by kernel_rfl) rfl #[.string ((⟨#[45]⟩ : ByteArray) ++ x13_9)] rfl (by (try simp only [List.map_toArray, List.map_cons, List.map_nil]); first | done | rfl | (simp only [List.length_drop, List.length_take]; rfl)) ?_; (with_reducible refine (impl_AskOf.calls kj9 ((⟨#[45]⟩ : ByteArray) ++ x13_9) t192 t193 t194 t195 true _ A57.out (tab_below GG (by repeat (first | (with_reducible first | exact HB.out | apply below_alloc | apply pw_below_drewN | apply below_drew1 | refine below_set ?_ GE183.out | refine below_set ?_ GE191.out | refine below_set ?_ GE197.out | refine below_set ?_ GE204.out | refine below_set ?_ GE210.out) | exact HB.out)))).mono ?_); rintro e w60 ⟨rfl, hb⟩; refine ⟨_, rfl, ?_⟩; have n0_ := Aside0.mk (blk_below (g := gb183) (o := .cells #[.string t182, .int .u32 0, .int .i64 x184002_9, .int .i64 x184003_9] 28 (0, 0)) (by (with_reducible repeat (first | refine blk_drewN ?_ _ | refine blk_drew ?_ | refine blk_alloc ?_ _)); refine blk_put (cs := #[.string t182, .int .u32 1, .int .i64 x184002_9, .int .i64 x184003_9]) ?_ 1 _ rfl; (with_reducible repeat (first | refine blk_drewN ?_ _ | refine blk_drew ?_ | refine blk_alloc ?_ _)); exact BK183.out) hb); have n1_ := Aside0.mk (below_step (by repeat (first | (with_reducible first | exact HB.out | apply below_alloc | apply pw_below_drewN | apply below_drew1 | refine below_set ?_ GE183.out) | exact HB.out)) hb); clear BK183; clear HB; have BK183 := n0_; have HB := n1_; clear n0_ n1_; (try clear hb); (try clear hb2); (try clear hk); (try clear hi)) | ((with_reducible refine gate_dst (N := 17) rfl ?_); refine box_event ?hg (N := 17) ?hd (cs := #[.string (⟨#[]⟩ : ByteArray), .int .u32 0, .int .i64 0, .int .i64 0]) (t := 28) ?hr ?_; (case hd => rfl); (case hg => rfl); (case hr => first | (go_simp; done) | (go_simp; rfl)); intro gb197 hg w61 hbox hb; have n0_ := Aside0.mk (blk_below (g := gb183) (o := .cells #[.string t182, .int .u32 0, .int .i64 x184002_9, .int .i64 x184003_9] 28 (0, 0)) (by (with_reducible repeat (first | refine blk_drewN ?_ _ | refine blk_drew ?_ | refine blk_alloc ?_ _)); exact BK183.out) hb); have n1_ := Aside0.mk (below_step (by repeat (first | (with_reducible first | exact HB.out | apply below_alloc | apply pw_below_drewN | apply below_drew1 | refine below_set ?_ GE183.out) | exact HB.out)) hb); have n2_ := Aside0.mk (hbox); have n3_ := Aside0.mk ((by rw [hg]; exact (below_size (by repeat (first | (with_reducible first | exact HB.out | apply below_alloc | apply pw_below_drewN | apply below_drew1 | refine below_set ?_ GE183.out) | exact HB.out))) : w.heap.size ≤ gb197)); have n4_ := Aside0.mk ((by rw [hg]; exact (below_size (by repeat (first | (with_reducible first | exact HB.out | apply below_alloc | apply pw_below_drewN | apply below_drew1 | refine below_set ?_ GE183.out) | exact HB.out))) : w.heap.size ≤ gb197)); have n5_ := Aside0.mk ((by rw [hg]; exact Nat.ne_of_lt (blk_lt (g := gb183) (o := .cells #[.string t182, .int .u32 0, .int .i64 x184002_9, .int .i64 x184003_9] 28 (0, 0)) (by (with_reducible repeat (first | refine blk_drewN ?_ _ | refine blk_drew ?_ | refine blk_alloc ?_ _)); exact BK183.out)) : gb183 ≠ gb197)); have n6_ := Aside0.mk ((by rw [hg]; exact Nat.ne_of_gt (blk_lt (g := gb183) (o := .cells #[.string t182, .int .u32 0, .int .i64 x184002_9, .int .i64 x184003_9] 28 (0, 0)) (by (with_reducible repeat (first | refine blk_drewN ?_ _ | refine blk_drew ?_ | refine blk_alloc ?_ _)); exact BK183.out)) : gb197 ≠ gb183)); clear BK183; clear HB; have BK183 := n0_; have HB := n1_; have BK197 := n2_; have GW197 := n3_; have GE197 := n4_; have NB183_197 := n5_; have NB197_183 := n6_; clear n0_ n1_ n2_ n3_ n4_ n5_ n6_; clear hb hbox hg; have hnb62 := NB197_183.out; have hnc62 := NB183_197.out; have hcz63_0 : w61.cell? ⟨gb197, 0, none⟩ = some (.string (⟨#[]⟩ : ByteArray)) := (blk_cell BK197.out 0).trans rfl; have hcz63_1 : w61.cell? ⟨gb197, 1, none⟩ = some (.int .u32 0) := (blk_cell BK197.out 1).trans rfl; have hcz63_2 : w61.cell? ⟨gb197, 2, none⟩ = some (.int .i64 0) := (blk_cell BK197.out 2).trans rfl; have hcz63_3 : w61.cell? ⟨gb197, 3, none⟩ = some (.int .i64 0) := (blk_cell BK197.out 3).trans rfl; have hfz63_0 := blk_frozen BK197.out 0; have hfz63_1 := blk_frozen BK197.out 1; have hfz63_2 := blk_frozen BK197.out 2; have hfz63_3 := blk_frozen BK197.out 3; have hcz64_0 : w61.cell? ⟨gb183, 0, none⟩ = some (.string t182) := (blk_cell BK183.out 0).trans rfl; have hcz64_1 : w61.cell? ⟨gb183, 1, none⟩ = some (.int .u32 0) := (blk_cell BK183.out 1).trans rfl; have hcz64_2 : w61.cell? ⟨gb183, 2, none⟩ = some (.int .i64 x184002_9) := (blk_cell BK183.out 2).trans rfl; have hcz64_3 : w61.cell? ⟨gb183, 3, none⟩ = some (.int .i64 x184003_9) := (blk_cell BK183.out 3).trans rfl; have hfz64_0 := blk_frozen BK183.out 0; have hfz64_1 := blk_frozen BK183.out 1; have hfz64_2 := blk_frozen BK183.out 2; have hfz64_3 := blk_frozen BK183.out 3))
              go_ret
              exact ⟨by first | rfl | (simp [errW_none, errW_some] <;> rfl) | (simp [*, errW_none, errW_some] <;> rfl), by repeat (first | (with_reducible first | exact HB.out | apply below_alloc | apply pw_below_drewN | apply below_drew1 | refine below_set ?_ GE183.out | refine below_set ?_ GE197.out) | exact HB.out)⟩
            · replace c58 := Bool.eq_false_iff.mpr c58
              subst c58
              have H1 : (some false) = some r := by rw [if_neg (show ¬ (false = true) by decide)] at H; exact H
              clear H
              have H := H1
              clear H1
              obtain rfl := Option.some.inj H
              have hcz65_0 : wc.cell? ⟨gb183, 0, none⟩ = some (.string t182) := (blk_cell BK183.out 0).trans rfl
              have hcz65_1 : wc.cell? ⟨gb183, 1, none⟩ = some (.int .u32 1) := (blk_cell BK183.out 1).trans rfl
              have hcz65_2 : wc.cell? ⟨gb183, 2, none⟩ = some (.int .i64 x184002_9) := (blk_cell BK183.out 2).trans rfl
              have hcz65_3 : wc.cell? ⟨gb183, 3, none⟩ = some (.int .i64 x184003_9) := (blk_cell BK183.out 3).trans rfl
              have hfz65_0 := blk_frozen BK183.out 0
              have hfz65_1 := blk_frozen BK183.out 1
              have hfz65_2 := blk_frozen BK183.out 2
              have hfz65_3 := blk_frozen BK183.out 3
              go_wp2_with (first | ((with_reducible refine gate_callee (f := 7) rfl ?_); refine goesL_ (some 114) rfl rfl Tryd.func7 (by kernel_rfl) rfl #[.string ((⟨#[45]⟩ : ByteArray) ++ x13_9)] rfl (by (try simp only [List.map_toArray, List.map_cons, List.map_nil]); first | done | rfl | (simp only [List.length_drop, List.length_take]; rfl)) ?_; (with_reducible refine (impl_AskOf.calls kj9 ((⟨#[45]⟩ : ByteArray) ++ x13_9) t192 t193 t194 t195 false _ A57.out (tab_below GG (by repeat (first | (with_reducible first | exact HB.out | apply below_alloc | apply pw_below_drewN | apply below_drew1 | refine below_set ?_ GE183.out | refine below_set ?_ GE191.out | refine below_set ?_ GE197.out | refine below_set ?_ GE204.out | refine below_set ?_ GE210.out) | exact HB.out)))).mono ?_); rintro e w66 ⟨rfl, hb⟩; refine ⟨_, rfl, ?_⟩; have n0_ := Aside0.mk (blk_below (g := gb183) (o := .cells #[.string t182, .int .u32 0, .int .i64 x184002_9, .int .i64 x184003_9] 28 (0, 0)) (by (with_reducible repeat (first | refine blk_drewN ?_ _ | refine blk_drew ?_ | refine blk_alloc ?_ _)); refine blk_put (cs := #[.string t182, .int .u32 1, .int .i64 x184002_9, .int .i64 x184003_9]) ?_ 1 _ rfl; (with_reducible repeat (first | refine blk_drewN ?_ _ | refine blk_drew ?_ | refine blk_alloc ?_ _)); exact BK183.out) hb); have n1_ := Aside0.mk (below_step (by repeat (first | (with_reducible first | exact HB.out | apply below_alloc | apply pw_below_drewN | apply below_drew1 | refine below_set ?_ GE183.out) | exact HB.out)) hb); clear BK183; clear HB; have BK183 := n0_; have HB := n1_; clear n0_ n1_; (try clear hb); (try clear hb2); (try clear hk); (try clear hi)) | ((with_reducible refine gate_dst (N := 17) rfl ?_); refine box_event ?hg (N := 17) ?hd (cs := #[.string (⟨#[]⟩ : ByteArray), .int .u32 0, .int .i64 0, .int .i64 0]) (t := 28) ?hr ?_; (case hd => rfl); (case hg => rfl); (case hr => first | (go_simp; done) | (go_simp; rfl)); intro gb197 hg w67 hbox hb; have n0_ := Aside0.mk (blk_below (g := gb183) (o := .cells #[.string t182, .int .u32 0, .int .i64 x184002_9, .int .i64 x184003_9] 28 (0, 0)) (by (with_reducible repeat (first | refine blk_drewN ?_ _ | refine blk_drew ?_ | refine blk_alloc ?_ _)); exact BK183.out) hb); have n1_ := Aside0.mk (below_step (by repeat (first | (with_reducible first | exact HB.out | apply below_alloc | apply pw_below_drewN | apply below_drew1 | refine below_set ?_ GE183.out) | exact HB.out)) hb); have n2_ := Aside0.mk (hbox); have n3_ := Aside0.mk ((by rw [hg]; exact (below_size (by repeat (first | (with_reducible first | exact HB.out | apply below_alloc | apply pw_below_drewN | apply below_drew1 | refine below_set ?_ GE183.out) | exact HB.out))) : w.heap.size ≤ gb197)); have n4_ := Aside0.mk ((by rw [hg]; exact (below_size (by repeat (first | (with_reducible first | exact HB.out | apply below_alloc | apply pw_below_drewN | apply below_drew1 | refine below_set ?_ GE183.out) | exact HB.out))) : w.heap.size ≤ gb197)); have n5_ := Aside0.mk ((by rw [hg]; exact Nat.ne_of_lt (blk_lt (g := gb183) (o := .cells #[.string t182, .int .u32 0, .int .i64 x184002_9, .int .i64 x184003_9] 28 (0, 0)) (by (with_reducible repeat (first | refine blk_drewN ?_ _ | refine blk_drew ?_ | refine blk_alloc ?_ _)); exact BK183.out)) : gb183 ≠ gb197)); have n6_ := Aside0.mk ((by rw [hg]; exact Nat.ne_of_gt (blk_lt (g := gb183) (o := .cells #[.string t182, .int .u32 0, .int .i64 x184002_9, .int .i64 x184003_9] 28 (0, 0)) (by (with_reducible repeat (first | refine blk_drewN ?_ _ | refine blk_drew ?_ | refine blk_alloc ?_ _)); exact BK183.out)) : gb197 ≠ gb183)); clear BK183; clear HB; have BK183 := n0_; have HB := n1_; have BK197 := n2_; have GW197 := n3_; have GE197 := n4_; have NB183_197 := n5_; have NB197_183 := n6_; clear n0_ n1_ n2_ n3_ n4_ n5_ n6_; clear hb hbox hg; have hnb68 := NB197_183.out; have hnc68 := NB183_197.out; have hcz69_0 : w67.cell? ⟨gb197, 0, none⟩ = some (.string (⟨#[]⟩ : ByteArray)) := (blk_cell BK197.out 0).trans rfl; have hcz69_1 : w67.cell? ⟨gb197, 1, none⟩ = some (.int .u32 0) := (blk_cell BK197.out 1).trans rfl; have hcz69_2 : w67.cell? ⟨gb197, 2, none⟩ = some (.int .i64 0) := (blk_cell BK197.out 2).trans rfl; have hcz69_3 : w67.cell? ⟨gb197, 3, none⟩ = some (.int .i64 0) := (blk_cell BK197.out 3).trans rfl; have hfz69_0 := blk_frozen BK197.out 0; have hfz69_1 := blk_frozen BK197.out 1; have hfz69_2 := blk_frozen BK197.out 2; have hfz69_3 := blk_frozen BK197.out 3))
              go_ret
              exact ⟨by first | rfl | (simp [errW_none, errW_some] <;> rfl) | (simp [*, errW_none, errW_some] <;> rfl), by repeat (first | (with_reducible first | exact HB.out | apply below_alloc | apply pw_below_drewN | apply below_drew1 | refine below_set ?_ GE183.out | refine below_set ?_ GE197.out) | exact HB.out)⟩
          · rw [if_neg c56] at H
            exact absurd H (by simp)
        · rw [if_neg c55] at H
          have c55b0 : ((Int.tmod a1 4) == 2) = false := beq_eq_false_iff_ne.mpr c55
          have c55b1 : ((Int.tmod a1 4) != 2) = true := bne_iff_ne.mpr c55
          by_cases c70 : (Int.tmod a1 4) = 3
          · rw [if_pos c70] at H
            have c70b0 : ((Int.tmod a1 4) == 3) = true := beq_iff_eq.mpr c70
            have c70b1 : ((Int.tmod a1 4) != 3) = false := bne_eq_false_iff_eq.mpr c70
            clear c70
            by_cases c71 : x13_9.size + 1 ≤ 9223372036854775807
            · rw [if_pos c71] at H
              have c71b0 := eq_true c71
              have c71b1 : decide (x13_9.size + 1 ≤ 9223372036854775807) = true := decide_eq_true c71
              try have c71b2 : (9223372036854775807 < x13_9.size + 1) = False := eq_false (Nat.not_lt.2 c71)
              replace H := Option.bind_eq_some_iff.mp H
              obtain ⟨t198, A720, H⟩ := H
              replace H : (if (x13_9 ++ (⟨#[61]⟩ : ByteArray)).size + t198.size ≤ 9223372036854775807 then ((impl_AskOf.f kj9 ((x13_9 ++ (⟨#[61]⟩ : ByteArray)) ++ t198)).bind fun bt199 => (if bt199.2.2.2.2 = true then (some (bt199.1.toList == t182.toList && (bt199.2.1 == ((a3) % 4294967296) && (bt199.2.2.1 == x184002_9 && (bt199.2.2.2.1 == x184003_9))))) else (some false))) else (none)) = some r := H
              have A72 := Aside0.mk A720
              clear A720
              by_cases c73 : (x13_9 ++ (⟨#[61]⟩ : ByteArray)).size + t198.size ≤ 9223372036854775807
              · rw [if_pos c73] at H
                have c73b0 := eq_true c73
                have c73b1 : decide ((x13_9 ++ (⟨#[61]⟩ : ByteArray)).size + t198.size ≤ 9223372036854775807) = true := decide_eq_true c73
                try have c73b2 : (9223372036854775807 < (x13_9 ++ (⟨#[61]⟩ : ByteArray)).size + t198.size) = False := eq_false (Nat.not_lt.2 c73)
                have c73_sz : (9223372036854775807 < x13_9.size + 1 + t198.size) = False := eq_false (by have q := c73; simp only [ByteArray.size_append] at q; (try simp only [c_sz, List.size_toArray, List.length_cons, List.length_nil] at q); omega)
                replace H := Option.bind_eq_some_iff.mp H
                obtain ⟨⟨t199, t200, t201, t202, t203⟩, A740, H⟩ := H
                replace H : (if t203 = true then (some (t199.toList == t182.toList && (t200 == ((a3) % 4294967296) && (t201 == x184002_9 && (t202 == x184003_9))))) else (some false)) = some r := H
                have A74 := Aside0.mk A740
                clear A740
                by_cases c75 : t203 = true
                · subst c75
                  have H1 : (some (t199.toList == t182.toList && (t200 == ((a3) % 4294967296) && (t201 == x184002_9 && (t202 == x184003_9))))) = some r := by rw [if_pos rfl] at H; exact H
                  clear H
                  have H := H1
                  clear H1
                  obtain rfl := Option.some.inj H
                  go_wp2_with (first | ((with_reducible refine gate_callee (f := 6) rfl ?_); refine goesL_ (some 107) rfl rfl Tryd.func6 (by kernel_rfl) rfl #[.int .i64 (wrap64 (a3))] rfl (by (try simp only [List.map_toArray, List.map_cons, List.map_nil]); first | done | rfl | (simp only [List.length_drop, List.length_take]; rfl)) ?_; (with_reducible refine (strconv_Itoa.calls (wrap64 (a3)) t198 _ A72.out (tab_below GG (by repeat (first | (with_reducible first | exact HB.out | apply below_alloc | apply pw_below_drewN | apply below_drew1 | refine below_set ?_ GE183.out | refine below_set ?_ GE191.out | refine below_set ?_ GE197.out | refine below_set ?_ GE204.out | refine below_set ?_ GE210.out) | exact HB.out)))).mono ?_); rintro e w76 ⟨rfl, hb⟩; refine ⟨_, rfl, ?_⟩; have n0_ := Aside0.mk (blk_below (g := gb183) (o := .cells #[.string t182, .int .u32 1, .int .i64 x184002_9, .int .i64 x184003_9] 28 (0, 0)) (by (with_reducible repeat (first | refine blk_drewN ?_ _ | refine blk_drew ?_ | refine blk_alloc ?_ _)); exact BK183.out) hb); have n1_ := Aside0.mk (below_step (by repeat (first | (with_reducible first | exact HB.out | apply below_alloc | apply pw_below_drewN | apply below_drew1 | refine below_set ?_ GE183.out) | exact HB.out)) hb); clear BK183; clear HB; have BK183 := n0_; have HB := n1_; clear n0_ n1_; (try clear hb); (try clear hb2); (try clear hk); (try clear hi); have hcz77_0 : w76.cell? ⟨gb183, 0, none⟩ = some (.string t182) := (blk_cell BK183.out 0).trans rfl; have hcz77_1 : w76.cell? ⟨gb183, 1, none⟩ = some (.int .u32 1) := (blk_cell BK183.out 1).trans rfl; have hcz77_2 : w76.cell? ⟨gb183, 2, none⟩ = some (.int .i64 x184002_9) := (blk_cell BK183.out 2).trans rfl; have hcz77_3 : w76.cell? ⟨gb183, 3, none⟩ = some (.int .i64 x184003_9) := (blk_cell BK183.out 3).trans rfl; have hfz77_0 := blk_frozen BK183.out 0; have hfz77_1 := blk_frozen BK183.out 1; have hfz77_2 := blk_frozen BK183.out 2; have hfz77_3 := blk_frozen BK183.out 3) | ((with_reducible refine gate_callee (f := 7) rfl ?_); refine goesL_ (some 114) rfl rfl Tryd.func7 (by kernel_rfl) rfl #[.string ((x13_9 ++ (⟨#[61]⟩ : ByteArray)) ++ t198)] rfl (by (try simp only [List.map_toArray, List.map_cons, List.map_nil]); first | done | rfl | (simp only [List.length_drop, List.length_take]; rfl)) ?_; (with_reducible refine (impl_AskOf.calls kj9 ((x13_9 ++ (⟨#[61]⟩ : ByteArray)) ++ t198) t199 t200 t201 t202 true _ A74.out (tab_below GG (by repeat (first | (with_reducible first | exact HB.out | apply below_alloc | apply pw_below_drewN | apply below_drew1 | refine below_set ?_ GE183.out | refine below_set ?_ GE191.out | refine below_set ?_ GE197.out | refine below_set ?_ GE204.out | refine below_set ?_ GE210.out) | exact HB.out)))).mono ?_); rintro e w78 ⟨rfl, hb⟩; refine ⟨_, rfl, ?_⟩; have n0_ := Aside0.mk (blk_below (g := gb183) (o := .cells #[.string t182, .int .u32 ((a3) % 4294967296), .int .i64 x184002_9, .int .i64 x184003_9] 28 (0, 0)) (by (with_reducible repeat (first | refine blk_drewN ?_ _ | refine blk_drew ?_ | refine blk_alloc ?_ _)); refine blk_put (cs := #[.string t182, .int .u32 1, .int .i64 x184002_9, .int .i64 x184003_9]) ?_ 1 _ rfl; (with_reducible repeat (first | refine blk_drewN ?_ _ | refine blk_drew ?_ | refine blk_alloc ?_ _)); exact BK183.out) hb); have n1_ := Aside0.mk (below_step (by repeat (first | (with_reducible first | exact HB.out | apply below_alloc | apply pw_below_drewN | apply below_drew1 | refine below_set ?_ GE183.out) | exact HB.out)) hb); clear BK183; clear HB; have BK183 := n0_; have HB := n1_; clear n0_ n1_; (try clear hb); (try clear hb2); (try clear hk); (try clear hi)) | ((with_reducible refine gate_dst (N := 17) rfl ?_); refine box_event ?hg (N := 17) ?hd (cs := #[.string (⟨#[]⟩ : ByteArray), .int .u32 0, .int .i64 0, .int .i64 0]) (t := 28) ?hr ?_; (case hd => rfl); (case hg => rfl); (case hr => first | (go_simp; done) | (go_simp; rfl)); intro gb204 hg w79 hbox hb; have n0_ := Aside0.mk (blk_below (g := gb183) (o := .cells #[.string t182, .int .u32 ((a3) % 4294967296), .int .i64 x184002_9, .int .i64 x184003_9] 28 (0, 0)) (by (with_reducible repeat (first | refine blk_drewN ?_ _ | refine blk_drew ?_ | refine blk_alloc ?_ _)); exact BK183.out) hb); have n1_ := Aside0.mk (below_step (by repeat (first | (with_reducible first | exact HB.out | apply below_alloc | apply pw_below_drewN | apply below_drew1 | refine below_set ?_ GE183.out) | exact HB.out)) hb); have n2_ := Aside0.mk (hbox); have n3_ := Aside0.mk ((by rw [hg]; exact (below_size (by repeat (first | (with_reducible first | exact HB.out | apply below_alloc | apply pw_below_drewN | apply below_drew1 | refine below_set ?_ GE183.out) | exact HB.out))) : w.heap.size ≤ gb204)); have n4_ := Aside0.mk ((by rw [hg]; exact (below_size (by repeat (first | (with_reducible first | exact HB.out | apply below_alloc | apply pw_below_drewN | apply below_drew1 | refine below_set ?_ GE183.out) | exact HB.out))) : w.heap.size ≤ gb204)); have n5_ := Aside0.mk ((by rw [hg]; exact Nat.ne_of_lt (blk_lt (g := gb183) (o := .cells #[.string t182, .int .u32 ((a3) % 4294967296), .int .i64 x184002_9, .int .i64 x184003_9] 28 (0, 0)) (by (with_reducible repeat (first | refine blk_drewN ?_ _ | refine blk_drew ?_ | refine blk_alloc ?_ _)); exact BK183.out)) : gb183 ≠ gb204)); have n6_ := Aside0.mk ((by rw [hg]; exact Nat.ne_of_gt (blk_lt (g := gb183) (o := .cells #[.string t182, .int .u32 ((a3) % 4294967296), .int .i64 x184002_9, .int .i64 x184003_9] 28 (0, 0)) (by (with_reducible repeat (first | refine blk_drewN ?_ _ | refine blk_drew ?_ | refine blk_alloc ?_ _)); exact BK183.out)) : gb204 ≠ gb183)); clear BK183; clear HB; have BK183 := n0_; have HB := n1_; have BK204 := n2_; have GW204 := n3_; have GE204 := n4_; have NB183_204 := n5_; have NB204_183 := n6_; clear n0_ n1_ n2_ n3_ n4_ n5_ n6_; clear hb hbox hg; have hnb80 := NB204_183.out; have hnc80 := NB183_204.out; have hcz81_0 : w79.cell? ⟨gb204, 0, none⟩ = some (.string (⟨#[]⟩ : ByteArray)) := (blk_cell BK204.out 0).trans rfl; have hcz81_1 : w79.cell? ⟨gb204, 1, none⟩ = some (.int .u32 0) := (blk_cell BK204.out 1).trans rfl; have hcz81_2 : w79.cell? ⟨gb204, 2, none⟩ = some (.int .i64 0) := (blk_cell BK204.out 2).trans rfl; have hcz81_3 : w79.cell? ⟨gb204, 3, none⟩ = some (.int .i64 0) := (blk_cell BK204.out 3).trans rfl; have hfz81_0 := blk_frozen BK204.out 0; have hfz81_1 := blk_frozen BK204.out 1; have hfz81_2 := blk_frozen BK204.out 2; have hfz81_3 := blk_frozen BK204.out 3; have hcz82_0 : w79.cell? ⟨gb183, 0, none⟩ = some (.string t182) := (blk_cell BK183.out 0).trans rfl; have hcz82_1 : w79.cell? ⟨gb183, 1, none⟩ = some (.int .u32 ((a3) % 4294967296)) := (blk_cell BK183.out 1).trans rfl; have hcz82_2 : w79.cell? ⟨gb183, 2, none⟩ = some (.int .i64 x184002_9) := (blk_cell BK183.out 2).trans rfl; have hcz82_3 : w79.cell? ⟨gb183, 3, none⟩ = some (.int .i64 x184003_9) := (blk_cell BK183.out 3).trans rfl; have hfz82_0 := blk_frozen BK183.out 0; have hfz82_1 := blk_frozen BK183.out 1; have hfz82_2 := blk_frozen BK183.out 2; have hfz82_3 := blk_frozen BK183.out 3))
                  go_ret
                  exact ⟨by first | rfl | (simp [errW_none, errW_some] <;> rfl) | (simp [*, errW_none, errW_some] <;> rfl), by repeat (first | (with_reducible first | exact HB.out | apply below_alloc | apply pw_below_drewN | apply below_drew1 | refine below_set ?_ GE183.out | refine below_set ?_ GE204.out) | exact HB.out)⟩
                · replace c75 := Bool.eq_false_iff.mpr c75
                  subst c75
                  have H1 : (some false) = some r := by rw [if_neg (show ¬ (false = true) by decide)] at H; exact H
                  clear H
                  have H := H1
                  clear H1
                  obtain rfl := Option.some.inj H
                  go_wp2_with (first | ((with_reducible refine gate_callee (f := 6) rfl ?_); refine goesL_ (some 107) rfl rfl Tryd.func6 (by kernel_rfl) rfl #[.int .i64 (wrap64 (a3))] rfl (by (try simp only [List.map_toArray, List.map_cons, List.map_nil]); first | done | rfl | (simp only [List.length_drop, List.length_take]; rfl)) ?_; (with_reducible refine (strconv_Itoa.calls (wrap64 (a3)) t198 _ A72.out (tab_below GG (by repeat (first | (with_reducible first | exact HB.out | apply below_alloc | apply pw_below_drewN | apply below_drew1 | refine below_set ?_ GE183.out | refine below_set ?_ GE191.out | refine below_set ?_ GE197.out | refine below_set ?_ GE204.out | refine below_set ?_ GE210.out) | exact HB.out)))).mono ?_); rintro e w83 ⟨rfl, hb⟩; refine ⟨_, rfl, ?_⟩; have n0_ := Aside0.mk (blk_below (g := gb183) (o := .cells #[.string t182, .int .u32 1, .int .i64 x184002_9, .int .i64 x184003_9] 28 (0, 0)) (by (with_reducible repeat (first | refine blk_drewN ?_ _ | refine blk_drew ?_ | refine blk_alloc ?_ _)); exact BK183.out) hb); have n1_ := Aside0.mk (below_step (by repeat (first | (with_reducible first | exact HB.out | apply below_alloc | apply pw_below_drewN | apply below_drew1 | refine below_set ?_ GE183.out) | exact HB.out)) hb); clear BK183; clear HB; have BK183 := n0_; have HB := n1_; clear n0_ n1_; (try clear hb); (try clear hb2); (try clear hk); (try clear hi); have hcz84_0 : w83.cell? ⟨gb183, 0, none⟩ = some (.string t182) := (blk_cell BK183.out 0).trans rfl; have hcz84_1 : w83.cell? ⟨gb183, 1, none⟩ = some (.int .u32 1) := (blk_cell BK183.out 1).trans rfl; have hcz84_2 : w83.cell? ⟨gb183, 2, none⟩ = some (.int .i64 x184002_9) := (blk_cell BK183.out 2).trans rfl; have hcz84_3 : w83.cell? ⟨gb183, 3, none⟩ = some (.int .i64 x184003_9) := (blk_cell BK183.out 3).trans rfl; have hfz84_0 := blk_frozen BK183.out 0; have hfz84_1 := blk_frozen BK183.out 1; have hfz84_2 := blk_frozen BK183.out 2; have hfz84_3 := blk_frozen BK183.out 3) | ((with_reducible refine gate_callee (f := 7) rfl ?_); refine goesL_ (some 114) rfl rfl Tryd.func7 (by kernel_rfl) rfl #[.string ((x13_9 ++ (⟨#[61]⟩ : ByteArray)) ++ t198)] rfl (by (try simp only [List.map_toArray, List.map_cons, List.map_nil]); first | done | rfl | (simp only [List.length_drop, List.length_take]; rfl)) ?_; (with_reducible refine (impl_AskOf.calls kj9 ((x13_9 ++ (⟨#[61]⟩ : ByteArray)) ++ t198) t199 t200 t201 t202 false _ A74.out (tab_below GG (by repeat (first | (with_reducible first | exact HB.out | apply below_alloc | apply pw_below_drewN | apply below_drew1 | refine below_set ?_ GE183.out | refine below_set ?_ GE191.out | refine below_set ?_ GE197.out | refine below_set ?_ GE204.out | refine below_set ?_ GE210.out) | exact HB.out)))).mono ?_); rintro e w85 ⟨rfl, hb⟩; refine ⟨_, rfl, ?_⟩; have n0_ := Aside0.mk (blk_below (g := gb183) (o := .cells #[.string t182, .int .u32 ((a3) % 4294967296), .int .i64 x184002_9, .int .i64 x184003_9] 28 (0, 0)) (by (with_reducible repeat (first | refine blk_drewN ?_ _ | refine blk_drew ?_ | refine blk_alloc ?_ _)); refine blk_put (cs := #[.string t182, .int .u32 1, .int .i64 x184002_9, .int .i64 x184003_9]) ?_ 1 _ rfl; (with_reducible repeat (first | refine blk_drewN ?_ _ | refine blk_drew ?_ | refine blk_alloc ?_ _)); exact BK183.out) hb); have n1_ := Aside0.mk (below_step (by repeat (first | (with_reducible first | exact HB.out | apply below_alloc | apply pw_below_drewN | apply below_drew1 | refine below_set ?_ GE183.out) | exact HB.out)) hb); clear BK183; clear HB; have BK183 := n0_; have HB := n1_; clear n0_ n1_; (try clear hb); (try clear hb2); (try clear hk); (try clear hi)) | ((with_reducible refine gate_dst (N := 17) rfl ?_); refine box_event ?hg (N := 17) ?hd (cs := #[.string (⟨#[]⟩ : ByteArray), .int .u32 0, .int .i64 0, .int .i64 0]) (t := 28) ?hr ?_; (case hd => rfl); (case hg => rfl); (case hr => first | (go_simp; done) | (go_simp; rfl)); intro gb204 hg w86 hbox hb; have n0_ := Aside0.mk (blk_below (g := gb183) (o := .cells #[.string t182, .int .u32 ((a3) % 4294967296), .int .i64 x184002_9, .int .i64 x184003_9] 28 (0, 0)) (by (with_reducible repeat (first | refine blk_drewN ?_ _ | refine blk_drew ?_ | refine blk_alloc ?_ _)); exact BK183.out) hb); have n1_ := Aside0.mk (below_step (by repeat (first | (with_reducible first | exact HB.out | apply below_alloc | apply pw_below_drewN | apply below_drew1 | refine below_set ?_ GE183.out) | exact HB.out)) hb); have n2_ := Aside0.mk (hbox); have n3_ := Aside0.mk ((by rw [hg]; exact (below_size (by repeat (first | (with_reducible first | exact HB.out | apply below_alloc | apply pw_below_drewN | apply below_drew1 | refine below_set ?_ GE183.out) | exact HB.out))) : w.heap.size ≤ gb204)); have n4_ := Aside0.mk ((by rw [hg]; exact (below_size (by repeat (first | (with_reducible first | exact HB.out | apply below_alloc | apply pw_below_drewN | apply below_drew1 | refine below_set ?_ GE183.out) | exact HB.out))) : w.heap.size ≤ gb204)); have n5_ := Aside0.mk ((by rw [hg]; exact Nat.ne_of_lt (blk_lt (g := gb183) (o := .cells #[.string t182, .int .u32 ((a3) % 4294967296), .int .i64 x184002_9, .int .i64 x184003_9] 28 (0, 0)) (by (with_reducible repeat (first | refine blk_drewN ?_ _ | refine blk_drew ?_ | refine blk_alloc ?_ _)); exact BK183.out)) : gb183 ≠ gb204)); have n6_ := Aside0.mk ((by rw [hg]; exact Nat.ne_of_gt (blk_lt (g := gb183) (o := .cells #[.string t182, .int .u32 ((a3) % 4294967296), .int .i64 x184002_9, .int .i64 x184003_9] 28 (0, 0)) (by (with_reducible repeat (first | refine blk_drewN ?_ _ | refine blk_drew ?_ | refine blk_alloc ?_ _)); exact BK183.out)) : gb204 ≠ gb183)); clear BK183; clear HB; have BK183 := n0_; have HB := n1_; have BK204 := n2_; have GW204 := n3_; have GE204 := n4_; have NB183_204 := n5_; have NB204_183 := n6_; clear n0_ n1_ n2_ n3_ n4_ n5_ n6_; clear hb hbox hg; have hnb87 := NB204_183.out; have hnc87 := NB183_204.out; have hcz88_0 : w86.cell? ⟨gb204, 0, none⟩ = some (.string (⟨#[]⟩ : ByteArray)) := (blk_cell BK204.out 0).trans rfl; have hcz88_1 : w86.cell? ⟨gb204, 1, none⟩ = some (.int .u32 0) := (blk_cell BK204.out 1).trans rfl; have hcz88_2 : w86.cell? ⟨gb204, 2, none⟩ = some (.int .i64 0) := (blk_cell BK204.out 2).trans rfl; have hcz88_3 : w86.cell? ⟨gb204, 3, none⟩ = some (.int .i64 0) := (blk_cell BK204.out 3).trans rfl; have hfz88_0 := blk_frozen BK204.out 0; have hfz88_1 := blk_frozen BK204.out 1; have hfz88_2 := blk_frozen BK204.out 2; have hfz88_3 := blk_frozen BK204.out 3))
                  go_ret
                  exact ⟨by first | rfl | (simp [errW_none, errW_some] <;> rfl) | (simp [*, errW_none, errW_some] <;> rfl), by repeat (first | (with_reducible first | exact HB.out | apply below_alloc | apply pw_below_drewN | apply below_drew1 | refine below_set ?_ GE183.out | refine below_set ?_ GE204.out) | exact HB.out)⟩
              · rw [if_neg c73] at H
                exact absurd H (by simp)
            · rw [if_neg c71] at H
              exact absurd H (by simp)
          · rw [if_neg c70] at H
            have c70b0 : ((Int.tmod a1 4) == 3) = false := beq_eq_false_iff_ne.mpr c70
            have c70b1 : ((Int.tmod a1 4) != 3) = true := bne_iff_ne.mpr c70
            replace H := Option.bind_eq_some_iff.mp H
            obtain ⟨⟨t205, t206, t207, t208, t209⟩, A890, H⟩ := H
            replace H : (if t209 = true then (some (t205.toList == t182.toList && (t206 == 1 && (t207 == x184002_9 && (t208 == x184003_9))))) else (some false)) = some r := H
            have A89 := Aside0.mk A890
            clear A890
            by_cases c90 : t209 = true
            · subst c90
              have H1 : (some (t205.toList == t182.toList && (t206 == 1 && (t207 == x184002_9 && (t208 == x184003_9))))) = some r := by rw [if_pos rfl] at H; exact H
              clear H
              have H := H1
              clear H1
              obtain rfl := Option.some.inj H
              go_wp2_with (first | ((with_reducible refine gate_callee (f := 7) rfl ?_); refine goesL_ (some 114) rfl rfl Tryd.func7 (by kernel_rfl) rfl #[.string x13_9] rfl (by (try simp only [List.map_toArray, List.map_cons, List.map_nil]); first | done | rfl | (simp only [List.length_drop, List.length_take]; rfl)) ?_; (with_reducible refine (impl_AskOf.calls kj9 x13_9 t205 t206 t207 t208 true _ A89.out (tab_below GG (by repeat (first | (with_reducible first | exact HB.out | apply below_alloc | apply pw_below_drewN | apply below_drew1 | refine below_set ?_ GE183.out | refine below_set ?_ GE191.out | refine below_set ?_ GE197.out | refine below_set ?_ GE204.out | refine below_set ?_ GE210.out) | exact HB.out)))).mono ?_); rintro e w91 ⟨rfl, hb⟩; refine ⟨_, rfl, ?_⟩; have n0_ := Aside0.mk (blk_below (g := gb183) (o := .cells #[.string t182, .int .u32 1, .int .i64 x184002_9, .int .i64 x184003_9] 28 (0, 0)) (by (with_reducible repeat (first | refine blk_drewN ?_ _ | refine blk_drew ?_ | refine blk_alloc ?_ _)); exact BK183.out) hb); have n1_ := Aside0.mk (below_step (by repeat (first | (with_reducible first | exact HB.out | apply below_alloc | apply pw_below_drewN | apply below_drew1 | refine below_set ?_ GE183.out) | exact HB.out)) hb); clear BK183; clear HB; have BK183 := n0_; have HB := n1_; clear n0_ n1_; (try clear hb); (try clear hb2); (try clear hk); (try clear hi)) | ((with_reducible refine gate_dst (N := 17) rfl ?_); refine box_event ?hg (N := 17) ?hd (cs := #[.string (⟨#[]⟩ : ByteArray), .int .u32 0, .int .i64 0, .int .i64 0]) (t := 28) ?hr ?_; (case hd => rfl); (case hg => rfl); (case hr => first | (go_simp; done) | (go_simp; rfl)); intro gb210 hg w92 hbox hb; have n0_ := Aside0.mk (blk_below (g := gb183) (o := .cells #[.string t182, .int .u32 1, .int .i64 x184002_9, .int .i64 x184003_9] 28 (0, 0)) (by (with_reducible repeat (first | refine blk_drewN ?_ _ | refine blk_drew ?_ | refine blk_alloc ?_ _)); exact BK183.out) hb); have n1_ := Aside0.mk (below_step (by repeat (first | (with_reducible first | exact HB.out | apply below_alloc | apply pw_below_drewN | apply below_drew1 | refine below_set ?_ GE183.out) | exact HB.out)) hb); have n2_ := Aside0.mk (hbox); have n3_ := Aside0.mk ((by rw [hg]; exact (below_size (by repeat (first | (with_reducible first | exact HB.out | apply below_alloc | apply pw_below_drewN | apply below_drew1 | refine below_set ?_ GE183.out) | exact HB.out))) : w.heap.size ≤ gb210)); have n4_ := Aside0.mk ((by rw [hg]; exact (below_size (by repeat (first | (with_reducible first | exact HB.out | apply below_alloc | apply pw_below_drewN | apply below_drew1 | refine below_set ?_ GE183.out) | exact HB.out))) : w.heap.size ≤ gb210)); have n5_ := Aside0.mk ((by rw [hg]; exact Nat.ne_of_lt (blk_lt (g := gb183) (o := .cells #[.string t182, .int .u32 1, .int .i64 x184002_9, .int .i64 x184003_9] 28 (0, 0)) (by (with_reducible repeat (first | refine blk_drewN ?_ _ | refine blk_drew ?_ | refine blk_alloc ?_ _)); exact BK183.out)) : gb183 ≠ gb210)); have n6_ := Aside0.mk ((by rw [hg]; exact Nat.ne_of_gt (blk_lt (g := gb183) (o := .cells #[.string t182, .int .u32 1, .int .i64 x184002_9, .int .i64 x184003_9] 28 (0, 0)) (by (with_reducible repeat (first | refine blk_drewN ?_ _ | refine blk_drew ?_ | refine blk_alloc ?_ _)); exact BK183.out)) : gb210 ≠ gb183)); clear BK183; clear HB; have BK183 := n0_; have HB := n1_; have BK210 := n2_; have GW210 := n3_; have GE210 := n4_; have NB183_210 := n5_; have NB210_183 := n6_; clear n0_ n1_ n2_ n3_ n4_ n5_ n6_; clear hb hbox hg; have hnb93 := NB210_183.out; have hnc93 := NB183_210.out; have hcz94_0 : w92.cell? ⟨gb210, 0, none⟩ = some (.string (⟨#[]⟩ : ByteArray)) := (blk_cell BK210.out 0).trans rfl; have hcz94_1 : w92.cell? ⟨gb210, 1, none⟩ = some (.int .u32 0) := (blk_cell BK210.out 1).trans rfl; have hcz94_2 : w92.cell? ⟨gb210, 2, none⟩ = some (.int .i64 0) := (blk_cell BK210.out 2).trans rfl; have hcz94_3 : w92.cell? ⟨gb210, 3, none⟩ = some (.int .i64 0) := (blk_cell BK210.out 3).trans rfl; have hfz94_0 := blk_frozen BK210.out 0; have hfz94_1 := blk_frozen BK210.out 1; have hfz94_2 := blk_frozen BK210.out 2; have hfz94_3 := blk_frozen BK210.out 3; have hcz95_0 : w92.cell? ⟨gb183, 0, none⟩ = some (.string t182) := (blk_cell BK183.out 0).trans rfl; have hcz95_1 : w92.cell? ⟨gb183, 1, none⟩ = some (.int .u32 1) := (blk_cell BK183.out 1).trans rfl; have hcz95_2 : w92.cell? ⟨gb183, 2, none⟩ = some (.int .i64 x184002_9) := (blk_cell BK183.out 2).trans rfl; have hcz95_3 : w92.cell? ⟨gb183, 3, none⟩ = some (.int .i64 x184003_9) := (blk_cell BK183.out 3).trans rfl; have hfz95_0 := blk_frozen BK183.out 0; have hfz95_1 := blk_frozen BK183.out 1; have hfz95_2 := blk_frozen BK183.out 2; have hfz95_3 := blk_frozen BK183.out 3))
              go_ret
              exact ⟨by first | rfl | (simp [errW_none, errW_some] <;> rfl) | (simp [*, errW_none, errW_some] <;> rfl), by repeat (first | (with_reducible first | exact HB.out | apply below_alloc | apply pw_below_drewN | apply below_drew1 | refine below_set ?_ GE183.out | refine below_set ?_ GE210.out) | exact HB.out)⟩
            · replace c90 := Bool.eq_false_iff.mpr c90
              subst c90
              have H1 : (some false) = some r := by rw [if_neg (show ¬ (false = true) by decide)] at H; exact H
              clear H
              have H := H1
              clear H1
              obtain rfl := Option.some.inj H
              go_wp2_with (first | ((with_reducible refine gate_callee (f := 7) rfl ?_); refine goesL_ (some 114) rfl rfl Tryd.func7 (by kernel_rfl) rfl #[.string x13_9] rfl (by (try simp only [List.map_toArray, List.map_cons, List.map_nil]); first | done | rfl | (simp only [List.length_drop, List.length_take]; rfl)) ?_; (with_reducible refine (impl_AskOf.calls kj9 x13_9 t205 t206 t207 t208 false _ A89.out (tab_below GG (by repeat (first | (with_reducible first | exact HB.out | apply below_alloc | apply pw_below_drewN | apply below_drew1 | refine below_set ?_ GE183.out | refine below_set ?_ GE191.out | refine below_set ?_ GE197.out | refine below_set ?_ GE204.out | refine below_set ?_ GE210.out) | exact HB.out)))).mono ?_); rintro e w96 ⟨rfl, hb⟩; refine ⟨_, rfl, ?_⟩; have n0_ := Aside0.mk (blk_below (g := gb183) (o := .cells #[.string t182, .int .u32 1, .int .i64 x184002_9, .int .i64 x184003_9] 28 (0, 0)) (by (with_reducible repeat (first | refine blk_drewN ?_ _ | refine blk_drew ?_ | refine blk_alloc ?_ _)); exact BK183.out) hb); have n1_ := Aside0.mk (below_step (by repeat (first | (with_reducible first | exact HB.out | apply below_alloc | apply pw_below_drewN | apply below_drew1 | refine below_set ?_ GE183.out) | exact HB.out)) hb); clear BK183; clear HB; have BK183 := n0_; have HB := n1_; clear n0_ n1_; (try clear hb); (try clear hb2); (try clear hk); (try clear hi)) | ((with_reducible refine gate_dst (N := 17) rfl ?_); refine box_event ?hg (N := 17) ?hd (cs := #[.string (⟨#[]⟩ : ByteArray), .int .u32 0, .int .i64 0, .int .i64 0]) (t := 28) ?hr ?_; (case hd => rfl); (case hg => rfl); (case hr => first | (go_simp; done) | (go_simp; rfl)); intro gb210 hg w97 hbox hb; have n0_ := Aside0.mk (blk_below (g := gb183) (o := .cells #[.string t182, .int .u32 1, .int .i64 x184002_9, .int .i64 x184003_9] 28 (0, 0)) (by (with_reducible repeat (first | refine blk_drewN ?_ _ | refine blk_drew ?_ | refine blk_alloc ?_ _)); exact BK183.out) hb); have n1_ := Aside0.mk (below_step (by repeat (first | (with_reducible first | exact HB.out | apply below_alloc | apply pw_below_drewN | apply below_drew1 | refine below_set ?_ GE183.out) | exact HB.out)) hb); have n2_ := Aside0.mk (hbox); have n3_ := Aside0.mk ((by rw [hg]; exact (below_size (by repeat (first | (with_reducible first | exact HB.out | apply below_alloc | apply pw_below_drewN | apply below_drew1 | refine below_set ?_ GE183.out) | exact HB.out))) : w.heap.size ≤ gb210)); have n4_ := Aside0.mk ((by rw [hg]; exact (below_size (by repeat (first | (with_reducible first | exact HB.out | apply below_alloc | apply pw_below_drewN | apply below_drew1 | refine below_set ?_ GE183.out) | exact HB.out))) : w.heap.size ≤ gb210)); have n5_ := Aside0.mk ((by rw [hg]; exact Nat.ne_of_lt (blk_lt (g := gb183) (o := .cells #[.string t182, .int .u32 1, .int .i64 x184002_9, .int .i64 x184003_9] 28 (0, 0)) (by (with_reducible repeat (first | refine blk_drewN ?_ _ | refine blk_drew ?_ | refine blk_alloc ?_ _)); exact BK183.out)) : gb183 ≠ gb210)); have n6_ := Aside0.mk ((by rw [hg]; exact Nat.ne_of_gt (blk_lt (g := gb183) (o := .cells #[.string t182, .int .u32 1, .int .i64 x184002_9, .int .i64 x184003_9] 28 (0, 0)) (by (with_reducible repeat (first | refine blk_drewN ?_ _ | refine blk_drew ?_ | refine blk_alloc ?_ _)); exact BK183.out)) : gb210 ≠ gb183)); clear BK183; clear HB; have BK183 := n0_; have HB := n1_; have BK210 := n2_; have GW210 := n3_; have GE210 := n4_; have NB183_210 := n5_; have NB210_183 := n6_; clear n0_ n1_ n2_ n3_ n4_ n5_ n6_; clear hb hbox hg; have hnb98 := NB210_183.out; have hnc98 := NB183_210.out; have hcz99_0 : w97.cell? ⟨gb210, 0, none⟩ = some (.string (⟨#[]⟩ : ByteArray)) := (blk_cell BK210.out 0).trans rfl; have hcz99_1 : w97.cell? ⟨gb210, 1, none⟩ = some (.int .u32 0) := (blk_cell BK210.out 1).trans rfl; have hcz99_2 : w97.cell? ⟨gb210, 2, none⟩ = some (.int .i64 0) := (blk_cell BK210.out 2).trans rfl; have hcz99_3 : w97.cell? ⟨gb210, 3, none⟩ = some (.int .i64 0) := (blk_cell BK210.out 3).trans rfl; have hfz99_0 := blk_frozen BK210.out 0; have hfz99_1 := blk_frozen BK210.out 1; have hfz99_2 := blk_frozen BK210.out 2; have hfz99_3 := blk_frozen BK210.out 3))
              go_ret
              exact ⟨by first | rfl | (simp [errW_none, errW_some] <;> rfl) | (simp [*, errW_none, errW_some] <;> rfl), by repeat (first | (with_reducible first | exact HB.out | apply below_alloc | apply pw_below_drewN | apply below_drew1 | refine below_set ?_ GE183.out | refine below_set ?_ GE210.out) | exact HB.out)⟩

/-- THE ONE PURE STATEMENT of laws_FnAskOf: yours. -/
def laws_FnAskOf.Pure : Prop := ∀ (a0 : Int) (a1 : Int) (a2 : Int) (a3 : Int) (a4 : Int) (a5 : Int), (Lit.int .u32 a0).wf = true → (Lit.int .u8 a1).wf = true → (Lit.int .u8 a2).wf = true → (Lit.int .u16 a3).wf = true → (Lit.int .u16 a4).wf = true → (Lit.int .u16 a5).wf = true → ∃ k, laws_FnAskOf.f k a0 a1 a2 a3 a4 a5 = some true
theorem laws_FnAskOf.walk (P : laws_FnAskOf.Pure) (a0 : Int) (a1 : Int) (a2 : Int) (a3 : Int) (a4 : Int) (a5 : Int) (w : World) (w0 : (Lit.int .u32 a0).wf = true) (w1 : (Lit.int .u8 a1).wf = true) (w2 : (Lit.int .u8 a2).wf = true) (w3 : (Lit.int .u16 a3).wf = true) (w4 : (Lit.int .u16 a4).wf = true) (w5 : (Lit.int .u16 a5).wf = true) (GG : Tab w) :
    Calls Tryd.prog 4 #[.int .u32 a0, .int .u8 a1, .int .u8 a2, .int .u16 a3, .int .u16 a4, .int .u16 a5] w fun e w' => e = .returned (.bool true) ∧ Below w.heap.size w w' := by
  obtain ⟨k, h⟩ := P a0 a1 a2 a3 a4 a5 w0 w1 w2 w3 w4 w5
  refine (laws_FnAskOf.calls k a0 a1 a2 a3 a4 a5 true w h GG).mono ?_
  rintro e w' ⟨rfl, hd⟩
  exact ⟨rfl, hd⟩

end Go.Proofs.YtlclakahgmoafaaDoor.PFnAskOf
