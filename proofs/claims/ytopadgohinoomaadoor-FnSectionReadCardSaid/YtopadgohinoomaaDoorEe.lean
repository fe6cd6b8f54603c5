/-
What spec.Section answers, as a plain Lean function, and that its call comes to that answer: written by a program of this session, after the way of the kit's print of functions, with a contract given (header).
-/
import Derived.Test.YtopadgohinoomaaDoorPt
import Derived.Test.YtopadgohinoomaaDoorPC4
import Derived.Test.YtopadgohinoomaaDoorPC5
import Derived.Test.YtopadgohinoomaaDoorPC6
import Derived.Test.YtopadgohinoomaaDoorPC7
import Derived.Test.YtopadgohinoomaaDoorEd
namespace Go.Proofs.YtopadgohinoomaaDoor.Cx
open Go.RowKit Go.Proofs.YtopadgohinoomaaDoorW.PrintWords Go.Proofs.YtopadgohinoomaaDoorW.PrintLast Go.Proofs.YtopadgohinoomaaDoorW.PrintMore Go.Proofs.YtopadgohinoomaaDoor.PC
attribute [local go_sem] max2_int min2_int max_two min_two max_three min_three max_four min_four
set_option linter.unusedVariables false
set_option linter.unusedSimpArgs false
noncomputable section
/-! ### spec_Section: function 23 -/
mutual
def spec_Section.j0 : Nat → List Int → List Int → Bool → Bool → Int → List Int → Int → Bool → Option (List Int × Bool)
  | 0, _, _, _, _, _, _, _, _ => none
  | k + 1, x0, x1, x2, x3, x4, x12, x13, x49 => if x49 = true then (some (([] : List Int), false)) else ((spec_CodeTable.f k x12 x13).bind fun t221 => ((spec_Has.f k t221 x1).bind fun t224 => (if t224 = true then (if x2 = true then ((spec_WriteWeights.f k x0).bind fun t228 => (spec_Section.j1 k x1 x3 x4 x13 t221 t228 2)) else (spec_Section.j1 k x1 x3 x4 x13 t221 (([] : List Int)) 3)) else (some (([] : List Int), false)))))
def spec_Section.j1 : Nat → List Int → Bool → Int → Int → List (S68) → List Int → Int → Option (List Int × Bool)
  | 0, _, _, _, _, _, _, _ => none
  | k + 1, x1, x3, x4, x13, x15, x16, x17 => if x3 = true then ((spec_WriteFour.f k x15 x13 x1).bind fun t231 => (if x16.length + t231.length < 140737488355328 then (spec_Section.j2 k x1 x3 x4 (x16 ++ t231) x17) else (none))) else ((spec_WriteStream.f k x15 x13 x1).bind fun t237 => (if x16.length + t237.length < 140737488355328 then (spec_Section.j2 k x1 x3 x4 (x16 ++ t237) x17) else (none)))
def spec_Section.j2 : Nat → List Int → Bool → Int → List Int → Int → Option (List Int × Bool)
  | 0, _, _, _, _, _ => none
  | k + 1, x1, x3, x4, x16, x17 => if x3 = true then ((spec_Mod.f x4 3).bind fun t243 => (spec_Section.l0 k x1 x16 x17 (wrap64 (1 + t243)))) else (spec_Section.j4 k x1 x16 x17 0)
def spec_Section.j4 : Nat → List Int → List Int → Int → Int → Option (List Int × Bool)
  | 0, _, _, _, _ => none
  | k + 1, x1, x16, x17, x18 => (spec_fits.f x18 (x1.length : Int) (x16.length : Int)).bind fun t245 => (if t245 = true then ((spec_header.f x17 x18 (x1.length : Int) (x16.length : Int)).bind fun t246 => (if t246.length + x16.length < 140737488355328 then (some ((t246 ++ x16), true)) else (none))) else (some (([] : List Int), false)))
def spec_Section.l0 : Nat → List Int → List Int → Int → Int → Option (List Int × Bool)
  | 0, _, _, _, _ => none
  | k + 1, x1, x16, x17, x18 => if x18 < 3 then ((spec_fits.f x18 (x1.length : Int) (x16.length : Int)).bind fun t244 => (if t244 = true then (spec_Section.j4 k x1 x16 x17 x18) else (spec_Section.l0 k x1 x16 x17 (wrap64 (x18 + 1))))) else (spec_Section.j4 k x1 x16 x17 x18)
end
def spec_Section.f (k : Nat) (l0 : List Int) (l1 : List Int) (a2 : Bool) (a3 : Bool) (a4 : Int) : Option (List Int × Bool) := (spec_Whole.f k l0).bind fun bt216 => (if bt216.2.2 = true then (if (l0.length : Int) > 128 then (spec_Section.j0 k l0 l1 a2 a3 a4 bt216.1 bt216.2.1 true) else (if a3 = true then (if (l1.length : Int) < 10 then (spec_Section.j0 k l0 l1 a2 a3 a4 bt216.1 bt216.2.1 true) else (if (l1.length : Int) = 0 then (spec_Section.j0 k l0 l1 a2 a3 a4 bt216.1 bt216.2.1 true) else (spec_Section.j0 k l0 l1 a2 a3 a4 bt216.1 bt216.2.1 (decide ((l1.length : Int) > 131072))))) else (if (l1.length : Int) = 0 then (spec_Section.j0 k l0 l1 a2 a3 a4 bt216.1 bt216.2.1 true) else (spec_Section.j0 k l0 l1 a2 a3 a4 bt216.1 bt216.2.1 (decide ((l1.length : Int) > 131072)))))) else (spec_Section.j0 k l0 l1 a2 a3 a4 bt216.1 bt216.2.1 true))
theorem spec_Section.mono_l : ∀ k, (∀ y0 y1 y2 y3 y4 y5 y6 y7, LeO (spec_Section.j0 k y0 y1 y2 y3 y4 y5 y6 y7) (spec_Section.j0 (k + 1) y0 y1 y2 y3 y4 y5 y6 y7)) ∧ (∀ y0 y1 y2 y3 y4 y5 y6, LeO (spec_Section.j1 k y0 y1 y2 y3 y4 y5 y6) (spec_Section.j1 (k + 1) y0 y1 y2 y3 y4 y5 y6)) ∧ (∀ y0 y1 y2 y3 y4, LeO (spec_Section.j2 k y0 y1 y2 y3 y4) (spec_Section.j2 (k + 1) y0 y1 y2 y3 y4)) ∧ (∀ y0 y1 y2 y3, LeO (spec_Section.j4 k y0 y1 y2 y3) (spec_Section.j4 (k + 1) y0 y1 y2 y3)) ∧ (∀ y0 y1 y2 y3, LeO (spec_Section.l0 k y0 y1 y2 y3) (spec_Section.l0 (k + 1) y0 y1 y2 y3))
  | 0 => ⟨fun _ _ _ _ _ _ _ _ r h => by simp [spec_Section.j0] at h, fun _ _ _ _ _ _ _ r h => by simp [spec_Section.j1] at h, fun _ _ _ _ _ r h => by simp [spec_Section.j2] at h, fun _ _ _ _ r h => by simp [spec_Section.j4] at h, fun _ _ _ _ r h => by simp [spec_Section.l0] at h⟩
  | k + 1 => by
    obtain ⟨ih0, ih1, ih2, ih3, ih4⟩ := spec_Section.mono_l k
    refine ⟨?_, ?_, ?_, ?_, ?_⟩
    · intro y0 y1 y2 y3 y4 y5 y6 y7
      unfold spec_Section.j0
      repeat' first
      | (with_reducible exact ih0 _ _ _ _ _ _ _ _)
      | (with_reducible exact ih1 _ _ _ _ _ _ _)
      | (with_reducible exact ih2 _ _ _ _ _)
      | (with_reducible exact ih3 _ _ _ _)
      | (with_reducible exact ih4 _ _ _ _)
      | (with_reducible exact spec_CodeTable.mono _ _ _)
      | (with_reducible exact spec_Has.mono _ _ _)
      | (with_reducible exact spec_Whole.mono _ _)
      | (with_reducible exact spec_WriteFour.mono _ _ _ _)
      | (with_reducible exact spec_WriteStream.mono _ _ _ _)
      | (with_reducible exact spec_WriteWeights.mono _ _)
      | (with_reducible exact LeO.refl _)
      | (with_reducible exact LeO.none _)
      | (with_reducible refine LeO.ite ?_ ?_)
      | (with_reducible refine LeO.bind ?_ (fun _ => ?_))
      | exact ih0 _ _ _ _ _ _ _ _
      | exact ih1 _ _ _ _ _ _ _
      | exact ih2 _ _ _ _ _
      | exact ih3 _ _ _ _
      | exact ih4 _ _ _ _
      | exact spec_CodeTable.mono _ _ _
      | exact spec_Has.mono _ _ _
      | exact spec_Whole.mono _ _
      | exact spec_WriteFour.mono _ _ _ _
      | exact spec_WriteStream.mono _ _ _ _
      | exact spec_WriteWeights.mono _ _
      | exact LeO.none _
      | refine LeO.ite ?_ ?_
      | refine LeO.bind ?_ (fun _ => ?_)
    · intro y0 y1 y2 y3 y4 y5 y6
      unfold spec_Section.j1
      repeat' first
      | (with_reducible exact ih0 _ _ _ _ _ _ _ _)
      | (with_reducible exact ih1 _ _ _ _ _ _ _)
      | (with_reducible exact ih2 _ _ _ _ _)
      | (with_reducible exact ih3 _ _ _ _)
      | (with_reducible exact ih4 _ _ _ _)
      | (with_reducible exact spec_CodeTable.mono _ _ _)
      | (with_reducible exact spec_Has.mono _ _ _)
      | (with_reducible exact spec_Whole.mono _ _)
      | (with_reducible exact spec_WriteFour.mono _ _ _ _)
      | (with_reducible exact spec_WriteStream.mono _ _ _ _)
      | (with_reducible exact spec_WriteWeights.mono _ _)
      | (with_reducible exact LeO.refl _)
      | (with_reducible exact LeO.none _)
      | (with_reducible refine LeO.ite ?_ ?_)
      | (with_reducible refine LeO.bind ?_ (fun _ => ?_))
      | exact ih0 _ _ _ _ _ _ _ _
      | exact ih1 _ _ _ _ _ _ _
      | exact ih2 _ _ _ _ _
      | exact ih3 _ _ _ _
      | exact ih4 _ _ _ _
      | exact spec_CodeTable.mono _ _ _
      | exact spec_Has.mono _ _ _
      | exact spec_Whole.mono _ _
      | exact spec_WriteFour.mono _ _ _ _
      | exact spec_WriteStream.mono _ _ _ _
      | exact spec_WriteWeights.mono _ _
      | exact LeO.none _
      | refine LeO.ite ?_ ?_
      | refine LeO.bind ?_ (fun _ => ?_)
    · intro y0 y1 y2 y3 y4
      unfold spec_Section.j2
      repeat' first
      | (with_reducible exact ih0 _ _ _ _ _ _ _ _)
      | (with_reducible exact ih1 _ _ _ _ _ _ _)
      | (with_reducible exact ih2 _ _ _ _ _)
      | (with_reducible exact ih3 _ _ _ _)
      | (with_reducible exact ih4 _ _ _ _)
      | (with_reducible exact spec_CodeTable.mono _ _ _)
      | (with_reducible exact spec_Has.mono _ _ _)
      | (with_reducible exact spec_Whole.mono _ _)
      | (with_reducible exact spec_WriteFour.mono _ _ _ _)
      | (with_reducible exact spec_WriteStream.mono _ _ _ _)
      | (with_reducible exact spec_WriteWeights.mono _ _)
      | (with_reducible exact LeO.refl _)
      | (with_reducible exact LeO.none _)
      | (with_reducible refine LeO.ite ?_ ?_)
      | (with_reducible refine LeO.bind ?_ (fun _ => ?_))
      | exact ih0 _ _ _ _ _ _ _ _
      | exact ih1 _ _ _ _ _ _ _
      | exact ih2 _ _ _ _ _
      | exact ih3 _ _ _ _
      | exact ih4 _ _ _ _
      | exact spec_CodeTable.mono _ _ _
      | exact spec_Has.mono _ _ _
      | exact spec_Whole.mono _ _
      | exact spec_WriteFour.mono _ _ _ _
      | exact spec_WriteStream.mono _ _ _ _
      | exact spec_WriteWeights.mono _ _
      | exact LeO.none _
      | refine LeO.ite ?_ ?_
      | refine LeO.bind ?_ (fun _ => ?_)
    · intro y0 y1 y2 y3
      unfold spec_Section.j4
      repeat' first
      | (with_reducible exact ih0 _ _ _ _ _ _ _ _)
      | (with_reducible exact ih1 _ _ _ _ _ _ _)
      | (with_reducible exact ih2 _ _ _ _ _)
      | (with_reducible exact ih3 _ _ _ _)
      | (with_reducible exact ih4 _ _ _ _)
      | (with_reducible exact spec_CodeTable.mono _ _ _)
      | (with_reducible exact spec_Has.mono _ _ _)
      | (with_reducible exact spec_Whole.mono _ _)
      | (with_reducible exact spec_WriteFour.mono _ _ _ _)
      | (with_reducible exact spec_WriteStream.mono _ _ _ _)
      | (with_reducible exact spec_WriteWeights.mono _ _)
      | (with_reducible exact LeO.refl _)
      | (with_reducible exact LeO.none _)
      | (with_reducible refine LeO.ite ?_ ?_)
      | (with_reducible refine LeO.bind ?_ (fun _ => ?_))
      | exact ih0 _ _ _ _ _ _ _ _
      | exact ih1 _ _ _ _ _ _ _
      | exact ih2 _ _ _ _ _
      | exact ih3 _ _ _ _
      | exact ih4 _ _ _ _
      | exact spec_CodeTable.mono _ _ _
      | exact spec_Has.mono _ _ _
      | exact spec_Whole.mono _ _
      | exact spec_WriteFour.mono _ _ _ _
      | exact spec_WriteStream.mono _ _ _ _
      | exact spec_WriteWeights.mono _ _
      | exact LeO.none _
      | refine LeO.ite ?_ ?_
      | refine LeO.bind ?_ (fun _ => ?_)
    · intro y0 y1 y2 y3
      unfold spec_Section.l0
      repeat' first
      | (with_reducible exact ih0 _ _ _ _ _ _ _ _)
      | (with_reducible exact ih1 _ _ _ _ _ _ _)
      | (with_reducible exact ih2 _ _ _ _ _)
      | (with_reducible exact ih3 _ _ _ _)
      | (with_reducible exact ih4 _ _ _ _)
      | (with_reducible exact spec_CodeTable.mono _ _ _)
      | (with_reducible exact spec_Has.mono _ _ _)
      | (with_reducible exact spec_Whole.mono _ _)
      | (with_reducible exact spec_WriteFour.mono _ _ _ _)
      | (with_reducible exact spec_WriteStream.mono _ _ _ _)
      | (with_reducible exact spec_WriteWeights.mono _ _)
      | (with_reducible exact LeO.refl _)
      | (with_reducible exact LeO.none _)
      | (with_reducible refine LeO.ite ?_ ?_)
      | (with_reducible refine LeO.bind ?_ (fun _ => ?_))
      | exact ih0 _ _ _ _ _ _ _ _
      | exact ih1 _ _ _ _ _ _ _
      | exact ih2 _ _ _ _ _
      | exact ih3 _ _ _ _
      | exact ih4 _ _ _ _
      | exact spec_CodeTable.mono _ _ _
      | exact spec_Has.mono _ _ _
      | exact spec_Whole.mono _ _
      | exact spec_WriteFour.mono _ _ _ _
      | exact spec_WriteStream.mono _ _ _ _
      | exact spec_WriteWeights.mono _ _
      | exact LeO.none _
      | refine LeO.ite ?_ ?_
      | refine LeO.bind ?_ (fun _ => ?_)
theorem spec_Section.mono : ∀ a0 a1 a2 a3 a4 k, LeO (spec_Section.f k a0 a1 a2 a3 a4) (spec_Section.f (k + 1) a0 a1 a2 a3 a4) := by
  intro a0 a1 a2 a3 a4 k
  obtain ⟨ih0, ih1, ih2, ih3, ih4⟩ := spec_Section.mono_l k
  unfold spec_Section.f
  repeat' first
      | (with_reducible exact ih0 _ _ _ _ _ _ _ _)
      | (with_reducible exact ih1 _ _ _ _ _ _ _)
      | (with_reducible exact ih2 _ _ _ _ _)
      | (with_reducible exact ih3 _ _ _ _)
      | (with_reducible exact ih4 _ _ _ _)
      | (with_reducible exact spec_CodeTable.mono _ _ _)
      | (with_reducible exact spec_Has.mono _ _ _)
      | (with_reducible exact spec_Whole.mono _ _)
      | (with_reducible exact spec_WriteFour.mono _ _ _ _)
      | (with_reducible exact spec_WriteStream.mono _ _ _ _)
      | (with_reducible exact spec_WriteWeights.mono _ _)
      | (with_reducible exact LeO.refl _)
      | (with_reducible exact LeO.none _)
      | (with_reducible refine LeO.ite ?_ ?_)
      | (with_reducible refine LeO.bind ?_ (fun _ => ?_))
      | exact ih0 _ _ _ _ _ _ _ _
      | exact ih1 _ _ _ _ _ _ _
      | exact ih2 _ _ _ _ _
      | exact ih3 _ _ _ _
      | exact ih4 _ _ _ _
      | exact spec_CodeTable.mono _ _ _
      | exact spec_Has.mono _ _ _
      | exact spec_Whole.mono _ _
      | exact spec_WriteFour.mono _ _ _ _
      | exact spec_WriteStream.mono _ _ _ _
      | exact spec_WriteWeights.mono _ _
      | exact LeO.none _
      | refine LeO.ite ?_ ?_
      | refine LeO.bind ?_ (fun _ => ?_)
set_option maxHeartbeats 8000000 in
set_option maxRecDepth 100000 in
theorem spec_Section.calls (k : Nat) (A0 : Option Addr) (c0 : Nat) (l0 : List Int) (A1 : Option Addr) (c1 : Nat) (l1 : List Int) (a2 : Bool) (a3 : Bool) (a4 : Int) (r1 : List Int) (r2 : Bool) (w : World) (hr0 : Kd.C (Kd.int .i64) w A0 l0.length l0) (hc0 : l0.length ≤ c0) (hr1 : Kd.C (Kd.int .u8) w A1 l1.length l1) (hc1 : l1.length ≤ c1) (h : spec_Section.f k l0 l1 a2 a3 a4 = some (r1, r2)) :
    Calls Tryd.prog 23 #[.slice A0 l0.length c0, .slice A1 l1.length c1, .bool a2, .bool a3, .int .i64 a4] w fun e w' => ∃ v0_ : Value, e = .returned (.tuple #[v0_, .bool r2]) ∧ Kd.R (Kd.int .u8) 5 w' w.heap.size (fun _ => True) v0_ r1 ∧ Below w.heap.size w w' := by
  have HR0 := Aside0.mk hr0
  have HC0 := Aside0.mk hc0
  clear hr0 hc0
  have HR1 := Aside0.mk hr1
  have HC1 := Aside0.mk hc1
  clear hr1 hc1
  have HB := Aside0.mk (Below.refl w.heap.size w)
  have H : ((spec_Whole.f k l0).bind fun bt216 => (if bt216.2.2 = true then (if (l0.length : Int) > 128 then (spec_Section.j0 k l0 l1 a2 a3 a4 bt216.1 bt216.2.1 true) else (if a3 = true then (if (l1.length : Int) < 10 then (spec_Section.j0 k l0 l1 a2 a3 a4 bt216.1 bt216.2.1 true) else (if (l1.length : Int) = 0 then (spec_Section.j0 k l0 l1 a2 a3 a4 bt216.1 bt216.2.1 true) else (spec_Section.j0 k l0 l1 a2 a3 a4 bt216.1 bt216.2.1 (decide ((l1.length : Int) > 131072))))) else (if (l1.length : Int) = 0 then (spec_Section.j0 k l0 l1 a2 a3 a4 bt216.1 bt216.2.1 true) else (spec_Section.j0 k l0 l1 a2 a3 a4 bt216.1 bt216.2.1 (decide ((l1.length : Int) > 131072)))))) else (spec_Section.j0 k l0 l1 a2 a3 a4 bt216.1 bt216.2.1 true))) = some (r1, r2) := h
  clear h
  replace H := Option.bind_eq_some_iff.mp H
  obtain ⟨⟨t216, t217, t218⟩, A60, H⟩ := H
  replace H : (if t218 = true then (if (l0.length : Int) > 128 then (spec_Section.j0 k l0 l1 a2 a3 a4 t216 t217 true) else (if a3 = true then (if (l1.length : Int) < 10 then (spec_Section.j0 k l0 l1 a2 a3 a4 t216 t217 true) else (if (l1.length : Int) = 0 then (spec_Section.j0 k l0 l1 a2 a3 a4 t216 t217 true) else (spec_Section.j0 k l0 l1 a2 a3 a4 t216 t217 (decide ((l1.length : Int) > 131072))))) else (if (l1.length : Int) = 0 then (spec_Section.j0 k l0 l1 a2 a3 a4 t216 t217 true) else (spec_Section.j0 k l0 l1 a2 a3 a4 t216 t217 (decide ((l1.length : Int) > 131072)))))) else (spec_Section.j0 k l0 l1 a2 a3 a4 t216 t217 true)) = some (r1, r2) := H
  have A6 := Aside0.mk A60
  clear A60
  have HC7 := Aside0.mk H
  clear H
  go_enter Tryd.func23, Tryd.ntmps23
  go_upto_region 2 with (first | ((with_reducible refine gate_callee (f := 16) rfl ?_); refine goesL_ (some 21) rfl rfl Tryd.func16 (by kernel_rfl) rfl #[.slice A0 l0.length c0] rfl (by (try simp only [List.map_toArray, List.map_cons, List.map_nil]); first | done | rfl | (simp only [List.length_drop, List.length_take]; rfl)) ?_; (with_reducible refine (spec_Whole.calls k _ _ l0 t216 t217 t218 _ ?side1 ?side2 A6.out).mono ?_); (case side1 => repeat (first | exact HR0.out | (with_reducible refine Kd.C_alloc ?_ _) | (with_reducible refine Kd.C_drewN ?_ _) | (with_reducible refine Kd.C_drew ?_))); (case side2 => exact HC0.out); rintro e w8 ⟨v219, rfl, ho0, hb⟩; refine ⟨_, rfl, ?_⟩; have n0_ := Aside0.mk (Kd.R_lower ho0 (below_size (by repeat (first | (with_reducible first | exact HB.out | apply below_alloc | apply pw_below_drewN | apply below_drew1) | exact HB.out)))); have n1_ := Aside0.mk (below_step (by repeat (first | (with_reducible first | exact HB.out | apply below_alloc | apply pw_below_drewN | apply below_drew1) | exact HB.out)) hb); clear HB; have HO220 := n0_; have HB := n1_; clear n0_ n1_; (try clear hb); (try clear hb2); (try clear hk); (try clear hi); (try clear ho0)))
  (try simp only [Act.put, List.setIfInBounds_toArray, List.set_cons_zero, List.set_cons_succ])
  go_cut [49] (fun v49 wc => ∃ (kq : Nat) (x49_6 : Bool), v49 = .bool x49_6 ∧ Aside0 (spec_Section.j0 kq l0 l1 a2 a3 a4 t216 t217 x49_6 = some (r1, r2)) ∧ Aside0 (kq ≤ k) ∧ Aside0 (Kd.R (Kd.int .i64) 3 wc w.heap.size (fun _ => True) v219 t216) ∧ Aside0 (Below w.heap.size w wc))
  case first =>
    have H := HC7.out
    clear HC7
    by_cases c9 : t218 = true
    · subst c9
      have H1 : (if (l0.length : Int) > 128 then (spec_Section.j0 k l0 l1 a2 a3 a4 t216 t217 true) else (if a3 = true then (if (l1.length : Int) < 10 then (spec_Section.j0 k l0 l1 a2 a3 a4 t216 t217 true) else (if (l1.length : Int) = 0 then (spec_Section.j0 k l0 l1 a2 a3 a4 t216 t217 true) else (spec_Section.j0 k l0 l1 a2 a3 a4 t216 t217 (decide ((l1.length : Int) > 131072))))) else (if (l1.length : Int) = 0 then (spec_Section.j0 k l0 l1 a2 a3 a4 t216 t217 true) else (spec_Section.j0 k l0 l1 a2 a3 a4 t216 t217 (decide ((l1.length : Int) > 131072)))))) = some (r1, r2) := by rw [if_pos rfl] at H; exact H
      clear H
      have H := H1
      clear H1
      by_cases c10 : (l0.length : Int) > 128
      · rw [if_pos c10] at H
        have c10b0 : decide (128 < (l0.length : Int)) = true := decide_eq_true c10
        have c10b1 : decide (128 < l0.length) = true := decide_eq_true (by omega)
        clear c10
        (first | rw [c10b0] | (simp only [i64_w, i32_w]; rw [c10b0]) | skip)
        have H' := Aside0.mk H
        clear H
        go_wp2
        go_meet
        case rel => exact ⟨_, (true), (by first | rfl | (simp; done) | (simp [*]; done)), H', ⟨by first | omega | exact Nat.le_refl _⟩, ⟨by (with_reducible repeat (first | apply Kd.R_alloc | apply Kd.R_drewN | apply Kd.R_drew)); exact HO220.out⟩, ⟨by repeat (first | (with_reducible first | exact HB.out | apply below_alloc | apply pw_below_drewN | apply below_drew1) | exact HB.out)⟩⟩
      · rw [if_neg c10] at H
        have c10b0 : decide (128 < (l0.length : Int)) = false := decide_eq_false c10
        have c10b1 : decide (128 < l0.length) = false := decide_eq_false (by omega)
        clear c10
        (first | rw [c10b0] | (simp only [i64_w, i32_w]; rw [c10b0]) | skip)
        by_cases c11 : a3 = true
        · subst c11
          have H1 : (if (l1.length : Int) < 10 then (spec_Section.j0 k l0 l1 a2 true a4 t216 t217 true) else (if (l1.length : Int) = 0 then (spec_Section.j0 k l0 l1 a2 true a4 t216 t217 true) else (spec_Section.j0 k l0 l1 a2 true a4 t216 t217 (decide ((l1.length : Int) > 131072))))) = some (r1, r2) := by rw [if_pos rfl] at H; exact H
          clear H
          have H := H1
          clear H1
          by_cases c12 : (l1.length : Int) < 10
          · rw [if_pos c12] at H
            have c12b0 : decide ((l1.length : Int) < 10) = true := decide_eq_true c12
            have c12b1 : decide (l1.length < 10) = true := decide_eq_true (by omega)
            clear c12
            have H' := Aside0.mk H
            clear H
            go_wp2
            go_meet
            case rel => exact ⟨_, (true), (by first | rfl | (simp; done) | (simp [*]; done)), H', ⟨by first | omega | exact Nat.le_refl _⟩, ⟨by (with_reducible repeat (first | apply Kd.R_alloc | apply Kd.R_drewN | apply Kd.R_drew)); exact HO220.out⟩, ⟨by repeat (first | (with_reducible first | exact HB.out | apply below_alloc | apply pw_below_drewN | apply below_drew1) | exact HB.out)⟩⟩
          · rw [if_neg c12] at H
            have c12b0 : decide ((l1.length : Int) < 10) = false := decide_eq_false c12
            have c12b1 : decide (l1.length < 10) = false := decide_eq_false (by omega)
            clear c12
            by_cases c13 : (l1.length : Int) = 0
            · rw [if_pos c13] at H
              have c13b0 : ((l1.length : Int) == 0) = true := beq_iff_eq.mpr c13
              have c13b1 : ((l1.length : Int) != 0) = false := bne_eq_false_iff_eq.mpr c13
              clear c13
              have H' := Aside0.mk H
              clear H
              go_wp2
              go_meet
              case rel => exact ⟨_, (true), (by first | rfl | (simp; done) | (simp [*]; done)), H', ⟨by first | omega | exact Nat.le_refl _⟩, ⟨by (with_reducible repeat (first | apply Kd.R_alloc | apply Kd.R_drewN | apply Kd.R_drew)); exact HO220.out⟩, ⟨by repeat (first | (with_reducible first | exact HB.out | apply below_alloc | apply pw_below_drewN | apply below_drew1) | exact HB.out)⟩⟩
            · rw [if_neg c13] at H
              have c13b0 : ((l1.length : Int) == 0) = false := beq_eq_false_iff_ne.mpr c13
              have c13b1 : ((l1.length : Int) != 0) = true := bne_iff_ne.mpr c13
              have c13b2 : ¬ (l1 = []) := fun h_ => c13 (by rw [h_]; rfl)
              have H' := Aside0.mk H
              clear H
              go_wp2
              go_meet
              case rel => exact ⟨_, (decide ((l1.length : Int) > 131072)), (by first | rfl | (simp; done) | (simp [*]; done)), H', ⟨by first | omega | exact Nat.le_refl _⟩, ⟨by (with_reducible repeat (first | apply Kd.R_alloc | apply Kd.R_drewN | apply Kd.R_drew)); exact HO220.out⟩, ⟨by repeat (first | (with_reducible first | exact HB.out | apply below_alloc | apply pw_below_drewN | apply below_drew1) | exact HB.out)⟩⟩
        · replace c11 := Bool.eq_false_iff.mpr c11
          subst c11
          have H1 : (if (l1.length : Int) = 0 then (spec_Section.j0 k l0 l1 a2 false a4 t216 t217 true) else (spec_Section.j0 k l0 l1 a2 false a4 t216 t217 (decide ((l1.length : Int) > 131072)))) = some (r1, r2) := by rw [if_neg (show ¬ (false = true) by decide)] at H; exact H
          clear H
          have H := H1
          clear H1
          by_cases c14 : (l1.length : Int) = 0
          · rw [if_pos c14] at H
            have c14b0 : ((l1.length : Int) == 0) = true := beq_iff_eq.mpr c14
            have c14b1 : ((l1.length : Int) != 0) = false := bne_eq_false_iff_eq.mpr c14
            clear c14
            have H' := Aside0.mk H
            clear H
            go_wp2
            go_meet
            case rel => exact ⟨_, (true), (by first | rfl | (simp; done) | (simp [*]; done)), H', ⟨by first | omega | exact Nat.le_refl _⟩, ⟨by (with_reducible repeat (first | apply Kd.R_alloc | apply Kd.R_drewN | apply Kd.R_drew)); exact HO220.out⟩, ⟨by repeat (first | (with_reducible first | exact HB.out | apply below_alloc | apply pw_below_drewN | apply below_drew1) | exact HB.out)⟩⟩
          · rw [if_neg c14] at H
            have c14b0 : ((l1.length : Int) == 0) = false := beq_eq_false_iff_ne.mpr c14
            have c14b1 : ((l1.length : Int) != 0) = true := bne_iff_ne.mpr c14
            have c14b2 : ¬ (l1 = []) := fun h_ => c14 (by rw [h_]; rfl)
            have H' := Aside0.mk H
            clear H
            go_wp2
            go_meet
            case rel => exact ⟨_, (decide ((l1.length : Int) > 131072)), (by first | rfl | (simp; done) | (simp [*]; done)), H', ⟨by first | omega | exact Nat.le_refl _⟩, ⟨by (with_reducible repeat (first | apply Kd.R_alloc | apply Kd.R_drewN | apply Kd.R_drew)); exact HO220.out⟩, ⟨by repeat (first | (with_reducible first | exact HB.out | apply below_alloc | apply pw_below_drewN | apply below_drew1) | exact HB.out)⟩⟩
    · replace c9 := Bool.eq_false_iff.mpr c9
      subst c9
      have H1 : (spec_Section.j0 k l0 l1 a2 a3 a4 t216 t217 true) = some (r1, r2) := by rw [if_neg (show ¬ (false = true) by decide)] at H; exact H
      clear H
      have H := H1
      clear H1
      have H' := Aside0.mk H
      clear H
      go_wp2
      go_meet
      case rel => exact ⟨_, (true), (by first | rfl | (simp; done) | (simp [*]; done)), H', ⟨by first | omega | exact Nat.le_refl _⟩, ⟨by (with_reducible repeat (first | apply Kd.R_alloc | apply Kd.R_drewN | apply Kd.R_drew)); exact HO220.out⟩, ⟨by repeat (first | (with_reducible first | exact HB.out | apply below_alloc | apply pw_below_drewN | apply below_drew1) | exact HB.out)⟩⟩
  case rest =>
    clear HC7
    try clear c1
    try clear c2
    try clear p2
    try clear c9
    try clear c10
    try clear c10b0
    try clear c10b1
    try clear c11
    try clear c12
    try clear c12b0
    try clear c12b1
    try clear c13
    try clear c13b0
    try clear c13b1
    try clear c13b2
    try clear c14
    try clear c14b0
    try clear c14b1
    try clear c14b2
    obtain ⟨kq, x49_6, rfl, HA, HJ6, HO_12, HB⟩ := hcut
    cases kq with
    | zero => exact absurd HA.out (by simp [spec_Section.j0])
    | succ kj6 =>
      have H := HA.out
      clear HA
      simp only [spec_Section.j0] at H
      by_cases c15 : x49_6 = true
      · subst c15
        have H1 : (some (([] : List Int), false)) = some (r1, r2) := by rw [if_pos rfl] at H; exact H
        clear H
        have H := H1
        clear H1
        simp only [Option.some.injEq, Prod.mk.injEq] at H
        obtain ⟨rfl, rfl⟩ := H
        go_wp2
        go_ret2
        exact ⟨_, by first | rfl | (simp [errW_none, errW_some] <;> rfl) | (simp [*, errW_none, errW_some] <;> rfl), by first | exact Kd.R_nil _ _ _ _ _ | exact Kd.N_nil _ _ _ _ _ | exact Kd.V_nil _ _ _ _ _ | exact Kd.Q_nil _ _ _ _ _ | exact Kd.S_nil _ _ _ _ _, by repeat (first | (with_reducible first | exact HB.out | apply below_alloc | apply pw_below_drewN | apply below_drew1) | exact HB.out)⟩
      · replace c15 := Bool.eq_false_iff.mpr c15
        subst c15
        have H1 : ((spec_CodeTable.f kj6 t216 t217).bind fun t221 => ((spec_Has.f kj6 t221 l1).bind fun t224 => (if t224 = true then (if a2 = true then ((spec_WriteWeights.f kj6 l0).bind fun t228 => (spec_Section.j1 kj6 l1 a3 a4 t217 t221 t228 2)) else (spec_Section.j1 kj6 l1 a3 a4 t217 t221 (([] : List Int)) 3)) else (some (([] : List Int), false))))) = some (r1, r2) := by rw [if_neg (show ¬ (false = true) by decide)] at H; exact H
        clear H
        have H := H1
        clear H1
        replace H := Option.bind_eq_some_iff.mp H
        obtain ⟨t221, A160, H⟩ := H
        replace H : ((spec_Has.f kj6 t221 l1).bind fun t224 => (if t224 = true then (if a2 = true then ((spec_WriteWeights.f kj6 l0).bind fun t228 => (spec_Section.j1 kj6 l1 a3 a4 t217 t221 t228 2)) else (spec_Section.j1 kj6 l1 a3 a4 t217 t221 (([] : List Int)) 3)) else (some (([] : List Int), false)))) = some (r1, r2) := H
        have A16 := Aside0.mk A160
        clear A160
        replace H := Option.bind_eq_some_iff.mp H
        obtain ⟨t224, A170, H⟩ := H
        replace H : (if t224 = true then (if a2 = true then ((spec_WriteWeights.f kj6 l0).bind fun t228 => (spec_Section.j1 kj6 l1 a3 a4 t217 t221 t228 2)) else (spec_Section.j1 kj6 l1 a3 a4 t217 t221 (([] : List Int)) 3)) else (some (([] : List Int), false))) = some (r1, r2) := H
        have A17 := Aside0.mk A170
        clear A170
        by_cases c18 : t224 = true
        · subst c18
          have H1 : (if a2 = true then ((spec_WriteWeights.f kj6 l0).bind fun t228 => (spec_Section.j1 kj6 l1 a3 a4 t217 t221 t228 2)) else (spec_Section.j1 kj6 l1 a3 a4 t217 t221 (([] : List Int)) 3)) = some (r1, r2) := by rw [if_pos rfl] at H; exact H
          clear H
          have H := H1
          clear H1
          obtain ⟨y225, hy225⟩ : ∃ y_ : List Int, y_ = (([] : List Int)) := ⟨_, rfl⟩
          replace H : (if a2 = true then ((spec_WriteWeights.f kj6 l0).bind fun t228 => (spec_Section.j1 kj6 l1 a3 a4 t217 t221 t228 2)) else (spec_Section.j1 kj6 l1 a3 a4 t217 t221 y225 3)) = some (r1, r2) := by first | (rw [hy225]; with_reducible exact H) | (have H2_ := (Option.bind_some _ _).symm.trans H; rw [hy225]; with_reducible exact H2_) | (have H2_ := (Option.bind_some _ _).symm.trans H; with_reducible exact H2_) | with_reducible exact H | (rw [hy225]; exact H) | exact H
          have Ny225 := Aside0.mk hy225
          clear hy225
          have HC19 := Aside0.mk H
          clear H
          obtain ⟨Ao20, co20, eo20⟩ := Kd.R_slice HO_12.out
          subst eo20
          go_upto_if 58 with (first | ((with_reducible refine gate_callee (f := 18) rfl ?_); refine goesL_ (some 52) rfl rfl Tryd.func18 (by kernel_rfl) rfl #[.slice Ao20 t216.length co20, .int .i64 t217] rfl (by (try simp only [List.map_toArray, List.map_cons, List.map_nil]); first | done | rfl | (simp only [List.length_drop, List.length_take]; rfl)) ?_; (with_reducible refine (spec_CodeTable.calls kj6 _ _ t216 t217 t221 _ ?side1 ?side2 A16.out).mono ?_); (case side1 => repeat (first | exact (Kd.R_reads' HO_12.out).2.2 | (with_reducible refine Kd.C_alloc ?_ _) | (with_reducible refine Kd.C_drewN ?_ _) | (with_reducible refine Kd.C_drew ?_))); (case side2 => exact (Kd.R_reads' HO_12.out).2.1); rintro e w21 ⟨v222, rfl, ho0, hb⟩; refine ⟨_, rfl, ?_⟩; have n0_ := Aside0.mk (Kd.R_below (by (with_reducible repeat (first | apply Kd.R_alloc | apply Kd.R_drewN | apply Kd.R_drew)); exact HO_12.out) hb); have n1_ := Aside0.mk (Kd.R_lower ho0 (below_size (by repeat (first | (with_reducible first | exact HB.out | apply below_alloc | apply pw_below_drewN | apply below_drew1) | exact HB.out)))); have n2_ := Aside0.mk (below_step (by repeat (first | (with_reducible first | exact HB.out | apply below_alloc | apply pw_below_drewN | apply below_drew1) | exact HB.out)) hb); clear HO_12; clear HB; have HO_12 := n0_; have HO223 := n1_; have HB := n2_; clear n0_ n1_ n2_; (try clear hb); (try clear hb2); (try clear hk); (try clear hi); (try clear ho0); obtain ⟨Ao22, co22, eo22⟩ := Kd.R_slice HO223.out; subst eo22) | ((with_reducible refine gate_callee (f := 19) rfl ?_); refine goesL_ (some 55) rfl rfl Tryd.func19 (by kernel_rfl) rfl #[.slice Ao22 t221.length co22, .slice A1 l1.length c1] rfl (by (try simp only [List.map_toArray, List.map_cons, List.map_nil]); first | done | rfl | (simp only [List.length_drop, List.length_take]; rfl)) ?_; (with_reducible refine (spec_Has.calls kj6 _ _ t221 _ _ l1 true _ ?side1 ?side2 ?side3 ?side4 A17.out).mono ?_); (case side1 => repeat (first | exact (Kd.R_reads' HO223.out).2.2 | (with_reducible refine Kd.C_alloc ?_ _) | (with_reducible refine Kd.C_drewN ?_ _) | (with_reducible refine Kd.C_drew ?_))); (case side2 => exact (Kd.R_reads' HO223.out).2.1); (case side3 => repeat (first | exact (Kd.C_below HR1.out HB.out) | (with_reducible refine Kd.C_alloc ?_ _) | (with_reducible refine Kd.C_drewN ?_ _) | (with_reducible refine Kd.C_drew ?_))); (case side4 => exact HC1.out); rintro e w23 ⟨rfl, hb⟩; refine ⟨_, rfl, ?_⟩; have n0_ := Aside0.mk (Kd.R_below (by (with_reducible repeat (first | apply Kd.R_alloc | apply Kd.R_drewN | apply Kd.R_drew)); exact HO_12.out) hb); have n1_ := Aside0.mk (Kd.R_below (by (with_reducible repeat (first | apply Kd.R_alloc | apply Kd.R_drewN | apply Kd.R_drew)); exact HO223.out) hb); have n2_ := Aside0.mk (below_step (by repeat (first | (with_reducible first | exact HB.out | apply below_alloc | apply pw_below_drewN | apply below_drew1) | exact HB.out)) hb); clear HO_12; clear HO223; clear HB; have HO_12 := n0_; have HO223 := n1_; have HB := n2_; clear n0_ n1_ n2_; (try clear hb); (try clear hb2); (try clear hk); (try clear hi)) | ((with_reducible refine gate_dst (N := 57) rfl ?_); (try (refine gate_guard (by rfl) ?_; dsimp only)); refine Kd.R_lit (Kd.int .u8) _ 5 ?hg (N := 57) ?hd (xs := ([] : List Int)) (inner := []) (ok := fun _ => True) (okp := fun _ => True) ?hr ?hp (fun _ hk => hk) trivial (Below.refl _ _) (Nat.le_refl _) (by simp) ?_; (case hd => rfl); (case hg => rfl); (case hr => first | (go_simp; done) | (go_simp; rfl)); (case hp => exact (Reps.none _ _)); intro v226 w24 ho25 hb hg_ hnew_; clear hg_ hnew_; (first | rw [← Ny225.out] at ho25 | (simp only [Int.reduceToNat] at ho25; rw [← Ny225.out] at ho25)); have n0_ := Aside0.mk (Kd.R_below (by (with_reducible repeat (first | apply Kd.R_alloc | apply Kd.R_drewN | apply Kd.R_drew)); exact HO_12.out) hb); have n1_ := Aside0.mk (Kd.R_below (by (with_reducible repeat (first | apply Kd.R_alloc | apply Kd.R_drewN | apply Kd.R_drew)); exact HO223.out) hb); have n2_ := Aside0.mk (Kd.R_lower ho25 (below_size (by repeat (first | (with_reducible first | exact HB.out | apply below_alloc | apply pw_below_drewN | apply below_drew1) | exact HB.out)))); have n3_ := Aside0.mk (below_step (by repeat (first | (with_reducible first | exact HB.out | apply below_alloc | apply pw_below_drewN | apply below_drew1) | exact HB.out)) hb); clear HO_12; clear HO223; clear HB; have HO_12 := n0_; have HO223 := n1_; have HO227 := n2_; have HB := n3_; clear n0_ n1_ n2_ n3_; clear hb ho25))
          (try simp only [Act.put, List.setIfInBounds_toArray, List.set_cons_zero, List.set_cons_succ])
          go_cut [16, 17] (fun v16 v17 wc => ∃ (kq : Nat) (x16_18 : List Int) (x17_18 : Int), v17 = .int .i64 x17_18 ∧ Aside0 (spec_Section.j1 kq l1 a3 a4 t217 t221 x16_18 x17_18 = some (r1, r2)) ∧ Aside0 (kq ≤ kj6) ∧ Aside0 (Kd.R k68 68 wc w.heap.size (fun _ => True) (.slice Ao22 t221.length co22) t221) ∧ Aside0 (Kd.R (Kd.int .u8) 5 wc w.heap.size (fun _ => True) v16 x16_18) ∧ Aside0 (Below w.heap.size w wc))
          case first =>
            have H := HC19.out
            clear HC19
            by_cases c26 : a2 = true
            · subst c26
              have H1 : ((spec_WriteWeights.f kj6 l0).bind fun t228 => (spec_Section.j1 kj6 l1 a3 a4 t217 t221 t228 2)) = some (r1, r2) := by rw [if_pos rfl] at H; exact H
              clear H
              have H := H1
              clear H1
              replace H := Option.bind_eq_some_iff.mp H
              obtain ⟨t228, A270, H⟩ := H
              replace H : (spec_Section.j1 kj6 l1 a3 a4 t217 t221 t228 2) = some (r1, r2) := H
              have A27 := Aside0.mk A270
              clear A270
              have H' := Aside0.mk H
              clear H
              go_wp2_with (first | ((with_reducible refine gate_callee (f := 34) rfl ?_); refine goesL_ (some 60) rfl rfl Tryd.func34 (by kernel_rfl) rfl #[.slice A0 l0.length c0] rfl (by (try simp only [List.map_toArray, List.map_cons, List.map_nil]); first | done | rfl | (simp only [List.length_drop, List.length_take]; rfl)) ?_; (with_reducible refine (spec_WriteWeights.calls kj6 _ _ l0 t228 _ ?side1 ?side2 A27.out).mono ?_); (case side1 => repeat (first | exact (Kd.C_below HR0.out HB.out) | (with_reducible refine Kd.C_alloc ?_ _) | (with_reducible refine Kd.C_drewN ?_ _) | (with_reducible refine Kd.C_drew ?_))); (case side2 => exact HC0.out); rintro e w28 ⟨v229, rfl, ho0, hb⟩; refine ⟨_, rfl, ?_⟩; have n0_ := Aside0.mk (Kd.R_below (by (with_reducible repeat (first | apply Kd.R_alloc | apply Kd.R_drewN | apply Kd.R_drew)); exact HO_12.out) hb); have n1_ := Aside0.mk (Kd.R_below (by (with_reducible repeat (first | apply Kd.R_alloc | apply Kd.R_drewN | apply Kd.R_drew)); exact HO223.out) hb); have n2_ := Aside0.mk (Kd.R_elder' (by (with_reducible repeat (first | apply Kd.R_alloc | apply Kd.R_drewN | apply Kd.R_drew)); exact HO227.out) (Kd.R_base ho0) hb); have n3_ := Aside0.mk (Kd.R_lower (Kd.R_new' ho0 (Kd.R_lt (by (with_reducible repeat (first | apply Kd.R_alloc | apply Kd.R_drewN | apply Kd.R_drew)); exact HO227.out))) (below_size (by repeat (first | (with_reducible first | exact HB.out | apply below_alloc | apply pw_below_drewN | apply below_drew1) | exact HB.out)))); have n4_ := Aside0.mk (below_step (by repeat (first | (with_reducible first | exact HB.out | apply below_alloc | apply pw_below_drewN | apply below_drew1) | exact HB.out)) hb); clear HO_12; clear HO223; clear HO227; clear HB; have HO_12 := n0_; have HO223 := n1_; have HO227 := n2_; have HO230 := n3_; have HB := n4_; clear n0_ n1_ n2_ n3_ n4_; (try clear hb); (try clear hb2); (try clear hk); (try clear hi); (try clear ho0)))
              go_meet
              case rel => exact ⟨_, (t228), (2), (by first | rfl | (simp; done) | (simp [*]; done)), H', ⟨by have := HJ6.out; first | omega | exact Nat.le_refl _⟩, ⟨by (with_reducible repeat (first | apply Kd.R_alloc | apply Kd.R_drewN | apply Kd.R_drew)); exact HO223.out⟩, ⟨by (with_reducible repeat (first | apply Kd.R_alloc | apply Kd.R_drewN | apply Kd.R_drew)); exact Kd.R_mono HO230.out (fun _ hk => trivial)⟩, ⟨by repeat (first | (with_reducible first | exact HB.out | apply below_alloc | apply pw_below_drewN | apply below_drew1) | exact HB.out)⟩⟩
            · replace c26 := Bool.eq_false_iff.mpr c26
              subst c26
              have H1 : (spec_Section.j1 kj6 l1 a3 a4 t217 t221 y225 3) = some (r1, r2) := by rw [if_neg (show ¬ (false = true) by decide)] at H; exact H
              clear H
              have H := H1
              clear H1
              have H' := Aside0.mk H
              clear H
              go_wp2
              go_meet
              case rel => exact ⟨_, (y225), (3), (by first | rfl | (simp; done) | (simp [*]; done)), H', ⟨by have := HJ6.out; first | omega | exact Nat.le_refl _⟩, ⟨by (with_reducible repeat (first | apply Kd.R_alloc | apply Kd.R_drewN | apply Kd.R_drew)); exact HO223.out⟩, ⟨by (with_reducible repeat (first | apply Kd.R_alloc | apply Kd.R_drewN | apply Kd.R_drew)); exact HO227.out⟩, ⟨by repeat (first | (with_reducible first | exact HB.out | apply below_alloc | apply pw_below_drewN | apply below_drew1) | exact HB.out)⟩⟩
          case rest =>
            clear HC19
            try clear c1
            try clear c2
            try clear p2
            try clear c3
            try clear c9
            try clear c10
            try clear c10b0
            try clear c10b1
            try clear c11
            try clear c12
            try clear c12b0
            try clear c12b1
            try clear c13
            try clear c13b0
            try clear c13b1
            try clear c13b2
            try clear c14
            try clear c14b0
            try clear c14b1
            try clear c14b2
            try clear c15
            try clear c16
            try clear c18
            try clear c19
            try clear c23
            try clear c26
            try clear p2
            obtain ⟨kq, x16_18, x17_18, rfl, HA, HJ18, HO_15, HO_16, HB⟩ := hcut
            cases kq with
            | zero => exact absurd HA.out (by simp [spec_Section.j1])
            | succ kj18 =>
              have H := HA.out
              clear HA
              simp only [spec_Section.j1] at H
              have HC29 := Aside0.mk H
              clear H
              go_upto_if 61 with (fail)
              go_cut [16] (fun v16 wc => ∃ (kq : Nat) (x16_28 : List Int), Aside0 (spec_Section.j2 kq l1 a3 a4 x16_28 x17_18 = some (r1, r2)) ∧ Aside0 (kq ≤ kj18) ∧ Aside0 (Kd.R (Kd.int .u8) 5 wc w.heap.size (fun _ => True) v16 x16_28) ∧ Aside0 (Below w.heap.size w wc))
              case first =>
                have H := HC29.out
                clear HC29
                by_cases c30 : a3 = true
                · subst c30
                  have H1 : ((spec_WriteFour.f kj18 t221 t217 l1).bind fun t231 => (if x16_18.length + t231.length < 140737488355328 then (spec_Section.j2 kj18 l1 true a4 (x16_18 ++ t231) x17_18) else (none))) = some (r1, r2) := by rw [if_pos rfl] at H; exact H
                  clear H
                  have H := H1
                  clear H1
                  replace H := Option.bind_eq_some_iff.mp H
                  obtain ⟨t231, A310, H⟩ := H
                  replace H : (if x16_18.length + t231.length < 140737488355328 then (spec_Section.j2 kj18 l1 true a4 (x16_18 ++ t231) x17_18) else (none)) = some (r1, r2) := H
                  have A31 := Aside0.mk A310
                  clear A310
                  by_cases c32 : x16_18.length + t231.length < 140737488355328
                  · rw [if_pos c32] at H
                    have LMc32 := Aside0.mk c32
                    clear c32
                    obtain ⟨y234, hy234⟩ : ∃ y_ : List Int, y_ = (x16_18 ++ t231) := ⟨_, rfl⟩
                    replace H : (spec_Section.j2 kj18 l1 true a4 y234 x17_18) = some (r1, r2) := by first | (rw [hy234]; with_reducible exact H) | (have H2_ := (Option.bind_some _ _).symm.trans H; rw [hy234]; with_reducible exact H2_) | (have H2_ := (Option.bind_some _ _).symm.trans H; with_reducible exact H2_) | with_reducible exact H | (rw [hy234]; exact H) | exact H
                    have Ny234 := Aside0.mk hy234
                    clear hy234
                    have H' := Aside0.mk H
                    clear H
                    go_wp2_with (first | ((with_reducible refine gate_callee (f := 20) rfl ?_); refine goesL_ (some 66) rfl rfl Tryd.func20 (by kernel_rfl) rfl #[.slice Ao22 t221.length co22, .int .i64 t217, .slice A1 l1.length c1] rfl (by (try simp only [List.map_toArray, List.map_cons, List.map_nil]); first | done | rfl | (simp only [List.length_drop, List.length_take]; rfl)) ?_; (with_reducible refine (spec_WriteFour.calls kj18 _ _ t221 t217 _ _ l1 t231 _ ?side1 ?side2 ?side3 ?side4 A31.out).mono ?_); (case side1 => repeat (first | exact (Kd.R_reads' HO_15.out).2.2 | (with_reducible refine Kd.C_alloc ?_ _) | (with_reducible refine Kd.C_drewN ?_ _) | (with_reducible refine Kd.C_drew ?_))); (case side2 => exact (Kd.R_reads' HO_15.out).2.1); (case side3 => repeat (first | exact (Kd.C_below HR1.out HB.out) | (with_reducible refine Kd.C_alloc ?_ _) | (with_reducible refine Kd.C_drewN ?_ _) | (with_reducible refine Kd.C_drew ?_))); (case side4 => exact HC1.out); rintro e w33 ⟨v232, rfl, ho0, hb⟩; refine ⟨_, rfl, ?_⟩; have n0_ := Aside0.mk (Kd.R_below (by (with_reducible repeat (first | apply Kd.R_alloc | apply Kd.R_drewN | apply Kd.R_drew)); exact HO_15.out) hb); have n1_ := Aside0.mk (Kd.R_elder' (by (with_reducible repeat (first | apply Kd.R_alloc | apply Kd.R_drewN | apply Kd.R_drew)); exact HO_16.out) (Kd.R_base ho0) hb); have n2_ := Aside0.mk (Kd.R_lower (Kd.R_new' ho0 (Kd.R_lt (by (with_reducible repeat (first | apply Kd.R_alloc | apply Kd.R_drewN | apply Kd.R_drew)); exact HO_16.out))) (below_size (by repeat (first | (with_reducible first | exact HB.out | apply below_alloc | apply pw_below_drewN | apply below_drew1) | exact HB.out)))); have n3_ := Aside0.mk (below_step (by repeat (first | (with_reducible first | exact HB.out | apply below_alloc | apply pw_below_drewN | apply below_drew1) | exact HB.out)) hb); clear HO_15; clear HO_16; clear HB; have HO_15 := n0_; have HO_16 := n1_; have HO233 := n2_; have HB := n3_; clear n0_ n1_ n2_ n3_; (try clear hb); (try clear hb2); (try clear hk); (try clear hi); (try clear ho0); obtain ⟨Ao35, co35, eo35⟩ := Kd.R_slice HO233.out; subst eo35) | ((with_reducible refine gate_builtin (b := .append) (xs := #[.tmp 62, .tmp 66]) rfl ?_); (try (refine gate_guard (by rfl) ?_; dsimp only)); at_builtin; refine Kd.R_append_rows (Kd.int .u8) (w0 := w) w.heap.size rfl (.tmp 62) (.tmp 66) 32 5 (.int .u8 0) 1 rfl Tryd.underlying32 PC.info5 rfl (by decide) (by omega) u16 x16_18 t231 _ _ _ (fun k_ => some k_ ≠ (.slice Ao35 t231.length co35 : Value).ownBlock) (fun _ => False) rfl rfl ?aO ?aR (fun _ _ h => h) (fun _ h => h.elim) ?aF ?aB ?aS ?aL ?_; (case aR => repeat (first | exact (Kd.R_reads' HO233.out).2.2 | (with_reducible refine Kd.C_alloc ?_ _) | (with_reducible refine Kd.C_drewN ?_ _) | (with_reducible refine Kd.C_drew ?_))); (case aB => exact (by repeat (first | (with_reducible first | exact HB.out | apply below_alloc | apply pw_below_drewN | apply below_drew1) | exact HB.out))); (case aF => exact (fun k_ hk => Kd.fresh' (Kd.R_lt (by (with_reducible repeat (first | apply Kd.R_alloc | apply Kd.R_drewN | apply Kd.R_drew)); exact HO233.out)) k_ hk)); (case aO => exact (by (with_reducible repeat (first | apply Kd.R_alloc | apply Kd.R_drewN | apply Kd.R_drew)); exact Kd.R_mono HO_16.out (fun _ hk => hk.2))); (case aS => exact (below_size (by repeat (first | (with_reducible first | exact HB.out | apply below_alloc | apply pw_below_drewN | apply below_drew1) | exact HB.out)))); (case aL => have := LMc32.out; omega); intro v235 w34 ho hb hg hat; rw [← Ny234.out] at ho; have n0_ := Aside0.mk (Kd.R_over' (by (with_reducible repeat (first | apply Kd.R_alloc | apply Kd.R_drewN | apply Kd.R_drew)); exact HO_15.out) (Kd.R_typed (by (with_reducible repeat (first | apply Kd.R_alloc | apply Kd.R_drewN | apply Kd.R_drew)); exact HO_16.out)) (by decide) hg); have n1_ := Aside0.mk (Kd.R_after (ok := (fun _ => True)) (by (with_reducible repeat (first | apply Kd.R_alloc | apply Kd.R_drewN | apply Kd.R_drew)); exact HO233.out) hg hat); have n2_ := Aside0.mk (hb); have n3_ := Aside0.mk (ho); clear HO_15; clear HO233; clear HB; clear HO_16; have HO_15 := n0_; have HO233 := n1_; have HB := n2_; have HO236 := n3_; clear n0_ n1_ n2_ n3_; clear ho hb hg hat))
                    go_meet
                    case rel => exact ⟨_, (y234), H', ⟨by have := HJ6.out; have := HJ18.out; first | omega | exact Nat.le_refl _⟩, ⟨by (with_reducible repeat (first | apply Kd.R_alloc | apply Kd.R_drewN | apply Kd.R_drew)); exact Kd.R_mono HO236.out (fun _ hk => trivial)⟩, ⟨by repeat (first | (with_reducible first | exact HB.out | apply below_alloc | apply pw_below_drewN | apply below_drew1) | exact HB.out)⟩⟩
                  · rw [if_neg c32] at H
                    exact absurd H (by simp)
                · replace c30 := Bool.eq_false_iff.mpr c30
                  subst c30
                  have H1 : ((spec_WriteStream.f kj18 t221 t217 l1).bind fun t237 => (if x16_18.length + t237.length < 140737488355328 then (spec_Section.j2 kj18 l1 false a4 (x16_18 ++ t237) x17_18) else (none))) = some (r1, r2) := by rw [if_neg (show ¬ (false = true) by decide)] at H; exact H
                  clear H
                  have H := H1
                  clear H1
                  replace H := Option.bind_eq_some_iff.mp H
                  obtain ⟨t237, A360, H⟩ := H
                  replace H : (if x16_18.length + t237.length < 140737488355328 then (spec_Section.j2 kj18 l1 false a4 (x16_18 ++ t237) x17_18) else (none)) = some (r1, r2) := H
                  have A36 := Aside0.mk A360
                  clear A360
                  by_cases c37 : x16_18.length + t237.length < 140737488355328
                  · rw [if_pos c37] at H
                    have LMc37 := Aside0.mk c37
                    clear c37
                    obtain ⟨y240, hy240⟩ : ∃ y_ : List Int, y_ = (x16_18 ++ t237) := ⟨_, rfl⟩
                    replace H : (spec_Section.j2 kj18 l1 false a4 y240 x17_18) = some (r1, r2) := by first | (rw [hy240]; with_reducible exact H) | (have H2_ := (Option.bind_some _ _).symm.trans H; rw [hy240]; with_reducible exact H2_) | (have H2_ := (Option.bind_some _ _).symm.trans H; with_reducible exact H2_) | with_reducible exact H | (rw [hy240]; exact H) | exact H
                    have Ny240 := Aside0.mk hy240
                    clear hy240
                    have H' := Aside0.mk H
                    clear H
                    go_wp2_with (first | ((with_reducible refine gate_callee (f := 36) rfl ?_); refine goesL_ (some 72) rfl rfl Tryd.func36 (by kernel_rfl) rfl #[.slice Ao22 t221.length co22, .int .i64 t217, .slice A1 l1.length c1] rfl (by (try simp only [List.map_toArray, List.map_cons, List.map_nil]); first | done | rfl | (simp only [List.length_drop, List.length_take]; rfl)) ?_; (with_reducible refine (spec_WriteStream.calls kj18 _ _ t221 t217 _ _ l1 t237 _ ?side1 ?side2 ?side3 ?side4 A36.out).mono ?_); (case side1 => repeat (first | exact (Kd.R_reads' HO_15.out).2.2 | (with_reducible refine Kd.C_alloc ?_ _) | (with_reducible refine Kd.C_drewN ?_ _) | (with_reducible refine Kd.C_drew ?_))); (case side2 => exact (Kd.R_reads' HO_15.out).2.1); (case side3 => repeat (first | exact (Kd.C_below HR1.out HB.out) | (with_reducible refine Kd.C_alloc ?_ _) | (with_reducible refine Kd.C_drewN ?_ _) | (with_reducible refine Kd.C_drew ?_))); (case side4 => exact HC1.out); rintro e w38 ⟨v238, rfl, ho0, hb⟩; refine ⟨_, rfl, ?_⟩; have n0_ := Aside0.mk (Kd.R_below (by (with_reducible repeat (first | apply Kd.R_alloc | apply Kd.R_drewN | apply Kd.R_drew)); exact HO_15.out) hb); have n1_ := Aside0.mk (Kd.R_elder' (by (with_reducible repeat (first | apply Kd.R_alloc | apply Kd.R_drewN | apply Kd.R_drew)); exact HO_16.out) (Kd.R_base ho0) hb); have n2_ := Aside0.mk (Kd.R_lower (Kd.R_new' ho0 (Kd.R_lt (by (with_reducible repeat (first | apply Kd.R_alloc | apply Kd.R_drewN | apply Kd.R_drew)); exact HO_16.out))) (below_size (by repeat (first | (with_reducible first | exact HB.out | apply below_alloc | apply pw_below_drewN | apply below_drew1) | exact HB.out)))); have n3_ := Aside0.mk (below_step (by repeat (first | (with_reducible first | exact HB.out | apply below_alloc | apply pw_below_drewN | apply below_drew1) | exact HB.out)) hb); clear HO_15; clear HO_16; clear HB; have HO_15 := n0_; have HO_16 := n1_; have HO239 := n2_; have HB := n3_; clear n0_ n1_ n2_ n3_; (try clear hb); (try clear hb2); (try clear hk); (try clear hi); (try clear ho0); obtain ⟨Ao40, co40, eo40⟩ := Kd.R_slice HO239.out; subst eo40) | ((with_reducible refine gate_builtin (b := .append) (xs := #[.tmp 68, .tmp 72]) rfl ?_); (try (refine gate_guard (by rfl) ?_; dsimp only)); at_builtin; refine Kd.R_append_rows (Kd.int .u8) (w0 := w) w.heap.size rfl (.tmp 68) (.tmp 72) 32 5 (.int .u8 0) 1 rfl Tryd.underlying32 PC.info5 rfl (by decide) (by omega) u16 x16_18 t237 _ _ _ (fun k_ => some k_ ≠ (.slice Ao40 t237.length co40 : Value).ownBlock) (fun _ => False) rfl rfl ?aO ?aR (fun _ _ h => h) (fun _ h => h.elim) ?aF ?aB ?aS ?aL ?_; (case aR => repeat (first | exact (Kd.R_reads' HO239.out).2.2 | (with_reducible refine Kd.C_alloc ?_ _) | (with_reducible refine Kd.C_drewN ?_ _) | (with_reducible refine Kd.C_drew ?_))); (case aB => exact (by repeat (first | (with_reducible first | exact HB.out | apply below_alloc | apply pw_below_drewN | apply below_drew1) | exact HB.out))); (case aF => exact (fun k_ hk => Kd.fresh' (Kd.R_lt (by (with_reducible repeat (first | apply Kd.R_alloc | apply Kd.R_drewN | apply Kd.R_drew)); exact HO239.out)) k_ hk)); (case aO => exact (by (with_reducible repeat (first | apply Kd.R_alloc | apply Kd.R_drewN | apply Kd.R_drew)); exact Kd.R_mono HO_16.out (fun _ hk => hk.2))); (case aS => exact (below_size (by repeat (first | (with_reducible first | exact HB.out | apply below_alloc | apply pw_below_drewN | apply below_drew1) | exact HB.out)))); (case aL => have := LMc37.out; omega); intro v241 w39 ho hb hg hat; rw [← Ny240.out] at ho; have n0_ := Aside0.mk (Kd.R_over' (by (with_reducible repeat (first | apply Kd.R_alloc | apply Kd.R_drewN | apply Kd.R_drew)); exact HO_15.out) (Kd.R_typed (by (with_reducible repeat (first | apply Kd.R_alloc | apply Kd.R_drewN | apply Kd.R_drew)); exact HO_16.out)) (by decide) hg); have n1_ := Aside0.mk (Kd.R_after (ok := (fun _ => True)) (by (with_reducible repeat (first | apply Kd.R_alloc | apply Kd.R_drewN | apply Kd.R_drew)); exact HO239.out) hg hat); have n2_ := Aside0.mk (hb); have n3_ := Aside0.mk (ho); clear HO_15; clear HO239; clear HB; clear HO_16; have HO_15 := n0_; have HO239 := n1_; have HB := n2_; have HO242 := n3_; clear n0_ n1_ n2_ n3_; clear ho hb hg hat))
                    go_meet
                    case rel => exact ⟨_, (y240), H', ⟨by have := HJ6.out; have := HJ18.out; first | omega | exact Nat.le_refl _⟩, ⟨by (with_reducible repeat (first | apply Kd.R_alloc | apply Kd.R_drewN | apply Kd.R_drew)); exact Kd.R_mono HO242.out (fun _ hk => trivial)⟩, ⟨by repeat (first | (with_reducible first | exact HB.out | apply below_alloc | apply pw_below_drewN | apply below_drew1) | exact HB.out)⟩⟩
                  · rw [if_neg c37] at H
                    exact absurd H (by simp)
              case rest =>
                clear HC29
                try clear c1
                try clear c2
                try clear p2
                try clear c3
                try clear c9
                try clear c10
                try clear c10b0
                try clear c10b1
                try clear c11
                try clear c12
                try clear c12b0
                try clear c12b1
                try clear c13
                try clear c13b0
                try clear c13b1
                try clear c13b2
                try clear c14
                try clear c14b0
                try clear c14b1
                try clear c14b2
                try clear c15
                try clear c16
                try clear c18
                try clear c19
                try clear c20
                try clear c23
                try clear c26
                try clear c30
                try clear c32
                try clear c34
                try clear c36
                try clear c37
                try clear p2
                obtain ⟨kq, x16_28, HA, HJ28, HO_16, HB⟩ := hcut
                cases kq with
                | zero => exact absurd HA.out (by simp [spec_Section.j2])
                | succ kj28 =>
                  have H := HA.out
                  clear HA
                  simp only [spec_Section.j2] at H
                  have HC41 := Aside0.mk H
                  clear H
                  go_upto_if 74 with (fail)
                  go_cut [18] (fun v18 wc => ∃ (kq : Nat) (x18_40 : Int), v18 = .int .i64 x18_40 ∧ Aside0 (spec_Section.j4 kq l1 x16_28 x17_18 x18_40 = some (r1, r2)) ∧ Aside0 (kq ≤ kj28) ∧ Aside0 (Kd.R (Kd.int .u8) 5 wc w.heap.size (fun _ => True) u16 x16_28) ∧ Aside0 (Below w.heap.size w wc))
                  case first =>
                    have H := HC41.out
                    clear HC41
                    by_cases c42 : a3 = true
                    · subst c42
                      have H1 : ((spec_Mod.f a4 3).bind fun t243 => (spec_Section.l0 kj28 l1 x16_28 x17_18 (wrap64 (1 + t243)))) = some (r1, r2) := by rw [if_pos rfl] at H; exact H
                      clear H
                      have H := H1
                      clear H1
                      replace H := Option.bind_eq_some_iff.mp H
                      obtain ⟨t243, A430, H⟩ := H
                      replace H : (spec_Section.l0 kj28 l1 x16_28 x17_18 (wrap64 (1 + t243))) = some (r1, r2) := H
                      have A43 := Aside0.mk A430
                      clear A430
                      have H' := Aside0.mk H
                      clear H
                      go_wp2_with (first | ((with_reducible refine gate_callee (f := 39) rfl ?_); refine goesL_ (some 76) rfl rfl Tryd.func39 (by kernel_rfl) rfl #[.int .i64 a4, .int .i64 3] rfl (by (try simp only [List.map_toArray, List.map_cons, List.map_nil]); first | done | rfl | (simp only [List.length_drop, List.length_take]; rfl)) ?_; (with_reducible refine (spec_Mod.calls a4 3 t243 _ A43.out).mono ?_); rintro e w' ⟨rfl, ⟨nd, rfl⟩⟩; refine ⟨_, rfl, ?_⟩))
                      go_loopg [18] kj28 (fun kq v18 w' => ∃ (x18_4 : Int), v18 = .int .i64 x18_4 ∧ Aside0 (spec_Section.l0 kq l1 x16_28 x17_18 x18_4 = some (r1, r2)) ∧ Aside0 (kq ≤ kj28) ∧ Aside0 (Kd.R (Kd.int .u8) 5 w' w.heap.size (fun _ => True) u16 x16_28) ∧ Aside0 (Below w.heap.size w w'))
                      case atStart => exact ⟨(wrap64 (1 + t243)), (by first | rfl | (simp; done) | (simp [*]; done)), H', ⟨Nat.le_refl _⟩, ⟨by (with_reducible repeat (first | apply Kd.R_alloc | apply Kd.R_drewN | apply Kd.R_drew)); exact HO_16.out⟩, ⟨by repeat (first | (with_reducible first | exact HB.out | apply below_alloc | apply pw_below_drewN | apply below_drew1) | exact HB.out)⟩⟩
                      case round =>
                        clear H'
                        try clear c1
                        try clear c2
                        try clear p2
                        try clear c3
                        try clear c4
                        try clear p6
                        try clear c9
                        try clear c10
                        try clear c10b0
                        try clear c10b1
                        try clear c11
                        try clear c12
                        try clear c12b0
                        try clear c12b1
                        try clear c13
                        try clear c13b0
                        try clear c13b1
                        try clear c13b2
                        try clear c14
                        try clear c14b0
                        try clear c14b1
                        try clear c14b2
                        try clear c15
                        try clear c16
                        try clear c18
                        try clear c19
                        try clear c20
                        try clear c23
                        try clear c26
                        try clear c30
                        try clear c32
                        try clear c34
                        try clear c36
                        try clear c37
                        try clear c39
                        try clear c42
                        try clear p2
                        obtain ⟨x18_4, rfl, HA, HK4, HO_16, HB⟩ := hrel
                        cases gk with
                        | zero => exact absurd HA.out (by simp [spec_Section.l0])
                        | succ k4 =>
                          have H := HA.out
                          clear HA
                          simp only [spec_Section.l0] at H
                          by_cases c44 : x18_4 < 3
                          · rw [if_pos c44] at H
                            have c44b0 : decide (x18_4 < 3) = true := decide_eq_true c44
                            clear c44
                            (first | rw [c44b0] | (simp only [i64_w, i32_w]; rw [c44b0]) | skip)
                            replace H := Option.bind_eq_some_iff.mp H
                            obtain ⟨t244, A450, H⟩ := H
                            replace H : (if t244 = true then (spec_Section.j4 k4 l1 x16_28 x17_18 x18_4) else (spec_Section.l0 k4 l1 x16_28 x17_18 (wrap64 (x18_4 + 1)))) = some (r1, r2) := H
                            have A45 := Aside0.mk A450
                            clear A450
                            by_cases c46 : t244 = true
                            · subst c46
                              have H1 : (spec_Section.j4 k4 l1 x16_28 x17_18 x18_4) = some (r1, r2) := by rw [if_pos rfl] at H; exact H
                              clear H
                              have H := H1
                              clear H1
                              have H' := Aside0.mk H
                              clear H
                              obtain ⟨Ao47, co47, eo47⟩ := Kd.R_slice HO_16.out
                              subst eo47
                              go_wp2_with (first | (go_at_call 40; (with_reducible refine (spec_fits.calls x18_4 (l1.length : Int) (x16_28.length : Int) true _ A45.out).mono ?_); rintro e w48 ⟨rfl, hb⟩; have n0_ := Aside0.mk (Kd.R_below (by (with_reducible repeat (first | apply Kd.R_alloc | apply Kd.R_drewN | apply Kd.R_drew)); exact HO_16.out) hb); have n1_ := Aside0.mk (below_step (by repeat (first | (with_reducible first | exact HB.out | apply below_alloc | apply pw_below_drewN | apply below_drew1) | exact HB.out)) hb); clear HO_16; clear HB; have HO_16 := n0_; have HB := n1_; clear n0_ n1_; (try clear hb); (try clear hb2); (try clear hk); (try clear hi)))
                              go_meet
                              case rel => exact ⟨_, (x18_4), (by first | rfl | (simp; done) | (simp [*]; done)), H', ⟨by have := HJ6.out; have := HJ18.out; have := HJ28.out; have := HK4.out; first | omega | exact Nat.le_refl _⟩, ⟨by (with_reducible repeat (first | apply Kd.R_alloc | apply Kd.R_drewN | apply Kd.R_drew)); exact HO_16.out⟩, ⟨by repeat (first | (with_reducible first | exact HB.out | apply below_alloc | apply pw_below_drewN | apply below_drew1) | exact HB.out)⟩⟩
                            · replace c46 := Bool.eq_false_iff.mpr c46
                              subst c46
                              have H1 : (spec_Section.l0 k4 l1 x16_28 x17_18 (wrap64 (x18_4 + 1))) = some (r1, r2) := by rw [if_neg (show ¬ (false = true) by decide)] at H; exact H
                              clear H
                              have H := H1
                              clear H1
                              have H' := Aside0.mk H
                              clear H
                              obtain ⟨Ao49, co49, eo49⟩ := Kd.R_slice HO_16.out
                              subst eo49
                              go_wp2_with (first | (go_at_call 40; (with_reducible refine (spec_fits.calls x18_4 (l1.length : Int) (x16_28.length : Int) false _ A45.out).mono ?_); rintro e w50 ⟨rfl, hb⟩; have n0_ := Aside0.mk (Kd.R_below (by (with_reducible repeat (first | apply Kd.R_alloc | apply Kd.R_drewN | apply Kd.R_drew)); exact HO_16.out) hb); have n1_ := Aside0.mk (below_step (by repeat (first | (with_reducible first | exact HB.out | apply below_alloc | apply pw_below_drewN | apply below_drew1) | exact HB.out)) hb); clear HO_16; clear HB; have HO_16 := n0_; have HB := n1_; clear n0_ n1_; (try clear hb); (try clear hb2); (try clear hk); (try clear hi)))
                              go_roundg k4
                              case measure => have := HJ6.out; have := HJ18.out; have := HJ28.out; have := HK4.out; omega
                              case rel => exact ⟨(wrap64 (x18_4 + 1)), (by first | rfl | (simp; done) | (simp [*]; done)), H', ⟨by have := HJ6.out; have := HJ18.out; have := HJ28.out; have := HK4.out; omega⟩, ⟨by (with_reducible repeat (first | apply Kd.R_alloc | apply Kd.R_drewN | apply Kd.R_drew)); exact HO_16.out⟩, ⟨by repeat (first | (with_reducible first | exact HB.out | apply below_alloc | apply pw_below_drewN | apply below_drew1) | exact HB.out)⟩⟩
                          · rw [if_neg c44] at H
                            have c44b0 : decide (x18_4 < 3) = false := decide_eq_false c44
                            clear c44
                            (first | rw [c44b0] | (simp only [i64_w, i32_w]; rw [c44b0]) | skip)
                            have H' := Aside0.mk H
                            clear H
                            go_wp2
                            go_meet
                            case rel => exact ⟨_, (x18_4), (by first | rfl | (simp; done) | (simp [*]; done)), H', ⟨by have := HJ6.out; have := HJ18.out; have := HJ28.out; have := HK4.out; first | omega | exact Nat.le_refl _⟩, ⟨by (with_reducible repeat (first | apply Kd.R_alloc | apply Kd.R_drewN | apply Kd.R_drew)); exact HO_16.out⟩, ⟨by repeat (first | (with_reducible first | exact HB.out | apply below_alloc | apply pw_below_drewN | apply below_drew1) | exact HB.out)⟩⟩
                    · replace c42 := Bool.eq_false_iff.mpr c42
                      subst c42
                      have H1 : (spec_Section.j4 kj28 l1 x16_28 x17_18 0) = some (r1, r2) := by rw [if_neg (show ¬ (false = true) by decide)] at H; exact H
                      clear H
                      have H := H1
                      clear H1
                      have H' := Aside0.mk H
                      clear H
                      go_wp2
                      go_meet
                      case rel => exact ⟨_, (0), (by first | rfl | (simp; done) | (simp [*]; done)), H', ⟨by have := HJ6.out; have := HJ18.out; have := HJ28.out; first | omega | exact Nat.le_refl _⟩, ⟨by (with_reducible repeat (first | apply Kd.R_alloc | apply Kd.R_drewN | apply Kd.R_drew)); exact HO_16.out⟩, ⟨by repeat (first | (with_reducible first | exact HB.out | apply below_alloc | apply pw_below_drewN | apply below_drew1) | exact HB.out)⟩⟩
                  case rest =>
                    clear HC41
                    try clear c1
                    try clear c2
                    try clear p2
                    try clear c3
                    try clear c4
                    try clear p6
                    try clear c9
                    try clear c10
                    try clear c10b0
                    try clear c10b1
                    try clear c11
                    try clear c12
                    try clear c12b0
                    try clear c12b1
                    try clear c13
                    try clear c13b0
                    try clear c13b1
                    try clear c13b2
                    try clear c14
                    try clear c14b0
                    try clear c14b1
                    try clear c14b2
                    try clear c15
                    try clear c16
                    try clear c18
                    try clear c19
                    try clear c20
                    try clear c23
                    try clear c26
                    try clear c30
                    try clear c32
                    try clear c34
                    try clear c36
                    try clear c37
                    try clear c39
                    try clear c42
                    try clear c44
                    try clear c44b0
                    try clear c46
                    try clear p2
                    try clear p6
                    obtain ⟨kq, x18_40, rfl, HA, HJ40, HO_16, HB⟩ := hcut
                    cases kq with
                    | zero => exact absurd HA.out (by simp [spec_Section.j4])
                    | succ kj40 =>
                      have H := HA.out
                      clear HA
                      simp only [spec_Section.j4] at H
                      replace H := Option.bind_eq_some_iff.mp H
                      obtain ⟨t245, A510, H⟩ := H
                      replace H : (if t245 = true then ((spec_header.f x17_18 x18_40 (l1.length : Int) (x16_28.length : Int)).bind fun t246 => (if t246.length + x16_28.length < 140737488355328 then (some ((t246 ++ x16_28), true)) else (none))) else (some (([] : List Int), false))) = some (r1, r2) := H
                      have A51 := Aside0.mk A510
                      clear A510
                      by_cases c52 : t245 = true
                      · subst c52
                        have H1 : ((spec_header.f x17_18 x18_40 (l1.length : Int) (x16_28.length : Int)).bind fun t246 => (if t246.length + x16_28.length < 140737488355328 then (some ((t246 ++ x16_28), true)) else (none))) = some (r1, r2) := by rw [if_pos rfl] at H; exact H
                        clear H
                        have H := H1
                        clear H1
                        replace H := Option.bind_eq_some_iff.mp H
                        obtain ⟨t246, A530, H⟩ := H
                        replace H : (if t246.length + x16_28.length < 140737488355328 then (some ((t246 ++ x16_28), true)) else (none)) = some (r1, r2) := H
                        have A53 := Aside0.mk A530
                        clear A530
                        by_cases c54 : t246.length + x16_28.length < 140737488355328
                        · rw [if_pos c54] at H
                          have LMc54 := Aside0.mk c54
                          clear c54
                          obtain ⟨y249, hy249⟩ : ∃ y_ : List Int, y_ = (t246 ++ x16_28) := ⟨_, rfl⟩
                          replace H : (some (y249, true)) = some (r1, r2) := by first | (rw [hy249]; with_reducible exact H) | (have H2_ := (Option.bind_some _ _).symm.trans H; rw [hy249]; with_reducible exact H2_) | (have H2_ := (Option.bind_some _ _).symm.trans H; with_reducible exact H2_) | with_reducible exact H | (rw [hy249]; exact H) | exact H
                          have Ny249 := Aside0.mk hy249
                          clear hy249
                          simp only [Option.some.injEq, Prod.mk.injEq] at H
                          obtain ⟨rfl, rfl⟩ := H
                          obtain ⟨Ao55, co55, eo55⟩ := Kd.R_slice HO_16.out
                          subst eo55
                          go_wp2_with (first | ((with_reducible refine gate_callee (f := 40) rfl ?_); refine goesL_ (some 96) rfl rfl Tryd.func40 (by kernel_rfl) rfl #[.int .i64 x18_40, .int .i64 (l1.length : Int), .int .i64 (x16_28.length : Int)] rfl (by (try simp only [List.map_toArray, List.map_cons, List.map_nil]); first | done | rfl | (simp only [List.length_drop, List.length_take]; rfl)) ?_; (with_reducible refine (spec_fits.calls x18_40 (l1.length : Int) (x16_28.length : Int) true _ A51.out).mono ?_); rintro e w56 ⟨rfl, hb⟩; refine ⟨_, rfl, ?_⟩; have n0_ := Aside0.mk (Kd.R_below (by (with_reducible repeat (first | apply Kd.R_alloc | apply Kd.R_drewN | apply Kd.R_drew)); exact HO_16.out) hb); have n1_ := Aside0.mk (below_step (by repeat (first | (with_reducible first | exact HB.out | apply below_alloc | apply pw_below_drewN | apply below_drew1) | exact HB.out)) hb); clear HO_16; clear HB; have HO_16 := n0_; have HB := n1_; clear n0_ n1_; (try clear hb); (try clear hb2); (try clear hk); (try clear hi)) | ((with_reducible refine gate_callee (f := 41) rfl ?_); refine goesL_ (some 104) rfl rfl Tryd.func41 (by kernel_rfl) rfl #[.int .i64 x17_18, .int .i64 x18_40, .int .i64 (l1.length : Int), .int .i64 (x16_28.length : Int)] rfl (by (try simp only [List.map_toArray, List.map_cons, List.map_nil]); first | done | rfl | (simp only [List.length_drop, List.length_take]; rfl)) ?_; (with_reducible refine (spec_header.calls x17_18 x18_40 (l1.length : Int) (x16_28.length : Int) t246 _ A53.out).mono ?_); rintro e w57 ⟨v247, rfl, ho0, hb⟩; refine ⟨_, rfl, ?_⟩; have n0_ := Aside0.mk (Kd.R_elder' (by (with_reducible repeat (first | apply Kd.R_alloc | apply Kd.R_drewN | apply Kd.R_drew)); exact HO_16.out) (Kd.R_base ho0) hb); have n1_ := Aside0.mk (Kd.R_lower (Kd.R_new' ho0 (Kd.R_lt (by (with_reducible repeat (first | apply Kd.R_alloc | apply Kd.R_drewN | apply Kd.R_drew)); exact HO_16.out))) (below_size (by repeat (first | (with_reducible first | exact HB.out | apply below_alloc | apply pw_below_drewN | apply below_drew1) | exact HB.out)))); have n2_ := Aside0.mk (below_step (by repeat (first | (with_reducible first | exact HB.out | apply below_alloc | apply pw_below_drewN | apply below_drew1) | exact HB.out)) hb); clear HO_16; clear HB; have HO_16 := n0_; have HO248 := n1_; have HB := n2_; clear n0_ n1_ n2_; (try clear hb); (try clear hb2); (try clear hk); (try clear hi); (try clear ho0)) | ((with_reducible refine gate_builtin (b := .append) (xs := #[.tmp 104, .tmp 105]) rfl ?_); (try (refine gate_guard (by rfl) ?_; dsimp only)); at_builtin; refine Kd.R_append_rows (Kd.int .u8) (w0 := w) w.heap.size rfl (.tmp 104) (.tmp 105) 32 5 (.int .u8 0) 1 rfl Tryd.underlying32 PC.info5 rfl (by decide) (by omega) v247 t246 x16_28 _ _ _ (fun k_ => some k_ ≠ (.slice Ao55 x16_28.length co55 : Value).ownBlock) (fun _ => False) rfl rfl ?aO ?aR (fun _ _ h => h) (fun _ h => h.elim) ?aF ?aB ?aS ?aL ?_; (case aR => repeat (first | exact (Kd.R_reads' HO_16.out).2.2 | (with_reducible refine Kd.C_alloc ?_ _) | (with_reducible refine Kd.C_drewN ?_ _) | (with_reducible refine Kd.C_drew ?_))); (case aB => exact (by repeat (first | (with_reducible first | exact HB.out | apply below_alloc | apply pw_below_drewN | apply below_drew1) | exact HB.out))); (case aF => exact (fun k_ hk => Kd.fresh' (Kd.R_lt (by (with_reducible repeat (first | apply Kd.R_alloc | apply Kd.R_drewN | apply Kd.R_drew)); exact HO_16.out)) k_ hk)); (case aO => exact (by (with_reducible repeat (first | apply Kd.R_alloc | apply Kd.R_drewN | apply Kd.R_drew)); exact Kd.R_mono HO248.out (fun _ hk => hk.2))); (case aS => exact (below_size (by repeat (first | (with_reducible first | exact HB.out | apply below_alloc | apply pw_below_drewN | apply below_drew1) | exact HB.out)))); (case aL => have := LMc54.out; omega); intro v250 w58 ho hb hg hat; rw [← Ny249.out] at ho; have n0_ := Aside0.mk (Kd.R_after (ok := (fun _ => True)) (by (with_reducible repeat (first | apply Kd.R_alloc | apply Kd.R_drewN | apply Kd.R_drew)); exact HO_16.out) hg hat); have n1_ := Aside0.mk (hb); have n2_ := Aside0.mk (ho); clear HO_16; clear HB; clear HO248; have HO_16 := n0_; have HB := n1_; have HO251 := n2_; clear n0_ n1_ n2_; clear ho hb hg hat))
                          go_ret2
                          exact ⟨_, by first | rfl | (simp [errW_none, errW_some] <;> rfl) | (simp [*, errW_none, errW_some] <;> rfl), by (with_reducible repeat (first | apply Kd.R_alloc | apply Kd.R_drewN | apply Kd.R_drew)); exact Kd.R_mono HO251.out (fun _ hk => trivial), by repeat (first | (with_reducible first | exact HB.out | apply below_alloc | apply pw_below_drewN | apply below_drew1) | exact HB.out)⟩
                        · rw [if_neg c54] at H
                          exact absurd H (by simp)
                      · replace c52 := Bool.eq_false_iff.mpr c52
                        subst c52
                        have H1 : (some (([] : List Int), false)) = some (r1, r2) := by rw [if_neg (show ¬ (false = true) by decide)] at H; exact H
                        clear H
                        have H := H1
                        clear H1
                        simp only [Option.some.injEq, Prod.mk.injEq] at H
                        obtain ⟨rfl, rfl⟩ := H
                        obtain ⟨Ao59, co59, eo59⟩ := Kd.R_slice HO_16.out
                        subst eo59
                        go_wp2_with (first | ((with_reducible refine gate_callee (f := 40) rfl ?_); refine goesL_ (some 96) rfl rfl Tryd.func40 (by kernel_rfl) rfl #[.int .i64 x18_40, .int .i64 (l1.length : Int), .int .i64 (x16_28.length : Int)] rfl (by (try simp only [List.map_toArray, List.map_cons, List.map_nil]); first | done | rfl | (simp only [List.length_drop, List.length_take]; rfl)) ?_; (with_reducible refine (spec_fits.calls x18_40 (l1.length : Int) (x16_28.length : Int) false _ A51.out).mono ?_); rintro e w60 ⟨rfl, hb⟩; refine ⟨_, rfl, ?_⟩; have n0_ := Aside0.mk (Kd.R_below (by (with_reducible repeat (first | apply Kd.R_alloc | apply Kd.R_drewN | apply Kd.R_drew)); exact HO_16.out) hb); have n1_ := Aside0.mk (below_step (by repeat (first | (with_reducible first | exact HB.out | apply below_alloc | apply pw_below_drewN | apply below_drew1) | exact HB.out)) hb); clear HO_16; clear HB; have HO_16 := n0_; have HB := n1_; clear n0_ n1_; (try clear hb); (try clear hb2); (try clear hk); (try clear hi)))
                        go_ret2
                        exact ⟨_, by first | rfl | (simp [errW_none, errW_some] <;> rfl) | (simp [*, errW_none, errW_some] <;> rfl), by first | exact Kd.R_nil _ _ _ _ _ | exact Kd.N_nil _ _ _ _ _ | exact Kd.V_nil _ _ _ _ _ | exact Kd.Q_nil _ _ _ _ _ | exact Kd.S_nil _ _ _ _ _, by repeat (first | (with_reducible first | exact HB.out | apply below_alloc | apply pw_below_drewN | apply below_drew1) | exact HB.out)⟩
        · replace c18 := Bool.eq_false_iff.mpr c18
          subst c18
          have H1 : (some (([] : List Int), false)) = some (r1, r2) := by rw [if_neg (show ¬ (false = true) by decide)] at H; exact H
          clear H
          have H := H1
          clear H1
          simp only [Option.some.injEq, Prod.mk.injEq] at H
          obtain ⟨rfl, rfl⟩ := H
          obtain ⟨Ao61, co61, eo61⟩ := Kd.R_slice HO_12.out
          subst eo61
          go_wp2_with (first | ((with_reducible refine gate_callee (f := 18) rfl ?_); refine goesL_ (some 52) rfl rfl Tryd.func18 (by kernel_rfl) rfl #[.slice Ao61 t216.length co61, .int .i64 t217] rfl (by (try simp only [List.map_toArray, List.map_cons, List.map_nil]); first | done | rfl | (simp only [List.length_drop, List.length_take]; rfl)) ?_; (with_reducible refine (spec_CodeTable.calls kj6 _ _ t216 t217 t221 _ ?side1 ?side2 A16.out).mono ?_); (case side1 => repeat (first | exact (Kd.R_reads' HO_12.out).2.2 | (with_reducible refine Kd.C_alloc ?_ _) | (with_reducible refine Kd.C_drewN ?_ _) | (with_reducible refine Kd.C_drew ?_))); (case side2 => exact (Kd.R_reads' HO_12.out).2.1); rintro e w62 ⟨v222, rfl, ho0, hb⟩; refine ⟨_, rfl, ?_⟩; have n0_ := Aside0.mk (Kd.R_below (by (with_reducible repeat (first | apply Kd.R_alloc | apply Kd.R_drewN | apply Kd.R_drew)); exact HO_12.out) hb); have n1_ := Aside0.mk (Kd.R_lower ho0 (below_size (by repeat (first | (with_reducible first | exact HB.out | apply below_alloc | apply pw_below_drewN | apply below_drew1) | exact HB.out)))); have n2_ := Aside0.mk (below_step (by repeat (first | (with_reducible first | exact HB.out | apply below_alloc | apply pw_below_drewN | apply below_drew1) | exact HB.out)) hb); clear HO_12; clear HB; have HO_12 := n0_; have HO223 := n1_; have HB := n2_; clear n0_ n1_ n2_; (try clear hb); (try clear hb2); (try clear hk); (try clear hi); (try clear ho0); obtain ⟨Ao63, co63, eo63⟩ := Kd.R_slice HO223.out; subst eo63) | ((with_reducible refine gate_callee (f := 19) rfl ?_); refine goesL_ (some 55) rfl rfl Tryd.func19 (by kernel_rfl) rfl #[.slice Ao63 t221.length co63, .slice A1 l1.length c1] rfl (by (try simp only [List.map_toArray, List.map_cons, List.map_nil]); first | done | rfl | (simp only [List.length_drop, List.length_take]; rfl)) ?_; (with_reducible refine (spec_Has.calls kj6 _ _ t221 _ _ l1 false _ ?side1 ?side2 ?side3 ?side4 A17.out).mono ?_); (case side1 => repeat (first | exact (Kd.R_reads' HO223.out).2.2 | (with_reducible refine Kd.C_alloc ?_ _) | (with_reducible refine Kd.C_drewN ?_ _) | (with_reducible refine Kd.C_drew ?_))); (case side2 => exact (Kd.R_reads' HO223.out).2.1); (case side3 => repeat (first | exact (Kd.C_below HR1.out HB.out) | (with_reducible refine Kd.C_alloc ?_ _) | (with_reducible refine Kd.C_drewN ?_ _) | (with_reducible refine Kd.C_drew ?_))); (case side4 => exact HC1.out); rintro e w64 ⟨rfl, hb⟩; refine ⟨_, rfl, ?_⟩; have n0_ := Aside0.mk (Kd.R_below (by (with_reducible repeat (first | apply Kd.R_alloc | apply Kd.R_drewN | apply Kd.R_drew)); exact HO_12.out) hb); have n1_ := Aside0.mk (Kd.R_below (by (with_reducible repeat (first | apply Kd.R_alloc | apply Kd.R_drewN | apply Kd.R_drew)); exact HO223.out) hb); have n2_ := Aside0.mk (below_step (by repeat (first | (with_reducible first | exact HB.out | apply below_alloc | apply pw_below_drewN | apply below_drew1) | exact HB.out)) hb); clear HO_12; clear HO223; clear HB; have HO_12 := n0_; have HO223 := n1_; have HB := n2_; clear n0_ n1_ n2_; (try clear hb); (try clear hb2); (try clear hk); (try clear hi)))
          go_ret2
          exact ⟨_, by first | rfl | (simp [errW_none, errW_some] <;> rfl) | (simp [*, errW_none, errW_some] <;> rfl), by first | exact Kd.R_nil _ _ _ _ _ | exact Kd.N_nil _ _ _ _ _ | exact Kd.V_nil _ _ _ _ _ | exact Kd.Q_nil _ _ _ _ _ | exact Kd.S_nil _ _ _ _ _, by repeat (first | (with_reducible first | exact HB.out | apply below_alloc | apply pw_below_drewN | apply below_drew1) | exact HB.out)⟩
end
end Go.Proofs.YtopadgohinoomaaDoor.Cx
