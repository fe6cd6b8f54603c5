/-
What FnFourRead answers, as a plain Lean function, and that its call comes to that answer: written by a program of this session, after the way of the kit's print of functions, with two contracts given (coded, impl.FourStreams).
-/
import Derived.Test.YtopadgohinoomaaDoorPC2
import Derived.Test.YtopadgohinoomaaDoorPC4
import Derived.Test.YtopadgohinoomaaDoorPC5
import Derived.Test.YtopadgohinoomaaDoorPC6
import Derived.Test.YtopadgohinoomaaDoorPC7
import Derived.Test.YtopadgohinoomaaDoorCj
import Derived.Test.YtopadgohinoomaaDoorCm
namespace Go.Proofs.YtopadgohinoomaaDoor.Cx
open Go.RowKit Go.Proofs.YtopadgohinoomaaDoorW.PrintWords Go.Proofs.YtopadgohinoomaaDoorW.PrintLast Go.Proofs.YtopadgohinoomaaDoorW.PrintMore Go.Proofs.YtopadgohinoomaaDoor.PC
attribute [local go_sem] max2_int min2_int max_two min_two max_three min_three max_four min_four
set_option linter.unusedVariables false
set_option linter.unusedSimpArgs false
noncomputable section
/-! ### laws_FnFourRead: function 6 -/
mutual
def laws_FnFourRead.j0 : Nat → List Int → List Int → List Int → List Int → Bool → Option (Bool)
  | 0, _, _, _, _, _ => none
  | k + 1, x0, x1, x2, x3, x34 => if x34 = true then (some true) else ((spec_TooLong.f k (([(x0.length : Int), (x1.length : Int), (x2.length : Int), (x3.length : Int)] : List Int))).bind fun t225 => (if t225 = true then (some true) else ((spec_Whole.f k x1).bind fun bt226 => (if bt226.2.2 = true then (if (bt226.1.length : Int) > 256 then (laws_FnFourRead.j1 k x0 x2 x3 bt226.1 bt226.2.1 true) else (if (x2.length : Int) < 10 then (laws_FnFourRead.j1 k x0 x2 x3 bt226.1 bt226.2.1 true) else (laws_FnFourRead.j1 k x0 x2 x3 bt226.1 bt226.2.1 (decide ((x2.length : Int) > 131072))))) else (laws_FnFourRead.j1 k x0 x2 x3 bt226.1 bt226.2.1 true)))))
def laws_FnFourRead.j1 : Nat → List Int → List Int → List Int → List Int → Int → Bool → Option (Bool)
  | 0, _, _, _, _, _, _ => none
  | k + 1, x0, x2, x3, x9, x10, x67 => if x67 = true then ((laws_coded.f).bind fun t231 => (some t231)) else ((spec_CodeTable.f k x9 x10).bind fun t232 => ((spec_Has.f k t232 x2).bind fun t235 => (if t235 = true then ((spec_WriteFour.f k t232 x10 x2).bind fun t236 => ((some (([] : List Int) : List Int)).bind fun y239 => (if y239.length + x0.length < 140737488355328 then ((some (y239 ++ x0 : List Int)).bind fun y242 => (if y242.length + t236.length < 140737488355328 then ((some (y242 ++ t236 : List Int)).bind fun y245 => (if y245.length + x3.length < 140737488355328 then ((impl_FourStreams.f (y245 ++ x3) (x0.length : Int) (t236.length : Int) (x2.length : Int) t232 x10).bind fun bt251 => (if bt251.2 = true then ((spec_SameBytes.f k bt251.1 x2).bind fun t255 => (some t255)) else (some false))) else (none))) else (none))) else (none)))) else ((laws_coded.f).bind fun t256 => (some t256)))))
end
def laws_FnFourRead.f (k : Nat) (l0 : List Int) (l1 : List Int) (l2 : List Int) (l3 : List Int) : Option (Bool) := if (l0.length : Int) > 2147483647 then (laws_FnFourRead.j0 k l0 l1 l2 l3 true) else (if (l1.length : Int) > 2147483647 then (laws_FnFourRead.j0 k l0 l1 l2 l3 true) else (if (l2.length : Int) > 2147483647 then (laws_FnFourRead.j0 k l0 l1 l2 l3 true) else (laws_FnFourRead.j0 k l0 l1 l2 l3 (decide ((l3.length : Int) > 2147483647)))))
theorem laws_FnFourRead.mono_l : ∀ k, (∀ y0 y1 y2 y3 y4, LeO (laws_FnFourRead.j0 k y0 y1 y2 y3 y4) (laws_FnFourRead.j0 (k + 1) y0 y1 y2 y3 y4)) ∧ (∀ y0 y1 y2 y3 y4 y5, LeO (laws_FnFourRead.j1 k y0 y1 y2 y3 y4 y5) (laws_FnFourRead.j1 (k + 1) y0 y1 y2 y3 y4 y5))
  | 0 => ⟨fun _ _ _ _ _ r h => by simp [laws_FnFourRead.j0] at h, fun _ _ _ _ _ _ r h => by simp [laws_FnFourRead.j1] at h⟩
  | k + 1 => by
    obtain ⟨ih0, ih1⟩ := laws_FnFourRead.mono_l k
    refine ⟨?_, ?_⟩
    · intro y0 y1 y2 y3 y4
      unfold laws_FnFourRead.j0
      repeat' first
      | (with_reducible exact ih0 _ _ _ _ _)
      | (with_reducible exact ih1 _ _ _ _ _ _)
      | (with_reducible exact spec_CodeTable.mono _ _ _)
      | (with_reducible exact spec_Has.mono _ _ _)
      | (with_reducible exact spec_SameBytes.mono _ _ _)
      | (with_reducible exact spec_TooLong.mono _ _)
      | (with_reducible exact spec_Whole.mono _ _)
      | (with_reducible exact spec_WriteFour.mono _ _ _ _)
      | (with_reducible exact LeO.refl _)
      | (with_reducible exact LeO.none _)
      | (with_reducible refine LeO.ite ?_ ?_)
      | (with_reducible refine LeO.bind ?_ (fun _ => ?_))
      | exact ih0 _ _ _ _ _
      | exact ih1 _ _ _ _ _ _
      | exact spec_CodeTable.mono _ _ _
      | exact spec_Has.mono _ _ _
      | exact spec_SameBytes.mono _ _ _
      | exact spec_TooLong.mono _ _
      | exact spec_Whole.mono _ _
      | exact spec_WriteFour.mono _ _ _ _
      | exact LeO.none _
      | refine LeO.ite ?_ ?_
      | refine LeO.bind ?_ (fun _ => ?_)
    · intro y0 y1 y2 y3 y4 y5
      unfold laws_FnFourRead.j1
      repeat' first
      | (with_reducible exact ih0 _ _ _ _ _)
      | (with_reducible exact ih1 _ _ _ _ _ _)
      | (with_reducible exact spec_CodeTable.mono _ _ _)
      | (with_reducible exact spec_Has.mono _ _ _)
      | (with_reducible exact spec_SameBytes.mono _ _ _)
      | (with_reducible exact spec_TooLong.mono _ _)
      | (with_reducible exact spec_Whole.mono _ _)
      | (with_reducible exact spec_WriteFour.mono _ _ _ _)
      | (with_reducible exact LeO.refl _)
      | (with_reducible exact LeO.none _)
      | (with_reducible refine LeO.ite ?_ ?_)
      | (with_reducible refine LeO.bind ?_ (fun _ => ?_))
      | exact ih0 _ _ _ _ _
      | exact ih1 _ _ _ _ _ _
      | exact spec_CodeTable.mono _ _ _
      | exact spec_Has.mono _ _ _
      | exact spec_SameBytes.mono _ _ _
      | exact spec_TooLong.mono _ _
      | exact spec_Whole.mono _ _
      | exact spec_WriteFour.mono _ _ _ _
      | exact LeO.none _
      | refine LeO.ite ?_ ?_
      | refine LeO.bind ?_ (fun _ => ?_)
theorem laws_FnFourRead.mono : ∀ a0 a1 a2 a3 k, LeO (laws_FnFourRead.f k a0 a1 a2 a3) (laws_FnFourRead.f (k + 1) a0 a1 a2 a3) := by
  intro a0 a1 a2 a3 k
  obtain ⟨ih0, ih1⟩ := laws_FnFourRead.mono_l k
  unfold laws_FnFourRead.f
  repeat' first
      | (with_reducible exact ih0 _ _ _ _ _)
      | (with_reducible exact ih1 _ _ _ _ _ _)
      | (with_reducible exact spec_CodeTable.mono _ _ _)
      | (with_reducible exact spec_Has.mono _ _ _)
      | (with_reducible exact spec_SameBytes.mono _ _ _)
      | (with_reducible exact spec_TooLong.mono _ _)
      | (with_reducible exact spec_Whole.mono _ _)
      | (with_reducible exact spec_WriteFour.mono _ _ _ _)
      | (with_reducible exact LeO.refl _)
      | (with_reducible exact LeO.none _)
      | (with_reducible refine LeO.ite ?_ ?_)
      | (with_reducible refine LeO.bind ?_ (fun _ => ?_))
      | exact ih0 _ _ _ _ _
      | exact ih1 _ _ _ _ _ _
      | exact spec_CodeTable.mono _ _ _
      | exact spec_Has.mono _ _ _
      | exact spec_SameBytes.mono _ _ _
      | exact spec_TooLong.mono _ _
      | exact spec_Whole.mono _ _
      | exact spec_WriteFour.mono _ _ _ _
      | exact LeO.none _
      | refine LeO.ite ?_ ?_
      | refine LeO.bind ?_ (fun _ => ?_)
set_option maxHeartbeats 8000000 in
set_option maxRecDepth 100000 in
theorem laws_FnFourRead.calls (k : Nat) (A0 : Option Addr) (c0 : Nat) (l0 : List Int) (A1 : Option Addr) (c1 : Nat) (l1 : List Int) (A2 : Option Addr) (c2 : Nat) (l2 : List Int) (A3 : Option Addr) (c3 : Nat) (l3 : List Int) (r : Bool) (w : World) (hr0 : Kd.C (Kd.int .u8) w A0 l0.length l0) (hc0 : l0.length ≤ c0) (hr1 : Kd.C (Kd.int .i64) w A1 l1.length l1) (hc1 : l1.length ≤ c1) (hr2 : Kd.C (Kd.int .u8) w A2 l2.length l2) (hc2 : l2.length ≤ c2) (hr3 : Kd.C (Kd.int .u8) w A3 l3.length l3) (hc3 : l3.length ≤ c3) (h : laws_FnFourRead.f k l0 l1 l2 l3 = some r) :
    Calls Tryd.prog 6 #[.slice A0 l0.length c0, .slice A1 l1.length c1, .slice A2 l2.length c2, .slice A3 l3.length c3] w fun e w' => e = .returned (.bool r) ∧ Below w.heap.size w w' := by
  have HR0 := Aside0.mk hr0
  have HC0 := Aside0.mk hc0
  clear hr0 hc0
  have HR1 := Aside0.mk hr1
  have HC1 := Aside0.mk hc1
  clear hr1 hc1
  have HR2 := Aside0.mk hr2
  have HC2 := Aside0.mk hc2
  clear hr2 hc2
  have HR3 := Aside0.mk hr3
  have HC3 := Aside0.mk hc3
  clear hr3 hc3
  have HB := Aside0.mk (Below.refl w.heap.size w)
  have H : (if (l0.length : Int) > 2147483647 then (laws_FnFourRead.j0 k l0 l1 l2 l3 true) else (if (l1.length : Int) > 2147483647 then (laws_FnFourRead.j0 k l0 l1 l2 l3 true) else (if (l2.length : Int) > 2147483647 then (laws_FnFourRead.j0 k l0 l1 l2 l3 true) else (laws_FnFourRead.j0 k l0 l1 l2 l3 (decide ((l3.length : Int) > 2147483647)))))) = some r := h
  clear h
  have HC5 := Aside0.mk H
  clear H
  go_enter Tryd.func6, Tryd.ntmps6
  go_upto_region 1 with (fail)
  go_cut [34] (fun v34 wc => ∃ (kq : Nat) (x34_4 : Bool), v34 = .bool x34_4 ∧ Aside0 (laws_FnFourRead.j0 kq l0 l1 l2 l3 x34_4 = some r) ∧ Aside0 (kq ≤ k) ∧ Aside0 (Below w.heap.size w wc))
  case first =>
    have H := HC5.out
    clear HC5
    by_cases c6 : (l0.length : Int) > 2147483647
    · rw [if_pos c6] at H
      have c6b0 : decide (2147483647 < (l0.length : Int)) = true := decide_eq_true c6
      have c6b1 : decide (2147483647 < l0.length) = true := decide_eq_true (by omega)
      clear c6
      (first | rw [c6b0] | (simp only [i64_w, i32_w]; rw [c6b0]) | skip)
      have H' := Aside0.mk H
      clear H
      go_wp2
      go_meet
      case rel => exact ⟨_, (true), (by first | rfl | (simp; done) | (simp [*]; done)), H', ⟨by first | omega | exact Nat.le_refl _⟩, ⟨by repeat (first | (with_reducible first | exact HB.out | apply below_alloc | apply pw_below_drewN | apply below_drew1) | exact HB.out)⟩⟩
    · rw [if_neg c6] at H
      have c6b0 : decide (2147483647 < (l0.length : Int)) = false := decide_eq_false c6
      have c6b1 : decide (2147483647 < l0.length) = false := decide_eq_false (by omega)
      clear c6
      (first | rw [c6b0] | (simp only [i64_w, i32_w]; rw [c6b0]) | skip)
      by_cases c7 : (l1.length : Int) > 2147483647
      · rw [if_pos c7] at H
        have c7b0 : decide (2147483647 < (l1.length : Int)) = true := decide_eq_true c7
        have c7b1 : decide (2147483647 < l1.length) = true := decide_eq_true (by omega)
        clear c7
        have H' := Aside0.mk H
        clear H
        go_wp2
        go_meet
        case rel => exact ⟨_, (true), (by first | rfl | (simp; done) | (simp [*]; done)), H', ⟨by first | omega | exact Nat.le_refl _⟩, ⟨by repeat (first | (with_reducible first | exact HB.out | apply below_alloc | apply pw_below_drewN | apply below_drew1) | exact HB.out)⟩⟩
      · rw [if_neg c7] at H
        have c7b0 : decide (2147483647 < (l1.length : Int)) = false := decide_eq_false c7
        have c7b1 : decide (2147483647 < l1.length) = false := decide_eq_false (by omega)
        clear c7
        by_cases c8 : (l2.length : Int) > 2147483647
        · rw [if_pos c8] at H
          have c8b0 : decide (2147483647 < (l2.length : Int)) = true := decide_eq_true c8
          have c8b1 : decide (2147483647 < l2.length) = true := decide_eq_true (by omega)
          clear c8
          have H' := Aside0.mk H
          clear H
          go_wp2
          go_meet
          case rel => exact ⟨_, (true), (by first | rfl | (simp; done) | (simp [*]; done)), H', ⟨by first | omega | exact Nat.le_refl _⟩, ⟨by repeat (first | (with_reducible first | exact HB.out | apply below_alloc | apply pw_below_drewN | apply below_drew1) | exact HB.out)⟩⟩
        · rw [if_neg c8] at H
          have c8b0 : decide (2147483647 < (l2.length : Int)) = false := decide_eq_false c8
          have c8b1 : decide (2147483647 < l2.length) = false := decide_eq_false (by omega)
          clear c8
          have H' := Aside0.mk H
          clear H
          go_wp2
          go_meet
          case rel => exact ⟨_, (decide ((l3.length : Int) > 2147483647)), (by first | rfl | (simp; done) | (simp [*]; done)), H', ⟨by first | omega | exact Nat.le_refl _⟩, ⟨by repeat (first | (with_reducible first | exact HB.out | apply below_alloc | apply pw_below_drewN | apply below_drew1) | exact HB.out)⟩⟩
  case rest =>
    clear HC5
    try clear c1
    try clear c2
    try clear p2
    try clear c3
    try clear c6
    try clear c6b0
    try clear c6b1
    try clear c7
    try clear c7b0
    try clear c7b1
    try clear c8
    try clear c8b0
    try clear c8b1
    obtain ⟨kq, x34_4, rfl, HA, HJ4, HB⟩ := hcut
    cases kq with
    | zero => exact absurd HA.out (by simp [laws_FnFourRead.j0])
    | succ kj4 =>
      have H := HA.out
      clear HA
      simp only [laws_FnFourRead.j0] at H
      by_cases c9 : x34_4 = true
      · subst c9
        have H1 : (some true) = some r := by rw [if_pos rfl] at H; exact H
        clear H
        have H := H1
        clear H1
        obtain rfl := Option.some.inj H
        go_wp2
        go_ret
        exact ⟨by first | rfl | (simp [errW_none, errW_some] <;> rfl) | (simp [*, errW_none, errW_some] <;> rfl), by repeat (first | (with_reducible first | exact HB.out | apply below_alloc | apply pw_below_drewN | apply below_drew1) | exact HB.out)⟩
      · replace c9 := Bool.eq_false_iff.mpr c9
        subst c9
        have H1 : ((spec_TooLong.f kj4 (([(l0.length : Int), (l1.length : Int), (l2.length : Int), (l3.length : Int)] : List Int))).bind fun t225 => (if t225 = true then (some true) else ((spec_Whole.f kj4 l1).bind fun bt226 => (if bt226.2.2 = true then (if (bt226.1.length : Int) > 256 then (laws_FnFourRead.j1 kj4 l0 l2 l3 bt226.1 bt226.2.1 true) else (if (l2.length : Int) < 10 then (laws_FnFourRead.j1 kj4 l0 l2 l3 bt226.1 bt226.2.1 true) else (laws_FnFourRead.j1 kj4 l0 l2 l3 bt226.1 bt226.2.1 (decide ((l2.length : Int) > 131072))))) else (laws_FnFourRead.j1 kj4 l0 l2 l3 bt226.1 bt226.2.1 true))))) = some r := by rw [if_neg (show ¬ (false = true) by decide)] at H; exact H
        clear H
        have H := H1
        clear H1
        obtain ⟨y222, hy222⟩ : ∃ y_ : List Int, y_ = (([(l0.length : Int), (l1.length : Int), (l2.length : Int), (l3.length : Int)] : List Int)) := ⟨_, rfl⟩
        replace H : ((spec_TooLong.f kj4 y222).bind fun t225 => (if t225 = true then (some true) else ((spec_Whole.f kj4 l1).bind fun bt226 => (if bt226.2.2 = true then (if (bt226.1.length : Int) > 256 then (laws_FnFourRead.j1 kj4 l0 l2 l3 bt226.1 bt226.2.1 true) else (if (l2.length : Int) < 10 then (laws_FnFourRead.j1 kj4 l0 l2 l3 bt226.1 bt226.2.1 true) else (laws_FnFourRead.j1 kj4 l0 l2 l3 bt226.1 bt226.2.1 (decide ((l2.length : Int) > 131072))))) else (laws_FnFourRead.j1 kj4 l0 l2 l3 bt226.1 bt226.2.1 true))))) = some r := by first | (rw [hy222]; with_reducible exact H) | (have H2_ := (Option.bind_some _ _).symm.trans H; rw [hy222]; with_reducible exact H2_) | (have H2_ := (Option.bind_some _ _).symm.trans H; with_reducible exact H2_) | with_reducible exact H | (rw [hy222]; exact H) | exact H
        have Ny222 := Aside0.mk hy222
        clear hy222
        replace H := Option.bind_eq_some_iff.mp H
        obtain ⟨t225, A100, H⟩ := H
        replace H : (if t225 = true then (some true) else ((spec_Whole.f kj4 l1).bind fun bt226 => (if bt226.2.2 = true then (if (bt226.1.length : Int) > 256 then (laws_FnFourRead.j1 kj4 l0 l2 l3 bt226.1 bt226.2.1 true) else (if (l2.length : Int) < 10 then (laws_FnFourRead.j1 kj4 l0 l2 l3 bt226.1 bt226.2.1 true) else (laws_FnFourRead.j1 kj4 l0 l2 l3 bt226.1 bt226.2.1 (decide ((l2.length : Int) > 131072))))) else (laws_FnFourRead.j1 kj4 l0 l2 l3 bt226.1 bt226.2.1 true)))) = some r := H
        have A10 := Aside0.mk A100
        clear A100
        by_cases c11 : t225 = true
        · subst c11
          have H1 : (some true) = some r := by rw [if_pos rfl] at H; exact H
          clear H
          have H := H1
          clear H1
          obtain rfl := Option.some.inj H
          go_wp2_with (first | ((with_reducible refine gate_dst (N := 43) rfl ?_); (try (refine gate_guard (by rfl) ?_; dsimp only)); refine Kd.R_lit (Kd.int .i64) _ 3 ?hg (N := 43) ?hd (xs := ([(l0.length : Int), (l1.length : Int), (l2.length : Int), (l3.length : Int)] : List Int)) (inner := [.int .i64 (l0.length : Int), .int .i64 (l1.length : Int), .int .i64 (l2.length : Int), .int .i64 (l3.length : Int)]) (ok := fun _ => True) (okp := fun _ => True) ?hr ?hp (fun _ hk => hk) trivial (Below.refl _ _) (Nat.le_refl _) (by simp) ?_; (case hd => rfl); (case hg => rfl); (case hr => first | (go_simp; done) | (go_simp; rfl)); (case hp => exact (Reps.one (show Kd.M (Kd.int .i64) _ _ _ (l0.length : Int) [.int .i64 (l0.length : Int)] from rfl) (Reps.one (show Kd.M (Kd.int .i64) _ _ _ (l1.length : Int) [.int .i64 (l1.length : Int)] from rfl) (Reps.one (show Kd.M (Kd.int .i64) _ _ _ (l2.length : Int) [.int .i64 (l2.length : Int)] from rfl) (Reps.one (show Kd.M (Kd.int .i64) _ _ _ (l3.length : Int) [.int .i64 (l3.length : Int)] from rfl) (Reps.none _ _)))))); intro v223 w12 ho13 hb hg_ hnew_; clear hg_ hnew_; (first | rw [← Ny222.out] at ho13 | (simp only [Int.reduceToNat] at ho13; rw [← Ny222.out] at ho13)); have n0_ := Aside0.mk (Kd.R_lower ho13 (below_size (by repeat (first | (with_reducible first | exact HB.out | apply below_alloc | apply pw_below_drewN | apply below_drew1) | exact HB.out)))); have n1_ := Aside0.mk (below_step (by repeat (first | (with_reducible first | exact HB.out | apply below_alloc | apply pw_below_drewN | apply below_drew1) | exact HB.out)) hb); clear HB; have HO224 := n0_; have HB := n1_; clear n0_ n1_; clear hb ho13; obtain ⟨Ao14, co14, eo14⟩ := Kd.R_slice HO224.out; subst eo14) | ((with_reducible refine gate_callee (f := 9) rfl ?_); refine goesL_ (some 44) rfl rfl Tryd.func9 (by kernel_rfl) rfl #[.slice Ao14 y222.length co14] rfl (by (try simp only [List.map_toArray, List.map_cons, List.map_nil]); first | done | rfl | (simp only [List.length_drop, List.length_take]; rfl)) ?_; (with_reducible refine (spec_TooLong.calls kj4 _ _ y222 true _ ?side1 ?side2 A10.out).mono ?_); (case side1 => repeat (first | exact (Kd.R_reads' HO224.out).2.2 | (with_reducible refine Kd.C_alloc ?_ _) | (with_reducible refine Kd.C_drewN ?_ _) | (with_reducible refine Kd.C_drew ?_))); (case side2 => exact (Kd.R_reads' HO224.out).2.1); rintro e w' ⟨rfl, ⟨nd, rfl⟩⟩; refine ⟨_, rfl, ?_⟩))
          go_ret
          exact ⟨by first | rfl | (simp [errW_none, errW_some] <;> rfl) | (simp [*, errW_none, errW_some] <;> rfl), by repeat (first | (with_reducible first | exact HB.out | apply below_alloc | apply pw_below_drewN | apply below_drew1) | exact HB.out)⟩
        · replace c11 := Bool.eq_false_iff.mpr c11
          subst c11
          have H1 : ((spec_Whole.f kj4 l1).bind fun bt226 => (if bt226.2.2 = true then (if (bt226.1.length : Int) > 256 then (laws_FnFourRead.j1 kj4 l0 l2 l3 bt226.1 bt226.2.1 true) else (if (l2.length : Int) < 10 then (laws_FnFourRead.j1 kj4 l0 l2 l3 bt226.1 bt226.2.1 true) else (laws_FnFourRead.j1 kj4 l0 l2 l3 bt226.1 bt226.2.1 (decide ((l2.length : Int) > 131072))))) else (laws_FnFourRead.j1 kj4 l0 l2 l3 bt226.1 bt226.2.1 true))) = some r := by rw [if_neg (show ¬ (false = true) by decide)] at H; exact H
          clear H
          have H := H1
          clear H1
          replace H := Option.bind_eq_some_iff.mp H
          obtain ⟨⟨t226, t227, t228⟩, A150, H⟩ := H
          replace H : (if t228 = true then (if (t226.length : Int) > 256 then (laws_FnFourRead.j1 kj4 l0 l2 l3 t226 t227 true) else (if (l2.length : Int) < 10 then (laws_FnFourRead.j1 kj4 l0 l2 l3 t226 t227 true) else (laws_FnFourRead.j1 kj4 l0 l2 l3 t226 t227 (decide ((l2.length : Int) > 131072))))) else (laws_FnFourRead.j1 kj4 l0 l2 l3 t226 t227 true)) = some r := H
          have A15 := Aside0.mk A150
          clear A150
          have HC16 := Aside0.mk H
          clear H
          go_upto_region 6 with (first | ((with_reducible refine gate_dst (N := 43) rfl ?_); (try (refine gate_guard (by rfl) ?_; dsimp only)); refine Kd.R_lit (Kd.int .i64) _ 3 ?hg (N := 43) ?hd (xs := ([(l0.length : Int), (l1.length : Int), (l2.length : Int), (l3.length : Int)] : List Int)) (inner := [.int .i64 (l0.length : Int), .int .i64 (l1.length : Int), .int .i64 (l2.length : Int), .int .i64 (l3.length : Int)]) (ok := fun _ => True) (okp := fun _ => True) ?hr ?hp (fun _ hk => hk) trivial (Below.refl _ _) (Nat.le_refl _) (by simp) ?_; (case hd => rfl); (case hg => rfl); (case hr => first | (go_simp; done) | (go_simp; rfl)); (case hp => exact (Reps.one (show Kd.M (Kd.int .i64) _ _ _ (l0.length : Int) [.int .i64 (l0.length : Int)] from rfl) (Reps.one (show Kd.M (Kd.int .i64) _ _ _ (l1.length : Int) [.int .i64 (l1.length : Int)] from rfl) (Reps.one (show Kd.M (Kd.int .i64) _ _ _ (l2.length : Int) [.int .i64 (l2.length : Int)] from rfl) (Reps.one (show Kd.M (Kd.int .i64) _ _ _ (l3.length : Int) [.int .i64 (l3.length : Int)] from rfl) (Reps.none _ _)))))); intro v223 w17 ho18 hb hg_ hnew_; clear hg_ hnew_; (first | rw [← Ny222.out] at ho18 | (simp only [Int.reduceToNat] at ho18; rw [← Ny222.out] at ho18)); have n0_ := Aside0.mk (Kd.R_lower ho18 (below_size (by repeat (first | (with_reducible first | exact HB.out | apply below_alloc | apply pw_below_drewN | apply below_drew1) | exact HB.out)))); have n1_ := Aside0.mk (below_step (by repeat (first | (with_reducible first | exact HB.out | apply below_alloc | apply pw_below_drewN | apply below_drew1) | exact HB.out)) hb); clear HB; have HO224 := n0_; have HB := n1_; clear n0_ n1_; clear hb ho18; obtain ⟨Ao19, co19, eo19⟩ := Kd.R_slice HO224.out; subst eo19) | ((with_reducible refine gate_callee (f := 9) rfl ?_); refine goesL_ (some 44) rfl rfl Tryd.func9 (by kernel_rfl) rfl #[.slice Ao19 y222.length co19] rfl (by (try simp only [List.map_toArray, List.map_cons, List.map_nil]); first | done | rfl | (simp only [List.length_drop, List.length_take]; rfl)) ?_; (with_reducible refine (spec_TooLong.calls kj4 _ _ y222 false _ ?side1 ?side2 A10.out).mono ?_); (case side1 => repeat (first | exact (Kd.R_reads' HO224.out).2.2 | (with_reducible refine Kd.C_alloc ?_ _) | (with_reducible refine Kd.C_drewN ?_ _) | (with_reducible refine Kd.C_drew ?_))); (case side2 => exact (Kd.R_reads' HO224.out).2.1); rintro e w' ⟨rfl, ⟨nd, rfl⟩⟩; refine ⟨_, rfl, ?_⟩) | ((with_reducible refine gate_callee (f := 16) rfl ?_); refine goesL_ (some 47) rfl rfl Tryd.func16 (by kernel_rfl) rfl #[.slice A1 l1.length c1] rfl (by (try simp only [List.map_toArray, List.map_cons, List.map_nil]); first | done | rfl | (simp only [List.length_drop, List.length_take]; rfl)) ?_; (with_reducible refine (spec_Whole.calls kj4 _ _ l1 t226 t227 t228 _ ?side1 ?side2 A15.out).mono ?_); (case side1 => repeat (first | exact (Kd.C_below HR1.out (by repeat (first | (with_reducible first | exact HB.out | apply below_alloc | apply pw_below_drewN | apply below_drew1) | exact HB.out))) | (with_reducible refine Kd.C_alloc ?_ _) | (with_reducible refine Kd.C_drewN ?_ _) | (with_reducible refine Kd.C_drew ?_))); (case side2 => exact HC1.out); rintro e w20 ⟨v229, rfl, ho0, hb⟩; refine ⟨_, rfl, ?_⟩; have n0_ := Aside0.mk (Kd.R_elder' (by (with_reducible repeat (first | apply Kd.R_alloc | apply Kd.R_drewN | apply Kd.R_drew)); exact HO224.out) (Kd.R_base ho0) hb); have n1_ := Aside0.mk (Kd.R_lower (Kd.R_new' ho0 (Kd.R_lt (by (with_reducible repeat (first | apply Kd.R_alloc | apply Kd.R_drewN | apply Kd.R_drew)); exact HO224.out))) (below_size (by repeat (first | (with_reducible first | exact HB.out | apply below_alloc | apply pw_below_drewN | apply below_drew1) | exact HB.out)))); have n2_ := Aside0.mk (below_step (by repeat (first | (with_reducible first | exact HB.out | apply below_alloc | apply pw_below_drewN | apply below_drew1) | exact HB.out)) hb); clear HO224; clear HB; have HO224 := n0_; have HO230 := n1_; have HB := n2_; clear n0_ n1_ n2_; (try clear hb); (try clear hb2); (try clear hk); (try clear hi); (try clear ho0)))
          (try simp only [Act.put, List.setIfInBounds_toArray, List.set_cons_zero, List.set_cons_succ])
          go_cut [67] (fun v67 wc => ∃ (kq : Nat) (x67_15 : Bool), v67 = .bool x67_15 ∧ Aside0 (laws_FnFourRead.j1 kq l0 l2 l3 t226 t227 x67_15 = some r) ∧ Aside0 (kq ≤ kj4) ∧ Aside0 (Kd.R (Kd.int .i64) 3 wc w.heap.size (fun _ => True) v229 t226) ∧ Aside0 (Below w.heap.size w wc))
          case first =>
            have H := HC16.out
            clear HC16
            by_cases c21 : t228 = true
            · subst c21
              have H1 : (if (t226.length : Int) > 256 then (laws_FnFourRead.j1 kj4 l0 l2 l3 t226 t227 true) else (if (l2.length : Int) < 10 then (laws_FnFourRead.j1 kj4 l0 l2 l3 t226 t227 true) else (laws_FnFourRead.j1 kj4 l0 l2 l3 t226 t227 (decide ((l2.length : Int) > 131072))))) = some r := by rw [if_pos rfl] at H; exact H
              clear H
              have H := H1
              clear H1
              by_cases c22 : (t226.length : Int) > 256
              · rw [if_pos c22] at H
                have c22b0 : decide (256 < (t226.length : Int)) = true := decide_eq_true c22
                have c22b1 : decide (256 < t226.length) = true := decide_eq_true (by omega)
                clear c22
                (first | rw [c22b0] | (simp only [i64_w, i32_w]; rw [c22b0]) | skip)
                have H' := Aside0.mk H
                clear H
                obtain ⟨Ao23, co23, eo23⟩ := Kd.R_slice HO230.out
                subst eo23
                go_wp2
                go_meet
                case rel => exact ⟨_, (true), (by first | rfl | (simp; done) | (simp [*]; done)), H', ⟨by have := HJ4.out; first | omega | exact Nat.le_refl _⟩, ⟨by (with_reducible repeat (first | apply Kd.R_alloc | apply Kd.R_drewN | apply Kd.R_drew)); exact Kd.R_mono HO230.out (fun _ hk => trivial)⟩, ⟨by repeat (first | (with_reducible first | exact HB.out | apply below_alloc | apply pw_below_drewN | apply below_drew1) | exact HB.out)⟩⟩
              · rw [if_neg c22] at H
                have c22b0 : decide (256 < (t226.length : Int)) = false := decide_eq_false c22
                have c22b1 : decide (256 < t226.length) = false := decide_eq_false (by omega)
                clear c22
                (first | rw [c22b0] | (simp only [i64_w, i32_w]; rw [c22b0]) | skip)
                by_cases c24 : (l2.length : Int) < 10
                · rw [if_pos c24] at H
                  have c24b0 : decide ((l2.length : Int) < 10) = true := decide_eq_true c24
                  have c24b1 : decide (l2.length < 10) = true := decide_eq_true (by omega)
                  clear c24
                  have H' := Aside0.mk H
                  clear H
                  obtain ⟨Ao25, co25, eo25⟩ := Kd.R_slice HO230.out
                  subst eo25
                  go_wp2
                  go_meet
                  case rel => exact ⟨_, (true), (by first | rfl | (simp; done) | (simp [*]; done)), H', ⟨by have := HJ4.out; first | omega | exact Nat.le_refl _⟩, ⟨by (with_reducible repeat (first | apply Kd.R_alloc | apply Kd.R_drewN | apply Kd.R_drew)); exact Kd.R_mono HO230.out (fun _ hk => trivial)⟩, ⟨by repeat (first | (with_reducible first | exact HB.out | apply below_alloc | apply pw_below_drewN | apply below_drew1) | exact HB.out)⟩⟩
                · rw [if_neg c24] at H
                  have c24b0 : decide ((l2.length : Int) < 10) = false := decide_eq_false c24
                  have c24b1 : decide (l2.length < 10) = false := decide_eq_false (by omega)
                  clear c24
                  have H' := Aside0.mk H
                  clear H
                  obtain ⟨Ao26, co26, eo26⟩ := Kd.R_slice HO230.out
                  subst eo26
                  go_wp2
                  go_meet
                  case rel => exact ⟨_, (decide ((l2.length : Int) > 131072)), (by first | rfl | (simp; done) | (simp [*]; done)), H', ⟨by have := HJ4.out; first | omega | exact Nat.le_refl _⟩, ⟨by (with_reducible repeat (first | apply Kd.R_alloc | apply Kd.R_drewN | apply Kd.R_drew)); exact Kd.R_mono HO230.out (fun _ hk => trivial)⟩, ⟨by repeat (first | (with_reducible first | exact HB.out | apply below_alloc | apply pw_below_drewN | apply below_drew1) | exact HB.out)⟩⟩
            · replace c21 := Bool.eq_false_iff.mpr c21
              subst c21
              have H1 : (laws_FnFourRead.j1 kj4 l0 l2 l3 t226 t227 true) = some r := by rw [if_neg (show ¬ (false = true) by decide)] at H; exact H
              clear H
              have H := H1
              clear H1
              have H' := Aside0.mk H
              clear H
              go_wp2
              go_meet
              case rel => exact ⟨_, (true), (by first | rfl | (simp; done) | (simp [*]; done)), H', ⟨by have := HJ4.out; first | omega | exact Nat.le_refl _⟩, ⟨by (with_reducible repeat (first | apply Kd.R_alloc | apply Kd.R_drewN | apply Kd.R_drew)); exact Kd.R_mono HO230.out (fun _ hk => trivial)⟩, ⟨by repeat (first | (with_reducible first | exact HB.out | apply below_alloc | apply pw_below_drewN | apply below_drew1) | exact HB.out)⟩⟩
          case rest =>
            clear HC16
            try clear c1
            try clear c2
            try clear p2
            try clear c3
            try clear c6
            try clear c6b0
            try clear c6b1
            try clear c7
            try clear c7b0
            try clear c7b1
            try clear c8
            try clear c8b0
            try clear c8b1
            try clear c9
            try clear c11
            try clear c16
            try clear c21
            try clear c22
            try clear c22b0
            try clear c22b1
            try clear c24
            try clear c24b0
            try clear c24b1
            try clear p2
            obtain ⟨kq, x67_15, rfl, HA, HJ15, HO_9, HB⟩ := hcut
            cases kq with
            | zero => exact absurd HA.out (by simp [laws_FnFourRead.j1])
            | succ kj15 =>
              have H := HA.out
              clear HA
              simp only [laws_FnFourRead.j1] at H
              by_cases c27 : x67_15 = true
              · subst c27
                have H1 : ((laws_coded.f).bind fun t231 => (some t231)) = some r := by rw [if_pos rfl] at H; exact H
                clear H
                have H := H1
                clear H1
                replace H := Option.bind_eq_some_iff.mp H
                obtain ⟨t231, A280, H⟩ := H
                replace H : (some t231) = some r := H
                have A28 := Aside0.mk A280
                clear A280
                obtain rfl := Option.some.inj H
                go_wp2_with (first | ((with_reducible refine gate_callee (f := 17) rfl ?_); refine goesL_ (some 68) rfl rfl Tryd.func17 (by kernel_rfl) rfl #[] rfl (by (try simp only [List.map_toArray, List.map_cons, List.map_nil]); first | done | rfl | (simp only [List.length_drop, List.length_take]; rfl)) ?_; (with_reducible refine (laws_coded.calls  t231 _ A28.out).mono ?_); rintro e w29 ⟨rfl, hb⟩; refine ⟨_, rfl, ?_⟩; have n0_ := Aside0.mk (Kd.R_below (by (with_reducible repeat (first | apply Kd.R_alloc | apply Kd.R_drewN | apply Kd.R_drew)); exact HO_9.out) hb); have n1_ := Aside0.mk (below_step (by repeat (first | (with_reducible first | exact HB.out | apply below_alloc | apply pw_below_drewN | apply below_drew1) | exact HB.out)) hb); clear HO_9; clear HB; have HO_9 := n0_; have HB := n1_; clear n0_ n1_; (try clear hb); (try clear hb2); (try clear hk); (try clear hi)))
                go_ret
                exact ⟨by first | rfl | (simp [errW_none, errW_some] <;> rfl) | (simp [*, errW_none, errW_some] <;> rfl), by repeat (first | (with_reducible first | exact HB.out | apply below_alloc | apply pw_below_drewN | apply below_drew1) | exact HB.out)⟩
              · replace c27 := Bool.eq_false_iff.mpr c27
                subst c27
                have H1 : ((spec_CodeTable.f kj15 t226 t227).bind fun t232 => ((spec_Has.f kj15 t232 l2).bind fun t235 => (if t235 = true then ((spec_WriteFour.f kj15 t232 t227 l2).bind fun t236 => ((some (([] : List Int) : List Int)).bind fun y239 => (if y239.length + l0.length < 140737488355328 then ((some (y239 ++ l0 : List Int)).bind fun y242 => (if y242.length + t236.length < 140737488355328 then ((some (y242 ++ t236 : List Int)).bind fun y245 => (if y245.length + l3.length < 140737488355328 then ((impl_FourStreams.f (y245 ++ l3) (l0.length : Int) (t236.length : Int) (l2.length : Int) t232 t227).bind fun bt251 => (if bt251.2 = true then ((spec_SameBytes.f kj15 bt251.1 l2).bind fun t255 => (some t255)) else (some false))) else (none))) else (none))) else (none)))) else ((laws_coded.f).bind fun t256 => (some t256))))) = some r := by rw [if_neg (show ¬ (false = true) by decide)] at H; exact H
                clear H
                have H := H1
                clear H1
                replace H := Option.bind_eq_some_iff.mp H
                obtain ⟨t232, A300, H⟩ := H
                replace H : ((spec_Has.f kj15 t232 l2).bind fun t235 => (if t235 = true then ((spec_WriteFour.f kj15 t232 t227 l2).bind fun t236 => ((some (([] : List Int) : List Int)).bind fun y239 => (if y239.length + l0.length < 140737488355328 then ((some (y239 ++ l0 : List Int)).bind fun y242 => (if y242.length + t236.length < 140737488355328 then ((some (y242 ++ t236 : List Int)).bind fun y245 => (if y245.length + l3.length < 140737488355328 then ((impl_FourStreams.f (y245 ++ l3) (l0.length : Int) (t236.length : Int) (l2.length : Int) t232 t227).bind fun bt251 => (if bt251.2 = true then ((spec_SameBytes.f kj15 bt251.1 l2).bind fun t255 => (some t255)) else (some false))) else (none))) else (none))) else (none)))) else ((laws_coded.f).bind fun t256 => (some t256)))) = some r := H
                have A30 := Aside0.mk A300
                clear A300
                replace H := Option.bind_eq_some_iff.mp H
                obtain ⟨t235, A310, H⟩ := H
                replace H : (if t235 = true then ((spec_WriteFour.f kj15 t232 t227 l2).bind fun t236 => ((some (([] : List Int) : List Int)).bind fun y239 => (if y239.length + l0.length < 140737488355328 then ((some (y239 ++ l0 : List Int)).bind fun y242 => (if y242.length + t236.length < 140737488355328 then ((some (y242 ++ t236 : List Int)).bind fun y245 => (if y245.length + l3.length < 140737488355328 then ((impl_FourStreams.f (y245 ++ l3) (l0.length : Int) (t236.length : Int) (l2.length : Int) t232 t227).bind fun bt251 => (if bt251.2 = true then ((spec_SameBytes.f kj15 bt251.1 l2).bind fun t255 => (some t255)) else (some false))) else (none))) else (none))) else (none)))) else ((laws_coded.f).bind fun t256 => (some t256))) = some r := H
                have A31 := Aside0.mk A310
                clear A310
                by_cases c32 : t235 = true
                · subst c32
                  have H1 : ((spec_WriteFour.f kj15 t232 t227 l2).bind fun t236 => ((some (([] : List Int) : List Int)).bind fun y239 => (if y239.length + l0.length < 140737488355328 then ((some (y239 ++ l0 : List Int)).bind fun y242 => (if y242.length + t236.length < 140737488355328 then ((some (y242 ++ t236 : List Int)).bind fun y245 => (if y245.length + l3.length < 140737488355328 then ((impl_FourStreams.f (y245 ++ l3) (l0.length : Int) (t236.length : Int) (l2.length : Int) t232 t227).bind fun bt251 => (if bt251.2 = true then ((spec_SameBytes.f kj15 bt251.1 l2).bind fun t255 => (some t255)) else (some false))) else (none))) else (none))) else (none)))) = some r := by rw [if_pos rfl] at H; exact H
                  clear H
                  have H := H1
                  clear H1
                  replace H := Option.bind_eq_some_iff.mp H
                  obtain ⟨t236, A330, H⟩ := H
                  replace H : ((some (([] : List Int) : List Int)).bind fun y239 => (if y239.length + l0.length < 140737488355328 then ((some (y239 ++ l0 : List Int)).bind fun y242 => (if y242.length + t236.length < 140737488355328 then ((some (y242 ++ t236 : List Int)).bind fun y245 => (if y245.length + l3.length < 140737488355328 then ((impl_FourStreams.f (y245 ++ l3) (l0.length : Int) (t236.length : Int) (l2.length : Int) t232 t227).bind fun bt251 => (if bt251.2 = true then ((spec_SameBytes.f kj15 bt251.1 l2).bind fun t255 => (some t255)) else (some false))) else (none))) else (none))) else (none))) = some r := H
                  have A33 := Aside0.mk A330
                  clear A330
                  obtain ⟨y239, hy239⟩ : ∃ y_ : List Int, y_ = (([] : List Int)) := ⟨_, rfl⟩
                  replace H : (if y239.length + l0.length < 140737488355328 then ((some (y239 ++ l0 : List Int)).bind fun y242 => (if y242.length + t236.length < 140737488355328 then ((some (y242 ++ t236 : List Int)).bind fun y245 => (if y245.length + l3.length < 140737488355328 then ((impl_FourStreams.f (y245 ++ l3) (l0.length : Int) (t236.length : Int) (l2.length : Int) t232 t227).bind fun bt251 => (if bt251.2 = true then ((spec_SameBytes.f kj15 bt251.1 l2).bind fun t255 => (some t255)) else (some false))) else (none))) else (none))) else (none)) = some r := by first | (rw [hy239]; with_reducible exact H) | (have H2_ := (Option.bind_some _ _).symm.trans H; rw [hy239]; with_reducible exact H2_) | (have H2_ := (Option.bind_some _ _).symm.trans H; with_reducible exact H2_) | with_reducible exact H | (rw [hy239]; exact H) | exact H
                  have Ny239 := Aside0.mk hy239
                  clear hy239
                  by_cases c34 : y239.length + l0.length < 140737488355328
                  · rw [if_pos c34] at H
                    have LMc34 := Aside0.mk c34
                    clear c34
                    obtain ⟨y242, hy242⟩ : ∃ y_ : List Int, y_ = (y239 ++ l0) := ⟨_, rfl⟩
                    replace H : (if y242.length + t236.length < 140737488355328 then ((some (y242 ++ t236 : List Int)).bind fun y245 => (if y245.length + l3.length < 140737488355328 then ((impl_FourStreams.f (y245 ++ l3) (l0.length : Int) (t236.length : Int) (l2.length : Int) t232 t227).bind fun bt251 => (if bt251.2 = true then ((spec_SameBytes.f kj15 bt251.1 l2).bind fun t255 => (some t255)) else (some false))) else (none))) else (none)) = some r := by first | (rw [hy242]; with_reducible exact H) | (have H2_ := (Option.bind_some _ _).symm.trans H; rw [hy242]; with_reducible exact H2_) | (have H2_ := (Option.bind_some _ _).symm.trans H; with_reducible exact H2_) | with_reducible exact H | (rw [hy242]; exact H) | exact H
                    have Ny242 := Aside0.mk hy242
                    clear hy242
                    by_cases c35 : y242.length + t236.length < 140737488355328
                    · rw [if_pos c35] at H
                      have LMc35 := Aside0.mk c35
                      clear c35
                      obtain ⟨y245, hy245⟩ : ∃ y_ : List Int, y_ = (y242 ++ t236) := ⟨_, rfl⟩
                      replace H : (if y245.length + l3.length < 140737488355328 then ((impl_FourStreams.f (y245 ++ l3) (l0.length : Int) (t236.length : Int) (l2.length : Int) t232 t227).bind fun bt251 => (if bt251.2 = true then ((spec_SameBytes.f kj15 bt251.1 l2).bind fun t255 => (some t255)) else (some false))) else (none)) = some r := by first | (rw [hy245]; with_reducible exact H) | (have H2_ := (Option.bind_some _ _).symm.trans H; rw [hy245]; with_reducible exact H2_) | (have H2_ := (Option.bind_some _ _).symm.trans H; with_reducible exact H2_) | with_reducible exact H | (rw [hy245]; exact H) | exact H
                      have Ny245 := Aside0.mk hy245
                      clear hy245
                      by_cases c36 : y245.length + l3.length < 140737488355328
                      · rw [if_pos c36] at H
                        have LMc36 := Aside0.mk c36
                        clear c36
                        obtain ⟨y248, hy248⟩ : ∃ y_ : List Int, y_ = (y245 ++ l3) := ⟨_, rfl⟩
                        replace H : ((impl_FourStreams.f y248 (l0.length : Int) (t236.length : Int) (l2.length : Int) t232 t227).bind fun bt251 => (if bt251.2 = true then ((spec_SameBytes.f kj15 bt251.1 l2).bind fun t255 => (some t255)) else (some false))) = some r := by first | (rw [hy248]; with_reducible exact H) | (have H2_ := (Option.bind_some _ _).symm.trans H; rw [hy248]; with_reducible exact H2_) | (have H2_ := (Option.bind_some _ _).symm.trans H; with_reducible exact H2_) | with_reducible exact H | (rw [hy248]; exact H) | exact H
                        have Ny248 := Aside0.mk hy248
                        clear hy248
                        replace H := Option.bind_eq_some_iff.mp H
                        obtain ⟨⟨t251, t252⟩, A370, H⟩ := H
                        replace H : (if t252 = true then ((spec_SameBytes.f kj15 t251 l2).bind fun t255 => (some t255)) else (some false)) = some r := H
                        have A37 := Aside0.mk A370
                        clear A370
                        by_cases c38 : t252 = true
                        · subst c38
                          have H1 : ((spec_SameBytes.f kj15 t251 l2).bind fun t255 => (some t255)) = some r := by rw [if_pos rfl] at H; exact H
                          clear H
                          have H := H1
                          clear H1
                          replace H := Option.bind_eq_some_iff.mp H
                          obtain ⟨t255, A390, H⟩ := H
                          replace H : (some t255) = some r := H
                          have A39 := Aside0.mk A390
                          clear A390
                          obtain rfl := Option.some.inj H
                          obtain ⟨Ao40, co40, eo40⟩ := Kd.R_slice HO_9.out
                          subst eo40
                          go_wp2_with (first | ((with_reducible refine gate_callee (f := 18) rfl ?_); refine goesL_ (some 71) rfl rfl Tryd.func18 (by kernel_rfl) rfl #[.slice Ao40 t226.length co40, .int .i64 t227] rfl (by (try simp only [List.map_toArray, List.map_cons, List.map_nil]); first | done | rfl | (simp only [List.length_drop, List.length_take]; rfl)) ?_; (with_reducible refine (spec_CodeTable.calls kj15 _ _ t226 t227 t232 _ ?side1 ?side2 A30.out).mono ?_); (case side1 => repeat (first | exact (Kd.R_reads' HO_9.out).2.2 | (with_reducible refine Kd.C_alloc ?_ _) | (with_reducible refine Kd.C_drewN ?_ _) | (with_reducible refine Kd.C_drew ?_))); (case side2 => exact (Kd.R_reads' HO_9.out).2.1); rintro e w41 ⟨v233, rfl, ho0, hb⟩; refine ⟨_, rfl, ?_⟩; have n0_ := Aside0.mk (Kd.R_below (by (with_reducible repeat (first | apply Kd.R_alloc | apply Kd.R_drewN | apply Kd.R_drew)); exact HO_9.out) hb); have n1_ := Aside0.mk (Kd.R_lower ho0 (below_size (by repeat (first | (with_reducible first | exact HB.out | apply below_alloc | apply pw_below_drewN | apply below_drew1) | exact HB.out)))); have n2_ := Aside0.mk (below_step (by repeat (first | (with_reducible first | exact HB.out | apply below_alloc | apply pw_below_drewN | apply below_drew1) | exact HB.out)) hb); clear HO_9; clear HB; have HO_9 := n0_; have HO234 := n1_; have HB := n2_; clear n0_ n1_ n2_; (try clear hb); (try clear hb2); (try clear hk); (try clear hi); (try clear ho0); obtain ⟨Ao42, co42, eo42⟩ := Kd.R_slice HO234.out; subst eo42) | ((with_reducible refine gate_callee (f := 19) rfl ?_); refine goesL_ (some 74) rfl rfl Tryd.func19 (by kernel_rfl) rfl #[.slice Ao42 t232.length co42, .slice A2 l2.length c2] rfl (by (try simp only [List.map_toArray, List.map_cons, List.map_nil]); first | done | rfl | (simp only [List.length_drop, List.length_take]; rfl)) ?_; (with_reducible refine (spec_Has.calls kj15 _ _ t232 _ _ l2 true _ ?side1 ?side2 ?side3 ?side4 A31.out).mono ?_); (case side1 => repeat (first | exact (Kd.R_reads' HO234.out).2.2 | (with_reducible refine Kd.C_alloc ?_ _) | (with_reducible refine Kd.C_drewN ?_ _) | (with_reducible refine Kd.C_drew ?_))); (case side2 => exact (Kd.R_reads' HO234.out).2.1); (case side3 => repeat (first | exact (Kd.C_below HR2.out HB.out) | (with_reducible refine Kd.C_alloc ?_ _) | (with_reducible refine Kd.C_drewN ?_ _) | (with_reducible refine Kd.C_drew ?_))); (case side4 => exact HC2.out); rintro e w43 ⟨rfl, hb⟩; refine ⟨_, rfl, ?_⟩; have n0_ := Aside0.mk (Kd.R_below (by (with_reducible repeat (first | apply Kd.R_alloc | apply Kd.R_drewN | apply Kd.R_drew)); exact HO_9.out) hb); have n1_ := Aside0.mk (Kd.R_below (by (with_reducible repeat (first | apply Kd.R_alloc | apply Kd.R_drewN | apply Kd.R_drew)); exact HO234.out) hb); have n2_ := Aside0.mk (below_step (by repeat (first | (with_reducible first | exact HB.out | apply below_alloc | apply pw_below_drewN | apply below_drew1) | exact HB.out)) hb); clear HO_9; clear HO234; clear HB; have HO_9 := n0_; have HO234 := n1_; have HB := n2_; clear n0_ n1_ n2_; (try clear hb); (try clear hb2); (try clear hk); (try clear hi)) | ((with_reducible refine gate_callee (f := 20) rfl ?_); refine goesL_ (some 80) rfl rfl Tryd.func20 (by kernel_rfl) rfl #[.slice Ao42 t232.length co42, .int .i64 t227, .slice A2 l2.length c2] rfl (by (try simp only [List.map_toArray, List.map_cons, List.map_nil]); first | done | rfl | (simp only [List.length_drop, List.length_take]; rfl)) ?_; (with_reducible refine (spec_WriteFour.calls kj15 _ _ t232 t227 _ _ l2 t236 _ ?side1 ?side2 ?side3 ?side4 A33.out).mono ?_); (case side1 => repeat (first | exact (Kd.R_reads' HO234.out).2.2 | (with_reducible refine Kd.C_alloc ?_ _) | (with_reducible refine Kd.C_drewN ?_ _) | (with_reducible refine Kd.C_drew ?_))); (case side2 => exact (Kd.R_reads' HO234.out).2.1); (case side3 => repeat (first | exact (Kd.C_below HR2.out HB.out) | (with_reducible refine Kd.C_alloc ?_ _) | (with_reducible refine Kd.C_drewN ?_ _) | (with_reducible refine Kd.C_drew ?_))); (case side4 => exact HC2.out); rintro e w44 ⟨v237, rfl, ho0, hb⟩; refine ⟨_, rfl, ?_⟩; have n0_ := Aside0.mk (Kd.R_below (by (with_reducible repeat (first | apply Kd.R_alloc | apply Kd.R_drewN | apply Kd.R_drew)); exact HO_9.out) hb); have n1_ := Aside0.mk (Kd.R_below (by (with_reducible repeat (first | apply Kd.R_alloc | apply Kd.R_drewN | apply Kd.R_drew)); exact HO234.out) hb); have n2_ := Aside0.mk (Kd.R_lower ho0 (below_size (by repeat (first | (with_reducible first | exact HB.out | apply below_alloc | apply pw_below_drewN | apply below_drew1) | exact HB.out)))); have n3_ := Aside0.mk (below_step (by repeat (first | (with_reducible first | exact HB.out | apply below_alloc | apply pw_below_drewN | apply below_drew1) | exact HB.out)) hb); clear HO_9; clear HO234; clear HB; have HO_9 := n0_; have HO234 := n1_; have HO238 := n2_; have HB := n3_; clear n0_ n1_ n2_ n3_; (try clear hb); (try clear hb2); (try clear hk); (try clear hi); (try clear ho0)) | ((with_reducible refine gate_dst (N := 81) rfl ?_); (try (refine gate_guard (by rfl) ?_; dsimp only)); refine Kd.R_lit (Kd.int .u8) _ 5 ?hg (N := 81) ?hd (xs := ([] : List Int)) (inner := []) (ok := fun _ => True) (okp := fun _ => True) ?hr ?hp (fun _ hk => hk) trivial (Below.refl _ _) (Nat.le_refl _) (by simp) ?_; (case hd => rfl); (case hg => rfl); (case hr => first | (go_simp; done) | (go_simp; rfl)); (case hp => exact (Reps.none _ _)); intro v240 w45 ho46 hb hg_ hnew_; clear hg_ hnew_; (first | rw [← Ny239.out] at ho46 | (simp only [Int.reduceToNat] at ho46; rw [← Ny239.out] at ho46)); have n0_ := Aside0.mk (Kd.R_below (by (with_reducible repeat (first | apply Kd.R_alloc | apply Kd.R_drewN | apply Kd.R_drew)); exact HO_9.out) hb); have n1_ := Aside0.mk (Kd.R_below (by (with_reducible repeat (first | apply Kd.R_alloc | apply Kd.R_drewN | apply Kd.R_drew)); exact HO234.out) hb); have n2_ := Aside0.mk (Kd.R_elder' (by (with_reducible repeat (first | apply Kd.R_alloc | apply Kd.R_drewN | apply Kd.R_drew)); exact HO238.out) (Kd.R_base ho46) hb); have n3_ := Aside0.mk (Kd.R_lower (Kd.R_new' ho46 (Kd.R_lt (by (with_reducible repeat (first | apply Kd.R_alloc | apply Kd.R_drewN | apply Kd.R_drew)); exact HO238.out))) (below_size (by repeat (first | (with_reducible first | exact HB.out | apply below_alloc | apply pw_below_drewN | apply below_drew1) | exact HB.out)))); have n4_ := Aside0.mk (below_step (by repeat (first | (with_reducible first | exact HB.out | apply below_alloc | apply pw_below_drewN | apply below_drew1) | exact HB.out)) hb); clear HO_9; clear HO234; clear HO238; clear HB; have HO_9 := n0_; have HO234 := n1_; have HO238 := n2_; have HO241 := n3_; have HB := n4_; clear n0_ n1_ n2_ n3_ n4_; clear hb ho46) | ((with_reducible refine gate_builtin (b := .append) (xs := #[.tmp 81, .tmp 82]) rfl ?_); (try (refine gate_guard (by rfl) ?_; dsimp only)); at_builtin; refine Kd.R_append_rows (Kd.int .u8) (w0 := w) w.heap.size rfl (.tmp 81) (.tmp 82) 32 5 (.int .u8 0) 1 rfl Tryd.underlying32 PC.info5 rfl (by decide) (by omega) v240 y239 l0 _ _ _ (fun k_ => some k_ ≠ (v237 : Value).ownBlock) (fun _ => False) rfl rfl ?aO ?aR (fun _ _ h => h) (fun _ h => h.elim) ?aF ?aB ?aS ?aL ?_; (case aR => repeat (first | exact (Kd.C_below HR0.out HB.out) | (with_reducible refine Kd.C_alloc ?_ _) | (with_reducible refine Kd.C_drewN ?_ _) | (with_reducible refine Kd.C_drew ?_))); (case aB => exact (by repeat (first | (with_reducible first | exact HB.out | apply below_alloc | apply pw_below_drewN | apply below_drew1) | exact HB.out))); (case aF => exact (fun k_ hk => Kd.fresh' (Kd.R_lt (by (with_reducible repeat (first | apply Kd.R_alloc | apply Kd.R_drewN | apply Kd.R_drew)); exact HO238.out)) k_ hk)); (case aO => exact (by (with_reducible repeat (first | apply Kd.R_alloc | apply Kd.R_drewN | apply Kd.R_drew)); exact Kd.R_mono HO241.out (fun _ hk => hk.2))); (case aS => exact (below_size (by repeat (first | (with_reducible first | exact HB.out | apply below_alloc | apply pw_below_drewN | apply below_drew1) | exact HB.out)))); (case aL => have := LMc34.out; omega); intro v243 w47 ho hb hg hat; rw [← Ny242.out] at ho; have n0_ := Aside0.mk (Kd.R_over' (by (with_reducible repeat (first | apply Kd.R_alloc | apply Kd.R_drewN | apply Kd.R_drew)); exact HO_9.out) (Kd.R_typed (by (with_reducible repeat (first | apply Kd.R_alloc | apply Kd.R_drewN | apply Kd.R_drew)); exact HO241.out)) (by decide) hg); have n1_ := Aside0.mk (Kd.R_over' (by (with_reducible repeat (first | apply Kd.R_alloc | apply Kd.R_drewN | apply Kd.R_drew)); exact HO234.out) (Kd.R_typed (by (with_reducible repeat (first | apply Kd.R_alloc | apply Kd.R_drewN | apply Kd.R_drew)); exact HO241.out)) (by decide) hg); have n2_ := Aside0.mk (Kd.R_after (ok := (fun _ => True)) (by (with_reducible repeat (first | apply Kd.R_alloc | apply Kd.R_drewN | apply Kd.R_drew)); exact HO238.out) hg hat); have n3_ := Aside0.mk (hb); have n4_ := Aside0.mk (ho); clear HO_9; clear HO234; clear HO238; clear HB; clear HO241; have HO_9 := n0_; have HO234 := n1_; have HO238 := n2_; have HB := n3_; have HO244 := n4_; clear n0_ n1_ n2_ n3_ n4_; clear ho hb hg hat; obtain ⟨Ao49, co49, eo49⟩ := Kd.R_slice HO238.out; subst eo49) | ((with_reducible refine gate_builtin (b := .append) (xs := #[.tmp 83, .tmp 84]) rfl ?_); (try (refine gate_guard (by rfl) ?_; dsimp only)); at_builtin; refine Kd.R_append_rows (Kd.int .u8) (w0 := w) w.heap.size rfl (.tmp 83) (.tmp 84) 32 5 (.int .u8 0) 1 rfl Tryd.underlying32 PC.info5 rfl (by decide) (by omega) v243 y242 t236 _ _ _ (fun k_ => some k_ ≠ (.slice Ao49 t236.length co49 : Value).ownBlock) (fun _ => False) rfl rfl ?aO ?aR (fun _ _ h => h) (fun _ h => h.elim) ?aF ?aB ?aS ?aL ?_; (case aR => repeat (first | exact (Kd.R_reads' HO238.out).2.2 | (with_reducible refine Kd.C_alloc ?_ _) | (with_reducible refine Kd.C_drewN ?_ _) | (with_reducible refine Kd.C_drew ?_))); (case aB => exact (by repeat (first | (with_reducible first | exact HB.out | apply below_alloc | apply pw_below_drewN | apply below_drew1) | exact HB.out))); (case aF => exact (fun k_ hk => Kd.fresh' (Kd.R_lt (by (with_reducible repeat (first | apply Kd.R_alloc | apply Kd.R_drewN | apply Kd.R_drew)); exact HO238.out)) k_ hk)); (case aO => exact (by (with_reducible repeat (first | apply Kd.R_alloc | apply Kd.R_drewN | apply Kd.R_drew)); exact HO244.out)); (case aS => exact (below_size (by repeat (first | (with_reducible first | exact HB.out | apply below_alloc | apply pw_below_drewN | apply below_drew1) | exact HB.out)))); (case aL => have := LMc35.out; omega); intro v246 w48 ho hb hg hat; rw [← Ny245.out] at ho; have n0_ := Aside0.mk (Kd.R_over' (by (with_reducible repeat (first | apply Kd.R_alloc | apply Kd.R_drewN | apply Kd.R_drew)); exact HO_9.out) (Kd.R_typed (by (with_reducible repeat (first | apply Kd.R_alloc | apply Kd.R_drewN | apply Kd.R_drew)); exact HO244.out)) (by decide) hg); have n1_ := Aside0.mk (Kd.R_over' (by (with_reducible repeat (first | apply Kd.R_alloc | apply Kd.R_drewN | apply Kd.R_drew)); exact HO234.out) (Kd.R_typed (by (with_reducible repeat (first | apply Kd.R_alloc | apply Kd.R_drewN | apply Kd.R_drew)); exact HO244.out)) (by decide) hg); have n2_ := Aside0.mk (Kd.R_after (ok := (fun _ => True)) (by (with_reducible repeat (first | apply Kd.R_alloc | apply Kd.R_drewN | apply Kd.R_drew)); exact HO238.out) hg hat); have n3_ := Aside0.mk (hb); have n4_ := Aside0.mk (ho); clear HO_9; clear HO234; clear HO238; clear HB; clear HO244; have HO_9 := n0_; have HO234 := n1_; have HO238 := n2_; have HB := n3_; have HO247 := n4_; clear n0_ n1_ n2_ n3_ n4_; clear ho hb hg hat) | ((with_reducible refine gate_builtin (b := .append) (xs := #[.tmp 85, .tmp 86]) rfl ?_); (try (refine gate_guard (by rfl) ?_; dsimp only)); at_builtin; refine Kd.R_append_rows (Kd.int .u8) (w0 := w) w.heap.size rfl (.tmp 85) (.tmp 86) 32 5 (.int .u8 0) 1 rfl Tryd.underlying32 PC.info5 rfl (by decide) (by omega) v246 y245 l3 _ _ _ (fun k_ => some k_ ≠ (.slice Ao49 t236.length co49 : Value).ownBlock) (fun _ => False) rfl rfl ?aO ?aR (fun _ _ h => h) (fun _ h => h.elim) ?aF ?aB ?aS ?aL ?_; (case aR => repeat (first | exact (Kd.C_below HR3.out HB.out) | (with_reducible refine Kd.C_alloc ?_ _) | (with_reducible refine Kd.C_drewN ?_ _) | (with_reducible refine Kd.C_drew ?_))); (case aB => exact (by repeat (first | (with_reducible first | exact HB.out | apply below_alloc | apply pw_below_drewN | apply below_drew1) | exact HB.out))); (case aF => exact (fun k_ hk => Kd.fresh' (Kd.R_lt (by (with_reducible repeat (first | apply Kd.R_alloc | apply Kd.R_drewN | apply Kd.R_drew)); exact HO238.out)) k_ hk)); (case aO => exact (by (with_reducible repeat (first | apply Kd.R_alloc | apply Kd.R_drewN | apply Kd.R_drew)); exact HO247.out)); (case aS => exact (below_size (by repeat (first | (with_reducible first | exact HB.out | apply below_alloc | apply pw_below_drewN | apply below_drew1) | exact HB.out)))); (case aL => have := LMc36.out; omega); intro v249 w50 ho hb hg hat; rw [← Ny248.out] at ho; have n0_ := Aside0.mk (Kd.R_over' (by (with_reducible repeat (first | apply Kd.R_alloc | apply Kd.R_drewN | apply Kd.R_drew)); exact HO_9.out) (Kd.R_typed (by (with_reducible repeat (first | apply Kd.R_alloc | apply Kd.R_drewN | apply Kd.R_drew)); exact HO247.out)) (by decide) hg); have n1_ := Aside0.mk (Kd.R_over' (by (with_reducible repeat (first | apply Kd.R_alloc | apply Kd.R_drewN | apply Kd.R_drew)); exact HO234.out) (Kd.R_typed (by (with_reducible repeat (first | apply Kd.R_alloc | apply Kd.R_drewN | apply Kd.R_drew)); exact HO247.out)) (by decide) hg); have n2_ := Aside0.mk (Kd.R_after (ok := (fun _ => True)) (by (with_reducible repeat (first | apply Kd.R_alloc | apply Kd.R_drewN | apply Kd.R_drew)); exact HO238.out) hg hat); have n3_ := Aside0.mk (hb); have n4_ := Aside0.mk (ho); clear HO_9; clear HO234; clear HO238; clear HB; clear HO247; have HO_9 := n0_; have HO234 := n1_; have HO238 := n2_; have HB := n3_; have HO250 := n4_; clear n0_ n1_ n2_ n3_ n4_; clear ho hb hg hat; obtain ⟨Ao51, co51, eo51⟩ := Kd.R_slice HO250.out; subst eo51) | ((with_reducible refine gate_callee (f := 21) rfl ?_); refine goesL_ (some 98) rfl rfl Tryd.func21 (by kernel_rfl) rfl #[.slice Ao51 y248.length co51, .int .i64 (l0.length : Int), .int .i64 (t236.length : Int), .int .i64 (l2.length : Int), .slice Ao42 t232.length co42, .int .i64 t227] rfl (by (try simp only [List.map_toArray, List.map_cons, List.map_nil]); first | done | rfl | (simp only [List.length_drop, List.length_take]; rfl)) ?_; (with_reducible refine (impl_FourStreams.calls _ _ y248 (l0.length : Int) (t236.length : Int) (l2.length : Int) _ _ t232 t227 t251 true _ ?side1 ?side2 ?side3 ?side4 A37.out).mono ?_); (case side1 => repeat (first | exact (Kd.R_reads' HO250.out).2.2 | (with_reducible refine Kd.C_alloc ?_ _) | (with_reducible refine Kd.C_drewN ?_ _) | (with_reducible refine Kd.C_drew ?_))); (case side2 => exact (Kd.R_reads' HO250.out).2.1); (case side3 => repeat (first | exact (Kd.R_reads' HO234.out).2.2 | (with_reducible refine Kd.C_alloc ?_ _) | (with_reducible refine Kd.C_drewN ?_ _) | (with_reducible refine Kd.C_drew ?_))); (case side4 => exact (Kd.R_reads' HO234.out).2.1); rintro e w52 ⟨v253, rfl, ho0, hb⟩; refine ⟨_, rfl, ?_⟩; have n0_ := Aside0.mk (Kd.R_below (by (with_reducible repeat (first | apply Kd.R_alloc | apply Kd.R_drewN | apply Kd.R_drew)); exact HO_9.out) hb); have n1_ := Aside0.mk (Kd.R_below (by (with_reducible repeat (first | apply Kd.R_alloc | apply Kd.R_drewN | apply Kd.R_drew)); exact HO234.out) hb); have n2_ := Aside0.mk (Kd.R_elder' (by (with_reducible repeat (first | apply Kd.R_alloc | apply Kd.R_drewN | apply Kd.R_drew)); exact HO238.out) (Kd.R_base ho0) hb); have n3_ := Aside0.mk (Kd.R_elder' (by (with_reducible repeat (first | apply Kd.R_alloc | apply Kd.R_drewN | apply Kd.R_drew)); exact HO250.out) (Kd.R_base ho0) hb); have n4_ := Aside0.mk (Kd.R_lower (Kd.R_new' (Kd.R_new' ho0 (Kd.R_lt (by (with_reducible repeat (first | apply Kd.R_alloc | apply Kd.R_drewN | apply Kd.R_drew)); exact HO238.out))) (Kd.R_lt (by (with_reducible repeat (first | apply Kd.R_alloc | apply Kd.R_drewN | apply Kd.R_drew)); exact HO250.out))) (below_size (by repeat (first | (with_reducible first | exact HB.out | apply below_alloc | apply pw_below_drewN | apply below_drew1) | exact HB.out)))); have n5_ := Aside0.mk (below_step (by repeat (first | (with_reducible first | exact HB.out | apply below_alloc | apply pw_below_drewN | apply below_drew1) | exact HB.out)) hb); clear HO_9; clear HO234; clear HO238; clear HO250; clear HB; have HO_9 := n0_; have HO234 := n1_; have HO238 := n2_; have HO250 := n3_; have HO254 := n4_; have HB := n5_; clear n0_ n1_ n2_ n3_ n4_ n5_; (try clear hb); (try clear hb2); (try clear hk); (try clear hi); (try clear ho0); obtain ⟨Ao53, co53, eo53⟩ := Kd.R_slice HO254.out; subst eo53) | (go_at_call 22; (with_reducible refine (spec_SameBytes.calls kj15 _ _ t251 _ _ l2 t255 _ ?side1 ?side2 ?side3 ?side4 A39.out).mono ?_); (case side1 => repeat (first | exact (Kd.R_reads' HO254.out).2.2 | (with_reducible refine Kd.C_alloc ?_ _) | (with_reducible refine Kd.C_drewN ?_ _) | (with_reducible refine Kd.C_drew ?_))); (case side2 => exact (Kd.R_reads' HO254.out).2.1); (case side3 => repeat (first | exact (Kd.C_below HR2.out HB.out) | (with_reducible refine Kd.C_alloc ?_ _) | (with_reducible refine Kd.C_drewN ?_ _) | (with_reducible refine Kd.C_drew ?_))); (case side4 => exact HC2.out); rintro e w' ⟨rfl, ⟨nd, rfl⟩⟩))
                          go_ret
                          exact ⟨by first | rfl | (simp [errW_none, errW_some] <;> rfl) | (simp [*, errW_none, errW_some] <;> rfl), by repeat (first | (with_reducible first | exact HB.out | apply below_alloc | apply pw_below_drewN | apply below_drew1) | exact HB.out)⟩
                        · replace c38 := Bool.eq_false_iff.mpr c38
                          subst c38
                          have H1 : (some false) = some r := by rw [if_neg (show ¬ (false = true) by decide)] at H; exact H
                          clear H
                          have H := H1
                          clear H1
                          obtain rfl := Option.some.inj H
                          obtain ⟨Ao54, co54, eo54⟩ := Kd.R_slice HO_9.out
                          subst eo54
                          go_wp2_with (first | ((with_reducible refine gate_callee (f := 18) rfl ?_); refine goesL_ (some 71) rfl rfl Tryd.func18 (by kernel_rfl) rfl #[.slice Ao54 t226.length co54, .int .i64 t227] rfl (by (try simp only [List.map_toArray, List.map_cons, List.map_nil]); first | done | rfl | (simp only [List.length_drop, List.length_take]; rfl)) ?_; (with_reducible refine (spec_CodeTable.calls kj15 _ _ t226 t227 t232 _ ?side1 ?side2 A30.out).mono ?_); (case side1 => repeat (first | exact (Kd.R_reads' HO_9.out).2.2 | (with_reducible refine Kd.C_alloc ?_ _) | (with_reducible refine Kd.C_drewN ?_ _) | (with_reducible refine Kd.C_drew ?_))); (case side2 => exact (Kd.R_reads' HO_9.out).2.1); rintro e w55 ⟨v233, rfl, ho0, hb⟩; refine ⟨_, rfl, ?_⟩; have n0_ := Aside0.mk (Kd.R_below (by (with_reducible repeat (first | apply Kd.R_alloc | apply Kd.R_drewN | apply Kd.R_drew)); exact HO_9.out) hb); have n1_ := Aside0.mk (Kd.R_lower ho0 (below_size (by repeat (first | (with_reducible first | exact HB.out | apply below_alloc | apply pw_below_drewN | apply below_drew1) | exact HB.out)))); have n2_ := Aside0.mk (below_step (by repeat (first | (with_reducible first | exact HB.out | apply below_alloc | apply pw_below_drewN | apply below_drew1) | exact HB.out)) hb); clear HO_9; clear HB; have HO_9 := n0_; have HO234 := n1_; have HB := n2_; clear n0_ n1_ n2_; (try clear hb); (try clear hb2); (try clear hk); (try clear hi); (try clear ho0); obtain ⟨Ao56, co56, eo56⟩ := Kd.R_slice HO234.out; subst eo56) | ((with_reducible refine gate_callee (f := 19) rfl ?_); refine goesL_ (some 74) rfl rfl Tryd.func19 (by kernel_rfl) rfl #[.slice Ao56 t232.length co56, .slice A2 l2.length c2] rfl (by (try simp only [List.map_toArray, List.map_cons, List.map_nil]); first | done | rfl | (simp only [List.length_drop, List.length_take]; rfl)) ?_; (with_reducible refine (spec_Has.calls kj15 _ _ t232 _ _ l2 true _ ?side1 ?side2 ?side3 ?side4 A31.out).mono ?_); (case side1 => repeat (first | exact (Kd.R_reads' HO234.out).2.2 | (with_reducible refine Kd.C_alloc ?_ _) | (with_reducible refine Kd.C_drewN ?_ _) | (with_reducible refine Kd.C_drew ?_))); (case side2 => exact (Kd.R_reads' HO234.out).2.1); (case side3 => repeat (first | exact (Kd.C_below HR2.out HB.out) | (with_reducible refine Kd.C_alloc ?_ _) | (with_reducible refine Kd.C_drewN ?_ _) | (with_reducible refine Kd.C_drew ?_))); (case side4 => exact HC2.out); rintro e w57 ⟨rfl, hb⟩; refine ⟨_, rfl, ?_⟩; have n0_ := Aside0.mk (Kd.R_below (by (with_reducible repeat (first | apply Kd.R_alloc | apply Kd.R_drewN | apply Kd.R_drew)); exact HO_9.out) hb); have n1_ := Aside0.mk (Kd.R_below (by (with_reducible repeat (first | apply Kd.R_alloc | apply Kd.R_drewN | apply Kd.R_drew)); exact HO234.out) hb); have n2_ := Aside0.mk (below_step (by repeat (first | (with_reducible first | exact HB.out | apply below_alloc | apply pw_below_drewN | apply below_drew1) | exact HB.out)) hb); clear HO_9; clear HO234; clear HB; have HO_9 := n0_; have HO234 := n1_; have HB := n2_; clear n0_ n1_ n2_; (try clear hb); (try clear hb2); (try clear hk); (try clear hi)) | ((with_reducible refine gate_callee (f := 20) rfl ?_); refine goesL_ (some 80) rfl rfl Tryd.func20 (by kernel_rfl) rfl #[.slice Ao56 t232.length co56, .int .i64 t227, .slice A2 l2.length c2] rfl (by (try simp only [List.map_toArray, List.map_cons, List.map_nil]); first | done | rfl | (simp only [List.length_drop, List.length_take]; rfl)) ?_; (with_reducible refine (spec_WriteFour.calls kj15 _ _ t232 t227 _ _ l2 t236 _ ?side1 ?side2 ?side3 ?side4 A33.out).mono ?_); (case side1 => repeat (first | exact (Kd.R_reads' HO234.out).2.2 | (with_reducible refine Kd.C_alloc ?_ _) | (with_reducible refine Kd.C_drewN ?_ _) | (with_reducible refine Kd.C_drew ?_))); (case side2 => exact (Kd.R_reads' HO234.out).2.1); (case side3 => repeat (first | exact (Kd.C_below HR2.out HB.out) | (with_reducible refine Kd.C_alloc ?_ _) | (with_reducible refine Kd.C_drewN ?_ _) | (with_reducible refine Kd.C_drew ?_))); (case side4 => exact HC2.out); rintro e w58 ⟨v237, rfl, ho0, hb⟩; refine ⟨_, rfl, ?_⟩; have n0_ := Aside0.mk (Kd.R_below (by (with_reducible repeat (first | apply Kd.R_alloc | apply Kd.R_drewN | apply Kd.R_drew)); exact HO_9.out) hb); have n1_ := Aside0.mk (Kd.R_below (by (with_reducible repeat (first | apply Kd.R_alloc | apply Kd.R_drewN | apply Kd.R_drew)); exact HO234.out) hb); have n2_ := Aside0.mk (Kd.R_lower ho0 (below_size (by repeat (first | (with_reducible first | exact HB.out | apply below_alloc | apply pw_below_drewN | apply below_drew1) | exact HB.out)))); have n3_ := Aside0.mk (below_step (by repeat (first | (with_reducible first | exact HB.out | apply below_alloc | apply pw_below_drewN | apply below_drew1) | exact HB.out)) hb); clear HO_9; clear HO234; clear HB; have HO_9 := n0_; have HO234 := n1_; have HO238 := n2_; have HB := n3_; clear n0_ n1_ n2_ n3_; (try clear hb); (try clear hb2); (try clear hk); (try clear hi); (try clear ho0)) | ((with_reducible refine gate_dst (N := 81) rfl ?_); (try (refine gate_guard (by rfl) ?_; dsimp only)); refine Kd.R_lit (Kd.int .u8) _ 5 ?hg (N := 81) ?hd (xs := ([] : List Int)) (inner := []) (ok := fun _ => True) (okp := fun _ => True) ?hr ?hp (fun _ hk => hk) trivial (Below.refl _ _) (Nat.le_refl _) (by simp) ?_; (case hd => rfl); (case hg => rfl); (case hr => first | (go_simp; done) | (go_simp; rfl)); (case hp => exact (Reps.none _ _)); intro v240 w59 ho60 hb hg_ hnew_; clear hg_ hnew_; (first | rw [← Ny239.out] at ho60 | (simp only [Int.reduceToNat] at ho60; rw [← Ny239.out] at ho60)); have n0_ := Aside0.mk (Kd.R_below (by (with_reducible repeat (first | apply Kd.R_alloc | apply Kd.R_drewN | apply Kd.R_drew)); exact HO_9.out) hb); have n1_ := Aside0.mk (Kd.R_below (by (with_reducible repeat (first | apply Kd.R_alloc | apply Kd.R_drewN | apply Kd.R_drew)); exact HO234.out) hb); have n2_ := Aside0.mk (Kd.R_elder' (by (with_reducible repeat (first | apply Kd.R_alloc | apply Kd.R_drewN | apply Kd.R_drew)); exact HO238.out) (Kd.R_base ho60) hb); have n3_ := Aside0.mk (Kd.R_lower (Kd.R_new' ho60 (Kd.R_lt (by (with_reducible repeat (first | apply Kd.R_alloc | apply Kd.R_drewN | apply Kd.R_drew)); exact HO238.out))) (below_size (by repeat (first | (with_reducible first | exact HB.out | apply below_alloc | apply pw_below_drewN | apply below_drew1) | exact HB.out)))); have n4_ := Aside0.mk (below_step (by repeat (first | (with_reducible first | exact HB.out | apply below_alloc | apply pw_below_drewN | apply below_drew1) | exact HB.out)) hb); clear HO_9; clear HO234; clear HO238; clear HB; have HO_9 := n0_; have HO234 := n1_; have HO238 := n2_; have HO241 := n3_; have HB := n4_; clear n0_ n1_ n2_ n3_ n4_; clear hb ho60) | ((with_reducible refine gate_builtin (b := .append) (xs := #[.tmp 81, .tmp 82]) rfl ?_); (try (refine gate_guard (by rfl) ?_; dsimp only)); at_builtin; refine Kd.R_append_rows (Kd.int .u8) (w0 := w) w.heap.size rfl (.tmp 81) (.tmp 82) 32 5 (.int .u8 0) 1 rfl Tryd.underlying32 PC.info5 rfl (by decide) (by omega) v240 y239 l0 _ _ _ (fun k_ => some k_ ≠ (v237 : Value).ownBlock) (fun _ => False) rfl rfl ?aO ?aR (fun _ _ h => h) (fun _ h => h.elim) ?aF ?aB ?aS ?aL ?_; (case aR => repeat (first | exact (Kd.C_below HR0.out HB.out) | (with_reducible refine Kd.C_alloc ?_ _) | (with_reducible refine Kd.C_drewN ?_ _) | (with_reducible refine Kd.C_drew ?_))); (case aB => exact (by repeat (first | (with_reducible first | exact HB.out | apply below_alloc | apply pw_below_drewN | apply below_drew1) | exact HB.out))); (case aF => exact (fun k_ hk => Kd.fresh' (Kd.R_lt (by (with_reducible repeat (first | apply Kd.R_alloc | apply Kd.R_drewN | apply Kd.R_drew)); exact HO238.out)) k_ hk)); (case aO => exact (by (with_reducible repeat (first | apply Kd.R_alloc | apply Kd.R_drewN | apply Kd.R_drew)); exact Kd.R_mono HO241.out (fun _ hk => hk.2))); (case aS => exact (below_size (by repeat (first | (with_reducible first | exact HB.out | apply below_alloc | apply pw_below_drewN | apply below_drew1) | exact HB.out)))); (case aL => have := LMc34.out; omega); intro v243 w61 ho hb hg hat; rw [← Ny242.out] at ho; have n0_ := Aside0.mk (Kd.R_over' (by (with_reducible repeat (first | apply Kd.R_alloc | apply Kd.R_drewN | apply Kd.R_drew)); exact HO_9.out) (Kd.R_typed (by (with_reducible repeat (first | apply Kd.R_alloc | apply Kd.R_drewN | apply Kd.R_drew)); exact HO241.out)) (by decide) hg); have n1_ := Aside0.mk (Kd.R_over' (by (with_reducible repeat (first | apply Kd.R_alloc | apply Kd.R_drewN | apply Kd.R_drew)); exact HO234.out) (Kd.R_typed (by (with_reducible repeat (first | apply Kd.R_alloc | apply Kd.R_drewN | apply Kd.R_drew)); exact HO241.out)) (by decide) hg); have n2_ := Aside0.mk (Kd.R_after (ok := (fun _ => True)) (by (with_reducible repeat (first | apply Kd.R_alloc | apply Kd.R_drewN | apply Kd.R_drew)); exact HO238.out) hg hat); have n3_ := Aside0.mk (hb); have n4_ := Aside0.mk (ho); clear HO_9; clear HO234; clear HO238; clear HB; clear HO241; have HO_9 := n0_; have HO234 := n1_; have HO238 := n2_; have HB := n3_; have HO244 := n4_; clear n0_ n1_ n2_ n3_ n4_; clear ho hb hg hat; obtain ⟨Ao63, co63, eo63⟩ := Kd.R_slice HO238.out; subst eo63) | ((with_reducible refine gate_builtin (b := .append) (xs := #[.tmp 83, .tmp 84]) rfl ?_); (try (refine gate_guard (by rfl) ?_; dsimp only)); at_builtin; refine Kd.R_append_rows (Kd.int .u8) (w0 := w) w.heap.size rfl (.tmp 83) (.tmp 84) 32 5 (.int .u8 0) 1 rfl Tryd.underlying32 PC.info5 rfl (by decide) (by omega) v243 y242 t236 _ _ _ (fun k_ => some k_ ≠ (.slice Ao63 t236.length co63 : Value).ownBlock) (fun _ => False) rfl rfl ?aO ?aR (fun _ _ h => h) (fun _ h => h.elim) ?aF ?aB ?aS ?aL ?_; (case aR => repeat (first | exact (Kd.R_reads' HO238.out).2.2 | (with_reducible refine Kd.C_alloc ?_ _) | (with_reducible refine Kd.C_drewN ?_ _) | (with_reducible refine Kd.C_drew ?_))); (case aB => exact (by repeat (first | (with_reducible first | exact HB.out | apply below_alloc | apply pw_below_drewN | apply below_drew1) | exact HB.out))); (case aF => exact (fun k_ hk => Kd.fresh' (Kd.R_lt (by (with_reducible repeat (first | apply Kd.R_alloc | apply Kd.R_drewN | apply Kd.R_drew)); exact HO238.out)) k_ hk)); (case aO => exact (by (with_reducible repeat (first | apply Kd.R_alloc | apply Kd.R_drewN | apply Kd.R_drew)); exact HO244.out)); (case aS => exact (below_size (by repeat (first | (with_reducible first | exact HB.out | apply below_alloc | apply pw_below_drewN | apply below_drew1) | exact HB.out)))); (case aL => have := LMc35.out; omega); intro v246 w62 ho hb hg hat; rw [← Ny245.out] at ho; have n0_ := Aside0.mk (Kd.R_over' (by (with_reducible repeat (first | apply Kd.R_alloc | apply Kd.R_drewN | apply Kd.R_drew)); exact HO_9.out) (Kd.R_typed (by (with_reducible repeat (first | apply Kd.R_alloc | apply Kd.R_drewN | apply Kd.R_drew)); exact HO244.out)) (by decide) hg); have n1_ := Aside0.mk (Kd.R_over' (by (with_reducible repeat (first | apply Kd.R_alloc | apply Kd.R_drewN | apply Kd.R_drew)); exact HO234.out) (Kd.R_typed (by (with_reducible repeat (first | apply Kd.R_alloc | apply Kd.R_drewN | apply Kd.R_drew)); exact HO244.out)) (by decide) hg); have n2_ := Aside0.mk (Kd.R_after (ok := (fun _ => True)) (by (with_reducible repeat (first | apply Kd.R_alloc | apply Kd.R_drewN | apply Kd.R_drew)); exact HO238.out) hg hat); have n3_ := Aside0.mk (hb); have n4_ := Aside0.mk (ho); clear HO_9; clear HO234; clear HO238; clear HB; clear HO244; have HO_9 := n0_; have HO234 := n1_; have HO238 := n2_; have HB := n3_; have HO247 := n4_; clear n0_ n1_ n2_ n3_ n4_; clear ho hb hg hat) | ((with_reducible refine gate_builtin (b := .append) (xs := #[.tmp 85, .tmp 86]) rfl ?_); (try (refine gate_guard (by rfl) ?_; dsimp only)); at_builtin; refine Kd.R_append_rows (Kd.int .u8) (w0 := w) w.heap.size rfl (.tmp 85) (.tmp 86) 32 5 (.int .u8 0) 1 rfl Tryd.underlying32 PC.info5 rfl (by decide) (by omega) v246 y245 l3 _ _ _ (fun k_ => some k_ ≠ (.slice Ao63 t236.length co63 : Value).ownBlock) (fun _ => False) rfl rfl ?aO ?aR (fun _ _ h => h) (fun _ h => h.elim) ?aF ?aB ?aS ?aL ?_; (case aR => repeat (first | exact (Kd.C_below HR3.out HB.out) | (with_reducible refine Kd.C_alloc ?_ _) | (with_reducible refine Kd.C_drewN ?_ _) | (with_reducible refine Kd.C_drew ?_))); (case aB => exact (by repeat (first | (with_reducible first | exact HB.out | apply below_alloc | apply pw_below_drewN | apply below_drew1) | exact HB.out))); (case aF => exact (fun k_ hk => Kd.fresh' (Kd.R_lt (by (with_reducible repeat (first | apply Kd.R_alloc | apply Kd.R_drewN | apply Kd.R_drew)); exact HO238.out)) k_ hk)); (case aO => exact (by (with_reducible repeat (first | apply Kd.R_alloc | apply Kd.R_drewN | apply Kd.R_drew)); exact HO247.out)); (case aS => exact (below_size (by repeat (first | (with_reducible first | exact HB.out | apply below_alloc | apply pw_below_drewN | apply below_drew1) | exact HB.out)))); (case aL => have := LMc36.out; omega); intro v249 w64 ho hb hg hat; rw [← Ny248.out] at ho; have n0_ := Aside0.mk (Kd.R_over' (by (with_reducible repeat (first | apply Kd.R_alloc | apply Kd.R_drewN | apply Kd.R_drew)); exact HO_9.out) (Kd.R_typed (by (with_reducible repeat (first | apply Kd.R_alloc | apply Kd.R_drewN | apply Kd.R_drew)); exact HO247.out)) (by decide) hg); have n1_ := Aside0.mk (Kd.R_over' (by (with_reducible repeat (first | apply Kd.R_alloc | apply Kd.R_drewN | apply Kd.R_drew)); exact HO234.out) (Kd.R_typed (by (with_reducible repeat (first | apply Kd.R_alloc | apply Kd.R_drewN | apply Kd.R_drew)); exact HO247.out)) (by decide) hg); have n2_ := Aside0.mk (Kd.R_after (ok := (fun _ => True)) (by (with_reducible repeat (first | apply Kd.R_alloc | apply Kd.R_drewN | apply Kd.R_drew)); exact HO238.out) hg hat); have n3_ := Aside0.mk (hb); have n4_ := Aside0.mk (ho); clear HO_9; clear HO234; clear HO238; clear HB; clear HO247; have HO_9 := n0_; have HO234 := n1_; have HO238 := n2_; have HB := n3_; have HO250 := n4_; clear n0_ n1_ n2_ n3_ n4_; clear ho hb hg hat; obtain ⟨Ao65, co65, eo65⟩ := Kd.R_slice HO250.out; subst eo65) | ((with_reducible refine gate_callee (f := 21) rfl ?_); refine goesL_ (some 98) rfl rfl Tryd.func21 (by kernel_rfl) rfl #[.slice Ao65 y248.length co65, .int .i64 (l0.length : Int), .int .i64 (t236.length : Int), .int .i64 (l2.length : Int), .slice Ao56 t232.length co56, .int .i64 t227] rfl (by (try simp only [List.map_toArray, List.map_cons, List.map_nil]); first | done | rfl | (simp only [List.length_drop, List.length_take]; rfl)) ?_; (with_reducible refine (impl_FourStreams.calls _ _ y248 (l0.length : Int) (t236.length : Int) (l2.length : Int) _ _ t232 t227 t251 false _ ?side1 ?side2 ?side3 ?side4 A37.out).mono ?_); (case side1 => repeat (first | exact (Kd.R_reads' HO250.out).2.2 | (with_reducible refine Kd.C_alloc ?_ _) | (with_reducible refine Kd.C_drewN ?_ _) | (with_reducible refine Kd.C_drew ?_))); (case side2 => exact (Kd.R_reads' HO250.out).2.1); (case side3 => repeat (first | exact (Kd.R_reads' HO234.out).2.2 | (with_reducible refine Kd.C_alloc ?_ _) | (with_reducible refine Kd.C_drewN ?_ _) | (with_reducible refine Kd.C_drew ?_))); (case side4 => exact (Kd.R_reads' HO234.out).2.1); rintro e w66 ⟨v253, rfl, ho0, hb⟩; refine ⟨_, rfl, ?_⟩; have n0_ := Aside0.mk (Kd.R_below (by (with_reducible repeat (first | apply Kd.R_alloc | apply Kd.R_drewN | apply Kd.R_drew)); exact HO_9.out) hb); have n1_ := Aside0.mk (Kd.R_below (by (with_reducible repeat (first | apply Kd.R_alloc | apply Kd.R_drewN | apply Kd.R_drew)); exact HO234.out) hb); have n2_ := Aside0.mk (Kd.R_elder' (by (with_reducible repeat (first | apply Kd.R_alloc | apply Kd.R_drewN | apply Kd.R_drew)); exact HO238.out) (Kd.R_base ho0) hb); have n3_ := Aside0.mk (Kd.R_elder' (by (with_reducible repeat (first | apply Kd.R_alloc | apply Kd.R_drewN | apply Kd.R_drew)); exact HO250.out) (Kd.R_base ho0) hb); have n4_ := Aside0.mk (Kd.R_lower (Kd.R_new' (Kd.R_new' ho0 (Kd.R_lt (by (with_reducible repeat (first | apply Kd.R_alloc | apply Kd.R_drewN | apply Kd.R_drew)); exact HO238.out))) (Kd.R_lt (by (with_reducible repeat (first | apply Kd.R_alloc | apply Kd.R_drewN | apply Kd.R_drew)); exact HO250.out))) (below_size (by repeat (first | (with_reducible first | exact HB.out | apply below_alloc | apply pw_below_drewN | apply below_drew1) | exact HB.out)))); have n5_ := Aside0.mk (below_step (by repeat (first | (with_reducible first | exact HB.out | apply below_alloc | apply pw_below_drewN | apply below_drew1) | exact HB.out)) hb); clear HO_9; clear HO234; clear HO238; clear HO250; clear HB; have HO_9 := n0_; have HO234 := n1_; have HO238 := n2_; have HO250 := n3_; have HO254 := n4_; have HB := n5_; clear n0_ n1_ n2_ n3_ n4_ n5_; (try clear hb); (try clear hb2); (try clear hk); (try clear hi); (try clear ho0)))
                          go_ret
                          exact ⟨by first | rfl | (simp [errW_none, errW_some] <;> rfl) | (simp [*, errW_none, errW_some] <;> rfl), by repeat (first | (with_reducible first | exact HB.out | apply below_alloc | apply pw_below_drewN | apply below_drew1) | exact HB.out)⟩
                      · rw [if_neg c36] at H
                        exact absurd H (by simp)
                    · rw [if_neg c35] at H
                      exact absurd H (by simp)
                  · rw [if_neg c34] at H
                    exact absurd H (by simp)
                · replace c32 := Bool.eq_false_iff.mpr c32
                  subst c32
                  have H1 : ((laws_coded.f).bind fun t256 => (some t256)) = some r := by rw [if_neg (show ¬ (false = true) by decide)] at H; exact H
                  clear H
                  have H := H1
                  clear H1
                  replace H := Option.bind_eq_some_iff.mp H
                  obtain ⟨t256, A670, H⟩ := H
                  replace H : (some t256) = some r := H
                  have A67 := Aside0.mk A670
                  clear A670
                  obtain rfl := Option.some.inj H
                  obtain ⟨Ao68, co68, eo68⟩ := Kd.R_slice HO_9.out
                  subst eo68
                  go_wp2_with (first | ((with_reducible refine gate_callee (f := 18) rfl ?_); refine goesL_ (some 71) rfl rfl Tryd.func18 (by kernel_rfl) rfl #[.slice Ao68 t226.length co68, .int .i64 t227] rfl (by (try simp only [List.map_toArray, List.map_cons, List.map_nil]); first | done | rfl | (simp only [List.length_drop, List.length_take]; rfl)) ?_; (with_reducible refine (spec_CodeTable.calls kj15 _ _ t226 t227 t232 _ ?side1 ?side2 A30.out).mono ?_); (case side1 => repeat (first | exact (Kd.R_reads' HO_9.out).2.2 | (with_reducible refine Kd.C_alloc ?_ _) | (with_reducible refine Kd.C_drewN ?_ _) | (with_reducible refine Kd.C_drew ?_))); (case side2 => exact (Kd.R_reads' HO_9.out).2.1); rintro e w69 ⟨v233, rfl, ho0, hb⟩; refine ⟨_, rfl, ?_⟩; have n0_ := Aside0.mk (Kd.R_below (by (with_reducible repeat (first | apply Kd.R_alloc | apply Kd.R_drewN | apply Kd.R_drew)); exact HO_9.out) hb); have n1_ := Aside0.mk (Kd.R_lower ho0 (below_size (by repeat (first | (with_reducible first | exact HB.out | apply below_alloc | apply pw_below_drewN | apply below_drew1) | exact HB.out)))); have n2_ := Aside0.mk (below_step (by repeat (first | (with_reducible first | exact HB.out | apply below_alloc | apply pw_below_drewN | apply below_drew1) | exact HB.out)) hb); clear HO_9; clear HB; have HO_9 := n0_; have HO234 := n1_; have HB := n2_; clear n0_ n1_ n2_; (try clear hb); (try clear hb2); (try clear hk); (try clear hi); (try clear ho0); obtain ⟨Ao70, co70, eo70⟩ := Kd.R_slice HO234.out; subst eo70) | ((with_reducible refine gate_callee (f := 19) rfl ?_); refine goesL_ (some 74) rfl rfl Tryd.func19 (by kernel_rfl) rfl #[.slice Ao70 t232.length co70, .slice A2 l2.length c2] rfl (by (try simp only [List.map_toArray, List.map_cons, List.map_nil]); first | done | rfl | (simp only [List.length_drop, List.length_take]; rfl)) ?_; (with_reducible refine (spec_Has.calls kj15 _ _ t232 _ _ l2 false _ ?side1 ?side2 ?side3 ?side4 A31.out).mono ?_); (case side1 => repeat (first | exact (Kd.R_reads' HO234.out).2.2 | (with_reducible refine Kd.C_alloc ?_ _) | (with_reducible refine Kd.C_drewN ?_ _) | (with_reducible refine Kd.C_drew ?_))); (case side2 => exact (Kd.R_reads' HO234.out).2.1); (case side3 => repeat (first | exact (Kd.C_below HR2.out HB.out) | (with_reducible refine Kd.C_alloc ?_ _) | (with_reducible refine Kd.C_drewN ?_ _) | (with_reducible refine Kd.C_drew ?_))); (case side4 => exact HC2.out); rintro e w71 ⟨rfl, hb⟩; refine ⟨_, rfl, ?_⟩; have n0_ := Aside0.mk (Kd.R_below (by (with_reducible repeat (first | apply Kd.R_alloc | apply Kd.R_drewN | apply Kd.R_drew)); exact HO_9.out) hb); have n1_ := Aside0.mk (Kd.R_below (by (with_reducible repeat (first | apply Kd.R_alloc | apply Kd.R_drewN | apply Kd.R_drew)); exact HO234.out) hb); have n2_ := Aside0.mk (below_step (by repeat (first | (with_reducible first | exact HB.out | apply below_alloc | apply pw_below_drewN | apply below_drew1) | exact HB.out)) hb); clear HO_9; clear HO234; clear HB; have HO_9 := n0_; have HO234 := n1_; have HB := n2_; clear n0_ n1_ n2_; (try clear hb); (try clear hb2); (try clear hk); (try clear hi)) | ((with_reducible refine gate_callee (f := 17) rfl ?_); refine goesL_ (some 76) rfl rfl Tryd.func17 (by kernel_rfl) rfl #[] rfl (by (try simp only [List.map_toArray, List.map_cons, List.map_nil]); first | done | rfl | (simp only [List.length_drop, List.length_take]; rfl)) ?_; (with_reducible refine (laws_coded.calls  t256 _ A67.out).mono ?_); rintro e w72 ⟨rfl, hb⟩; refine ⟨_, rfl, ?_⟩; have n0_ := Aside0.mk (Kd.R_below (by (with_reducible repeat (first | apply Kd.R_alloc | apply Kd.R_drewN | apply Kd.R_drew)); exact HO_9.out) hb); have n1_ := Aside0.mk (Kd.R_below (by (with_reducible repeat (first | apply Kd.R_alloc | apply Kd.R_drewN | apply Kd.R_drew)); exact HO234.out) hb); have n2_ := Aside0.mk (below_step (by repeat (first | (with_reducible first | exact HB.out | apply below_alloc | apply pw_below_drewN | apply below_drew1) | exact HB.out)) hb); clear HO_9; clear HO234; clear HB; have HO_9 := n0_; have HO234 := n1_; have HB := n2_; clear n0_ n1_ n2_; (try clear hb); (try clear hb2); (try clear hk); (try clear hi)))
                  go_ret
                  exact ⟨by first | rfl | (simp [errW_none, errW_some] <;> rfl) | (simp [*, errW_none, errW_some] <;> rfl), by repeat (first | (with_reducible first | exact HB.out | apply below_alloc | apply pw_below_drewN | apply below_drew1) | exact HB.out)⟩

/-- THE ONE PURE STATEMENT of laws_FnFourRead: yours. -/
def laws_FnFourRead.Pure : Prop := ∀ (l0 : List Int) (l1 : List Int) (l2 : List Int) (l3 : List Int), l0.length ≤ maxLen → l0.length * 1 ≤ 140737488351232 → (∀ x ∈ l0, (Lit.int .u8 x).wf = true) → l1.length ≤ maxLen → l1.length * 8 ≤ 140737488351232 → (∀ x ∈ l1, (Lit.int .i64 x).wf = true) → l2.length ≤ maxLen → l2.length * 1 ≤ 140737488351232 → (∀ x ∈ l2, (Lit.int .u8 x).wf = true) → l3.length ≤ maxLen → l3.length * 1 ≤ 140737488351232 → (∀ x ∈ l3, (Lit.int .u8 x).wf = true) → ∃ k, laws_FnFourRead.f k l0 l1 l2 l3 = some true
theorem laws_FnFourRead.walk (P : laws_FnFourRead.Pure) (a0 : Option Addr) (len0 cap0 : Nat) (z0 : List Int) (a1 : Option Addr) (len1 cap1 : Nat) (z1 : List Int) (a2 : Option Addr) (len2 cap2 : Nat) (z2 : List Int) (a3 : Option Addr) (len3 cap3 : Nat) (z3 : List Int) (w : World) (w0 : (a0 = none ∧ len0 = 0 ∧ cap0 = 0 ∧ z0 = []) ∨ ∃ x, a0 = some x ∧ len0 ≤ cap0 ∧ cap0 ≤ maxLen ∧ z0.length = cap0 ∧ (∀ i, i < z0.length → w.cell? (x.add i) = some (.int .u8 (z0.getD i 0))) ∧ ∀ n ∈ z0, (Lit.int .u8 n).wf = true) (y0 : len0 * 1 ≤ 140737488351232) (w1 : (a1 = none ∧ len1 = 0 ∧ cap1 = 0 ∧ z1 = []) ∨ ∃ x, a1 = some x ∧ len1 ≤ cap1 ∧ cap1 ≤ maxLen ∧ z1.length = cap1 ∧ (∀ i, i < z1.length → w.cell? (x.add i) = some (.int .i64 (z1.getD i 0))) ∧ ∀ n ∈ z1, (Lit.int .i64 n).wf = true) (y1 : len1 * 8 ≤ 140737488351232) (w2 : (a2 = none ∧ len2 = 0 ∧ cap2 = 0 ∧ z2 = []) ∨ ∃ x, a2 = some x ∧ len2 ≤ cap2 ∧ cap2 ≤ maxLen ∧ z2.length = cap2 ∧ (∀ i, i < z2.length → w.cell? (x.add i) = some (.int .u8 (z2.getD i 0))) ∧ ∀ n ∈ z2, (Lit.int .u8 n).wf = true) (y2 : len2 * 1 ≤ 140737488351232) (w3 : (a3 = none ∧ len3 = 0 ∧ cap3 = 0 ∧ z3 = []) ∨ ∃ x, a3 = some x ∧ len3 ≤ cap3 ∧ cap3 ≤ maxLen ∧ z3.length = cap3 ∧ (∀ i, i < z3.length → w.cell? (x.add i) = some (.int .u8 (z3.getD i 0))) ∧ ∀ n ∈ z3, (Lit.int .u8 n).wf = true) (y3 : len3 * 1 ≤ 140737488351232) :
    Calls Tryd.prog 6 #[.slice a0 len0 cap0, .slice a1 len1 cap1, .slice a2 len2 cap2, .slice a3 len3 cap3] w fun e w' => e = .returned (.bool true) ∧ Below w.heap.size w w' := by
  obtain ⟨l0, rfl, hr0, hm0, hw0, hc0⟩ := ReadsInt.ofRowC w0
  obtain ⟨l1, rfl, hr1, hm1, hw1, hc1⟩ := ReadsInt.ofRowC w1
  obtain ⟨l2, rfl, hr2, hm2, hw2, hc2⟩ := ReadsInt.ofRowC w2
  obtain ⟨l3, rfl, hr3, hm3, hw3, hc3⟩ := ReadsInt.ofRowC w3
  obtain ⟨k, h⟩ := P l0 l1 l2 l3 hm0 y0 hw0 hm1 y1 hw1 hm2 y2 hw2 hm3 y3 hw3
  refine (laws_FnFourRead.calls k _ _ l0 _ _ l1 _ _ l2 _ _ l3 true w (Kd.C_of_reads (d := (0 : Int)) (h1 := fun _ => rfl) hr0) hc0 (Kd.C_of_reads (d := (0 : Int)) (h1 := fun _ => rfl) hr1) hc1 (Kd.C_of_reads (d := (0 : Int)) (h1 := fun _ => rfl) hr2) hc2 (Kd.C_of_reads (d := (0 : Int)) (h1 := fun _ => rfl) hr3) hc3 h).mono ?_
  rintro e w' ⟨rfl, hd⟩
  exact ⟨rfl, hd⟩

end
end Go.Proofs.YtopadgohinoomaaDoor.Cx
