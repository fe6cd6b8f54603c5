/-
What FnSectionRead answers, as a plain Lean function, and that its call comes to that answer: written by a program of this session, after the way of the kit's print of functions, with contracts given (coded, impl.Literals).
-/
import Derived.Test.YtopadgohinoomaaDoorPC8
import Derived.Test.YtopadgohinoomaaDoorEe
import Derived.Test.YtopadgohinoomaaDoorEa
import Derived.Test.YtopadgohinoomaaDoorCm
namespace Go.Proofs.YtopadgohinoomaaDoor.Cx
open Go.RowKit Go.Proofs.YtopadgohinoomaaDoorW.PrintWords Go.Proofs.YtopadgohinoomaaDoorW.PrintLast Go.Proofs.YtopadgohinoomaaDoorW.PrintMore Go.Proofs.YtopadgohinoomaaDoor.PC
attribute [local go_sem] max2_int min2_int max_two min_two max_three min_three max_four min_four
set_option linter.unusedVariables false
set_option linter.unusedSimpArgs false
noncomputable section
/-! ### laws_FnSectionRead: function 8 -/
mutual
def laws_FnSectionRead.j0 : Nat → List Int → List Int → List Int → Bool → Int → List Int → Bool → Option (Bool)
  | 0, _, _, _, _, _, _, _ => none
  | k + 1, x0, x1, x2, x3, x4, x5, x39 => if x39 = true then (some true) else ((spec_TooLong.f k (([(x0.length : Int), (x1.length : Int), (x2.length : Int), (x5.length : Int)] : List Int))).bind fun t266 => (if t266 = true then (some true) else ((spec_Section.f k x1 x2 true x3 x4).bind fun bt267 => ((spec_Whole.f k x1).bind fun bt271 => (if bt267.2 = true then (if bt271.2.2 = true then ((spec_Lowest.f k bt271.1).bind fun t276 => (if t276 = true then (laws_FnSectionRead.j1 k x0 x2 x5 bt267.1 (decide ((x5.length : Int) < 4))) else (laws_FnSectionRead.j1 k x0 x2 x5 bt267.1 true))) else (laws_FnSectionRead.j1 k x0 x2 x5 bt267.1 true)) else (laws_FnSectionRead.j1 k x0 x2 x5 bt267.1 true))))))
def laws_FnSectionRead.j1 : Nat → List Int → List Int → List Int → List Int → Bool → Option (Bool)
  | 0, _, _, _, _, _ => none
  | k + 1, x0, x2, x5, x13, x79 => if x79 = true then ((laws_coded.f).bind fun t277 => (some t277)) else ((some (([] : List Int) : List Int)).bind fun y278 => (if y278.length + x0.length < 140737488355328 then ((some (y278 ++ x0 : List Int)).bind fun y281 => (if y281.length + x13.length < 140737488355328 then ((some (y281 ++ x13 : List Int)).bind fun y284 => (if y284.length + x5.length < 140737488355328 then ((some (y284 ++ x5 : List Int)).bind fun y287 => ((impl_Literals.f y287 (x0.length : Int) ([] : List (S68)) 0).bind fun bt290 => (if bt290.2.2 = true then (if bt290.2.1 = (wrap64 ((y287.length : Int) - (x5.length : Int))) then ((spec_SameBytes.f k bt290.1 x2).bind fun t295 => (some t295)) else (some false)) else (some false)))) else (none))) else (none))) else (none)))
end
def laws_FnSectionRead.f (k : Nat) (l0 : List Int) (l1 : List Int) (l2 : List Int) (a3 : Bool) (a4 : Int) (l5 : List Int) : Option (Bool) := if (l0.length : Int) > 2147483647 then (laws_FnSectionRead.j0 k l0 l1 l2 a3 a4 l5 true) else (if (l1.length : Int) > 2147483647 then (laws_FnSectionRead.j0 k l0 l1 l2 a3 a4 l5 true) else (if (l2.length : Int) > 2147483647 then (laws_FnSectionRead.j0 k l0 l1 l2 a3 a4 l5 true) else (laws_FnSectionRead.j0 k l0 l1 l2 a3 a4 l5 (decide ((l5.length : Int) > 2147483647)))))
theorem laws_FnSectionRead.mono_l : ∀ k, (∀ y0 y1 y2 y3 y4 y5 y6, LeO (laws_FnSectionRead.j0 k y0 y1 y2 y3 y4 y5 y6) (laws_FnSectionRead.j0 (k + 1) y0 y1 y2 y3 y4 y5 y6)) ∧ (∀ y0 y1 y2 y3 y4, LeO (laws_FnSectionRead.j1 k y0 y1 y2 y3 y4) (laws_FnSectionRead.j1 (k + 1) y0 y1 y2 y3 y4))
  | 0 => ⟨fun _ _ _ _ _ _ _ r h => by simp [laws_FnSectionRead.j0] at h, fun _ _ _ _ _ r h => by simp [laws_FnSectionRead.j1] at h⟩
  | k + 1 => by
    obtain ⟨ih0, ih1⟩ := laws_FnSectionRead.mono_l k
    refine ⟨?_, ?_⟩
    · intro y0 y1 y2 y3 y4 y5 y6
      unfold laws_FnSectionRead.j0
      repeat' first
      | (with_reducible exact ih0 _ _ _ _ _ _ _)
      | (with_reducible exact ih1 _ _ _ _ _)
      | (with_reducible exact spec_Lowest.mono _ _)
      | (with_reducible exact spec_SameBytes.mono _ _ _)
      | (with_reducible exact spec_Section.mono _ _ _ _ _ _)
      | (with_reducible exact spec_TooLong.mono _ _)
      | (with_reducible exact spec_Whole.mono _ _)
      | (with_reducible exact LeO.refl _)
      | (with_reducible exact LeO.none _)
      | (with_reducible refine LeO.ite ?_ ?_)
      | (with_reducible refine LeO.bind ?_ (fun _ => ?_))
      | exact ih0 _ _ _ _ _ _ _
      | exact ih1 _ _ _ _ _
      | exact spec_Lowest.mono _ _
      | exact spec_SameBytes.mono _ _ _
      | exact spec_Section.mono _ _ _ _ _ _
      | exact spec_TooLong.mono _ _
      | exact spec_Whole.mono _ _
      | exact LeO.none _
      | refine LeO.ite ?_ ?_
      | refine LeO.bind ?_ (fun _ => ?_)
    · intro y0 y1 y2 y3 y4
      unfold laws_FnSectionRead.j1
      repeat' first
      | (with_reducible exact ih0 _ _ _ _ _ _ _)
      | (with_reducible exact ih1 _ _ _ _ _)
      | (with_reducible exact spec_Lowest.mono _ _)
      | (with_reducible exact spec_SameBytes.mono _ _ _)
      | (with_reducible exact spec_Section.mono _ _ _ _ _ _)
      | (with_reducible exact spec_TooLong.mono _ _)
      | (with_reducible exact spec_Whole.mono _ _)
      | (with_reducible exact LeO.refl _)
      | (with_reducible exact LeO.none _)
      | (with_reducible refine LeO.ite ?_ ?_)
      | (with_reducible refine LeO.bind ?_ (fun _ => ?_))
      | exact ih0 _ _ _ _ _ _ _
      | exact ih1 _ _ _ _ _
      | exact spec_Lowest.mono _ _
      | exact spec_SameBytes.mono _ _ _
      | exact spec_Section.mono _ _ _ _ _ _
      | exact spec_TooLong.mono _ _
      | exact spec_Whole.mono _ _
      | exact LeO.none _
      | refine LeO.ite ?_ ?_
      | refine LeO.bind ?_ (fun _ => ?_)
theorem laws_FnSectionRead.mono : ∀ a0 a1 a2 a3 a4 a5 k, LeO (laws_FnSectionRead.f k a0 a1 a2 a3 a4 a5) (laws_FnSectionRead.f (k + 1) a0 a1 a2 a3 a4 a5) := by
  intro a0 a1 a2 a3 a4 a5 k
  obtain ⟨ih0, ih1⟩ := laws_FnSectionRead.mono_l k
  unfold laws_FnSectionRead.f
  repeat' first
      | (with_reducible exact ih0 _ _ _ _ _ _ _)
      | (with_reducible exact ih1 _ _ _ _ _)
      | (with_reducible exact spec_Lowest.mono _ _)
      | (with_reducible exact spec_SameBytes.mono _ _ _)
      | (with_reducible exact spec_Section.mono _ _ _ _ _ _)
      | (with_reducible exact spec_TooLong.mono _ _)
      | (with_reducible exact spec_Whole.mono _ _)
      | (with_reducible exact LeO.refl _)
      | (with_reducible exact LeO.none _)
      | (with_reducible refine LeO.ite ?_ ?_)
      | (with_reducible refine LeO.bind ?_ (fun _ => ?_))
      | exact ih0 _ _ _ _ _ _ _
      | exact ih1 _ _ _ _ _
      | exact spec_Lowest.mono _ _
      | exact spec_SameBytes.mono _ _ _
      | exact spec_Section.mono _ _ _ _ _ _
      | exact spec_TooLong.mono _ _
      | exact spec_Whole.mono _ _
      | exact LeO.none _
      | refine LeO.ite ?_ ?_
      | refine LeO.bind ?_ (fun _ => ?_)
set_option maxHeartbeats 8000000 in
set_option maxRecDepth 100000 in
theorem laws_FnSectionRead.calls (k : Nat) (A0 : Option Addr) (c0 : Nat) (l0 : List Int) (A1 : Option Addr) (c1 : Nat) (l1 : List Int) (A2 : Option Addr) (c2 : Nat) (l2 : List Int) (a3 : Bool) (a4 : Int) (A5 : Option Addr) (c5 : Nat) (l5 : List Int) (r : Bool) (w : World) (hE : St.Eof w) (hr0 : Kd.C (Kd.int .u8) w A0 l0.length l0) (hc0 : l0.length ≤ c0) (hr1 : Kd.C (Kd.int .i64) w A1 l1.length l1) (hc1 : l1.length ≤ c1) (hr2 : Kd.C (Kd.int .u8) w A2 l2.length l2) (hc2 : l2.length ≤ c2) (hr5 : Kd.C (Kd.int .u8) w A5 l5.length l5) (hc5 : l5.length ≤ c5) (h : laws_FnSectionRead.f k l0 l1 l2 a3 a4 l5 = some r) :
    Calls Tryd.prog 8 #[.slice A0 l0.length c0, .slice A1 l1.length c1, .slice A2 l2.length c2, .bool a3, .int .i64 a4, .slice A5 l5.length c5] w fun e w' => e = .returned (.bool r) ∧ Below w.heap.size w w' := by
  have HEE := Aside0.mk hE
  clear hE
  have HR0 := Aside0.mk hr0
  have HC0 := Aside0.mk hc0
  clear hr0 hc0
  have HR1 := Aside0.mk hr1
  have HC1 := Aside0.mk hc1
  clear hr1 hc1
  have HR2 := Aside0.mk hr2
  have HC2 := Aside0.mk hc2
  clear hr2 hc2
  have HR5 := Aside0.mk hr5
  have HC5 := Aside0.mk hc5
  clear hr5 hc5
  have HB := Aside0.mk (Below.refl w.heap.size w)
  have H : (if (l0.length : Int) > 2147483647 then (laws_FnSectionRead.j0 k l0 l1 l2 a3 a4 l5 true) else (if (l1.length : Int) > 2147483647 then (laws_FnSectionRead.j0 k l0 l1 l2 a3 a4 l5 true) else (if (l2.length : Int) > 2147483647 then (laws_FnSectionRead.j0 k l0 l1 l2 a3 a4 l5 true) else (laws_FnSectionRead.j0 k l0 l1 l2 a3 a4 l5 (decide ((l5.length : Int) > 2147483647)))))) = some r := h
  clear h
  have HC7 := Aside0.mk H
  clear H
  go_enter Tryd.func8, Tryd.ntmps8
  go_upto_region 1 with (fail)
  go_cut [39] (fun v39 wc => ∃ (kq : Nat) (x39_6 : Bool), v39 = .bool x39_6 ∧ Aside0 (laws_FnSectionRead.j0 kq l0 l1 l2 a3 a4 l5 x39_6 = some r) ∧ Aside0 (kq ≤ k) ∧ Aside0 (Below w.heap.size w wc))
  case first =>
    have H := HC7.out
    clear HC7
    by_cases c8 : (l0.length : Int) > 2147483647
    · rw [if_pos c8] at H
      have c8b0 : decide (2147483647 < (l0.length : Int)) = true := decide_eq_true c8
      have c8b1 : decide (2147483647 < l0.length) = true := decide_eq_true (by omega)
      clear c8
      (first | rw [c8b0] | (simp only [i64_w, i32_w]; rw [c8b0]) | skip)
      have H' := Aside0.mk H
      clear H
      go_wp2
      go_meet
      case rel => exact ⟨_, (true), (by first | rfl | (simp; done) | (simp [*]; done)), H', ⟨by first | omega | exact Nat.le_refl _⟩, ⟨by repeat (first | (with_reducible first | exact HB.out | apply below_alloc | apply pw_below_drewN | apply below_drew1) | exact HB.out)⟩⟩
    · rw [if_neg c8] at H
      have c8b0 : decide (2147483647 < (l0.length : Int)) = false := decide_eq_false c8
      have c8b1 : decide (2147483647 < l0.length) = false := decide_eq_false (by omega)
      clear c8
      (first | rw [c8b0] | (simp only [i64_w, i32_w]; rw [c8b0]) | skip)
      by_cases c9 : (l1.length : Int) > 2147483647
      · rw [if_pos c9] at H
        have c9b0 : decide (2147483647 < (l1.length : Int)) = true := decide_eq_true c9
        have c9b1 : decide (2147483647 < l1.length) = true := decide_eq_true (by omega)
        clear c9
        have H' := Aside0.mk H
        clear H
        go_wp2
        go_meet
        case rel => exact ⟨_, (true), (by first | rfl | (simp; done) | (simp [*]; done)), H', ⟨by first | omega | exact Nat.le_refl _⟩, ⟨by repeat (first | (with_reducible first | exact HB.out | apply below_alloc | apply pw_below_drewN | apply below_drew1) | exact HB.out)⟩⟩
      · rw [if_neg c9] at H
        have c9b0 : decide (2147483647 < (l1.length : Int)) = false := decide_eq_false c9
        have c9b1 : decide (2147483647 < l1.length) = false := decide_eq_false (by omega)
        clear c9
        by_cases c10 : (l2.length : Int) > 2147483647
        · rw [if_pos c10] at H
          have c10b0 : decide (2147483647 < (l2.length : Int)) = true := decide_eq_true c10
          have c10b1 : decide (2147483647 < l2.length) = true := decide_eq_true (by omega)
          clear c10
          have H' := Aside0.mk H
          clear H
          go_wp2
          go_meet
          case rel => exact ⟨_, (true), (by first | rfl | (simp; done) | (simp [*]; done)), H', ⟨by first | omega | exact Nat.le_refl _⟩, ⟨by repeat (first | (with_reducible first | exact HB.out | apply below_alloc | apply pw_below_drewN | apply below_drew1) | exact HB.out)⟩⟩
        · rw [if_neg c10] at H
          have c10b0 : decide (2147483647 < (l2.length : Int)) = false := decide_eq_false c10
          have c10b1 : decide (2147483647 < l2.length) = false := decide_eq_false (by omega)
          clear c10
          have H' := Aside0.mk H
          clear H
          go_wp2
          go_meet
          case rel => exact ⟨_, (decide ((l5.length : Int) > 2147483647)), (by first | rfl | (simp; done) | (simp [*]; done)), H', ⟨by first | omega | exact Nat.le_refl _⟩, ⟨by repeat (first | (with_reducible first | exact HB.out | apply below_alloc | apply pw_below_drewN | apply below_drew1) | exact HB.out)⟩⟩
  case rest =>
    clear HC7
    try clear c1
    try clear c2
    try clear p2
    try clear c5
    try clear c8
    try clear c8b0
    try clear c8b1
    try clear c9
    try clear c9b0
    try clear c9b1
    try clear c10
    try clear c10b0
    try clear c10b1
    obtain ⟨kq, x39_6, rfl, HA, HJ6, HB⟩ := hcut
    cases kq with
    | zero => exact absurd HA.out (by simp [laws_FnSectionRead.j0])
    | succ kj6 =>
      have H := HA.out
      clear HA
      simp only [laws_FnSectionRead.j0] at H
      by_cases c11 : x39_6 = true
      · subst c11
        have H1 : (some true) = some r := by rw [if_pos rfl] at H; exact H
        clear H
        have H := H1
        clear H1
        obtain rfl := Option.some.inj H
        go_wp2
        go_ret
        exact ⟨by first | rfl | (simp [errW_none, errW_some] <;> rfl) | (simp [*, errW_none, errW_some] <;> rfl), by repeat (first | (with_reducible first | exact HB.out | apply below_alloc | apply pw_below_drewN | apply below_drew1) | exact HB.out)⟩
      · replace c11 := Bool.eq_false_iff.mpr c11
        subst c11
        have H1 : ((spec_TooLong.f kj6 (([(l0.length : Int), (l1.length : Int), (l2.length : Int), (l5.length : Int)] : List Int))).bind fun t266 => (if t266 = true then (some true) else ((spec_Section.f kj6 l1 l2 true a3 a4).bind fun bt267 => ((spec_Whole.f kj6 l1).bind fun bt271 => (if bt267.2 = true then (if bt271.2.2 = true then ((spec_Lowest.f kj6 bt271.1).bind fun t276 => (if t276 = true then (laws_FnSectionRead.j1 kj6 l0 l2 l5 bt267.1 (decide ((l5.length : Int) < 4))) else (laws_FnSectionRead.j1 kj6 l0 l2 l5 bt267.1 true))) else (laws_FnSectionRead.j1 kj6 l0 l2 l5 bt267.1 true)) else (laws_FnSectionRead.j1 kj6 l0 l2 l5 bt267.1 true)))))) = some r := by rw [if_neg (show ¬ (false = true) by decide)] at H; exact H
        clear H
        have H := H1
        clear H1
        obtain ⟨y263, hy263⟩ : ∃ y_ : List Int, y_ = (([(l0.length : Int), (l1.length : Int), (l2.length : Int), (l5.length : Int)] : List Int)) := ⟨_, rfl⟩
        replace H : ((spec_TooLong.f kj6 y263).bind fun t266 => (if t266 = true then (some true) else ((spec_Section.f kj6 l1 l2 true a3 a4).bind fun bt267 => ((spec_Whole.f kj6 l1).bind fun bt271 => (if bt267.2 = true then (if bt271.2.2 = true then ((spec_Lowest.f kj6 bt271.1).bind fun t276 => (if t276 = true then (laws_FnSectionRead.j1 kj6 l0 l2 l5 bt267.1 (decide ((l5.length : Int) < 4))) else (laws_FnSectionRead.j1 kj6 l0 l2 l5 bt267.1 true))) else (laws_FnSectionRead.j1 kj6 l0 l2 l5 bt267.1 true)) else (laws_FnSectionRead.j1 kj6 l0 l2 l5 bt267.1 true)))))) = some r := by first | (rw [hy263]; with_reducible exact H) | (have H2_ := (Option.bind_some _ _).symm.trans H; rw [hy263]; with_reducible exact H2_) | (have H2_ := (Option.bind_some _ _).symm.trans H; with_reducible exact H2_) | with_reducible exact H | (rw [hy263]; exact H) | exact H
        have Ny263 := Aside0.mk hy263
        clear hy263
        replace H := Option.bind_eq_some_iff.mp H
        obtain ⟨t266, A120, H⟩ := H
        replace H : (if t266 = true then (some true) else ((spec_Section.f kj6 l1 l2 true a3 a4).bind fun bt267 => ((spec_Whole.f kj6 l1).bind fun bt271 => (if bt267.2 = true then (if bt271.2.2 = true then ((spec_Lowest.f kj6 bt271.1).bind fun t276 => (if t276 = true then (laws_FnSectionRead.j1 kj6 l0 l2 l5 bt267.1 (decide ((l5.length : Int) < 4))) else (laws_FnSectionRead.j1 kj6 l0 l2 l5 bt267.1 true))) else (laws_FnSectionRead.j1 kj6 l0 l2 l5 bt267.1 true)) else (laws_FnSectionRead.j1 kj6 l0 l2 l5 bt267.1 true))))) = some r := H
        have A12 := Aside0.mk A120
        clear A120
        by_cases c13 : t266 = true
        · subst c13
          have H1 : (some true) = some r := by rw [if_pos rfl] at H; exact H
          clear H
          have H := H1
          clear H1
          obtain rfl := Option.some.inj H
          go_wp2_with (first | ((with_reducible refine gate_dst (N := 48) rfl ?_); (try (refine gate_guard (by rfl) ?_; dsimp only)); refine Kd.R_lit (Kd.int .i64) _ 3 ?hg (N := 48) ?hd (xs := ([(l0.length : Int), (l1.length : Int), (l2.length : Int), (l5.length : Int)] : List Int)) (inner := [.int .i64 (l0.length : Int), .int .i64 (l1.length : Int), .int .i64 (l2.length : Int), .int .i64 (l5.length : Int)]) (ok := fun _ => True) (okp := fun _ => True) ?hr ?hp (fun _ hk => hk) trivial (Below.refl _ _) (Nat.le_refl _) (by simp) ?_; (case hd => rfl); (case hg => rfl); (case hr => first | (go_simp; done) | (go_simp; rfl)); (case hp => exact (Reps.one (show Kd.M (Kd.int .i64) _ _ _ (l0.length : Int) [.int .i64 (l0.length : Int)] from rfl) (Reps.one (show Kd.M (Kd.int .i64) _ _ _ (l1.length : Int) [.int .i64 (l1.length : Int)] from rfl) (Reps.one (show Kd.M (Kd.int .i64) _ _ _ (l2.length : Int) [.int .i64 (l2.length : Int)] from rfl) (Reps.one (show Kd.M (Kd.int .i64) _ _ _ (l5.length : Int) [.int .i64 (l5.length : Int)] from rfl) (Reps.none _ _)))))); intro v264 w14 ho15 hb hg_ hnew_; clear hg_ hnew_; (first | rw [← Ny263.out] at ho15 | (simp only [Int.reduceToNat] at ho15; rw [← Ny263.out] at ho15)); have n0_ := Aside0.mk (Kd.R_lower ho15 (below_size (by repeat (first | (with_reducible first | exact HB.out | apply below_alloc | apply pw_below_drewN | apply below_drew1) | exact HB.out)))); have n1_ := Aside0.mk (below_step (by repeat (first | (with_reducible first | exact HB.out | apply below_alloc | apply pw_below_drewN | apply below_drew1) | exact HB.out)) hb); clear HB; have HO265 := n0_; have HB := n1_; clear n0_ n1_; clear hb ho15; obtain ⟨Ao16, co16, eo16⟩ := Kd.R_slice HO265.out; subst eo16) | ((with_reducible refine gate_callee (f := 9) rfl ?_); refine goesL_ (some 49) rfl rfl Tryd.func9 (by kernel_rfl) rfl #[.slice Ao16 y263.length co16] rfl (by (try simp only [List.map_toArray, List.map_cons, List.map_nil]); first | done | rfl | (simp only [List.length_drop, List.length_take]; rfl)) ?_; (with_reducible refine (spec_TooLong.calls kj6 _ _ y263 true _ ?side1 ?side2 A12.out).mono ?_); (case side1 => repeat (first | exact (Kd.R_reads' HO265.out).2.2 | (with_reducible refine Kd.C_alloc ?_ _) | (with_reducible refine Kd.C_drewN ?_ _) | (with_reducible refine Kd.C_drew ?_))); (case side2 => exact (Kd.R_reads' HO265.out).2.1); rintro e w' ⟨rfl, ⟨nd, rfl⟩⟩; refine ⟨_, rfl, ?_⟩))
          go_ret
          exact ⟨by first | rfl | (simp [errW_none, errW_some] <;> rfl) | (simp [*, errW_none, errW_some] <;> rfl), by repeat (first | (with_reducible first | exact HB.out | apply below_alloc | apply pw_below_drewN | apply below_drew1) | exact HB.out)⟩
        · replace c13 := Bool.eq_false_iff.mpr c13
          subst c13
          have H1 : ((spec_Section.f kj6 l1 l2 true a3 a4).bind fun bt267 => ((spec_Whole.f kj6 l1).bind fun bt271 => (if bt267.2 = true then (if bt271.2.2 = true then ((spec_Lowest.f kj6 bt271.1).bind fun t276 => (if t276 = true then (laws_FnSectionRead.j1 kj6 l0 l2 l5 bt267.1 (decide ((l5.length : Int) < 4))) else (laws_FnSectionRead.j1 kj6 l0 l2 l5 bt267.1 true))) else (laws_FnSectionRead.j1 kj6 l0 l2 l5 bt267.1 true)) else (laws_FnSectionRead.j1 kj6 l0 l2 l5 bt267.1 true)))) = some r := by rw [if_neg (show ¬ (false = true) by decide)] at H; exact H
          clear H
          have H := H1
          clear H1
          replace H := Option.bind_eq_some_iff.mp H
          obtain ⟨⟨t267, t268⟩, A170, H⟩ := H
          replace H : ((spec_Whole.f kj6 l1).bind fun bt271 => (if t268 = true then (if bt271.2.2 = true then ((spec_Lowest.f kj6 bt271.1).bind fun t276 => (if t276 = true then (laws_FnSectionRead.j1 kj6 l0 l2 l5 t267 (decide ((l5.length : Int) < 4))) else (laws_FnSectionRead.j1 kj6 l0 l2 l5 t267 true))) else (laws_FnSectionRead.j1 kj6 l0 l2 l5 t267 true)) else (laws_FnSectionRead.j1 kj6 l0 l2 l5 t267 true))) = some r := H
          have A17 := Aside0.mk A170
          clear A170
          replace H := Option.bind_eq_some_iff.mp H
          obtain ⟨⟨t271, t272, t273⟩, A180, H⟩ := H
          replace H : (if t268 = true then (if t273 = true then ((spec_Lowest.f kj6 t271).bind fun t276 => (if t276 = true then (laws_FnSectionRead.j1 kj6 l0 l2 l5 t267 (decide ((l5.length : Int) < 4))) else (laws_FnSectionRead.j1 kj6 l0 l2 l5 t267 true))) else (laws_FnSectionRead.j1 kj6 l0 l2 l5 t267 true)) else (laws_FnSectionRead.j1 kj6 l0 l2 l5 t267 true)) = some r := H
          have A18 := Aside0.mk A180
          clear A180
          have HC19 := Aside0.mk H
          clear H
          go_upto_region 7 with (first | ((with_reducible refine gate_dst (N := 48) rfl ?_); (try (refine gate_guard (by rfl) ?_; dsimp only)); refine Kd.R_lit (Kd.int .i64) _ 3 ?hg (N := 48) ?hd (xs := ([(l0.length : Int), (l1.length : Int), (l2.length : Int), (l5.length : Int)] : List Int)) (inner := [.int .i64 (l0.length : Int), .int .i64 (l1.length : Int), .int .i64 (l2.length : Int), .int .i64 (l5.length : Int)]) (ok := fun _ => True) (okp := fun _ => True) ?hr ?hp (fun _ hk => hk) trivial (Below.refl _ _) (Nat.le_refl _) (by simp) ?_; (case hd => rfl); (case hg => rfl); (case hr => first | (go_simp; done) | (go_simp; rfl)); (case hp => exact (Reps.one (show Kd.M (Kd.int .i64) _ _ _ (l0.length : Int) [.int .i64 (l0.length : Int)] from rfl) (Reps.one (show Kd.M (Kd.int .i64) _ _ _ (l1.length : Int) [.int .i64 (l1.length : Int)] from rfl) (Reps.one (show Kd.M (Kd.int .i64) _ _ _ (l2.length : Int) [.int .i64 (l2.length : Int)] from rfl) (Reps.one (show Kd.M (Kd.int .i64) _ _ _ (l5.length : Int) [.int .i64 (l5.length : Int)] from rfl) (Reps.none _ _)))))); intro v264 w20 ho21 hb hg_ hnew_; clear hg_ hnew_; (first | rw [← Ny263.out] at ho21 | (simp only [Int.reduceToNat] at ho21; rw [← Ny263.out] at ho21)); have n0_ := Aside0.mk (Kd.R_lower ho21 (below_size (by repeat (first | (with_reducible first | exact HB.out | apply below_alloc | apply pw_below_drewN | apply below_drew1) | exact HB.out)))); have n1_ := Aside0.mk (below_step (by repeat (first | (with_reducible first | exact HB.out | apply below_alloc | apply pw_below_drewN | apply below_drew1) | exact HB.out)) hb); clear HB; have HO265 := n0_; have HB := n1_; clear n0_ n1_; clear hb ho21; obtain ⟨Ao22, co22, eo22⟩ := Kd.R_slice HO265.out; subst eo22) | ((with_reducible refine gate_callee (f := 9) rfl ?_); refine goesL_ (some 49) rfl rfl Tryd.func9 (by kernel_rfl) rfl #[.slice Ao22 y263.length co22] rfl (by (try simp only [List.map_toArray, List.map_cons, List.map_nil]); first | done | rfl | (simp only [List.length_drop, List.length_take]; rfl)) ?_; (with_reducible refine (spec_TooLong.calls kj6 _ _ y263 false _ ?side1 ?side2 A12.out).mono ?_); (case side1 => repeat (first | exact (Kd.R_reads' HO265.out).2.2 | (with_reducible refine Kd.C_alloc ?_ _) | (with_reducible refine Kd.C_drewN ?_ _) | (with_reducible refine Kd.C_drew ?_))); (case side2 => exact (Kd.R_reads' HO265.out).2.1); rintro e w' ⟨rfl, ⟨nd, rfl⟩⟩; refine ⟨_, rfl, ?_⟩) | ((with_reducible refine gate_callee (f := 23) rfl ?_); refine goesL_ (some 55) rfl rfl Tryd.func23 (by kernel_rfl) rfl #[.slice A1 l1.length c1, .slice A2 l2.length c2, .bool true, .bool a3, .int .i64 a4] rfl (by (try simp only [List.map_toArray, List.map_cons, List.map_nil]); first | done | rfl | (simp only [List.length_drop, List.length_take]; rfl)) ?_; (with_reducible refine (spec_Section.calls kj6 _ _ l1 _ _ l2 true a3 a4 t267 t268 _ ?side1 ?side2 ?side3 ?side4 A17.out).mono ?_); (case side1 => repeat (first | exact (Kd.C_below HR1.out (by repeat (first | (with_reducible first | exact HB.out | apply below_alloc | apply pw_below_drewN | apply below_drew1) | exact HB.out))) | (with_reducible refine Kd.C_alloc ?_ _) | (with_reducible refine Kd.C_drewN ?_ _) | (with_reducible refine Kd.C_drew ?_))); (case side2 => exact HC1.out); (case side3 => repeat (first | exact (Kd.C_below HR2.out (by repeat (first | (with_reducible first | exact HB.out | apply below_alloc | apply pw_below_drewN | apply below_drew1) | exact HB.out))) | (with_reducible refine Kd.C_alloc ?_ _) | (with_reducible refine Kd.C_drewN ?_ _) | (with_reducible refine Kd.C_drew ?_))); (case side4 => exact HC2.out); rintro e w23 ⟨v269, rfl, ho0, hb⟩; refine ⟨_, rfl, ?_⟩; have n0_ := Aside0.mk (Kd.R_below (by (with_reducible repeat (first | apply Kd.R_alloc | apply Kd.R_drewN | apply Kd.R_drew)); exact HO265.out) hb); have n1_ := Aside0.mk (Kd.R_lower ho0 (below_size (by repeat (first | (with_reducible first | exact HB.out | apply below_alloc | apply pw_below_drewN | apply below_drew1) | exact HB.out)))); have n2_ := Aside0.mk (below_step (by repeat (first | (with_reducible first | exact HB.out | apply below_alloc | apply pw_below_drewN | apply below_drew1) | exact HB.out)) hb); clear HO265; clear HB; have HO265 := n0_; have HO270 := n1_; have HB := n2_; clear n0_ n1_ n2_; (try clear hb); (try clear hb2); (try clear hk); (try clear hi); (try clear ho0)) | ((with_reducible refine gate_callee (f := 16) rfl ?_); refine goesL_ (some 60) rfl rfl Tryd.func16 (by kernel_rfl) rfl #[.slice A1 l1.length c1] rfl (by (try simp only [List.map_toArray, List.map_cons, List.map_nil]); first | done | rfl | (simp only [List.length_drop, List.length_take]; rfl)) ?_; (with_reducible refine (spec_Whole.calls kj6 _ _ l1 t271 t272 t273 _ ?side1 ?side2 A18.out).mono ?_); (case side1 => repeat (first | exact (Kd.C_below HR1.out HB.out) | (with_reducible refine Kd.C_alloc ?_ _) | (with_reducible refine Kd.C_drewN ?_ _) | (with_reducible refine Kd.C_drew ?_))); (case side2 => exact HC1.out); rintro e w24 ⟨v274, rfl, ho0, hb⟩; refine ⟨_, rfl, ?_⟩; have n0_ := Aside0.mk (Kd.R_elder' (by (with_reducible repeat (first | apply Kd.R_alloc | apply Kd.R_drewN | apply Kd.R_drew)); exact HO265.out) (Kd.R_base ho0) hb); have n1_ := Aside0.mk (Kd.R_below (by (with_reducible repeat (first | apply Kd.R_alloc | apply Kd.R_drewN | apply Kd.R_drew)); exact HO270.out) hb); have n2_ := Aside0.mk (Kd.R_lower (Kd.R_new' ho0 (Kd.R_lt (by (with_reducible repeat (first | apply Kd.R_alloc | apply Kd.R_drewN | apply Kd.R_drew)); exact HO265.out))) (below_size (by repeat (first | (with_reducible first | exact HB.out | apply below_alloc | apply pw_below_drewN | apply below_drew1) | exact HB.out)))); have n3_ := Aside0.mk (below_step (by repeat (first | (with_reducible first | exact HB.out | apply below_alloc | apply pw_below_drewN | apply below_drew1) | exact HB.out)) hb); clear HO265; clear HO270; clear HB; have HO265 := n0_; have HO270 := n1_; have HO275 := n2_; have HB := n3_; clear n0_ n1_ n2_ n3_; (try clear hb); (try clear hb2); (try clear hk); (try clear hi); (try clear ho0)))
          (try simp only [Act.put, List.setIfInBounds_toArray, List.set_cons_zero, List.set_cons_succ])
          go_cut [79] (fun v79 wc => ∃ (kq : Nat) (x79_18 : Bool), v79 = .bool x79_18 ∧ Aside0 (laws_FnSectionRead.j1 kq l0 l2 l5 t267 x79_18 = some r) ∧ Aside0 (kq ≤ kj6) ∧ Aside0 (Kd.R (Kd.int .u8) 5 wc w.heap.size (fun _ => True) v269 t267) ∧ Aside0 (Below w.heap.size w wc))
          case first =>
            have H := HC19.out
            clear HC19
            by_cases c25 : t268 = true
            · subst c25
              have H1 : (if t273 = true then ((spec_Lowest.f kj6 t271).bind fun t276 => (if t276 = true then (laws_FnSectionRead.j1 kj6 l0 l2 l5 t267 (decide ((l5.length : Int) < 4))) else (laws_FnSectionRead.j1 kj6 l0 l2 l5 t267 true))) else (laws_FnSectionRead.j1 kj6 l0 l2 l5 t267 true)) = some r := by rw [if_pos rfl] at H; exact H
              clear H
              have H := H1
              clear H1
              by_cases c26 : t273 = true
              · subst c26
                have H1 : ((spec_Lowest.f kj6 t271).bind fun t276 => (if t276 = true then (laws_FnSectionRead.j1 kj6 l0 l2 l5 t267 (decide ((l5.length : Int) < 4))) else (laws_FnSectionRead.j1 kj6 l0 l2 l5 t267 true))) = some r := by rw [if_pos rfl] at H; exact H
                clear H
                have H := H1
                clear H1
                replace H := Option.bind_eq_some_iff.mp H
                obtain ⟨t276, A270, H⟩ := H
                replace H : (if t276 = true then (laws_FnSectionRead.j1 kj6 l0 l2 l5 t267 (decide ((l5.length : Int) < 4))) else (laws_FnSectionRead.j1 kj6 l0 l2 l5 t267 true)) = some r := H
                have A27 := Aside0.mk A270
                clear A270
                by_cases c28 : t276 = true
                · subst c28
                  have H1 : (laws_FnSectionRead.j1 kj6 l0 l2 l5 t267 (decide ((l5.length : Int) < 4))) = some r := by rw [if_pos rfl] at H; exact H
                  clear H
                  have H := H1
                  clear H1
                  have H' := Aside0.mk H
                  clear H
                  obtain ⟨Ao29, co29, eo29⟩ := Kd.R_slice HO275.out
                  subst eo29
                  go_wp2_with (first | (go_at_call 25; (with_reducible refine (spec_Lowest.calls kj6 _ _ t271 true _ ?side1 ?side2 A27.out).mono ?_); (case side1 => repeat (first | exact (Kd.R_reads' HO275.out).2.2 | (with_reducible refine Kd.C_alloc ?_ _) | (with_reducible refine Kd.C_drewN ?_ _) | (with_reducible refine Kd.C_drew ?_))); (case side2 => exact (Kd.R_reads' HO275.out).2.1); rintro e w' ⟨rfl, ⟨nd, rfl⟩⟩))
                  go_meet
                  case rel => exact ⟨_, (decide ((l5.length : Int) < 4)), (by first | rfl | (simp; done) | (simp [*]; done)), H', ⟨by have := HJ6.out; first | omega | exact Nat.le_refl _⟩, ⟨by (with_reducible repeat (first | apply Kd.R_alloc | apply Kd.R_drewN | apply Kd.R_drew)); exact HO270.out⟩, ⟨by repeat (first | (with_reducible first | exact HB.out | apply below_alloc | apply pw_below_drewN | apply below_drew1) | exact HB.out)⟩⟩
                · replace c28 := Bool.eq_false_iff.mpr c28
                  subst c28
                  have H1 : (laws_FnSectionRead.j1 kj6 l0 l2 l5 t267 true) = some r := by rw [if_neg (show ¬ (false = true) by decide)] at H; exact H
                  clear H
                  have H := H1
                  clear H1
                  have H' := Aside0.mk H
                  clear H
                  obtain ⟨Ao30, co30, eo30⟩ := Kd.R_slice HO275.out
                  subst eo30
                  go_wp2_with (first | (go_at_call 25; (with_reducible refine (spec_Lowest.calls kj6 _ _ t271 false _ ?side1 ?side2 A27.out).mono ?_); (case side1 => repeat (first | exact (Kd.R_reads' HO275.out).2.2 | (with_reducible refine Kd.C_alloc ?_ _) | (with_reducible refine Kd.C_drewN ?_ _) | (with_reducible refine Kd.C_drew ?_))); (case side2 => exact (Kd.R_reads' HO275.out).2.1); rintro e w' ⟨rfl, ⟨nd, rfl⟩⟩))
                  go_meet
                  case rel => exact ⟨_, (true), (by first | rfl | (simp; done) | (simp [*]; done)), H', ⟨by have := HJ6.out; first | omega | exact Nat.le_refl _⟩, ⟨by (with_reducible repeat (first | apply Kd.R_alloc | apply Kd.R_drewN | apply Kd.R_drew)); exact HO270.out⟩, ⟨by repeat (first | (with_reducible first | exact HB.out | apply below_alloc | apply pw_below_drewN | apply below_drew1) | exact HB.out)⟩⟩
              · replace c26 := Bool.eq_false_iff.mpr c26
                subst c26
                have H1 : (laws_FnSectionRead.j1 kj6 l0 l2 l5 t267 true) = some r := by rw [if_neg (show ¬ (false = true) by decide)] at H; exact H
                clear H
                have H := H1
                clear H1
                have H' := Aside0.mk H
                clear H
                go_wp2
                go_meet
                case rel => exact ⟨_, (true), (by first | rfl | (simp; done) | (simp [*]; done)), H', ⟨by have := HJ6.out; first | omega | exact Nat.le_refl _⟩, ⟨by (with_reducible repeat (first | apply Kd.R_alloc | apply Kd.R_drewN | apply Kd.R_drew)); exact HO270.out⟩, ⟨by repeat (first | (with_reducible first | exact HB.out | apply below_alloc | apply pw_below_drewN | apply below_drew1) | exact HB.out)⟩⟩
            · replace c25 := Bool.eq_false_iff.mpr c25
              subst c25
              have H1 : (laws_FnSectionRead.j1 kj6 l0 l2 l5 t267 true) = some r := by rw [if_neg (show ¬ (false = true) by decide)] at H; exact H
              clear H
              have H := H1
              clear H1
              have H' := Aside0.mk H
              clear H
              go_wp2
              go_meet
              case rel => exact ⟨_, (true), (by first | rfl | (simp; done) | (simp [*]; done)), H', ⟨by have := HJ6.out; first | omega | exact Nat.le_refl _⟩, ⟨by (with_reducible repeat (first | apply Kd.R_alloc | apply Kd.R_drewN | apply Kd.R_drew)); exact HO270.out⟩, ⟨by repeat (first | (with_reducible first | exact HB.out | apply below_alloc | apply pw_below_drewN | apply below_drew1) | exact HB.out)⟩⟩
          case rest =>
            clear HC19
            try clear c1
            try clear c2
            try clear p2
            try clear c5
            try clear c8
            try clear c8b0
            try clear c8b1
            try clear c9
            try clear c9b0
            try clear c9b1
            try clear c10
            try clear c10b0
            try clear c10b1
            try clear c11
            try clear c13
            try clear c16
            try clear c23
            try clear c25
            try clear c26
            try clear c28
            try clear p2
            obtain ⟨kq, x79_18, rfl, HA, HJ18, HO_13, HB⟩ := hcut
            cases kq with
            | zero => exact absurd HA.out (by simp [laws_FnSectionRead.j1])
            | succ kj18 =>
              have H := HA.out
              clear HA
              simp only [laws_FnSectionRead.j1] at H
              by_cases c31 : x79_18 = true
              · subst c31
                have H1 : ((laws_coded.f).bind fun t277 => (some t277)) = some r := by rw [if_pos rfl] at H; exact H
                clear H
                have H := H1
                clear H1
                replace H := Option.bind_eq_some_iff.mp H
                obtain ⟨t277, A320, H⟩ := H
                replace H : (some t277) = some r := H
                have A32 := Aside0.mk A320
                clear A320
                obtain rfl := Option.some.inj H
                go_wp2_with (first | ((with_reducible refine gate_callee (f := 17) rfl ?_); refine goesL_ (some 80) rfl rfl Tryd.func17 (by kernel_rfl) rfl #[] rfl (by (try simp only [List.map_toArray, List.map_cons, List.map_nil]); first | done | rfl | (simp only [List.length_drop, List.length_take]; rfl)) ?_; (with_reducible refine (laws_coded.calls  t277 _ A32.out).mono ?_); rintro e w33 ⟨rfl, hb⟩; refine ⟨_, rfl, ?_⟩; have n0_ := Aside0.mk (Kd.R_below (by (with_reducible repeat (first | apply Kd.R_alloc | apply Kd.R_drewN | apply Kd.R_drew)); exact HO_13.out) hb); have n1_ := Aside0.mk (below_step (by repeat (first | (with_reducible first | exact HB.out | apply below_alloc | apply pw_below_drewN | apply below_drew1) | exact HB.out)) hb); clear HO_13; clear HB; have HO_13 := n0_; have HB := n1_; clear n0_ n1_; (try clear hb); (try clear hb2); (try clear hk); (try clear hi)))
                go_ret
                exact ⟨by first | rfl | (simp [errW_none, errW_some] <;> rfl) | (simp [*, errW_none, errW_some] <;> rfl), by repeat (first | (with_reducible first | exact HB.out | apply below_alloc | apply pw_below_drewN | apply below_drew1) | exact HB.out)⟩
              · replace c31 := Bool.eq_false_iff.mpr c31
                subst c31
                have H1 : ((some (([] : List Int) : List Int)).bind fun y278 => (if y278.length + l0.length < 140737488355328 then ((some (y278 ++ l0 : List Int)).bind fun y281 => (if y281.length + t267.length < 140737488355328 then ((some (y281 ++ t267 : List Int)).bind fun y284 => (if y284.length + l5.length < 140737488355328 then ((some (y284 ++ l5 : List Int)).bind fun y287 => ((impl_Literals.f y287 (l0.length : Int) ([] : List (S68)) 0).bind fun bt290 => (if bt290.2.2 = true then (if bt290.2.1 = (wrap64 ((y287.length : Int) - (l5.length : Int))) then ((spec_SameBytes.f kj18 bt290.1 l2).bind fun t295 => (some t295)) else (some false)) else (some false)))) else (none))) else (none))) else (none))) = some r := by rw [if_neg (show ¬ (false = true) by decide)] at H; exact H
                clear H
                have H := H1
                clear H1
                obtain ⟨y278, hy278⟩ : ∃ y_ : List Int, y_ = (([] : List Int)) := ⟨_, rfl⟩
                replace H : (if y278.length + l0.length < 140737488355328 then ((some (y278 ++ l0 : List Int)).bind fun y281 => (if y281.length + t267.length < 140737488355328 then ((some (y281 ++ t267 : List Int)).bind fun y284 => (if y284.length + l5.length < 140737488355328 then ((some (y284 ++ l5 : List Int)).bind fun y287 => ((impl_Literals.f y287 (l0.length : Int) ([] : List (S68)) 0).bind fun bt290 => (if bt290.2.2 = true then (if bt290.2.1 = (wrap64 ((y287.length : Int) - (l5.length : Int))) then ((spec_SameBytes.f kj18 bt290.1 l2).bind fun t295 => (some t295)) else (some false)) else (some false)))) else (none))) else (none))) else (none)) = some r := by first | (rw [hy278]; with_reducible exact H) | (have H2_ := (Option.bind_some _ _).symm.trans H; rw [hy278]; with_reducible exact H2_) | (have H2_ := (Option.bind_some _ _).symm.trans H; with_reducible exact H2_) | with_reducible exact H | (rw [hy278]; exact H) | exact H
                have Ny278 := Aside0.mk hy278
                clear hy278
                by_cases c34 : y278.length + l0.length < 140737488355328
                · rw [if_pos c34] at H
                  have LMc34 := Aside0.mk c34
                  clear c34
                  obtain ⟨y281, hy281⟩ : ∃ y_ : List Int, y_ = (y278 ++ l0) := ⟨_, rfl⟩
                  replace H : (if y281.length + t267.length < 140737488355328 then ((some (y281 ++ t267 : List Int)).bind fun y284 => (if y284.length + l5.length < 140737488355328 then ((some (y284 ++ l5 : List Int)).bind fun y287 => ((impl_Literals.f y287 (l0.length : Int) ([] : List (S68)) 0).bind fun bt290 => (if bt290.2.2 = true then (if bt290.2.1 = (wrap64 ((y287.length : Int) - (l5.length : Int))) then ((spec_SameBytes.f kj18 bt290.1 l2).bind fun t295 => (some t295)) else (some false)) else (some false)))) else (none))) else (none)) = some r := by first | (rw [hy281]; with_reducible exact H) | (have H2_ := (Option.bind_some _ _).symm.trans H; rw [hy281]; with_reducible exact H2_) | (have H2_ := (Option.bind_some _ _).symm.trans H; with_reducible exact H2_) | with_reducible exact H | (rw [hy281]; exact H) | exact H
                  have Ny281 := Aside0.mk hy281
                  clear hy281
                  by_cases c35 : y281.length + t267.length < 140737488355328
                  · rw [if_pos c35] at H
                    have LMc35 := Aside0.mk c35
                    clear c35
                    obtain ⟨y284, hy284⟩ : ∃ y_ : List Int, y_ = (y281 ++ t267) := ⟨_, rfl⟩
                    replace H : (if y284.length + l5.length < 140737488355328 then ((some (y284 ++ l5 : List Int)).bind fun y287 => ((impl_Literals.f y287 (l0.length : Int) ([] : List (S68)) 0).bind fun bt290 => (if bt290.2.2 = true then (if bt290.2.1 = (wrap64 ((y287.length : Int) - (l5.length : Int))) then ((spec_SameBytes.f kj18 bt290.1 l2).bind fun t295 => (some t295)) else (some false)) else (some false)))) else (none)) = some r := by first | (rw [hy284]; with_reducible exact H) | (have H2_ := (Option.bind_some _ _).symm.trans H; rw [hy284]; with_reducible exact H2_) | (have H2_ := (Option.bind_some _ _).symm.trans H; with_reducible exact H2_) | with_reducible exact H | (rw [hy284]; exact H) | exact H
                    have Ny284 := Aside0.mk hy284
                    clear hy284
                    by_cases c36 : y284.length + l5.length < 140737488355328
                    · rw [if_pos c36] at H
                      have LMc36 := Aside0.mk c36
                      clear c36
                      obtain ⟨y287, hy287⟩ : ∃ y_ : List Int, y_ = (y284 ++ l5) := ⟨_, rfl⟩
                      replace H : ((impl_Literals.f y287 (l0.length : Int) ([] : List (S68)) 0).bind fun bt290 => (if bt290.2.2 = true then (if bt290.2.1 = (wrap64 ((y287.length : Int) - (l5.length : Int))) then ((spec_SameBytes.f kj18 bt290.1 l2).bind fun t295 => (some t295)) else (some false)) else (some false))) = some r := by first | (rw [hy287]; with_reducible exact H) | (have H2_ := (Option.bind_some _ _).symm.trans H; rw [hy287]; with_reducible exact H2_) | (have H2_ := (Option.bind_some _ _).symm.trans H; with_reducible exact H2_) | with_reducible exact H | (rw [hy287]; exact H) | exact H
                      have Ny287 := Aside0.mk hy287
                      clear hy287
                      replace H := Option.bind_eq_some_iff.mp H
                      obtain ⟨⟨t290, t291, t292⟩, A370, H⟩ := H
                      replace H : (if t292 = true then (if t291 = (wrap64 ((y287.length : Int) - (l5.length : Int))) then ((spec_SameBytes.f kj18 t290 l2).bind fun t295 => (some t295)) else (some false)) else (some false)) = some r := H
                      have A37 := Aside0.mk A370
                      clear A370
                      by_cases c38 : t292 = true
                      · subst c38
                        have H1 : (if t291 = (wrap64 ((y287.length : Int) - (l5.length : Int))) then ((spec_SameBytes.f kj18 t290 l2).bind fun t295 => (some t295)) else (some false)) = some r := by rw [if_pos rfl] at H; exact H
                        clear H
                        have H := H1
                        clear H1
                        by_cases c39 : t291 = (wrap64 ((y287.length : Int) - (l5.length : Int)))
                        · rw [if_pos c39] at H
                          have c39b0 : (t291 == (wrap64 ((y287.length : Int) - (l5.length : Int)))) = true := beq_iff_eq.mpr c39
                          have c39b1 : (t291 != (wrap64 ((y287.length : Int) - (l5.length : Int)))) = false := bne_eq_false_iff_eq.mpr c39
                          clear c39
                          replace H := Option.bind_eq_some_iff.mp H
                          obtain ⟨t295, A400, H⟩ := H
                          replace H : (some t295) = some r := H
                          have A40 := Aside0.mk A400
                          clear A400
                          obtain rfl := Option.some.inj H
                          go_wp2_with (first | ((with_reducible refine gate_dst (N := 81) rfl ?_); (try (refine gate_guard (by rfl) ?_; dsimp only)); refine Kd.R_lit (Kd.int .u8) _ 5 ?hg (N := 81) ?hd (xs := ([] : List Int)) (inner := []) (ok := fun _ => True) (okp := fun _ => True) ?hr ?hp (fun _ hk => hk) trivial (Below.refl _ _) (Nat.le_refl _) (by simp) ?_; (case hd => rfl); (case hg => rfl); (case hr => first | (go_simp; done) | (go_simp; rfl)); (case hp => exact (Reps.none _ _)); intro v279 w41 ho42 hb hg_ hnew_; clear hg_ hnew_; (first | rw [← Ny278.out] at ho42 | (simp only [Int.reduceToNat] at ho42; rw [← Ny278.out] at ho42)); have n0_ := Aside0.mk (Kd.R_elder' (by (with_reducible repeat (first | apply Kd.R_alloc | apply Kd.R_drewN | apply Kd.R_drew)); exact HO_13.out) (Kd.R_base ho42) hb); have n1_ := Aside0.mk (Kd.R_lower (Kd.R_new' ho42 (Kd.R_lt (by (with_reducible repeat (first | apply Kd.R_alloc | apply Kd.R_drewN | apply Kd.R_drew)); exact HO_13.out))) (below_size (by repeat (first | (with_reducible first | exact HB.out | apply below_alloc | apply pw_below_drewN | apply below_drew1) | exact HB.out)))); have n2_ := Aside0.mk (below_step (by repeat (first | (with_reducible first | exact HB.out | apply below_alloc | apply pw_below_drewN | apply below_drew1) | exact HB.out)) hb); clear HO_13; clear HB; have HO_13 := n0_; have HO280 := n1_; have HB := n2_; clear n0_ n1_ n2_; clear hb ho42) | ((with_reducible refine gate_builtin (b := .append) (xs := #[.tmp 81, .tmp 82]) rfl ?_); (try (refine gate_guard (by rfl) ?_; dsimp only)); at_builtin; refine Kd.R_append_rows (Kd.int .u8) (w0 := w) w.heap.size rfl (.tmp 81) (.tmp 82) 32 5 (.int .u8 0) 1 rfl Tryd.underlying32 PC.info5 rfl (by decide) (by omega) v279 y278 l0 _ _ _ (fun k_ => some k_ ≠ (v269 : Value).ownBlock) (fun _ => False) rfl rfl ?aO ?aR (fun _ _ h => h) (fun _ h => h.elim) ?aF ?aB ?aS ?aL ?_; (case aR => repeat (first | exact (Kd.C_below HR0.out HB.out) | (with_reducible refine Kd.C_alloc ?_ _) | (with_reducible refine Kd.C_drewN ?_ _) | (with_reducible refine Kd.C_drew ?_))); (case aB => exact (by repeat (first | (with_reducible first | exact HB.out | apply below_alloc | apply pw_below_drewN | apply below_drew1) | exact HB.out))); (case aF => exact (fun k_ hk => Kd.fresh' (Kd.R_lt (by (with_reducible repeat (first | apply Kd.R_alloc | apply Kd.R_drewN | apply Kd.R_drew)); exact HO_13.out)) k_ hk)); (case aO => exact (by (with_reducible repeat (first | apply Kd.R_alloc | apply Kd.R_drewN | apply Kd.R_drew)); exact Kd.R_mono HO280.out (fun _ hk => hk.2))); (case aS => exact (below_size (by repeat (first | (with_reducible first | exact HB.out | apply below_alloc | apply pw_below_drewN | apply below_drew1) | exact HB.out)))); (case aL => have := LMc34.out; omega); intro v282 w43 ho hb hg hat; rw [← Ny281.out] at ho; have n0_ := Aside0.mk (Kd.R_after (ok := (fun _ => True)) (by (with_reducible repeat (first | apply Kd.R_alloc | apply Kd.R_drewN | apply Kd.R_drew)); exact HO_13.out) hg hat); have n1_ := Aside0.mk (hb); have n2_ := Aside0.mk (ho); clear HO_13; clear HB; clear HO280; have HO_13 := n0_; have HB := n1_; have HO283 := n2_; clear n0_ n1_ n2_; clear ho hb hg hat; obtain ⟨Ao45, co45, eo45⟩ := Kd.R_slice HO_13.out; subst eo45) | ((with_reducible refine gate_builtin (b := .append) (xs := #[.tmp 83, .tmp 84]) rfl ?_); (try (refine gate_guard (by rfl) ?_; dsimp only)); at_builtin; refine Kd.R_append_rows (Kd.int .u8) (w0 := w) w.heap.size rfl (.tmp 83) (.tmp 84) 32 5 (.int .u8 0) 1 rfl Tryd.underlying32 PC.info5 rfl (by decide) (by omega) v282 y281 t267 _ _ _ (fun k_ => some k_ ≠ (.slice Ao45 t267.length co45 : Value).ownBlock) (fun _ => False) rfl rfl ?aO ?aR (fun _ _ h => h) (fun _ h => h.elim) ?aF ?aB ?aS ?aL ?_; (case aR => repeat (first | exact (Kd.R_reads' HO_13.out).2.2 | (with_reducible refine Kd.C_alloc ?_ _) | (with_reducible refine Kd.C_drewN ?_ _) | (with_reducible refine Kd.C_drew ?_))); (case aB => exact (by repeat (first | (with_reducible first | exact HB.out | apply below_alloc | apply pw_below_drewN | apply below_drew1) | exact HB.out))); (case aF => exact (fun k_ hk => Kd.fresh' (Kd.R_lt (by (with_reducible repeat (first | apply Kd.R_alloc | apply Kd.R_drewN | apply Kd.R_drew)); exact HO_13.out)) k_ hk)); (case aO => exact (by (with_reducible repeat (first | apply Kd.R_alloc | apply Kd.R_drewN | apply Kd.R_drew)); exact HO283.out)); (case aS => exact (below_size (by repeat (first | (with_reducible first | exact HB.out | apply below_alloc | apply pw_below_drewN | apply below_drew1) | exact HB.out)))); (case aL => have := LMc35.out; omega); intro v285 w44 ho hb hg hat; rw [← Ny284.out] at ho; have n0_ := Aside0.mk (Kd.R_after (ok := (fun _ => True)) (by (with_reducible repeat (first | apply Kd.R_alloc | apply Kd.R_drewN | apply Kd.R_drew)); exact HO_13.out) hg hat); have n1_ := Aside0.mk (hb); have n2_ := Aside0.mk (ho); clear HO_13; clear HB; clear HO283; have HO_13 := n0_; have HB := n1_; have HO286 := n2_; clear n0_ n1_ n2_; clear ho hb hg hat) | ((with_reducible refine gate_builtin (b := .append) (xs := #[.tmp 85, .tmp 86]) rfl ?_); (try (refine gate_guard (by rfl) ?_; dsimp only)); at_builtin; refine Kd.R_append_rows (Kd.int .u8) (w0 := w) w.heap.size rfl (.tmp 85) (.tmp 86) 32 5 (.int .u8 0) 1 rfl Tryd.underlying32 PC.info5 rfl (by decide) (by omega) v285 y284 l5 _ _ _ (fun k_ => some k_ ≠ (.slice Ao45 t267.length co45 : Value).ownBlock) (fun _ => False) rfl rfl ?aO ?aR (fun _ _ h => h) (fun _ h => h.elim) ?aF ?aB ?aS ?aL ?_; (case aR => repeat (first | exact (Kd.C_below HR5.out HB.out) | (with_reducible refine Kd.C_alloc ?_ _) | (with_reducible refine Kd.C_drewN ?_ _) | (with_reducible refine Kd.C_drew ?_))); (case aB => exact (by repeat (first | (with_reducible first | exact HB.out | apply below_alloc | apply pw_below_drewN | apply below_drew1) | exact HB.out))); (case aF => exact (fun k_ hk => Kd.fresh' (Kd.R_lt (by (with_reducible repeat (first | apply Kd.R_alloc | apply Kd.R_drewN | apply Kd.R_drew)); exact HO_13.out)) k_ hk)); (case aO => exact (by (with_reducible repeat (first | apply Kd.R_alloc | apply Kd.R_drewN | apply Kd.R_drew)); exact HO286.out)); (case aS => exact (below_size (by repeat (first | (with_reducible first | exact HB.out | apply below_alloc | apply pw_below_drewN | apply below_drew1) | exact HB.out)))); (case aL => have := LMc36.out; omega); intro v288 w46 ho hb hg hat; rw [← Ny287.out] at ho; have n0_ := Aside0.mk (Kd.R_after (ok := (fun _ => True)) (by (with_reducible repeat (first | apply Kd.R_alloc | apply Kd.R_drewN | apply Kd.R_drew)); exact HO_13.out) hg hat); have n1_ := Aside0.mk (hb); have n2_ := Aside0.mk (ho); clear HO_13; clear HB; clear HO286; have HO_13 := n0_; have HB := n1_; have HO289 := n2_; clear n0_ n1_ n2_; clear ho hb hg hat; obtain ⟨Ao47, co47, eo47⟩ := Kd.R_slice HO289.out; subst eo47) | ((with_reducible refine gate_callee (f := 24) rfl ?_); refine goesL_ (some 92) rfl rfl Tryd.func24 (by kernel_rfl) rfl #[.slice Ao47 y287.length co47, .int .i64 (l0.length : Int), .slice none 0 0, .int .i64 0] rfl (by (try simp only [List.map_toArray, List.map_cons, List.map_nil]); first | done | rfl | (simp only [List.length_drop, List.length_take]; rfl)) ?_; (refine (impl_Literals.calls _ _ y287 (l0.length : Int) _ _ ([] : List (S68)) 0 t290 t291 true _ ?side0 ?side1 ?side2 ?side3 ?side4 A37.out).mono ?_); (case side0 => exact HEE.out.below (by repeat (first | (with_reducible first | exact HB.out | apply below_alloc | apply pw_below_drewN | apply below_drew1) | exact HB.out))); (case side1 => repeat (first | exact (Kd.R_reads' HO289.out).2.2 | (with_reducible refine Kd.C_alloc ?_ _) | (with_reducible refine Kd.C_drewN ?_ _) | (with_reducible refine Kd.C_drew ?_))); (case side2 => exact (Kd.R_reads' HO289.out).2.1); (case side3 => exact Kd.C_nil _ _); (case side4 => exact Nat.le_refl _); rintro e w48 ⟨v293, rfl, ho0, hb⟩; refine ⟨_, rfl, ?_⟩; have n0_ := Aside0.mk (Kd.R_elder' (by (with_reducible repeat (first | apply Kd.R_alloc | apply Kd.R_drewN | apply Kd.R_drew)); exact HO_13.out) (Kd.R_base ho0) hb); have n1_ := Aside0.mk (Kd.R_elder' (by (with_reducible repeat (first | apply Kd.R_alloc | apply Kd.R_drewN | apply Kd.R_drew)); exact HO289.out) (Kd.R_base ho0) hb); have n2_ := Aside0.mk (Kd.R_lower (Kd.R_new' (Kd.R_new' ho0 (Kd.R_lt (by (with_reducible repeat (first | apply Kd.R_alloc | apply Kd.R_drewN | apply Kd.R_drew)); exact HO_13.out))) (Kd.R_lt (by (with_reducible repeat (first | apply Kd.R_alloc | apply Kd.R_drewN | apply Kd.R_drew)); exact HO289.out))) (below_size (by repeat (first | (with_reducible first | exact HB.out | apply below_alloc | apply pw_below_drewN | apply below_drew1) | exact HB.out)))); have n3_ := Aside0.mk (below_step (by repeat (first | (with_reducible first | exact HB.out | apply below_alloc | apply pw_below_drewN | apply below_drew1) | exact HB.out)) hb); clear HO_13; clear HO289; clear HB; have HO_13 := n0_; have HO289 := n1_; have HO294 := n2_; have HB := n3_; clear n0_ n1_ n2_ n3_; (try clear hb); (try clear hb2); (try clear hk); (try clear hi); (try clear ho0); obtain ⟨Ao49, co49, eo49⟩ := Kd.R_slice HO294.out; subst eo49) | (go_at_call 22; (with_reducible refine (spec_SameBytes.calls kj18 _ _ t290 _ _ l2 t295 _ ?side1 ?side2 ?side3 ?side4 A40.out).mono ?_); (case side1 => repeat (first | exact (Kd.R_reads' HO294.out).2.2 | (with_reducible refine Kd.C_alloc ?_ _) | (with_reducible refine Kd.C_drewN ?_ _) | (with_reducible refine Kd.C_drew ?_))); (case side2 => exact (Kd.R_reads' HO294.out).2.1); (case side3 => repeat (first | exact (Kd.C_below HR2.out HB.out) | (with_reducible refine Kd.C_alloc ?_ _) | (with_reducible refine Kd.C_drewN ?_ _) | (with_reducible refine Kd.C_drew ?_))); (case side4 => exact HC2.out); rintro e w' ⟨rfl, ⟨nd, rfl⟩⟩))
                          go_ret
                          exact ⟨by first | rfl | (simp [errW_none, errW_some] <;> rfl) | (simp [*, errW_none, errW_some] <;> rfl), by repeat (first | (with_reducible first | exact HB.out | apply below_alloc | apply pw_below_drewN | apply below_drew1) | exact HB.out)⟩
                        · rw [if_neg c39] at H
                          have c39b0 : (t291 == (wrap64 ((y287.length : Int) - (l5.length : Int)))) = false := beq_eq_false_iff_ne.mpr c39
                          have c39b1 : (t291 != (wrap64 ((y287.length : Int) - (l5.length : Int)))) = true := bne_iff_ne.mpr c39
                          obtain rfl := Option.some.inj H
                          go_wp2_with (first | ((with_reducible refine gate_dst (N := 81) rfl ?_); (try (refine gate_guard (by rfl) ?_; dsimp only)); refine Kd.R_lit (Kd.int .u8) _ 5 ?hg (N := 81) ?hd (xs := ([] : List Int)) (inner := []) (ok := fun _ => True) (okp := fun _ => True) ?hr ?hp (fun _ hk => hk) trivial (Below.refl _ _) (Nat.le_refl _) (by simp) ?_; (case hd => rfl); (case hg => rfl); (case hr => first | (go_simp; done) | (go_simp; rfl)); (case hp => exact (Reps.none _ _)); intro v279 w50 ho51 hb hg_ hnew_; clear hg_ hnew_; (first | rw [← Ny278.out] at ho51 | (simp only [Int.reduceToNat] at ho51; rw [← Ny278.out] at ho51)); have n0_ := Aside0.mk (Kd.R_elder' (by (with_reducible repeat (first | apply Kd.R_alloc | apply Kd.R_drewN | apply Kd.R_drew)); exact HO_13.out) (Kd.R_base ho51) hb); have n1_ := Aside0.mk (Kd.R_lower (Kd.R_new' ho51 (Kd.R_lt (by (with_reducible repeat (first | apply Kd.R_alloc | apply Kd.R_drewN | apply Kd.R_drew)); exact HO_13.out))) (below_size (by repeat (first | (with_reducible first | exact HB.out | apply below_alloc | apply pw_below_drewN | apply below_drew1) | exact HB.out)))); have n2_ := Aside0.mk (below_step (by repeat (first | (with_reducible first | exact HB.out | apply below_alloc | apply pw_below_drewN | apply below_drew1) | exact HB.out)) hb); clear HO_13; clear HB; have HO_13 := n0_; have HO280 := n1_; have HB := n2_; clear n0_ n1_ n2_; clear hb ho51) | ((with_reducible refine gate_builtin (b := .append) (xs := #[.tmp 81, .tmp 82]) rfl ?_); (try (refine gate_guard (by rfl) ?_; dsimp only)); at_builtin; refine Kd.R_append_rows (Kd.int .u8) (w0 := w) w.heap.size rfl (.tmp 81) (.tmp 82) 32 5 (.int .u8 0) 1 rfl Tryd.underlying32 PC.info5 rfl (by decide) (by omega) v279 y278 l0 _ _ _ (fun k_ => some k_ ≠ (v269 : Value).ownBlock) (fun _ => False) rfl rfl ?aO ?aR (fun _ _ h => h) (fun _ h => h.elim) ?aF ?aB ?aS ?aL ?_; (case aR => repeat (first | exact (Kd.C_below HR0.out HB.out) | (with_reducible refine Kd.C_alloc ?_ _) | (with_reducible refine Kd.C_drewN ?_ _) | (with_reducible refine Kd.C_drew ?_))); (case aB => exact (by repeat (first | (with_reducible first | exact HB.out | apply below_alloc | apply pw_below_drewN | apply below_drew1) | exact HB.out))); (case aF => exact (fun k_ hk => Kd.fresh' (Kd.R_lt (by (with_reducible repeat (first | apply Kd.R_alloc | apply Kd.R_drewN | apply Kd.R_drew)); exact HO_13.out)) k_ hk)); (case aO => exact (by (with_reducible repeat (first | apply Kd.R_alloc | apply Kd.R_drewN | apply Kd.R_drew)); exact Kd.R_mono HO280.out (fun _ hk => hk.2))); (case aS => exact (below_size (by repeat (first | (with_reducible first | exact HB.out | apply below_alloc | apply pw_below_drewN | apply below_drew1) | exact HB.out)))); (case aL => have := LMc34.out; omega); intro v282 w52 ho hb hg hat; rw [← Ny281.out] at ho; have n0_ := Aside0.mk (Kd.R_after (ok := (fun _ => True)) (by (with_reducible repeat (first | apply Kd.R_alloc | apply Kd.R_drewN | apply Kd.R_drew)); exact HO_13.out) hg hat); have n1_ := Aside0.mk (hb); have n2_ := Aside0.mk (ho); clear HO_13; clear HB; clear HO280; have HO_13 := n0_; have HB := n1_; have HO283 := n2_; clear n0_ n1_ n2_; clear ho hb hg hat; obtain ⟨Ao54, co54, eo54⟩ := Kd.R_slice HO_13.out; subst eo54) | ((with_reducible refine gate_builtin (b := .append) (xs := #[.tmp 83, .tmp 84]) rfl ?_); (try (refine gate_guard (by rfl) ?_; dsimp only)); at_builtin; refine Kd.R_append_rows (Kd.int .u8) (w0 := w) w.heap.size rfl (.tmp 83) (.tmp 84) 32 5 (.int .u8 0) 1 rfl Tryd.underlying32 PC.info5 rfl (by decide) (by omega) v282 y281 t267 _ _ _ (fun k_ => some k_ ≠ (.slice Ao54 t267.length co54 : Value).ownBlock) (fun _ => False) rfl rfl ?aO ?aR (fun _ _ h => h) (fun _ h => h.elim) ?aF ?aB ?aS ?aL ?_; (case aR => repeat (first | exact (Kd.R_reads' HO_13.out).2.2 | (with_reducible refine Kd.C_alloc ?_ _) | (with_reducible refine Kd.C_drewN ?_ _) | (with_reducible refine Kd.C_drew ?_))); (case aB => exact (by repeat (first | (with_reducible first | exact HB.out | apply below_alloc | apply pw_below_drewN | apply below_drew1) | exact HB.out))); (case aF => exact (fun k_ hk => Kd.fresh' (Kd.R_lt (by (with_reducible repeat (first | apply Kd.R_alloc | apply Kd.R_drewN | apply Kd.R_drew)); exact HO_13.out)) k_ hk)); (case aO => exact (by (with_reducible repeat (first | apply Kd.R_alloc | apply Kd.R_drewN | apply Kd.R_drew)); exact HO283.out)); (case aS => exact (below_size (by repeat (first | (with_reducible first | exact HB.out | apply below_alloc | apply pw_below_drewN | apply below_drew1) | exact HB.out)))); (case aL => have := LMc35.out; omega); intro v285 w53 ho hb hg hat; rw [← Ny284.out] at ho; have n0_ := Aside0.mk (Kd.R_after (ok := (fun _ => True)) (by (with_reducible repeat (first | apply Kd.R_alloc | apply Kd.R_drewN | apply Kd.R_drew)); exact HO_13.out) hg hat); have n1_ := Aside0.mk (hb); have n2_ := Aside0.mk (ho); clear HO_13; clear HB; clear HO283; have HO_13 := n0_; have HB := n1_; have HO286 := n2_; clear n0_ n1_ n2_; clear ho hb hg hat) | ((with_reducible refine gate_builtin (b := .append) (xs := #[.tmp 85, .tmp 86]) rfl ?_); (try (refine gate_guard (by rfl) ?_; dsimp only)); at_builtin; refine Kd.R_append_rows (Kd.int .u8) (w0 := w) w.heap.size rfl (.tmp 85) (.tmp 86) 32 5 (.int .u8 0) 1 rfl Tryd.underlying32 PC.info5 rfl (by decide) (by omega) v285 y284 l5 _ _ _ (fun k_ => some k_ ≠ (.slice Ao54 t267.length co54 : Value).ownBlock) (fun _ => False) rfl rfl ?aO ?aR (fun _ _ h => h) (fun _ h => h.elim) ?aF ?aB ?aS ?aL ?_; (case aR => repeat (first | exact (Kd.C_below HR5.out HB.out) | (with_reducible refine Kd.C_alloc ?_ _) | (with_reducible refine Kd.C_drewN ?_ _) | (with_reducible refine Kd.C_drew ?_))); (case aB => exact (by repeat (first | (with_reducible first | exact HB.out | apply below_alloc | apply pw_below_drewN | apply below_drew1) | exact HB.out))); (case aF => exact (fun k_ hk => Kd.fresh' (Kd.R_lt (by (with_reducible repeat (first | apply Kd.R_alloc | apply Kd.R_drewN | apply Kd.R_drew)); exact HO_13.out)) k_ hk)); (case aO => exact (by (with_reducible repeat (first | apply Kd.R_alloc | apply Kd.R_drewN | apply Kd.R_drew)); exact HO286.out)); (case aS => exact (below_size (by repeat (first | (with_reducible first | exact HB.out | apply below_alloc | apply pw_below_drewN | apply below_drew1) | exact HB.out)))); (case aL => have := LMc36.out; omega); intro v288 w55 ho hb hg hat; rw [← Ny287.out] at ho; have n0_ := Aside0.mk (Kd.R_after (ok := (fun _ => True)) (by (with_reducible repeat (first | apply Kd.R_alloc | apply Kd.R_drewN | apply Kd.R_drew)); exact HO_13.out) hg hat); have n1_ := Aside0.mk (hb); have n2_ := Aside0.mk (ho); clear HO_13; clear HB; clear HO286; have HO_13 := n0_; have HB := n1_; have HO289 := n2_; clear n0_ n1_ n2_; clear ho hb hg hat; obtain ⟨Ao56, co56, eo56⟩ := Kd.R_slice HO289.out; subst eo56) | ((with_reducible refine gate_callee (f := 24) rfl ?_); refine goesL_ (some 92) rfl rfl Tryd.func24 (by kernel_rfl) rfl #[.slice Ao56 y287.length co56, .int .i64 (l0.length : Int), .slice none 0 0, .int .i64 0] rfl (by (try simp only [List.map_toArray, List.map_cons, List.map_nil]); first | done | rfl | (simp only [List.length_drop, List.length_take]; rfl)) ?_; (refine (impl_Literals.calls _ _ y287 (l0.length : Int) _ _ ([] : List (S68)) 0 t290 t291 true _ ?side0 ?side1 ?side2 ?side3 ?side4 A37.out).mono ?_); (case side0 => exact HEE.out.below (by repeat (first | (with_reducible first | exact HB.out | apply below_alloc | apply pw_below_drewN | apply below_drew1) | exact HB.out))); (case side1 => repeat (first | exact (Kd.R_reads' HO289.out).2.2 | (with_reducible refine Kd.C_alloc ?_ _) | (with_reducible refine Kd.C_drewN ?_ _) | (with_reducible refine Kd.C_drew ?_))); (case side2 => exact (Kd.R_reads' HO289.out).2.1); (case side3 => exact Kd.C_nil _ _); (case side4 => exact Nat.le_refl _); rintro e w57 ⟨v293, rfl, ho0, hb⟩; refine ⟨_, rfl, ?_⟩; have n0_ := Aside0.mk (Kd.R_elder' (by (with_reducible repeat (first | apply Kd.R_alloc | apply Kd.R_drewN | apply Kd.R_drew)); exact HO_13.out) (Kd.R_base ho0) hb); have n1_ := Aside0.mk (Kd.R_elder' (by (with_reducible repeat (first | apply Kd.R_alloc | apply Kd.R_drewN | apply Kd.R_drew)); exact HO289.out) (Kd.R_base ho0) hb); have n2_ := Aside0.mk (Kd.R_lower (Kd.R_new' (Kd.R_new' ho0 (Kd.R_lt (by (with_reducible repeat (first | apply Kd.R_alloc | apply Kd.R_drewN | apply Kd.R_drew)); exact HO_13.out))) (Kd.R_lt (by (with_reducible repeat (first | apply Kd.R_alloc | apply Kd.R_drewN | apply Kd.R_drew)); exact HO289.out))) (below_size (by repeat (first | (with_reducible first | exact HB.out | apply below_alloc | apply pw_below_drewN | apply below_drew1) | exact HB.out)))); have n3_ := Aside0.mk (below_step (by repeat (first | (with_reducible first | exact HB.out | apply below_alloc | apply pw_below_drewN | apply below_drew1) | exact HB.out)) hb); clear HO_13; clear HO289; clear HB; have HO_13 := n0_; have HO289 := n1_; have HO294 := n2_; have HB := n3_; clear n0_ n1_ n2_ n3_; (try clear hb); (try clear hb2); (try clear hk); (try clear hi); (try clear ho0)))
                          go_ret
                          exact ⟨by first | rfl | (simp [errW_none, errW_some] <;> rfl) | (simp [*, errW_none, errW_some] <;> rfl), by repeat (first | (with_reducible first | exact HB.out | apply below_alloc | apply pw_below_drewN | apply below_drew1) | exact HB.out)⟩
                      · replace c38 := Bool.eq_false_iff.mpr c38
                        subst c38
                        have H1 : (some false) = some r := by rw [if_neg (show ¬ (false = true) by decide)] at H; exact H
                        clear H
                        have H := H1
                        clear H1
                        obtain rfl := Option.some.inj H
                        go_wp2_with (first | ((with_reducible refine gate_dst (N := 81) rfl ?_); (try (refine gate_guard (by rfl) ?_; dsimp only)); refine Kd.R_lit (Kd.int .u8) _ 5 ?hg (N := 81) ?hd (xs := ([] : List Int)) (inner := []) (ok := fun _ => True) (okp := fun _ => True) ?hr ?hp (fun _ hk => hk) trivial (Below.refl _ _) (Nat.le_refl _) (by simp) ?_; (case hd => rfl); (case hg => rfl); (case hr => first | (go_simp; done) | (go_simp; rfl)); (case hp => exact (Reps.none _ _)); intro v279 w58 ho59 hb hg_ hnew_; clear hg_ hnew_; (first | rw [← Ny278.out] at ho59 | (simp only [Int.reduceToNat] at ho59; rw [← Ny278.out] at ho59)); have n0_ := Aside0.mk (Kd.R_elder' (by (with_reducible repeat (first | apply Kd.R_alloc | apply Kd.R_drewN | apply Kd.R_drew)); exact HO_13.out) (Kd.R_base ho59) hb); have n1_ := Aside0.mk (Kd.R_lower (Kd.R_new' ho59 (Kd.R_lt (by (with_reducible repeat (first | apply Kd.R_alloc | apply Kd.R_drewN | apply Kd.R_drew)); exact HO_13.out))) (below_size (by repeat (first | (with_reducible first | exact HB.out | apply below_alloc | apply pw_below_drewN | apply below_drew1) | exact HB.out)))); have n2_ := Aside0.mk (below_step (by repeat (first | (with_reducible first | exact HB.out | apply below_alloc | apply pw_below_drewN | apply below_drew1) | exact HB.out)) hb); clear HO_13; clear HB; have HO_13 := n0_; have HO280 := n1_; have HB := n2_; clear n0_ n1_ n2_; clear hb ho59) | ((with_reducible refine gate_builtin (b := .append) (xs := #[.tmp 81, .tmp 82]) rfl ?_); (try (refine gate_guard (by rfl) ?_; dsimp only)); at_builtin; refine Kd.R_append_rows (Kd.int .u8) (w0 := w) w.heap.size rfl (.tmp 81) (.tmp 82) 32 5 (.int .u8 0) 1 rfl Tryd.underlying32 PC.info5 rfl (by decide) (by omega) v279 y278 l0 _ _ _ (fun k_ => some k_ ≠ (v269 : Value).ownBlock) (fun _ => False) rfl rfl ?aO ?aR (fun _ _ h => h) (fun _ h => h.elim) ?aF ?aB ?aS ?aL ?_; (case aR => repeat (first | exact (Kd.C_below HR0.out HB.out) | (with_reducible refine Kd.C_alloc ?_ _) | (with_reducible refine Kd.C_drewN ?_ _) | (with_reducible refine Kd.C_drew ?_))); (case aB => exact (by repeat (first | (with_reducible first | exact HB.out | apply below_alloc | apply pw_below_drewN | apply below_drew1) | exact HB.out))); (case aF => exact (fun k_ hk => Kd.fresh' (Kd.R_lt (by (with_reducible repeat (first | apply Kd.R_alloc | apply Kd.R_drewN | apply Kd.R_drew)); exact HO_13.out)) k_ hk)); (case aO => exact (by (with_reducible repeat (first | apply Kd.R_alloc | apply Kd.R_drewN | apply Kd.R_drew)); exact Kd.R_mono HO280.out (fun _ hk => hk.2))); (case aS => exact (below_size (by repeat (first | (with_reducible first | exact HB.out | apply below_alloc | apply pw_below_drewN | apply below_drew1) | exact HB.out)))); (case aL => have := LMc34.out; omega); intro v282 w60 ho hb hg hat; rw [← Ny281.out] at ho; have n0_ := Aside0.mk (Kd.R_after (ok := (fun _ => True)) (by (with_reducible repeat (first | apply Kd.R_alloc | apply Kd.R_drewN | apply Kd.R_drew)); exact HO_13.out) hg hat); have n1_ := Aside0.mk (hb); have n2_ := Aside0.mk (ho); clear HO_13; clear HB; clear HO280; have HO_13 := n0_; have HB := n1_; have HO283 := n2_; clear n0_ n1_ n2_; clear ho hb hg hat; obtain ⟨Ao62, co62, eo62⟩ := Kd.R_slice HO_13.out; subst eo62) | ((with_reducible refine gate_builtin (b := .append) (xs := #[.tmp 83, .tmp 84]) rfl ?_); (try (refine gate_guard (by rfl) ?_; dsimp only)); at_builtin; refine Kd.R_append_rows (Kd.int .u8) (w0 := w) w.heap.size rfl (.tmp 83) (.tmp 84) 32 5 (.int .u8 0) 1 rfl Tryd.underlying32 PC.info5 rfl (by decide) (by omega) v282 y281 t267 _ _ _ (fun k_ => some k_ ≠ (.slice Ao62 t267.length co62 : Value).ownBlock) (fun _ => False) rfl rfl ?aO ?aR (fun _ _ h => h) (fun _ h => h.elim) ?aF ?aB ?aS ?aL ?_; (case aR => repeat (first | exact (Kd.R_reads' HO_13.out).2.2 | (with_reducible refine Kd.C_alloc ?_ _) | (with_reducible refine Kd.C_drewN ?_ _) | (with_reducible refine Kd.C_drew ?_))); (case aB => exact (by repeat (first | (with_reducible first | exact HB.out | apply below_alloc | apply pw_below_drewN | apply below_drew1) | exact HB.out))); (case aF => exact (fun k_ hk => Kd.fresh' (Kd.R_lt (by (with_reducible repeat (first | apply Kd.R_alloc | apply Kd.R_drewN | apply Kd.R_drew)); exact HO_13.out)) k_ hk)); (case aO => exact (by (with_reducible repeat (first | apply Kd.R_alloc | apply Kd.R_drewN | apply Kd.R_drew)); exact HO283.out)); (case aS => exact (below_size (by repeat (first | (with_reducible first | exact HB.out | apply below_alloc | apply pw_below_drewN | apply below_drew1) | exact HB.out)))); (case aL => have := LMc35.out; omega); intro v285 w61 ho hb hg hat; rw [← Ny284.out] at ho; have n0_ := Aside0.mk (Kd.R_after (ok := (fun _ => True)) (by (with_reducible repeat (first | apply Kd.R_alloc | apply Kd.R_drewN | apply Kd.R_drew)); exact HO_13.out) hg hat); have n1_ := Aside0.mk (hb); have n2_ := Aside0.mk (ho); clear HO_13; clear HB; clear HO283; have HO_13 := n0_; have HB := n1_; have HO286 := n2_; clear n0_ n1_ n2_; clear ho hb hg hat) | ((with_reducible refine gate_builtin (b := .append) (xs := #[.tmp 85, .tmp 86]) rfl ?_); (try (refine gate_guard (by rfl) ?_; dsimp only)); at_builtin; refine Kd.R_append_rows (Kd.int .u8) (w0 := w) w.heap.size rfl (.tmp 85) (.tmp 86) 32 5 (.int .u8 0) 1 rfl Tryd.underlying32 PC.info5 rfl (by decide) (by omega) v285 y284 l5 _ _ _ (fun k_ => some k_ ≠ (.slice Ao62 t267.length co62 : Value).ownBlock) (fun _ => False) rfl rfl ?aO ?aR (fun _ _ h => h) (fun _ h => h.elim) ?aF ?aB ?aS ?aL ?_; (case aR => repeat (first | exact (Kd.C_below HR5.out HB.out) | (with_reducible refine Kd.C_alloc ?_ _) | (with_reducible refine Kd.C_drewN ?_ _) | (with_reducible refine Kd.C_drew ?_))); (case aB => exact (by repeat (first | (with_reducible first | exact HB.out | apply below_alloc | apply pw_below_drewN | apply below_drew1) | exact HB.out))); (case aF => exact (fun k_ hk => Kd.fresh' (Kd.R_lt (by (with_reducible repeat (first | apply Kd.R_alloc | apply Kd.R_drewN | apply Kd.R_drew)); exact HO_13.out)) k_ hk)); (case aO => exact (by (with_reducible repeat (first | apply Kd.R_alloc | apply Kd.R_drewN | apply Kd.R_drew)); exact HO286.out)); (case aS => exact (below_size (by repeat (first | (with_reducible first | exact HB.out | apply below_alloc | apply pw_below_drewN | apply below_drew1) | exact HB.out)))); (case aL => have := LMc36.out; omega); intro v288 w63 ho hb hg hat; rw [← Ny287.out] at ho; have n0_ := Aside0.mk (Kd.R_after (ok := (fun _ => True)) (by (with_reducible repeat (first | apply Kd.R_alloc | apply Kd.R_drewN | apply Kd.R_drew)); exact HO_13.out) hg hat); have n1_ := Aside0.mk (hb); have n2_ := Aside0.mk (ho); clear HO_13; clear HB; clear HO286; have HO_13 := n0_; have HB := n1_; have HO289 := n2_; clear n0_ n1_ n2_; clear ho hb hg hat; obtain ⟨Ao64, co64, eo64⟩ := Kd.R_slice HO289.out; subst eo64) | ((with_reducible refine gate_callee (f := 24) rfl ?_); refine goesL_ (some 92) rfl rfl Tryd.func24 (by kernel_rfl) rfl #[.slice Ao64 y287.length co64, .int .i64 (l0.length : Int), .slice none 0 0, .int .i64 0] rfl (by (try simp only [List.map_toArray, List.map_cons, List.map_nil]); first | done | rfl | (simp only [List.length_drop, List.length_take]; rfl)) ?_; (refine (impl_Literals.calls _ _ y287 (l0.length : Int) _ _ ([] : List (S68)) 0 t290 t291 false _ ?side0 ?side1 ?side2 ?side3 ?side4 A37.out).mono ?_); (case side0 => exact HEE.out.below (by repeat (first | (with_reducible first | exact HB.out | apply below_alloc | apply pw_below_drewN | apply below_drew1) | exact HB.out))); (case side1 => repeat (first | exact (Kd.R_reads' HO289.out).2.2 | (with_reducible refine Kd.C_alloc ?_ _) | (with_reducible refine Kd.C_drewN ?_ _) | (with_reducible refine Kd.C_drew ?_))); (case side2 => exact (Kd.R_reads' HO289.out).2.1); (case side3 => exact Kd.C_nil _ _); (case side4 => exact Nat.le_refl _); rintro e w65 ⟨v293, rfl, ho0, hb⟩; refine ⟨_, rfl, ?_⟩; have n0_ := Aside0.mk (Kd.R_elder' (by (with_reducible repeat (first | apply Kd.R_alloc | apply Kd.R_drewN | apply Kd.R_drew)); exact HO_13.out) (Kd.R_base ho0) hb); have n1_ := Aside0.mk (Kd.R_elder' (by (with_reducible repeat (first | apply Kd.R_alloc | apply Kd.R_drewN | apply Kd.R_drew)); exact HO289.out) (Kd.R_base ho0) hb); have n2_ := Aside0.mk (Kd.R_lower (Kd.R_new' (Kd.R_new' ho0 (Kd.R_lt (by (with_reducible repeat (first | apply Kd.R_alloc | apply Kd.R_drewN | apply Kd.R_drew)); exact HO_13.out))) (Kd.R_lt (by (with_reducible repeat (first | apply Kd.R_alloc | apply Kd.R_drewN | apply Kd.R_drew)); exact HO289.out))) (below_size (by repeat (first | (with_reducible first | exact HB.out | apply below_alloc | apply pw_below_drewN | apply below_drew1) | exact HB.out)))); have n3_ := Aside0.mk (below_step (by repeat (first | (with_reducible first | exact HB.out | apply below_alloc | apply pw_below_drewN | apply below_drew1) | exact HB.out)) hb); clear HO_13; clear HO289; clear HB; have HO_13 := n0_; have HO289 := n1_; have HO294 := n2_; have HB := n3_; clear n0_ n1_ n2_ n3_; (try clear hb); (try clear hb2); (try clear hk); (try clear hi); (try clear ho0)))
                        go_ret
                        exact ⟨by first | rfl | (simp [errW_none, errW_some] <;> rfl) | (simp [*, errW_none, errW_some] <;> rfl), by repeat (first | (with_reducible first | exact HB.out | apply below_alloc | apply pw_below_drewN | apply below_drew1) | exact HB.out)⟩
                    · rw [if_neg c36] at H
                      exact absurd H (by simp)
                  · rw [if_neg c35] at H
                    exact absurd H (by simp)
                · rw [if_neg c34] at H
                  exact absurd H (by simp)
end
end Go.Proofs.YtopadgohinoomaaDoor.Cx
