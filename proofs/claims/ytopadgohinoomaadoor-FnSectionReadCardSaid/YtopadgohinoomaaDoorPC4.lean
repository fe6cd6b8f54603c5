/- What some of the functions that the laws use answer, as plain Lean functions, and that the calls come to these answers: written by a program of this session, after the way of the kit's print; some lines mended by hand. -/
import Derived.Test.YtopadgohinoomaaDoorPC0
import Derived.Test.YtopadgohinoomaaDoorPC1
namespace Go.Proofs.YtopadgohinoomaaDoor.PC
open Go.RowKit Go.Proofs.YtopadgohinoomaaDoorW.PrintWords Go.Proofs.YtopadgohinoomaaDoorW.PrintLast Go.Proofs.YtopadgohinoomaaDoorW.PrintMore
attribute [local go_sem] max2_int min2_int max_two min_two max_three min_three max_four min_four   -- for this text's walks alone
set_option linter.unusedVariables false
set_option linter.unusedSimpArgs false

attribute [local go_sem high] eqA54
/-! ### spec_SameBased: function 13 -/
def spec_SameBased.l0 : Nat → List (S54) → List (S54) → Int → Int → Option (Bool)
  | 0, _, _, _, _ => none
  | k + 1, x0, x1, x12, x13 => if x13 < x12 then (if 0 ≤ x13 then (if x13 < (x0.length : Int) then (if x13 < (x1.length : Int) then (if (!(((rd_T54 x0 x13).f0) == ((rd_T54 x1 x13).f0)) || (!(((rd_T54 x0 x13).f1) == ((rd_T54 x1 x13).f1)) || (!(((rd_T54 x0 x13).f2) == ((rd_T54 x1 x13).f2)) || (!(((rd_T54 x0 x13).f3) == ((rd_T54 x1 x13).f3)))))) = true then (some false) else (spec_SameBased.l0 k x0 x1 x12 (wrap64 (x13 + 1)))) else (none)) else (none)) else (none)) else (some true)
def spec_SameBased.f (k : Nat) (l0 : List (S54)) (l1 : List (S54)) : Option (Bool) := if (l0.length : Int) = (l1.length : Int) then (spec_SameBased.l0 k l0 l1 (l0.length : Int) 0) else (some false)
theorem spec_SameBased.mono_l : ∀ k, (∀ y0 y1 y2 y3, LeO (spec_SameBased.l0 k y0 y1 y2 y3) (spec_SameBased.l0 (k + 1) y0 y1 y2 y3))
  | 0 => fun _ _ _ _ r h => by simp [spec_SameBased.l0] at h
  | k + 1 => by
    have ih0 := spec_SameBased.mono_l k
    · intro y0 y1 y2 y3
      unfold spec_SameBased.l0
      repeat' first
      | (with_reducible exact ih0 _ _ _ _)
      | (with_reducible exact LeO.refl _)
      | (with_reducible exact LeO.none _)
      | (with_reducible refine LeO.ite ?_ ?_)
      | (with_reducible refine LeO.bind ?_ (fun _ => ?_))
      | exact ih0 _ _ _ _
      | exact LeO.none _
      | refine LeO.ite ?_ ?_
      | refine LeO.bind ?_ (fun _ => ?_)
theorem spec_SameBased.mono : ∀ a0 a1 k, LeO (spec_SameBased.f k a0 a1) (spec_SameBased.f (k + 1) a0 a1) := by
  intro a0 a1 k
  have ih0 := spec_SameBased.mono_l k
  unfold spec_SameBased.f
  repeat' first
      | (with_reducible exact ih0 _ _ _ _)
      | (with_reducible exact LeO.refl _)
      | (with_reducible exact LeO.none _)
      | (with_reducible refine LeO.ite ?_ ?_)
      | (with_reducible refine LeO.bind ?_ (fun _ => ?_))
      | exact ih0 _ _ _ _
      | exact LeO.none _
      | refine LeO.ite ?_ ?_
      | refine LeO.bind ?_ (fun _ => ?_)
set_option maxHeartbeats 8000000 in
set_option maxRecDepth 100000 in
theorem spec_SameBased.calls (k : Nat) (A0 : Option Addr) (c0 : Nat) (l0 : List (S54)) (A1 : Option Addr) (c1 : Nat) (l1 : List (S54)) (r : Bool) (w : World) (hr0 : Kd.C k54 w A0 l0.length l0) (hc0 : l0.length ≤ c0) (hr1 : Kd.C k54 w A1 l1.length l1) (hc1 : l1.length ≤ c1) (h : spec_SameBased.f k l0 l1 = some r) :
    Calls Tryd.prog 13 #[.slice A0 l0.length c0, .slice A1 l1.length c1] w fun e w' => e = .returned (.bool r) ∧ Drawn0 w w' := by
  have hu54 := Tryd.underlying54
  have HR0 := Aside0.mk hr0
  have HC0 := Aside0.mk hc0
  clear hr0 hc0
  have HR1 := Aside0.mk hr1
  have HC1 := Aside0.mk hc1
  clear hr1 hc1
  have H : (if (l0.length : Int) = (l1.length : Int) then (spec_SameBased.l0 k l0 l1 (l0.length : Int) 0) else (some false)) = some r := h
  clear h
  by_cases c3 : (l0.length : Int) = (l1.length : Int)
  · rw [if_pos c3] at H
    have c3b0 : ((l0.length : Int) == (l1.length : Int)) = true := beq_iff_eq.mpr c3
    have c3b1 : ((l0.length : Int) != (l1.length : Int)) = false := bne_eq_false_iff_eq.mpr c3
    have c3b2 : (l0.length == l1.length) = true := by first | simpa using c3 | (simp at c3 ⊢; omega)
    clear c3
    have H' := Aside0.mk H
    clear H
    go_enter Tryd.func13, Tryd.ntmps13
    go_wp2
    repeat (go_quiet (fail); try go_wp2)
    go_loopg [13] k (fun kq v13 w' => ∃ (x13_1 : Int), v13 = .int .i64 x13_1 ∧ Aside0 (spec_SameBased.l0 kq l0 l1 (l0.length : Int) x13_1 = some r) ∧ Aside0 (kq ≤ k) ∧ Drawn0 w w')
    case atStart => exact ⟨(0), (by first | rfl | (simp; done) | (simp [*]; done)), H', ⟨Nat.le_refl _⟩, by repeat (first | exact Drawn0.refl _ | apply Drawn0.step)⟩
    case round =>
      clear H'
      try clear c1
      try clear p2
      try clear c3
      try clear c3b0
      try clear c3b1
      try clear c3b2
      obtain ⟨x13_1, rfl, HA, HK1, ⟨m1, rfl⟩⟩ := hrel
      cases gk with
      | zero => exact absurd HA.out (by simp [spec_SameBased.l0])
      | succ k1 =>
        have H := HA.out
        clear HA
        simp only [spec_SameBased.l0] at H
        by_cases c4 : x13_1 < (l0.length : Int)
        · rw [if_pos c4] at H
          have c4b0 : decide (x13_1 < (l0.length : Int)) = true := decide_eq_true c4
          clear c4
          by_cases c5 : 0 ≤ x13_1
          · rw [if_pos c5] at H
            have c5b0 : decide (0 ≤ x13_1) = true := decide_eq_true c5
            clear c5
            by_cases c6 : x13_1 < (l0.length : Int)
            · rw [if_pos c6] at H
              have c6b0 : decide (x13_1 < (l0.length : Int)) = true := decide_eq_true c6
              clear c6
              by_cases c7 : x13_1 < (l1.length : Int)
              · rw [if_pos c7] at H
                have c7b0 : decide (x13_1 < (l1.length : Int)) = true := decide_eq_true c7
                clear c7
                by_cases c8 : (!(((rd_T54 l0 x13_1).f0) == ((rd_T54 l1 x13_1).f0)) || (!(((rd_T54 l0 x13_1).f1) == ((rd_T54 l1 x13_1).f1)) || (!(((rd_T54 l0 x13_1).f2) == ((rd_T54 l1 x13_1).f2)) || (!(((rd_T54 l0 x13_1).f3) == ((rd_T54 l1 x13_1).f3)))))) = true
                · rw [if_pos c8] at H
                  have c8b0 : (!(((rd_T54 l0 x13_1).f0) == ((rd_T54 l1 x13_1).f0)) || (!(((rd_T54 l0 x13_1).f1) == ((rd_T54 l1 x13_1).f1)) || (!(((rd_T54 l0 x13_1).f2) == ((rd_T54 l1 x13_1).f2)) || (!(((rd_T54 l0 x13_1).f3) == ((rd_T54 l1 x13_1).f3)))))) = true := c8
                  clear c8
                  obtain rfl := Option.some.inj H
                  have p181 : 0 ≤ (x13_1 : Int) := of_decide_eq_true (by first | (with_reducible assumption) | assumption)
                  have q181 : x13_1 < (l0.length : Int) := of_decide_eq_true (by first | (with_reducible assumption) | assumption)
                  obtain ⟨ad181, e181, hx181_0, hx181_1, hx181_2, hx181_3⟩ := at_T54 HR0.out x13_1 p181 q181
                  cases e181
                  replace p181 := eq_true p181
                  replace q181 := eq_true q181
                  have p182 : 0 ≤ (x13_1 : Int) := of_decide_eq_true (by first | (with_reducible assumption) | assumption)
                  have q182 : x13_1 < (l1.length : Int) := of_decide_eq_true (by first | (with_reducible assumption) | assumption)
                  obtain ⟨ad182, e182, hx182_0, hx182_1, hx182_2, hx182_3⟩ := at_T54 HR1.out x13_1 p182 q182
                  cases e182
                  replace p182 := eq_true p182
                  replace q182 := eq_true q182
                  go_wp2
                  repeat (go_quiet (fail); try go_wp2)
                  go_ret
                  exact ⟨by first | rfl | (simp; done) | (simp [*]; done), by repeat (first | exact Drawn0.refl _ | apply Drawn0.step)⟩
                · rw [if_neg c8] at H
                  have c8b0 : (!(((rd_T54 l0 x13_1).f0) == ((rd_T54 l1 x13_1).f0)) || (!(((rd_T54 l0 x13_1).f1) == ((rd_T54 l1 x13_1).f1)) || (!(((rd_T54 l0 x13_1).f2) == ((rd_T54 l1 x13_1).f2)) || (!(((rd_T54 l0 x13_1).f3) == ((rd_T54 l1 x13_1).f3)))))) = false := by simpa using c8
                  clear c8
                  have H' := Aside0.mk H
                  clear H
                  have p181 : 0 ≤ (x13_1 : Int) := of_decide_eq_true (by first | (with_reducible assumption) | assumption)
                  have q181 : x13_1 < (l0.length : Int) := of_decide_eq_true (by first | (with_reducible assumption) | assumption)
                  obtain ⟨ad181, e181, hx181_0, hx181_1, hx181_2, hx181_3⟩ := at_T54 HR0.out x13_1 p181 q181
                  cases e181
                  replace p181 := eq_true p181
                  replace q181 := eq_true q181
                  have p182 : 0 ≤ (x13_1 : Int) := of_decide_eq_true (by first | (with_reducible assumption) | assumption)
                  have q182 : x13_1 < (l1.length : Int) := of_decide_eq_true (by first | (with_reducible assumption) | assumption)
                  obtain ⟨ad182, e182, hx182_0, hx182_1, hx182_2, hx182_3⟩ := at_T54 HR1.out x13_1 p182 q182
                  cases e182
                  replace p182 := eq_true p182
                  replace q182 := eq_true q182
                  go_wp2
                  repeat (go_quiet (fail); try go_wp2)
                  go_roundg k1
                  case measure => have := HK1.out; omega
                  case rel => exact ⟨(wrap64 (x13_1 + 1)), (by first | rfl | (simp; done) | (simp [*]; done)), H', ⟨by have := HK1.out; omega⟩, by repeat (first | exact Drawn0.refl _ | apply Drawn0.step)⟩
              · rw [if_neg c7] at H
                exact absurd H (by simp)
            · rw [if_neg c6] at H
              exact absurd H (by simp)
          · rw [if_neg c5] at H
            exact absurd H (by simp)
        · rw [if_neg c4] at H
          have c4b0 : decide (x13_1 < (l0.length : Int)) = false := decide_eq_false c4
          clear c4
          obtain rfl := Option.some.inj H
          go_wp2
          repeat (go_quiet (fail); try go_wp2)
          go_ret
          exact ⟨by first | rfl | (simp; done) | (simp [*]; done), by repeat (first | exact Drawn0.refl _ | apply Drawn0.step)⟩
  · rw [if_neg c3] at H
    have c3b0 : ((l0.length : Int) == (l1.length : Int)) = false := beq_eq_false_iff_ne.mpr c3
    have c3b1 : ((l0.length : Int) != (l1.length : Int)) = true := bne_iff_ne.mpr c3
    have c3b2 : (l0.length == l1.length) = false := by first | simpa using c3 | (simp at c3 ⊢; omega)
    obtain rfl := Option.some.inj H
    go_enter Tryd.func13, Tryd.ntmps13
    go_wp2
    repeat (go_quiet (fail); try go_wp2)
    go_ret
    exact ⟨by first | rfl | (simp; done) | (simp [*]; done), by repeat (first | exact Drawn0.refl _ | apply Drawn0.step)⟩

-- NOT PRINTED: function 3 (laws_FnLiteralStates)

-- NOT PRINTED: function 49 (zstd_Reader_makeMatchBaselineFSE)

-- NOT PRINTED: function 30 (zstd_ZZMatchBaseline)

-- NOT PRINTED: function 14 (impl_MatchStates)

-- NOT PRINTED: function 4 (laws_FnMatchStates)

-- NOT PRINTED: function 50 (zstd_Reader_makeOffsetBaselineFSE)

-- NOT PRINTED: function 31 (zstd_ZZOffsetBaseline)

-- NOT PRINTED: function 15 (impl_OffsetStates)

-- NOT PRINTED: function 5 (laws_FnOffsetStates)

/-! ### spec_Width: function 32 -/
def spec_Width.l0 : Nat → Int → Int → Option (Int)
  | 0, _, _ => none
  | k + 1, x0, x3 => if x0 > 0 then (spec_Width.l0 k (wrap64 (Int.tdiv x0 2)) (wrap64 (x3 + 1))) else (some x3)
def spec_Width.f (k : Nat) (a0 : Int) : Option (Int) := spec_Width.l0 k a0 0
theorem spec_Width.mono_l : ∀ k, (∀ y0 y1, LeO (spec_Width.l0 k y0 y1) (spec_Width.l0 (k + 1) y0 y1))
  | 0 => fun _ _ r h => by simp [spec_Width.l0] at h
  | k + 1 => by
    have ih0 := spec_Width.mono_l k
    · intro y0 y1
      unfold spec_Width.l0
      repeat' first
      | (with_reducible exact ih0 _ _)
      | (with_reducible exact LeO.refl _)
      | (with_reducible exact LeO.none _)
      | (with_reducible refine LeO.ite ?_ ?_)
      | (with_reducible refine LeO.bind ?_ (fun _ => ?_))
      | exact ih0 _ _
      | exact LeO.none _
      | refine LeO.ite ?_ ?_
      | refine LeO.bind ?_ (fun _ => ?_)
theorem spec_Width.mono : ∀ a0 k, LeO (spec_Width.f k a0) (spec_Width.f (k + 1) a0) := by
  intro a0 k
  have ih0 := spec_Width.mono_l k
  unfold spec_Width.f
  repeat' first
      | (with_reducible exact ih0 _ _)
      | (with_reducible exact LeO.refl _)
      | (with_reducible exact LeO.none _)
      | (with_reducible refine LeO.ite ?_ ?_)
      | (with_reducible refine LeO.bind ?_ (fun _ => ?_))
      | exact ih0 _ _
      | exact LeO.none _
      | refine LeO.ite ?_ ?_
      | refine LeO.bind ?_ (fun _ => ?_)
set_option maxHeartbeats 8000000 in
set_option maxRecDepth 100000 in
theorem spec_Width.calls (k : Nat) (a0 : Int) (r : Int) (w : World) (h : spec_Width.f k a0 = some r) :
    Calls Tryd.prog 32 #[.int .i64 a0] w fun e w' => e = .returned (.int .i64 r) ∧ Drawn0 w w' := by
  have H : (spec_Width.l0 k a0 0) = some r := h
  clear h
  have H' := Aside0.mk H
  clear H
  go_enter Tryd.func32, Tryd.ntmps32
  go_wp2
  go_loopg [0, 3] k (fun kq v0 v3 w' => ∃ (x0_1 : Int) (x3_1 : Int), v0 = .int .i64 x0_1 ∧ v3 = .int .i64 x3_1 ∧ Aside0 (spec_Width.l0 kq x0_1 x3_1 = some r) ∧ Aside0 (kq ≤ k) ∧ Drawn0 w w')
  case atStart => exact ⟨(a0), (0), (by first | rfl | (simp; done) | (simp [*]; done)), (by first | rfl | (simp; done) | (simp [*]; done)), H', ⟨Nat.le_refl _⟩, by repeat (first | exact Drawn0.refl _ | apply Drawn0.step)⟩
  case round =>
    clear H'
    obtain ⟨x0_1, x3_1, rfl, rfl, HA, HK1, ⟨m1, rfl⟩⟩ := hrel
    cases gk with
    | zero => exact absurd HA.out (by simp [spec_Width.l0])
    | succ k1 =>
      have H := HA.out
      clear HA
      simp only [spec_Width.l0] at H
      by_cases c2 : x0_1 > 0
      · rw [if_pos c2] at H
        have c2b0 : decide (0 < x0_1) = true := decide_eq_true c2
        clear c2
        have H' := Aside0.mk H
        clear H
        go_wp2
        go_roundg k1
        case measure => have := HK1.out; omega
        case rel => exact ⟨(wrap64 (Int.tdiv x0_1 2)), (wrap64 (x3_1 + 1)), (by first | rfl | (simp; done) | (simp [*]; done)), (by first | rfl | (simp; done) | (simp [*]; done)), H', ⟨by have := HK1.out; omega⟩, by repeat (first | exact Drawn0.refl _ | apply Drawn0.step)⟩
      · rw [if_neg c2] at H
        have c2b0 : decide (0 < x0_1) = false := decide_eq_false c2
        clear c2
        obtain rfl := Option.some.inj H
        go_wp2
        go_ret
        exact ⟨by first | rfl | (simp; done) | (simp [*]; done), by repeat (first | exact Drawn0.refl _ | apply Drawn0.step)⟩

/-! ### spec_Whole: function 16 -/
mutual
def spec_Whole.l0 : Nat → List Int → Int → List Int → Int → Int → Option (List Int × Int × Bool)
  | 0, _, _, _, _, _ => none
  | k + 1, x0, x5, x11, x12, x13 => if x13 < x12 then (if 0 ≤ x13 then (if x13 < (x11.length : Int) then (if (rd x11 x13) < 0 then (spec_Whole.j1 k x0 x5 (rd x11 x13) x11 x12 x13 true) else (spec_Whole.j1 k x0 x5 (rd x11 x13) x11 x12 x13 (decide ((rd x11 x13) > 11)))) else (none)) else (none)) else ((spec_Width.f k x5).bind fun t220 => (if x5 = 0 then (spec_Whole.j2 k x0 x5 t220 true) else (spec_Whole.j2 k x0 x5 t220 (decide (t220 > 11)))))
def spec_Whole.j1 : Nat → List Int → Int → Int → List Int → Int → Int → Bool → Option (List Int × Int × Bool)
  | 0, _, _, _, _, _, _, _ => none
  | k + 1, x0, x5, x7, x11, x12, x13, x22 => if x22 = true then (some (([] : List Int), 0, false)) else (if x7 > 0 then (if 0 ≤ (wrap64 (x7 - 1)) then (spec_Whole.l0 k x0 (wrap64 (x5 + (shl .i64 1 (wrap64 (x7 - 1))))) x11 x12 (wrap64 (x13 + 1))) else (none)) else (spec_Whole.l0 k x0 x5 x11 x12 (wrap64 (x13 + 1))))
def spec_Whole.j2 : Nat → List Int → Int → Int → Bool → Option (List Int × Int × Bool)
  | 0, _, _, _, _ => none
  | k + 1, x0, x5, x8, x38 => if x38 = true then (some (([] : List Int), 0, false)) else (if 0 ≤ x8 then ((spec_Width.f k (wrap64 ((shl .i64 1 x8) - x5))).bind fun t221 => (if 0 ≤ (wrap64 (t221 - 1)) then (if (wrap64 ((shl .i64 1 x8) - x5)) = (shl .i64 1 (wrap64 (t221 - 1))) then ((some (([] : List Int) : List Int)).bind fun y222 => (if y222.length + x0.length < 17592186044416 then ((some (y222 ++ x0 : List Int)).bind fun y225 => (if y225.length < 17592186044416 then (some ((y225 ++ [t221]), x8, true)) else (none))) else (none))) else (some (([] : List Int), 0, false))) else (none))) else (none))
end
def spec_Whole.f (k : Nat) (l0 : List Int) : Option (List Int × Int × Bool) := spec_Whole.l0 k l0 0 l0 (l0.length : Int) 0
theorem spec_Whole.mono_l : ∀ k, (∀ y0 y1 y2 y3 y4, LeO (spec_Whole.l0 k y0 y1 y2 y3 y4) (spec_Whole.l0 (k + 1) y0 y1 y2 y3 y4)) ∧ (∀ y0 y1 y2 y3 y4 y5 y6, LeO (spec_Whole.j1 k y0 y1 y2 y3 y4 y5 y6) (spec_Whole.j1 (k + 1) y0 y1 y2 y3 y4 y5 y6)) ∧ (∀ y0 y1 y2 y3, LeO (spec_Whole.j2 k y0 y1 y2 y3) (spec_Whole.j2 (k + 1) y0 y1 y2 y3))
  | 0 => ⟨fun _ _ _ _ _ r h => by simp [spec_Whole.l0] at h, fun _ _ _ _ _ _ _ r h => by simp [spec_Whole.j1] at h, fun _ _ _ _ r h => by simp [spec_Whole.j2] at h⟩
  | k + 1 => by
    obtain ⟨ih0, ih1, ih2⟩ := spec_Whole.mono_l k
    refine ⟨?_, ?_, ?_⟩
    · intro y0 y1 y2 y3 y4
      unfold spec_Whole.l0
      repeat' first
      | (with_reducible exact ih0 _ _ _ _ _)
      | (with_reducible exact ih1 _ _ _ _ _ _ _)
      | (with_reducible exact ih2 _ _ _ _)
      | (with_reducible exact spec_Width.mono _ _)
      | (with_reducible exact LeO.refl _)
      | (with_reducible exact LeO.none _)
      | (with_reducible refine LeO.ite ?_ ?_)
      | (with_reducible refine LeO.bind ?_ (fun _ => ?_))
      | exact ih0 _ _ _ _ _
      | exact ih1 _ _ _ _ _ _ _
      | exact ih2 _ _ _ _
      | exact spec_Width.mono _ _
      | exact LeO.none _
      | refine LeO.ite ?_ ?_
      | refine LeO.bind ?_ (fun _ => ?_)
    · intro y0 y1 y2 y3 y4 y5 y6
      unfold spec_Whole.j1
      repeat' first
      | (with_reducible exact ih0 _ _ _ _ _)
      | (with_reducible exact ih1 _ _ _ _ _ _ _)
      | (with_reducible exact ih2 _ _ _ _)
      | (with_reducible exact spec_Width.mono _ _)
      | (with_reducible exact LeO.refl _)
      | (with_reducible exact LeO.none _)
      | (with_reducible refine LeO.ite ?_ ?_)
      | (with_reducible refine LeO.bind ?_ (fun _ => ?_))
      | exact ih0 _ _ _ _ _
      | exact ih1 _ _ _ _ _ _ _
      | exact ih2 _ _ _ _
      | exact spec_Width.mono _ _
      | exact LeO.none _
      | refine LeO.ite ?_ ?_
      | refine LeO.bind ?_ (fun _ => ?_)
    · intro y0 y1 y2 y3
      unfold spec_Whole.j2
      repeat' first
      | (with_reducible exact ih0 _ _ _ _ _)
      | (with_reducible exact ih1 _ _ _ _ _ _ _)
      | (with_reducible exact ih2 _ _ _ _)
      | (with_reducible exact spec_Width.mono _ _)
      | (with_reducible exact LeO.refl _)
      | (with_reducible exact LeO.none _)
      | (with_reducible refine LeO.ite ?_ ?_)
      | (with_reducible refine LeO.bind ?_ (fun _ => ?_))
      | exact ih0 _ _ _ _ _
      | exact ih1 _ _ _ _ _ _ _
      | exact ih2 _ _ _ _
      | exact spec_Width.mono _ _
      | exact LeO.none _
      | refine LeO.ite ?_ ?_
      | refine LeO.bind ?_ (fun _ => ?_)
theorem spec_Whole.mono : ∀ a0 k, LeO (spec_Whole.f k a0) (spec_Whole.f (k + 1) a0) := by
  intro a0 k
  obtain ⟨ih0, ih1, ih2⟩ := spec_Whole.mono_l k
  unfold spec_Whole.f
  repeat' first
      | (with_reducible exact ih0 _ _ _ _ _)
      | (with_reducible exact ih1 _ _ _ _ _ _ _)
      | (with_reducible exact ih2 _ _ _ _)
      | (with_reducible exact spec_Width.mono _ _)
      | (with_reducible exact LeO.refl _)
      | (with_reducible exact LeO.none _)
      | (with_reducible refine LeO.ite ?_ ?_)
      | (with_reducible refine LeO.bind ?_ (fun _ => ?_))
      | exact ih0 _ _ _ _ _
      | exact ih1 _ _ _ _ _ _ _
      | exact ih2 _ _ _ _
      | exact spec_Width.mono _ _
      | exact LeO.none _
      | refine LeO.ite ?_ ?_
      | refine LeO.bind ?_ (fun _ => ?_)
set_option maxHeartbeats 8000000 in
set_option maxRecDepth 100000 in
theorem spec_Whole.calls (k : Nat) (A0 : Option Addr) (c0 : Nat) (l0 : List Int) (r1 : List Int) (r2 : Int) (r3 : Bool) (w : World) (hr0 : Kd.C (Kd.int .i64) w A0 l0.length l0) (hc0 : l0.length ≤ c0) (h : spec_Whole.f k l0 = some (r1, r2, r3)) :
    Calls Tryd.prog 16 #[.slice A0 l0.length c0] w fun e w' => ∃ v0_ : Value, e = .returned (.tuple #[v0_, .int .i64 r2, .bool r3]) ∧ Kd.R (Kd.int .i64) 3 w' w.heap.size (fun _ => True) v0_ r1 ∧ Below w.heap.size w w' := by
  have HR0 := Aside0.mk hr0
  have HC0 := Aside0.mk hc0
  clear hr0 hc0
  have HB := Aside0.mk (Below.refl w.heap.size w)
  have H : (spec_Whole.l0 k l0 0 l0 (l0.length : Int) 0) = some (r1, r2, r3) := h
  clear h
  have H' := Aside0.mk H
  clear H
  go_enter Tryd.func16, Tryd.ntmps16
  go_wp2
  go_loopg [5, 13] k (fun kq v5 v13 w' => ∃ (x5_1 : Int) (x13_1 : Int), v5 = .int .i64 x5_1 ∧ v13 = .int .i64 x13_1 ∧ Aside0 (spec_Whole.l0 kq l0 x5_1 l0 (l0.length : Int) x13_1 = some (r1, r2, r3)) ∧ Aside0 (kq ≤ k) ∧ Aside0 (Below w.heap.size w w'))
  case atStart => exact ⟨(0), (0), (by first | rfl | (simp; done) | (simp [*]; done)), (by first | rfl | (simp; done) | (simp [*]; done)), H', ⟨Nat.le_refl _⟩, ⟨by repeat (first | (with_reducible first | exact HB.out | apply below_alloc | apply pw_below_drewN | apply below_drew1) | exact HB.out)⟩⟩
  case round =>
    clear H'
    try clear c1
    obtain ⟨x5_1, x13_1, rfl, rfl, HA, HK1, HB⟩ := hrel
    cases gk with
    | zero => exact absurd HA.out (by simp [spec_Whole.l0])
    | succ k1 =>
      have H := HA.out
      clear HA
      simp only [spec_Whole.l0] at H
      by_cases c2 : x13_1 < (l0.length : Int)
      · rw [if_pos c2] at H
        have c2b0 : decide (x13_1 < (l0.length : Int)) = true := decide_eq_true c2
        clear c2
        by_cases c3 : 0 ≤ x13_1
        · rw [if_pos c3] at H
          have c3b0 : decide (0 ≤ x13_1) = true := decide_eq_true c3
          clear c3
          by_cases c4 : x13_1 < (l0.length : Int)
          · rw [if_pos c4] at H
            have c4b0 : decide (x13_1 < (l0.length : Int)) = true := decide_eq_true c4
            clear c4
            have HC5 := Aside0.mk H
            clear H
            have p219 : 0 ≤ (x13_1 : Int) := of_decide_eq_true (by first | (with_reducible assumption) | assumption)
            have q219 : x13_1 < (l0.length : Int) := of_decide_eq_true (by first | (with_reducible assumption) | assumption)
            obtain ⟨ad219, e219, hx219_0⟩ := Kd.at_int HR0.out x13_1 p219 q219
            cases e219
            replace hx219_0 := (HB.out.cell (World.block_lt_of_cell? w _ hx219_0)).trans hx219_0
            replace p219 := eq_true p219
            replace q219 := eq_true q219
            go_upto_region 5 with (fail)
            go_cut [22] (fun v22 wc => ∃ (kq : Nat) (x22_4 : Bool), v22 = .bool x22_4 ∧ Aside0 (spec_Whole.j1 kq l0 x5_1 (rd l0 x13_1) l0 (l0.length : Int) x13_1 x22_4 = some (r1, r2, r3)) ∧ Aside0 (kq ≤ k1) ∧ Aside0 (Below w.heap.size w wc))
            case first =>
              have H := HC5.out
              clear HC5
              by_cases c6 : (rd l0 x13_1) < 0
              · rw [if_pos c6] at H
                have c6b0 : decide ((rd l0 x13_1) < 0) = true := decide_eq_true c6
                clear c6
                (first | rw [c6b0] | (simp only [i64_w, i32_w]; rw [c6b0]) | skip)
                have H' := Aside0.mk H
                clear H
                go_wp2
                go_meet
                case rel => exact ⟨_, (true), (by first | rfl | (simp; done) | (simp [*]; done)), H', ⟨by have := HK1.out; first | omega | exact Nat.le_refl _⟩, ⟨by repeat (first | (with_reducible first | exact HB.out | apply below_alloc | apply pw_below_drewN | apply below_drew1) | exact HB.out)⟩⟩
              · rw [if_neg c6] at H
                have c6b0 : decide ((rd l0 x13_1) < 0) = false := decide_eq_false c6
                clear c6
                (first | rw [c6b0] | (simp only [i64_w, i32_w]; rw [c6b0]) | skip)
                have H' := Aside0.mk H
                clear H
                go_wp2
                go_meet
                case rel => exact ⟨_, (decide ((rd l0 x13_1) > 11)), (by first | rfl | (simp; done) | (simp [*]; done)), H', ⟨by have := HK1.out; first | omega | exact Nat.le_refl _⟩, ⟨by repeat (first | (with_reducible first | exact HB.out | apply below_alloc | apply pw_below_drewN | apply below_drew1) | exact HB.out)⟩⟩
            case rest =>
              clear HC5
              try clear c1
              try clear c2
              try clear c2b0
              try clear p2
              try clear q2
              try clear hx2
              try clear c3
              try clear c3b0
              try clear c4
              try clear c4b0
              try clear c6
              try clear c6b0
              try clear hx219_0
              try clear p219
              try clear q219
              obtain ⟨kq, x22_4, rfl, HA, HJ4, HB⟩ := hcut
              cases kq with
              | zero => exact absurd HA.out (by simp [spec_Whole.j1])
              | succ kj4 =>
                have H := HA.out
                clear HA
                simp only [spec_Whole.j1] at H
                by_cases c7 : x22_4 = true
                · subst c7
                  have H1 : (some (([] : List Int), 0, false)) = some (r1, r2, r3) := by rw [if_pos rfl] at H; exact H
                  clear H
                  have H := H1
                  clear H1
                  simp only [Option.some.injEq, Prod.mk.injEq] at H
                  obtain ⟨rfl, rfl, rfl⟩ := H
                  go_wp2
                  go_ret3
                  exact ⟨_, by first | rfl | (simp [errW_none, errW_some] <;> rfl) | (simp [*, errW_none, errW_some] <;> rfl), by first | exact Kd.R_nil _ _ _ _ _ | exact Kd.N_nil _ _ _ _ _ | exact Kd.V_nil _ _ _ _ _ | exact Kd.Q_nil _ _ _ _ _ | exact Kd.S_nil _ _ _ _ _, by repeat (first | (with_reducible first | exact HB.out | apply below_alloc | apply pw_below_drewN | apply below_drew1) | exact HB.out)⟩
                · replace c7 := Bool.eq_false_iff.mpr c7
                  subst c7
                  have H1 : (if (rd l0 x13_1) > 0 then (if 0 ≤ (wrap64 ((rd l0 x13_1) - 1)) then (spec_Whole.l0 kj4 l0 (wrap64 (x5_1 + (shl .i64 1 (wrap64 ((rd l0 x13_1) - 1))))) l0 (l0.length : Int) (wrap64 (x13_1 + 1))) else (none)) else (spec_Whole.l0 kj4 l0 x5_1 l0 (l0.length : Int) (wrap64 (x13_1 + 1)))) = some (r1, r2, r3) := by rw [if_neg (show ¬ (false = true) by decide)] at H; exact H
                  clear H
                  have H := H1
                  clear H1
                  by_cases c8 : (rd l0 x13_1) > 0
                  · rw [if_pos c8] at H
                    have c8b0 : decide (0 < (rd l0 x13_1)) = true := decide_eq_true c8
                    clear c8
                    obtain ⟨ji9, hji9⟩ : ∃ j_ : Int, (wrap64 ((rd l0 x13_1) - 1)) = j_ := ⟨_, rfl⟩
                    replace H : (if 0 ≤ (ji9) then (spec_Whole.l0 kj4 l0 (wrap64 (x5_1 + (shl .i64 1 (ji9)))) l0 (l0.length : Int) (wrap64 (x13_1 + 1))) else (none)) = some (r1, r2, r3) := by first | (rw [hji9] at H; exact H) | (simp only [hji9] at H ⊢; exact H)
                    have hji9w : (IntKind.i64.wrap ((rd l0 x13_1) - 1)) = ji9 := (i64_w _).trans hji9
                    by_cases c10 : 0 ≤ (ji9)
                    · rw [if_pos c10] at H
                      have c10b0 := eq_true c10
                      have c10b1 : decide (0 ≤ (ji9)) = true := decide_eq_true c10
                      clear c10
                      obtain ⟨ji11, hji11⟩ : ∃ j_ : Int, (shl .i64 1 (ji9)) = j_ := ⟨_, rfl⟩
                      replace H : (spec_Whole.l0 kj4 l0 (wrap64 (x5_1 + (ji11))) l0 (l0.length : Int) (wrap64 (x13_1 + 1))) = some (r1, r2, r3) := by first | (rw [hji11] at H; exact H) | (simp only [hji11] at H ⊢; exact H)
                      have hji11_ : (IntKind.i64.wrap (1 * 2 ^ min (ji9).toNat 64)) = ji11 := hji11
                      have hji11z : (ji9) ≤ 64 → (IntKind.i64.wrap (1 * 2 ^ (ji9).toNat)) = ji11 := shl_small hji11
                      have hji11u : (IntKind.i64.wrap (2 ^ min (ji9).toNat 64)) = ji11 := by have h_ := hji11_; rw [Int.one_mul] at h_; exact h_
                      have hji11v : (ji9) ≤ 64 → (IntKind.i64.wrap (2 ^ (ji9).toNat)) = ji11 := fun hle_ => by have h_ := hji11z hle_; rw [Int.one_mul] at h_; exact h_
                      have hji11y : (wrap64 (1 * 2 ^ min (ji9).toNat 64)) = ji11 := (i64_w _).symm.trans hji11_
                      have hji11x : (ji9) ≤ 64 → (wrap64 (1 * 2 ^ (ji9).toNat)) = ji11 := fun h_ => (i64_w _).symm.trans (hji11z h_)
                      have H' := Aside0.mk H
                      clear H
                      go_wp2
                      go_roundg kj4
                      case measure => have := HK1.out; have := HJ4.out; omega
                      case rel => exact ⟨(wrap64 (x5_1 + (ji11))), (wrap64 (x13_1 + 1)), (by first | rfl | (simp; done) | (simp only [← hji11] <;> (first | rfl | simp)) | (simp [*]; done)), (by first | rfl | (simp; done) | (simp [*]; done)), H', ⟨by have := HK1.out; have := HJ4.out; omega⟩, ⟨by repeat (first | (with_reducible first | exact HB.out | apply below_alloc | apply pw_below_drewN | apply below_drew1) | exact HB.out)⟩⟩
                    · rw [if_neg c10] at H
                      exact absurd H (by simp)
                  · rw [if_neg c8] at H
                    have c8b0 : decide (0 < (rd l0 x13_1)) = false := decide_eq_false c8
                    clear c8
                    have H' := Aside0.mk H
                    clear H
                    go_wp2
                    go_roundg kj4
                    case measure => have := HK1.out; have := HJ4.out; omega
                    case rel => exact ⟨(x5_1), (wrap64 (x13_1 + 1)), (by first | rfl | (simp; done) | (simp [*]; done)), (by first | rfl | (simp; done) | (simp [*]; done)), H', ⟨by have := HK1.out; have := HJ4.out; omega⟩, ⟨by repeat (first | (with_reducible first | exact HB.out | apply below_alloc | apply pw_below_drewN | apply below_drew1) | exact HB.out)⟩⟩
          · rw [if_neg c4] at H
            exact absurd H (by simp)
        · rw [if_neg c3] at H
          exact absurd H (by simp)
      · rw [if_neg c2] at H
        have c2b0 : decide (x13_1 < (l0.length : Int)) = false := decide_eq_false c2
        clear c2
        replace H := Option.bind_eq_some_iff.mp H
        obtain ⟨t220, A120, H⟩ := H
        replace H : (if x5_1 = 0 then (spec_Whole.j2 k1 l0 x5_1 t220 true) else (spec_Whole.j2 k1 l0 x5_1 t220 (decide (t220 > 11)))) = some (r1, r2, r3) := H
        have A12 := Aside0.mk A120
        clear A120
        have HC13 := Aside0.mk H
        clear H
        go_upto_region 11 with (first | ((with_reducible refine gate_callee (f := 32) rfl ?_); refine goesL_ (some 32) rfl rfl Tryd.func32 (by kernel_rfl) rfl #[.int .i64 x5_1] rfl (by (try simp only [List.map_toArray, List.map_cons, List.map_nil]); first | done | rfl | (simp only [List.length_drop, List.length_take]; rfl)) ?_; (with_reducible refine (spec_Width.calls k1 x5_1 t220 _ A12.out).mono ?_); rintro e w' ⟨rfl, ⟨nd, rfl⟩⟩; refine ⟨_, rfl, ?_⟩))
        (try simp only [Act.put, List.setIfInBounds_toArray, List.set_cons_zero, List.set_cons_succ])
        go_cut [38] (fun v38 wc => ∃ (kq : Nat) (x38_12 : Bool), v38 = .bool x38_12 ∧ Aside0 (spec_Whole.j2 kq l0 x5_1 t220 x38_12 = some (r1, r2, r3)) ∧ Aside0 (kq ≤ k1) ∧ Aside0 (Below w.heap.size w wc))
        case first =>
          have H := HC13.out
          clear HC13
          by_cases c14 : x5_1 = 0
          · rw [if_pos c14] at H
            have c14b0 : (x5_1 == 0) = true := beq_iff_eq.mpr c14
            have c14b1 : (x5_1 != 0) = false := bne_eq_false_iff_eq.mpr c14
            clear c14
            (first | rw [c14b0] | (simp only [i64_w, i32_w]; rw [c14b0]) | skip)
            have H' := Aside0.mk H
            clear H
            go_wp2
            go_meet
            case rel => exact ⟨_, (true), (by first | rfl | (simp; done) | (simp [*]; done)), H', ⟨by have := HK1.out; first | omega | exact Nat.le_refl _⟩, ⟨by repeat (first | (with_reducible first | exact HB.out | apply below_alloc | apply pw_below_drewN | apply below_drew1) | exact HB.out)⟩⟩
          · rw [if_neg c14] at H
            have c14b0 : (x5_1 == 0) = false := beq_eq_false_iff_ne.mpr c14
            have c14b1 : (x5_1 != 0) = true := bne_iff_ne.mpr c14
            (first | rw [c14b0] | (simp only [i64_w, i32_w]; rw [c14b0]) | skip)
            have H' := Aside0.mk H
            clear H
            go_wp2
            go_meet
            case rel => exact ⟨_, (decide (t220 > 11)), (by first | rfl | (simp; done) | (simp [*]; done)), H', ⟨by have := HK1.out; first | omega | exact Nat.le_refl _⟩, ⟨by repeat (first | (with_reducible first | exact HB.out | apply below_alloc | apply pw_below_drewN | apply below_drew1) | exact HB.out)⟩⟩
        case rest =>
          clear HC13
          try clear c1
          try clear c2
          try clear c2b0
          try clear p2
          try clear q2
          try clear hx2
          try clear c3
          try clear c3b0
          try clear c4
          try clear c4b0
          try clear c6
          try clear c6b0
          try clear p6
          try clear c7
          try clear c8
          try clear c8b0
          try clear c10
          try clear c10b0
          try clear c10b1
          try clear c14
          try clear c14b0
          try clear c14b1
          try clear hx219_0
          try clear p2
          try clear p219
          try clear q2
          try clear q219
          obtain ⟨kq, x38_12, rfl, HA, HJ12, HB⟩ := hcut
          cases kq with
          | zero => exact absurd HA.out (by simp [spec_Whole.j2])
          | succ kj12 =>
            have H := HA.out
            clear HA
            simp only [spec_Whole.j2] at H
            by_cases c15 : x38_12 = true
            · subst c15
              have H1 : (some (([] : List Int), 0, false)) = some (r1, r2, r3) := by rw [if_pos rfl] at H; exact H
              clear H
              have H := H1
              clear H1
              simp only [Option.some.injEq, Prod.mk.injEq] at H
              obtain ⟨rfl, rfl, rfl⟩ := H
              go_wp2
              go_ret3
              exact ⟨_, by first | rfl | (simp [errW_none, errW_some] <;> rfl) | (simp [*, errW_none, errW_some] <;> rfl), by first | exact Kd.R_nil _ _ _ _ _ | exact Kd.N_nil _ _ _ _ _ | exact Kd.V_nil _ _ _ _ _ | exact Kd.Q_nil _ _ _ _ _ | exact Kd.S_nil _ _ _ _ _, by repeat (first | (with_reducible first | exact HB.out | apply below_alloc | apply pw_below_drewN | apply below_drew1) | exact HB.out)⟩
            · replace c15 := Bool.eq_false_iff.mpr c15
              subst c15
              have H1 : (if 0 ≤ t220 then ((spec_Width.f kj12 (wrap64 ((shl .i64 1 t220) - x5_1))).bind fun t221 => (if 0 ≤ (wrap64 (t221 - 1)) then (if (wrap64 ((shl .i64 1 t220) - x5_1)) = (shl .i64 1 (wrap64 (t221 - 1))) then ((some (([] : List Int) : List Int)).bind fun y222 => (if y222.length + l0.length < 17592186044416 then ((some (y222 ++ l0 : List Int)).bind fun y225 => (if y225.length < 17592186044416 then (some ((y225 ++ [t221]), t220, true)) else (none))) else (none))) else (some (([] : List Int), 0, false))) else (none))) else (none)) = some (r1, r2, r3) := by rw [if_neg (show ¬ (false = true) by decide)] at H; exact H
              clear H
              have H := H1
              clear H1
              by_cases c16 : 0 ≤ t220
              · rw [if_pos c16] at H
                have c16b0 := eq_true c16
                have c16b1 : decide (0 ≤ t220) = true := decide_eq_true c16
                clear c16
                obtain ⟨ji17, hji17⟩ : ∃ j_ : Int, (shl .i64 1 t220) = j_ := ⟨_, rfl⟩
                replace H : ((spec_Width.f kj12 (wrap64 ((ji17) - x5_1))).bind fun t221 => (if 0 ≤ (wrap64 (t221 - 1)) then (if (wrap64 ((ji17) - x5_1)) = (shl .i64 1 (wrap64 (t221 - 1))) then ((some (([] : List Int) : List Int)).bind fun y222 => (if y222.length + l0.length < 17592186044416 then ((some (y222 ++ l0 : List Int)).bind fun y225 => (if y225.length < 17592186044416 then (some ((y225 ++ [t221]), t220, true)) else (none))) else (none))) else (some (([] : List Int), 0, false))) else (none))) = some (r1, r2, r3) := by first | (rw [hji17] at H; exact H) | (simp only [hji17] at H ⊢; exact H)
                have hji17_ : (IntKind.i64.wrap (1 * 2 ^ min t220.toNat 64)) = ji17 := hji17
                have hji17z : t220 ≤ 64 → (IntKind.i64.wrap (1 * 2 ^ t220.toNat)) = ji17 := shl_small hji17
                have hji17u : (IntKind.i64.wrap (2 ^ min t220.toNat 64)) = ji17 := by have h_ := hji17_; rw [Int.one_mul] at h_; exact h_
                have hji17v : t220 ≤ 64 → (IntKind.i64.wrap (2 ^ t220.toNat)) = ji17 := fun hle_ => by have h_ := hji17z hle_; rw [Int.one_mul] at h_; exact h_
                have hji17y : (wrap64 (1 * 2 ^ min t220.toNat 64)) = ji17 := (i64_w _).symm.trans hji17_
                have hji17x : t220 ≤ 64 → (wrap64 (1 * 2 ^ t220.toNat)) = ji17 := fun h_ => (i64_w _).symm.trans (hji17z h_)
                replace H := Option.bind_eq_some_iff.mp H
                obtain ⟨t221, A180, H⟩ := H
                replace H : (if 0 ≤ (wrap64 (t221 - 1)) then (if (wrap64 ((ji17) - x5_1)) = (shl .i64 1 (wrap64 (t221 - 1))) then ((some (([] : List Int) : List Int)).bind fun y222 => (if y222.length + l0.length < 17592186044416 then ((some (y222 ++ l0 : List Int)).bind fun y225 => (if y225.length < 17592186044416 then (some ((y225 ++ [t221]), t220, true)) else (none))) else (none))) else (some (([] : List Int), 0, false))) else (none)) = some (r1, r2, r3) := H
                have A18 := Aside0.mk A180
                clear A180
                obtain ⟨ji19, hji19⟩ : ∃ j_ : Int, (wrap64 (t221 - 1)) = j_ := ⟨_, rfl⟩
                replace H : (if 0 ≤ (ji19) then (if (wrap64 ((ji17) - x5_1)) = (shl .i64 1 (ji19)) then ((some (([] : List Int) : List Int)).bind fun y222 => (if y222.length + l0.length < 17592186044416 then ((some (y222 ++ l0 : List Int)).bind fun y225 => (if y225.length < 17592186044416 then (some ((y225 ++ [t221]), t220, true)) else (none))) else (none))) else (some (([] : List Int), 0, false))) else (none)) = some (r1, r2, r3) := by first | (rw [hji19] at H; exact H) | (simp only [hji19] at H ⊢; exact H)
                (try rw [hji19] at A18)
                have hji19w : (IntKind.i64.wrap (t221 - 1)) = ji19 := (i64_w _).trans hji19
                by_cases c20 : 0 ≤ (ji19)
                · rw [if_pos c20] at H
                  have c20b0 := eq_true c20
                  have c20b1 : decide (0 ≤ (ji19)) = true := decide_eq_true c20
                  clear c20
                  obtain ⟨ji21, hji21⟩ : ∃ j_ : Int, (shl .i64 1 (ji19)) = j_ := ⟨_, rfl⟩
                  replace H : (if (wrap64 ((ji17) - x5_1)) = (ji21) then ((some (([] : List Int) : List Int)).bind fun y222 => (if y222.length + l0.length < 17592186044416 then ((some (y222 ++ l0 : List Int)).bind fun y225 => (if y225.length < 17592186044416 then (some ((y225 ++ [t221]), t220, true)) else (none))) else (none))) else (some (([] : List Int), 0, false))) = some (r1, r2, r3) := by first | (rw [hji21] at H; exact H) | (simp only [hji21] at H ⊢; exact H)
                  (try rw [hji21] at A18)
                  have hji21_ : (IntKind.i64.wrap (1 * 2 ^ min (ji19).toNat 64)) = ji21 := hji21
                  have hji21z : (ji19) ≤ 64 → (IntKind.i64.wrap (1 * 2 ^ (ji19).toNat)) = ji21 := shl_small hji21
                  have hji21u : (IntKind.i64.wrap (2 ^ min (ji19).toNat 64)) = ji21 := by have h_ := hji21_; rw [Int.one_mul] at h_; exact h_
                  have hji21v : (ji19) ≤ 64 → (IntKind.i64.wrap (2 ^ (ji19).toNat)) = ji21 := fun hle_ => by have h_ := hji21z hle_; rw [Int.one_mul] at h_; exact h_
                  have hji21y : (wrap64 (1 * 2 ^ min (ji19).toNat 64)) = ji21 := (i64_w _).symm.trans hji21_
                  have hji21x : (ji19) ≤ 64 → (wrap64 (1 * 2 ^ (ji19).toNat)) = ji21 := fun h_ => (i64_w _).symm.trans (hji21z h_)
                  by_cases c22 : (wrap64 ((ji17) - x5_1)) = (ji21)
                  · rw [if_pos c22] at H
                    have c22b0 : ((wrap64 ((ji17) - x5_1)) == (ji21)) = true := beq_iff_eq.mpr c22
                    have c22b1 : ((wrap64 ((ji17) - x5_1)) != (ji21)) = false := bne_eq_false_iff_eq.mpr c22
                    clear c22
                    obtain ⟨y222, hy222⟩ : ∃ y_ : List Int, y_ = (([] : List Int)) := ⟨_, rfl⟩
                    replace H : (if y222.length + l0.length < 17592186044416 then ((some (y222 ++ l0 : List Int)).bind fun y225 => (if y225.length < 17592186044416 then (some ((y225 ++ [t221]), t220, true)) else (none))) else (none)) = some (r1, r2, r3) := by first | (rw [hy222]; with_reducible exact H) | (have H2_ := (Option.bind_some _ _).symm.trans H; rw [hy222]; with_reducible exact H2_) | (have H2_ := (Option.bind_some _ _).symm.trans H; with_reducible exact H2_) | with_reducible exact H | (rw [hy222]; exact H) | exact H
                    have Ny222 := Aside0.mk hy222
                    clear hy222
                    by_cases c23 : y222.length + l0.length < 17592186044416
                    · rw [if_pos c23] at H
                      have LMc23 := Aside0.mk c23
                      clear c23
                      obtain ⟨y225, hy225⟩ : ∃ y_ : List Int, y_ = (y222 ++ l0) := ⟨_, rfl⟩
                      replace H : (if y225.length < 17592186044416 then (some ((y225 ++ [t221]), t220, true)) else (none)) = some (r1, r2, r3) := by first | (rw [hy225]; with_reducible exact H) | (have H2_ := (Option.bind_some _ _).symm.trans H; rw [hy225]; with_reducible exact H2_) | (have H2_ := (Option.bind_some _ _).symm.trans H; with_reducible exact H2_) | with_reducible exact H | (rw [hy225]; exact H) | exact H
                      have Ny225 := Aside0.mk hy225
                      clear hy225
                      by_cases c24 : y225.length < 17592186044416
                      · rw [if_pos c24] at H
                        have LMc24 := Aside0.mk c24
                        clear c24
                        obtain ⟨y228, hy228⟩ : ∃ y_ : List Int, y_ = (y225 ++ [t221]) := ⟨_, rfl⟩
                        replace H : (some (y228, t220, true)) = some (r1, r2, r3) := by first | (rw [hy228]; with_reducible exact H) | (have H2_ := (Option.bind_some _ _).symm.trans H; rw [hy228]; with_reducible exact H2_) | (have H2_ := (Option.bind_some _ _).symm.trans H; with_reducible exact H2_) | with_reducible exact H | (rw [hy228]; exact H) | exact H
                        have Ny228 := Aside0.mk hy228
                        clear hy228
                        simp only [Option.some.injEq, Prod.mk.injEq] at H
                        obtain ⟨rfl, rfl, rfl⟩ := H
                        go_wp2_with (first | ((with_reducible refine gate_callee (f := 32) rfl ?_); refine goesL_ (some 44) rfl rfl Tryd.func32 (by kernel_rfl) rfl #[.int .i64 (wrap64 ((ji17) - x5_1))] rfl (by (try simp only [List.map_toArray, List.map_cons, List.map_nil]); first | done | (simp only [hji17]; rfl) | rfl | (simp only [List.length_drop, List.length_take]; rfl)) ?_; (with_reducible refine (spec_Width.calls kj12 (wrap64 ((ji17) - x5_1)) t221 _ A18.out).mono ?_); rintro e w' ⟨rfl, ⟨nd, rfl⟩⟩; refine ⟨_, rfl, ?_⟩) | ((with_reducible refine gate_dst (N := 50) rfl ?_); refine Kd.R_lit (Kd.int .i64) _ 3 ?hg (N := 50) ?hd (xs := ([] : List Int)) (inner := []) (ok := fun _ => True) (okp := fun _ => True) ?hr ?hp (fun _ hk => hk) trivial (Below.refl _ _) (Nat.le_refl _) (by simp) ?_; (case hd => rfl); (case hg => rfl); (case hr => first | (go_simp; done) | (go_simp; rfl)); (case hp => exact (Reps.none _ _)); intro v223 w25 ho26 hb hg_ hnew_; clear hg_ hnew_; (first | rw [← Ny222.out] at ho26 | (simp only [Int.reduceToNat] at ho26; rw [← Ny222.out] at ho26)); have n0_ := Aside0.mk (Kd.R_lower ho26 (below_size (by repeat (first | (with_reducible first | exact HB.out | apply below_alloc | apply pw_below_drewN | apply below_drew1) | exact HB.out)))); have n1_ := Aside0.mk (below_step (by repeat (first | (with_reducible first | exact HB.out | apply below_alloc | apply pw_below_drewN | apply below_drew1) | exact HB.out)) hb); clear HB; have HO224 := n0_; have HB := n1_; clear n0_ n1_; clear hb ho26) | ((with_reducible refine gate_builtin (b := .append) (xs := #[.tmp 50, .tmp 51]) rfl ?_); at_builtin; refine Kd.R_append_rows (Kd.int .i64) (w0 := w) w.heap.size rfl (.tmp 50) (.tmp 51) 33 3 (.int .i64 0) 8 rfl Tryd.underlying33 info3 rfl (by decide) (by omega) v223 y222 l0 _ _ _ (fun _ => True) (fun _ => False) rfl rfl ?aO ?aR (fun _ _ h => h) (fun _ h => h.elim) ?aF ?aB ?aS ?aL ?_; (case aR => repeat (first | exact (Kd.C_below HR0.out HB.out) | (with_reducible refine Kd.C_alloc ?_ _) | (with_reducible refine Kd.C_drewN ?_ _) | (with_reducible refine Kd.C_drew ?_))); (case aB => exact (by repeat (first | (with_reducible first | exact HB.out | apply below_alloc | apply pw_below_drewN | apply below_drew1) | exact HB.out))); (case aF => exact (fun _ _ => trivial)); (case aO => exact (by (with_reducible repeat (first | apply Kd.R_alloc | apply Kd.R_drewN | apply Kd.R_drew)); exact HO224.out)); (case aS => exact (below_size (by repeat (first | (with_reducible first | exact HB.out | apply below_alloc | apply pw_below_drewN | apply below_drew1) | exact HB.out)))); (case aL => have := LMc23.out; omega); intro v226 w27 ho hb hg hat; rw [← Ny225.out] at ho; have n0_ := Aside0.mk (hb); have n1_ := Aside0.mk (ho); clear HB; clear HO224; have HB := n0_; have HO227 := n1_; clear n0_ n1_; clear ho hb hg hat) | ((with_reducible refine gate_builtin (b := .append) (xs := #[.tmp 52, .tmp 54]) rfl ?_); at_builtin; refine Kd.R_append (Kd.int .i64) (w0 := w) w.heap.size rfl (.tmp 52) (.tmp 54) 33 3 (.int .i64 0) 8 rfl Tryd.underlying33 info3 rfl (by decide) (by omega) v226 y225 t221 [.int .i64 t221] (fun _ => True) (fun _ => False) rfl rfl ?aP (fun _ hk => hk.elim) ?aF ?aO ?aB ?aS ?aL ?_; (case aP => exact rfl); (case aB => exact (by repeat (first | (with_reducible first | exact HB.out | apply below_alloc | apply pw_below_drewN | apply below_drew1) | exact HB.out))); (case aF => exact (fun _ _ => trivial)); (case aO => exact (by (with_reducible repeat (first | apply Kd.R_alloc | apply Kd.R_drewN | apply Kd.R_drew)); exact HO227.out)); (case aS => exact (below_size (by repeat (first | (with_reducible first | exact HB.out | apply below_alloc | apply pw_below_drewN | apply below_drew1) | exact HB.out)))); (case aL => have := LMc24.out; omega); intro v229 w28 ho hb hg hat; rw [← Ny228.out] at ho; have n0_ := Aside0.mk (hb); have n1_ := Aside0.mk (ho); clear HB; clear HO227; have HB := n0_; have HO230 := n1_; clear n0_ n1_; clear ho hb hg hat))
                        go_ret3
                        exact ⟨_, by first | rfl | (simp [errW_none, errW_some] <;> rfl) | (simp only [← hji17, ← hji19, ← hji21]; first | rfl | (simp [errW_none, errW_some] <;> rfl)) | (simp [*, errW_none, errW_some] <;> rfl), by (with_reducible repeat (first | apply Kd.R_alloc | apply Kd.R_drewN | apply Kd.R_drew)); exact HO230.out, by repeat (first | (with_reducible first | exact HB.out | apply below_alloc | apply pw_below_drewN | apply below_drew1) | exact HB.out)⟩
                      · rw [if_neg c24] at H
                        exact absurd H (by simp)
                    · rw [if_neg c23] at H
                      exact absurd H (by simp)
                  · rw [if_neg c22] at H
                    have c22b0 : ((wrap64 ((ji17) - x5_1)) == (ji21)) = false := beq_eq_false_iff_ne.mpr c22
                    have c22b1 : ((wrap64 ((ji17) - x5_1)) != (ji21)) = true := bne_iff_ne.mpr c22
                    simp only [Option.some.injEq, Prod.mk.injEq] at H
                    obtain ⟨rfl, rfl, rfl⟩ := H
                    go_wp2_with (first | ((with_reducible refine gate_callee (f := 32) rfl ?_); refine goesL_ (some 44) rfl rfl Tryd.func32 (by kernel_rfl) rfl #[.int .i64 (wrap64 ((ji17) - x5_1))] rfl (by (try simp only [List.map_toArray, List.map_cons, List.map_nil]); first | done | (simp only [hji17]; rfl) | rfl | (simp only [List.length_drop, List.length_take]; rfl)) ?_; (with_reducible refine (spec_Width.calls kj12 (wrap64 ((ji17) - x5_1)) t221 _ A18.out).mono ?_); rintro e w' ⟨rfl, ⟨nd, rfl⟩⟩; refine ⟨_, rfl, ?_⟩))
                    go_ret3
                    exact ⟨_, by first | rfl | (simp [errW_none, errW_some] <;> rfl) | (simp only [← hji17, ← hji19, ← hji21]; first | rfl | (simp [errW_none, errW_some] <;> rfl)) | (simp [*, errW_none, errW_some] <;> rfl), by first | exact Kd.R_nil _ _ _ _ _ | exact Kd.N_nil _ _ _ _ _ | exact Kd.V_nil _ _ _ _ _ | exact Kd.Q_nil _ _ _ _ _ | exact Kd.S_nil _ _ _ _ _, by repeat (first | (with_reducible first | exact HB.out | apply below_alloc | apply pw_below_drewN | apply below_drew1) | exact HB.out)⟩
                · rw [if_neg c20] at H
                  exact absurd H (by simp)
              · rw [if_neg c16] at H
                exact absurd H (by simp)

-- NOT PRINTED: function 63 (zstd_Reader_makeEOFError)

/-! ### bits_Len8: function 85 -/
def bits_Len8.f (a0 : Int) : Option (Int) := if 0 ≤ a0 then (if a0 < 256 then (some (wrap64 (bt (⟨#[0, 1, 2, 2, 3, 3, 3, 3, 4, 4, 4, 4, 4, 4, 4, 4, 5, 5, 5, 5, 5, 5, 5, 5, 5, 5, 5, 5, 5, 5, 5, 5, 6, 6, 6, 6, 6, 6, 6, 6, 6, 6, 6, 6, 6, 6, 6, 6, 6, 6, 6, 6, 6, 6, 6, 6, 6, 6, 6, 6, 6, 6, 6, 6, 7, 7, 7, 7, 7, 7, 7, 7, 7, 7, 7, 7, 7, 7, 7, 7, 7, 7, 7, 7, 7, 7, 7, 7, 7, 7, 7, 7, 7, 7, 7, 7, 7, 7, 7, 7, 7, 7, 7, 7, 7, 7, 7, 7, 7, 7, 7, 7, 7, 7, 7, 7, 7, 7, 7, 7, 7, 7, 7, 7, 7, 7, 7, 7, 8, 8, 8, 8, 8, 8, 8, 8, 8, 8, 8, 8, 8, 8, 8, 8, 8, 8, 8, 8, 8, 8, 8, 8, 8, 8, 8, 8, 8, 8, 8, 8, 8, 8, 8, 8, 8, 8, 8, 8, 8, 8, 8, 8, 8, 8, 8, 8, 8, 8, 8, 8, 8, 8, 8, 8, 8, 8, 8, 8, 8, 8, 8, 8, 8, 8, 8, 8, 8, 8, 8, 8, 8, 8, 8, 8, 8, 8, 8, 8, 8, 8, 8, 8, 8, 8, 8, 8, 8, 8, 8, 8, 8, 8, 8, 8, 8, 8, 8, 8, 8, 8, 8, 8, 8, 8, 8, 8, 8, 8, 8, 8, 8, 8, 8, 8, 8, 8, 8, 8, 8, 8, 8, 8, 8, 8, 8, 8]⟩ : ByteArray) a0))) else (none)) else (none)
set_option maxHeartbeats 8000000 in
set_option maxRecDepth 100000 in
theorem bits_Len8.calls (a0 : Int) (r : Int) (w : World) (h : bits_Len8.f a0 = some r) :
    Calls Tryd.prog 85 #[.int .u8 a0] w fun e w' => e = .returned (.int .i64 r) ∧ Drawn0 w w' := by
  have H : (if 0 ≤ a0 then (if a0 < 256 then (some (wrap64 (bt (⟨#[0, 1, 2, 2, 3, 3, 3, 3, 4, 4, 4, 4, 4, 4, 4, 4, 5, 5, 5, 5, 5, 5, 5, 5, 5, 5, 5, 5, 5, 5, 5, 5, 6, 6, 6, 6, 6, 6, 6, 6, 6, 6, 6, 6, 6, 6, 6, 6, 6, 6, 6, 6, 6, 6, 6, 6, 6, 6, 6, 6, 6, 6, 6, 6, 7, 7, 7, 7, 7, 7, 7, 7, 7, 7, 7, 7, 7, 7, 7, 7, 7, 7, 7, 7, 7, 7, 7, 7, 7, 7, 7, 7, 7, 7, 7, 7, 7, 7, 7, 7, 7, 7, 7, 7, 7, 7, 7, 7, 7, 7, 7, 7, 7, 7, 7, 7, 7, 7, 7, 7, 7, 7, 7, 7, 7, 7, 7, 7, 8, 8, 8, 8, 8, 8, 8, 8, 8, 8, 8, 8, 8, 8, 8, 8, 8, 8, 8, 8, 8, 8, 8, 8, 8, 8, 8, 8, 8, 8, 8, 8, 8, 8, 8, 8, 8, 8, 8, 8, 8, 8, 8, 8, 8, 8, 8, 8, 8, 8, 8, 8, 8, 8, 8, 8, 8, 8, 8, 8, 8, 8, 8, 8, 8, 8, 8, 8, 8, 8, 8, 8, 8, 8, 8, 8, 8, 8, 8, 8, 8, 8, 8, 8, 8, 8, 8, 8, 8, 8, 8, 8, 8, 8, 8, 8, 8, 8, 8, 8, 8, 8, 8, 8, 8, 8, 8, 8, 8, 8, 8, 8, 8, 8, 8, 8, 8, 8, 8, 8, 8, 8, 8, 8, 8, 8, 8, 8]⟩ : ByteArray) a0))) else (none)) else (none)) = some r := h
  clear h
  by_cases c2 : 0 ≤ a0
  · rw [if_pos c2] at H
    have c2b0 : decide (0 ≤ a0) = true := decide_eq_true c2
    clear c2
    by_cases c3 : a0 < 256
    · rw [if_pos c3] at H
      have c3b0 : decide (a0 < 256) = true := decide_eq_true c3
      clear c3
      obtain rfl := Option.some.inj H
      have p4 : 0 ≤ (a0 : Int) := of_decide_eq_true (by first | (with_reducible assumption) | assumption)
      have q4 : a0 < (256 : Int) := of_decide_eq_true (by first | (with_reducible assumption) | assumption)
      have hx4 := bt_at (⟨#[0, 1, 2, 2, 3, 3, 3, 3, 4, 4, 4, 4, 4, 4, 4, 4, 5, 5, 5, 5, 5, 5, 5, 5, 5, 5, 5, 5, 5, 5, 5, 5, 6, 6, 6, 6, 6, 6, 6, 6, 6, 6, 6, 6, 6, 6, 6, 6, 6, 6, 6, 6, 6, 6, 6, 6, 6, 6, 6, 6, 6, 6, 6, 6, 7, 7, 7, 7, 7, 7, 7, 7, 7, 7, 7, 7, 7, 7, 7, 7, 7, 7, 7, 7, 7, 7, 7, 7, 7, 7, 7, 7, 7, 7, 7, 7, 7, 7, 7, 7, 7, 7, 7, 7, 7, 7, 7, 7, 7, 7, 7, 7, 7, 7, 7, 7, 7, 7, 7, 7, 7, 7, 7, 7, 7, 7, 7, 7, 8, 8, 8, 8, 8, 8, 8, 8, 8, 8, 8, 8, 8, 8, 8, 8, 8, 8, 8, 8, 8, 8, 8, 8, 8, 8, 8, 8, 8, 8, 8, 8, 8, 8, 8, 8, 8, 8, 8, 8, 8, 8, 8, 8, 8, 8, 8, 8, 8, 8, 8, 8, 8, 8, 8, 8, 8, 8, 8, 8, 8, 8, 8, 8, 8, 8, 8, 8, 8, 8, 8, 8, 8, 8, 8, 8, 8, 8, 8, 8, 8, 8, 8, 8, 8, 8, 8, 8, 8, 8, 8, 8, 8, 8, 8, 8, 8, 8, 8, 8, 8, 8, 8, 8, 8, 8, 8, 8, 8, 8, 8, 8, 8, 8, 8, 8, 8, 8, 8, 8, 8, 8, 8, 8, 8, 8, 8, 8]⟩ : ByteArray) a0
      replace p4 := eq_true p4
      replace q4 := eq_true q4
      go_enter Tryd.func85, Tryd.ntmps85
      go_wp2
      go_ret
      exact ⟨by first | rfl | (simp; done) | (simp [*]; done), by repeat (first | exact Drawn0.refl _ | apply Drawn0.step)⟩
    · rw [if_neg c3] at H
      exact absurd H (by simp)
  · rw [if_neg c2] at H
    exact absurd H (by simp)

/-! ### bits_LeadingZeros8: function 76 -/
def bits_LeadingZeros8.f (a0 : Int) : Option (Int) := (bits_Len8.f a0).bind fun t231 => (some (wrap64 (8 - t231)))
set_option maxHeartbeats 8000000 in
set_option maxRecDepth 100000 in
theorem bits_LeadingZeros8.calls (a0 : Int) (r : Int) (w : World) (h : bits_LeadingZeros8.f a0 = some r) :
    Calls Tryd.prog 76 #[.int .u8 a0] w fun e w' => e = .returned (.int .i64 r) ∧ Drawn0 w w' := by
  have H : ((bits_Len8.f a0).bind fun t231 => (some (wrap64 (8 - t231)))) = some r := h
  clear h
  replace H := Option.bind_eq_some_iff.mp H
  obtain ⟨t231, A20, H⟩ := H
  replace H : (some (wrap64 (8 - t231))) = some r := H
  have A2 := Aside0.mk A20
  clear A20
  obtain rfl := Option.some.inj H
  go_enter Tryd.func76, Tryd.ntmps76
  go_wp2_with (first | ((with_reducible refine gate_callee (f := 85) rfl ?_); refine goesL_ (some 4) rfl rfl Tryd.func85 (by kernel_rfl) rfl #[.int .u8 a0] rfl (by (try simp only [List.map_toArray, List.map_cons, List.map_nil]); first | done | rfl | (simp only [List.length_drop, List.length_take]; rfl)) ?_; (with_reducible refine (bits_Len8.calls a0 t231 _ A2.out).mono ?_); rintro e w' ⟨rfl, ⟨nd, rfl⟩⟩; refine ⟨_, rfl, ?_⟩))
  go_ret
  exact ⟨by first | rfl | (simp; done) | (simp [*]; done), by repeat (first | exact Drawn0.refl _ | apply Drawn0.step)⟩

-- NOT PRINTED: function 65 (zstd_Reader_makeReverseBitReader)

-- NOT PRINTED: function 67 (zstd_reverseBitReader_fetch)

-- NOT PRINTED: function 68 (zstd_reverseBitReader_makeError)

-- NOT PRINTED: function 78 (zstd_Reader_makeBitReader)

-- NOT PRINTED: function 79 (zstd_bitReader_moreBits)

-- NOT PRINTED: function 80 (zstd_bitReader_val)

-- NOT PRINTED: function 81 (zstd_bitReader_makeError)

-- NOT PRINTED: function 82 (zstd_bitReader_backup)

/-! ### bits_Len16: function 87 -/
def bits_Len16.f (a0 : Int) : Option (Int) := if a0 ≥ 256 then (if 0 ≤ ((a0 / 256) % 256) then (if ((a0 / 256) % 256) < 256 then (some (wrap64 (8 + (wrap64 (bt (⟨#[0, 1, 2, 2, 3, 3, 3, 3, 4, 4, 4, 4, 4, 4, 4, 4, 5, 5, 5, 5, 5, 5, 5, 5, 5, 5, 5, 5, 5, 5, 5, 5, 6, 6, 6, 6, 6, 6, 6, 6, 6, 6, 6, 6, 6, 6, 6, 6, 6, 6, 6, 6, 6, 6, 6, 6, 6, 6, 6, 6, 6, 6, 6, 6, 7, 7, 7, 7, 7, 7, 7, 7, 7, 7, 7, 7, 7, 7, 7, 7, 7, 7, 7, 7, 7, 7, 7, 7, 7, 7, 7, 7, 7, 7, 7, 7, 7, 7, 7, 7, 7, 7, 7, 7, 7, 7, 7, 7, 7, 7, 7, 7, 7, 7, 7, 7, 7, 7, 7, 7, 7, 7, 7, 7, 7, 7, 7, 7, 8, 8, 8, 8, 8, 8, 8, 8, 8, 8, 8, 8, 8, 8, 8, 8, 8, 8, 8, 8, 8, 8, 8, 8, 8, 8, 8, 8, 8, 8, 8, 8, 8, 8, 8, 8, 8, 8, 8, 8, 8, 8, 8, 8, 8, 8, 8, 8, 8, 8, 8, 8, 8, 8, 8, 8, 8, 8, 8, 8, 8, 8, 8, 8, 8, 8, 8, 8, 8, 8, 8, 8, 8, 8, 8, 8, 8, 8, 8, 8, 8, 8, 8, 8, 8, 8, 8, 8, 8, 8, 8, 8, 8, 8, 8, 8, 8, 8, 8, 8, 8, 8, 8, 8, 8, 8, 8, 8, 8, 8, 8, 8, 8, 8, 8, 8, 8, 8, 8, 8, 8, 8, 8, 8, 8, 8, 8, 8]⟩ : ByteArray) ((a0 / 256) % 256)))))) else (none)) else (none)) else (if 0 ≤ ((a0) % 256) then (if ((a0) % 256) < 256 then (some (wrap64 (0 + (wrap64 (bt (⟨#[0, 1, 2, 2, 3, 3, 3, 3, 4, 4, 4, 4, 4, 4, 4, 4, 5, 5, 5, 5, 5, 5, 5, 5, 5, 5, 5, 5, 5, 5, 5, 5, 6, 6, 6, 6, 6, 6, 6, 6, 6, 6, 6, 6, 6, 6, 6, 6, 6, 6, 6, 6, 6, 6, 6, 6, 6, 6, 6, 6, 6, 6, 6, 6, 7, 7, 7, 7, 7, 7, 7, 7, 7, 7, 7, 7, 7, 7, 7, 7, 7, 7, 7, 7, 7, 7, 7, 7, 7, 7, 7, 7, 7, 7, 7, 7, 7, 7, 7, 7, 7, 7, 7, 7, 7, 7, 7, 7, 7, 7, 7, 7, 7, 7, 7, 7, 7, 7, 7, 7, 7, 7, 7, 7, 7, 7, 7, 7, 8, 8, 8, 8, 8, 8, 8, 8, 8, 8, 8, 8, 8, 8, 8, 8, 8, 8, 8, 8, 8, 8, 8, 8, 8, 8, 8, 8, 8, 8, 8, 8, 8, 8, 8, 8, 8, 8, 8, 8, 8, 8, 8, 8, 8, 8, 8, 8, 8, 8, 8, 8, 8, 8, 8, 8, 8, 8, 8, 8, 8, 8, 8, 8, 8, 8, 8, 8, 8, 8, 8, 8, 8, 8, 8, 8, 8, 8, 8, 8, 8, 8, 8, 8, 8, 8, 8, 8, 8, 8, 8, 8, 8, 8, 8, 8, 8, 8, 8, 8, 8, 8, 8, 8, 8, 8, 8, 8, 8, 8, 8, 8, 8, 8, 8, 8, 8, 8, 8, 8, 8, 8, 8, 8, 8, 8, 8, 8]⟩ : ByteArray) ((a0) % 256)))))) else (none)) else (none))
set_option maxHeartbeats 8000000 in
set_option maxRecDepth 100000 in
theorem bits_Len16.calls (a0 : Int) (r : Int) (w : World) (h : bits_Len16.f a0 = some r) :
    Calls Tryd.prog 87 #[.int .u16 a0] w fun e w' => e = .returned (.int .i64 r) ∧ Drawn0 w w' := by
  have H : (if a0 ≥ 256 then (if 0 ≤ ((a0 / 256) % 256) then (if ((a0 / 256) % 256) < 256 then (some (wrap64 (8 + (wrap64 (bt (⟨#[0, 1, 2, 2, 3, 3, 3, 3, 4, 4, 4, 4, 4, 4, 4, 4, 5, 5, 5, 5, 5, 5, 5, 5, 5, 5, 5, 5, 5, 5, 5, 5, 6, 6, 6, 6, 6, 6, 6, 6, 6, 6, 6, 6, 6, 6, 6, 6, 6, 6, 6, 6, 6, 6, 6, 6, 6, 6, 6, 6, 6, 6, 6, 6, 7, 7, 7, 7, 7, 7, 7, 7, 7, 7, 7, 7, 7, 7, 7, 7, 7, 7, 7, 7, 7, 7, 7, 7, 7, 7, 7, 7, 7, 7, 7, 7, 7, 7, 7, 7, 7, 7, 7, 7, 7, 7, 7, 7, 7, 7, 7, 7, 7, 7, 7, 7, 7, 7, 7, 7, 7, 7, 7, 7, 7, 7, 7, 7, 8, 8, 8, 8, 8, 8, 8, 8, 8, 8, 8, 8, 8, 8, 8, 8, 8, 8, 8, 8, 8, 8, 8, 8, 8, 8, 8, 8, 8, 8, 8, 8, 8, 8, 8, 8, 8, 8, 8, 8, 8, 8, 8, 8, 8, 8, 8, 8, 8, 8, 8, 8, 8, 8, 8, 8, 8, 8, 8, 8, 8, 8, 8, 8, 8, 8, 8, 8, 8, 8, 8, 8, 8, 8, 8, 8, 8, 8, 8, 8, 8, 8, 8, 8, 8, 8, 8, 8, 8, 8, 8, 8, 8, 8, 8, 8, 8, 8, 8, 8, 8, 8, 8, 8, 8, 8, 8, 8, 8, 8, 8, 8, 8, 8, 8, 8, 8, 8, 8, 8, 8, 8, 8, 8, 8, 8, 8, 8]⟩ : ByteArray) ((a0 / 256) % 256)))))) else (none)) else (none)) else (if 0 ≤ ((a0) % 256) then (if ((a0) % 256) < 256 then (some (wrap64 (0 + (wrap64 (bt (⟨#[0, 1, 2, 2, 3, 3, 3, 3, 4, 4, 4, 4, 4, 4, 4, 4, 5, 5, 5, 5, 5, 5, 5, 5, 5, 5, 5, 5, 5, 5, 5, 5, 6, 6, 6, 6, 6, 6, 6, 6, 6, 6, 6, 6, 6, 6, 6, 6, 6, 6, 6, 6, 6, 6, 6, 6, 6, 6, 6, 6, 6, 6, 6, 6, 7, 7, 7, 7, 7, 7, 7, 7, 7, 7, 7, 7, 7, 7, 7, 7, 7, 7, 7, 7, 7, 7, 7, 7, 7, 7, 7, 7, 7, 7, 7, 7, 7, 7, 7, 7, 7, 7, 7, 7, 7, 7, 7, 7, 7, 7, 7, 7, 7, 7, 7, 7, 7, 7, 7, 7, 7, 7, 7, 7, 7, 7, 7, 7, 8, 8, 8, 8, 8, 8, 8, 8, 8, 8, 8, 8, 8, 8, 8, 8, 8, 8, 8, 8, 8, 8, 8, 8, 8, 8, 8, 8, 8, 8, 8, 8, 8, 8, 8, 8, 8, 8, 8, 8, 8, 8, 8, 8, 8, 8, 8, 8, 8, 8, 8, 8, 8, 8, 8, 8, 8, 8, 8, 8, 8, 8, 8, 8, 8, 8, 8, 8, 8, 8, 8, 8, 8, 8, 8, 8, 8, 8, 8, 8, 8, 8, 8, 8, 8, 8, 8, 8, 8, 8, 8, 8, 8, 8, 8, 8, 8, 8, 8, 8, 8, 8, 8, 8, 8, 8, 8, 8, 8, 8, 8, 8, 8, 8, 8, 8, 8, 8, 8, 8, 8, 8, 8, 8, 8, 8, 8, 8]⟩ : ByteArray) ((a0) % 256)))))) else (none)) else (none))) = some r := h
  clear h
  by_cases c2 : a0 ≥ 256
  · rw [if_pos c2] at H
    have c2b0 : decide (256 ≤ a0) = true := decide_eq_true c2
    clear c2
    obtain ⟨ji3, hji3⟩ : ∃ j_ : Int, ((a0 / 256) % 256) = j_ := ⟨_, rfl⟩
    replace H : (if 0 ≤ (ji3) then (if (ji3) < 256 then (some (wrap64 (8 + (wrap64 (bt (⟨#[0, 1, 2, 2, 3, 3, 3, 3, 4, 4, 4, 4, 4, 4, 4, 4, 5, 5, 5, 5, 5, 5, 5, 5, 5, 5, 5, 5, 5, 5, 5, 5, 6, 6, 6, 6, 6, 6, 6, 6, 6, 6, 6, 6, 6, 6, 6, 6, 6, 6, 6, 6, 6, 6, 6, 6, 6, 6, 6, 6, 6, 6, 6, 6, 7, 7, 7, 7, 7, 7, 7, 7, 7, 7, 7, 7, 7, 7, 7, 7, 7, 7, 7, 7, 7, 7, 7, 7, 7, 7, 7, 7, 7, 7, 7, 7, 7, 7, 7, 7, 7, 7, 7, 7, 7, 7, 7, 7, 7, 7, 7, 7, 7, 7, 7, 7, 7, 7, 7, 7, 7, 7, 7, 7, 7, 7, 7, 7, 8, 8, 8, 8, 8, 8, 8, 8, 8, 8, 8, 8, 8, 8, 8, 8, 8, 8, 8, 8, 8, 8, 8, 8, 8, 8, 8, 8, 8, 8, 8, 8, 8, 8, 8, 8, 8, 8, 8, 8, 8, 8, 8, 8, 8, 8, 8, 8, 8, 8, 8, 8, 8, 8, 8, 8, 8, 8, 8, 8, 8, 8, 8, 8, 8, 8, 8, 8, 8, 8, 8, 8, 8, 8, 8, 8, 8, 8, 8, 8, 8, 8, 8, 8, 8, 8, 8, 8, 8, 8, 8, 8, 8, 8, 8, 8, 8, 8, 8, 8, 8, 8, 8, 8, 8, 8, 8, 8, 8, 8, 8, 8, 8, 8, 8, 8, 8, 8, 8, 8, 8, 8, 8, 8, 8, 8, 8, 8]⟩ : ByteArray) (ji3)))))) else (none)) else (none)) = some r := by first | (rw [hji3] at H; exact H) | (simp only [hji3] at H ⊢; exact H)
    by_cases c4 : 0 ≤ (ji3)
    · rw [if_pos c4] at H
      have c4b0 : decide (0 ≤ (ji3)) = true := decide_eq_true c4
      clear c4
      by_cases c5 : (ji3) < 256
      · rw [if_pos c5] at H
        have c5b0 : decide ((ji3) < 256) = true := decide_eq_true c5
        clear c5
        obtain rfl := Option.some.inj H
        have p6 : 0 ≤ ((ji3) : Int) := of_decide_eq_true (by first | (with_reducible assumption) | assumption)
        have q6 : (ji3) < (256 : Int) := of_decide_eq_true (by first | (with_reducible assumption) | assumption)
        have hx6 := bt_at (⟨#[0, 1, 2, 2, 3, 3, 3, 3, 4, 4, 4, 4, 4, 4, 4, 4, 5, 5, 5, 5, 5, 5, 5, 5, 5, 5, 5, 5, 5, 5, 5, 5, 6, 6, 6, 6, 6, 6, 6, 6, 6, 6, 6, 6, 6, 6, 6, 6, 6, 6, 6, 6, 6, 6, 6, 6, 6, 6, 6, 6, 6, 6, 6, 6, 7, 7, 7, 7, 7, 7, 7, 7, 7, 7, 7, 7, 7, 7, 7, 7, 7, 7, 7, 7, 7, 7, 7, 7, 7, 7, 7, 7, 7, 7, 7, 7, 7, 7, 7, 7, 7, 7, 7, 7, 7, 7, 7, 7, 7, 7, 7, 7, 7, 7, 7, 7, 7, 7, 7, 7, 7, 7, 7, 7, 7, 7, 7, 7, 8, 8, 8, 8, 8, 8, 8, 8, 8, 8, 8, 8, 8, 8, 8, 8, 8, 8, 8, 8, 8, 8, 8, 8, 8, 8, 8, 8, 8, 8, 8, 8, 8, 8, 8, 8, 8, 8, 8, 8, 8, 8, 8, 8, 8, 8, 8, 8, 8, 8, 8, 8, 8, 8, 8, 8, 8, 8, 8, 8, 8, 8, 8, 8, 8, 8, 8, 8, 8, 8, 8, 8, 8, 8, 8, 8, 8, 8, 8, 8, 8, 8, 8, 8, 8, 8, 8, 8, 8, 8, 8, 8, 8, 8, 8, 8, 8, 8, 8, 8, 8, 8, 8, 8, 8, 8, 8, 8, 8, 8, 8, 8, 8, 8, 8, 8, 8, 8, 8, 8, 8, 8, 8, 8, 8, 8, 8, 8]⟩ : ByteArray) (ji3)
        replace p6 := eq_true p6
        replace q6 := eq_true q6
        go_enter Tryd.func87, Tryd.ntmps87
        go_wp2
        go_ret
        exact ⟨by first | rfl | (simp; done) | (simp only [← hji3] <;> (first | rfl | simp)) | (simp [*]; done), by repeat (first | exact Drawn0.refl _ | apply Drawn0.step)⟩
      · rw [if_neg c5] at H
        exact absurd H (by simp)
    · rw [if_neg c4] at H
      exact absurd H (by simp)
  · rw [if_neg c2] at H
    have c2b0 : decide (256 ≤ a0) = false := decide_eq_false c2
    clear c2
    obtain ⟨ji7, hji7⟩ : ∃ j_ : Int, ((a0) % 256) = j_ := ⟨_, rfl⟩
    replace H : (if 0 ≤ (ji7) then (if (ji7) < 256 then (some (wrap64 (0 + (wrap64 (bt (⟨#[0, 1, 2, 2, 3, 3, 3, 3, 4, 4, 4, 4, 4, 4, 4, 4, 5, 5, 5, 5, 5, 5, 5, 5, 5, 5, 5, 5, 5, 5, 5, 5, 6, 6, 6, 6, 6, 6, 6, 6, 6, 6, 6, 6, 6, 6, 6, 6, 6, 6, 6, 6, 6, 6, 6, 6, 6, 6, 6, 6, 6, 6, 6, 6, 7, 7, 7, 7, 7, 7, 7, 7, 7, 7, 7, 7, 7, 7, 7, 7, 7, 7, 7, 7, 7, 7, 7, 7, 7, 7, 7, 7, 7, 7, 7, 7, 7, 7, 7, 7, 7, 7, 7, 7, 7, 7, 7, 7, 7, 7, 7, 7, 7, 7, 7, 7, 7, 7, 7, 7, 7, 7, 7, 7, 7, 7, 7, 7, 8, 8, 8, 8, 8, 8, 8, 8, 8, 8, 8, 8, 8, 8, 8, 8, 8, 8, 8, 8, 8, 8, 8, 8, 8, 8, 8, 8, 8, 8, 8, 8, 8, 8, 8, 8, 8, 8, 8, 8, 8, 8, 8, 8, 8, 8, 8, 8, 8, 8, 8, 8, 8, 8, 8, 8, 8, 8, 8, 8, 8, 8, 8, 8, 8, 8, 8, 8, 8, 8, 8, 8, 8, 8, 8, 8, 8, 8, 8, 8, 8, 8, 8, 8, 8, 8, 8, 8, 8, 8, 8, 8, 8, 8, 8, 8, 8, 8, 8, 8, 8, 8, 8, 8, 8, 8, 8, 8, 8, 8, 8, 8, 8, 8, 8, 8, 8, 8, 8, 8, 8, 8, 8, 8, 8, 8, 8, 8]⟩ : ByteArray) (ji7)))))) else (none)) else (none)) = some r := by first | (rw [hji7] at H; exact H) | (simp only [hji7] at H ⊢; exact H)
    by_cases c8 : 0 ≤ (ji7)
    · rw [if_pos c8] at H
      have c8b0 : decide (0 ≤ (ji7)) = true := decide_eq_true c8
      clear c8
      by_cases c9 : (ji7) < 256
      · rw [if_pos c9] at H
        have c9b0 : decide ((ji7) < 256) = true := decide_eq_true c9
        clear c9
        obtain rfl := Option.some.inj H
        have p10 : 0 ≤ ((ji7) : Int) := of_decide_eq_true (by first | (with_reducible assumption) | assumption)
        have q10 : (ji7) < (256 : Int) := of_decide_eq_true (by first | (with_reducible assumption) | assumption)
        have hx10 := bt_at (⟨#[0, 1, 2, 2, 3, 3, 3, 3, 4, 4, 4, 4, 4, 4, 4, 4, 5, 5, 5, 5, 5, 5, 5, 5, 5, 5, 5, 5, 5, 5, 5, 5, 6, 6, 6, 6, 6, 6, 6, 6, 6, 6, 6, 6, 6, 6, 6, 6, 6, 6, 6, 6, 6, 6, 6, 6, 6, 6, 6, 6, 6, 6, 6, 6, 7, 7, 7, 7, 7, 7, 7, 7, 7, 7, 7, 7, 7, 7, 7, 7, 7, 7, 7, 7, 7, 7, 7, 7, 7, 7, 7, 7, 7, 7, 7, 7, 7, 7, 7, 7, 7, 7, 7, 7, 7, 7, 7, 7, 7, 7, 7, 7, 7, 7, 7, 7, 7, 7, 7, 7, 7, 7, 7, 7, 7, 7, 7, 7, 8, 8, 8, 8, 8, 8, 8, 8, 8, 8, 8, 8, 8, 8, 8, 8, 8, 8, 8, 8, 8, 8, 8, 8, 8, 8, 8, 8, 8, 8, 8, 8, 8, 8, 8, 8, 8, 8, 8, 8, 8, 8, 8, 8, 8, 8, 8, 8, 8, 8, 8, 8, 8, 8, 8, 8, 8, 8, 8, 8, 8, 8, 8, 8, 8, 8, 8, 8, 8, 8, 8, 8, 8, 8, 8, 8, 8, 8, 8, 8, 8, 8, 8, 8, 8, 8, 8, 8, 8, 8, 8, 8, 8, 8, 8, 8, 8, 8, 8, 8, 8, 8, 8, 8, 8, 8, 8, 8, 8, 8, 8, 8, 8, 8, 8, 8, 8, 8, 8, 8, 8, 8, 8, 8, 8, 8, 8, 8]⟩ : ByteArray) (ji7)
        replace p10 := eq_true p10
        replace q10 := eq_true q10
        go_enter Tryd.func87, Tryd.ntmps87
        go_wp2
        go_ret
        exact ⟨by first | rfl | (simp; done) | (simp only [← hji7] <;> (first | rfl | simp)) | (simp [*]; done), by repeat (first | exact Drawn0.refl _ | apply Drawn0.step)⟩
      · rw [if_neg c9] at H
        exact absurd H (by simp)
    · rw [if_neg c8] at H
      exact absurd H (by simp)

/-! ### bits_LeadingZeros16: function 86 -/
def bits_LeadingZeros16.f (a0 : Int) : Option (Int) := (bits_Len16.f a0).bind fun t232 => (some (wrap64 (16 - t232)))
set_option maxHeartbeats 8000000 in
set_option maxRecDepth 100000 in
theorem bits_LeadingZeros16.calls (a0 : Int) (r : Int) (w : World) (h : bits_LeadingZeros16.f a0 = some r) :
    Calls Tryd.prog 86 #[.int .u16 a0] w fun e w' => e = .returned (.int .i64 r) ∧ Drawn0 w w' := by
  have H : ((bits_Len16.f a0).bind fun t232 => (some (wrap64 (16 - t232)))) = some r := h
  clear h
  replace H := Option.bind_eq_some_iff.mp H
  obtain ⟨t232, A20, H⟩ := H
  replace H : (some (wrap64 (16 - t232))) = some r := H
  have A2 := Aside0.mk A20
  clear A20
  obtain rfl := Option.some.inj H
  go_enter Tryd.func86, Tryd.ntmps86
  go_wp2_with (first | ((with_reducible refine gate_callee (f := 87) rfl ?_); refine goesL_ (some 4) rfl rfl Tryd.func87 (by kernel_rfl) rfl #[.int .u16 a0] rfl (by (try simp only [List.map_toArray, List.map_cons, List.map_nil]); first | done | rfl | (simp only [List.length_drop, List.length_take]; rfl)) ?_; (with_reducible refine (bits_Len16.calls a0 t232 _ A2.out).mono ?_); rintro e w' ⟨rfl, ⟨nd, rfl⟩⟩; refine ⟨_, rfl, ?_⟩))
  go_ret
  exact ⟨by first | rfl | (simp; done) | (simp [*]; done), by repeat (first | exact Drawn0.refl _ | apply Drawn0.step)⟩

-- NOT PRINTED: function 83 (zstd_Reader_buildFSE)

-- NOT PRINTED: function 73 (zstd_Reader_readFSE)

-- NOT PRINTED: function 74 (zstd_reverseBitReader_val)

end Go.Proofs.YtopadgohinoomaaDoor.PC
