/- What some of the functions that the laws use answer, as plain Lean functions, and that the calls come to these answers: written by a program of this session, after the way of the kit's print; some lines mended by hand. -/
import Derived.Test.YtopadgohinoomaaDoorPC0
namespace Go.Proofs.YtopadgohinoomaaDoor.PC
open Go.RowKit Go.Proofs.YtopadgohinoomaaDoorW.PrintWords Go.Proofs.YtopadgohinoomaaDoorW.PrintLast Go.Proofs.YtopadgohinoomaaDoorW.PrintMore
attribute [local go_sem] max2_int min2_int max_two min_two max_three min_three max_four min_four   -- for this text's walks alone
set_option linter.unusedVariables false
set_option linter.unusedSimpArgs false

/-! ### spec_TooLong: function 9 -/
def spec_TooLong.l0 : Nat → Int → List Int → Int → Int → Option (Bool)
  | 0, _, _, _, _ => none
  | k + 1, x3, x6, x7, x8 => if x8 < x7 then (if 0 ≤ x8 then (if x8 < (x6.length : Int) then (if (rd x6 x8) > (wrap64 (1000000 - x3)) then (some true) else (spec_TooLong.l0 k (wrap64 (x3 + (rd x6 x8))) x6 x7 (wrap64 (x8 + 1)))) else (none)) else (none)) else (some false)
def spec_TooLong.f (k : Nat) (l0 : List Int) : Option (Bool) := spec_TooLong.l0 k 0 l0 (l0.length : Int) 0
theorem spec_TooLong.mono_l : ∀ k, (∀ y0 y1 y2 y3, LeO (spec_TooLong.l0 k y0 y1 y2 y3) (spec_TooLong.l0 (k + 1) y0 y1 y2 y3))
  | 0 => fun _ _ _ _ r h => by simp [spec_TooLong.l0] at h
  | k + 1 => by
    have ih0 := spec_TooLong.mono_l k
    · intro y0 y1 y2 y3
      unfold spec_TooLong.l0
      repeat' first
      | (with_reducible exact ih0 _ _ _ _)
      | (with_reducible exact LeO.refl _)
      | (with_reducible exact LeO.none _)
      | (with_reducible refine LeO.ite ?_ ?_)
      | (with_reducible refine LeO.bind ?_ (fun _ => ?_))
      | exact ih0 _ _ _ _
      | exact LeO.none _
      | refine LeO.ite ?_ ?_
      | refine LeO.bind ?_ (fun _ => ?_)
theorem spec_TooLong.mono : ∀ a0 k, LeO (spec_TooLong.f k a0) (spec_TooLong.f (k + 1) a0) := by
  intro a0 k
  have ih0 := spec_TooLong.mono_l k
  unfold spec_TooLong.f
  repeat' first
      | (with_reducible exact ih0 _ _ _ _)
      | (with_reducible exact LeO.refl _)
      | (with_reducible exact LeO.none _)
      | (with_reducible refine LeO.ite ?_ ?_)
      | (with_reducible refine LeO.bind ?_ (fun _ => ?_))
      | exact ih0 _ _ _ _
      | exact LeO.none _
      | refine LeO.ite ?_ ?_
      | refine LeO.bind ?_ (fun _ => ?_)
set_option maxHeartbeats 8000000 in
set_option maxRecDepth 100000 in
theorem spec_TooLong.calls (k : Nat) (A0 : Option Addr) (c0 : Nat) (l0 : List Int) (r : Bool) (w : World) (hr0 : Kd.C (Kd.int .i64) w A0 l0.length l0) (hc0 : l0.length ≤ c0) (h : spec_TooLong.f k l0 = some r) :
    Calls Tryd.prog 9 #[.slice A0 l0.length c0] w fun e w' => e = .returned (.bool r) ∧ Drawn0 w w' := by
  have HR0 := Aside0.mk hr0
  have HC0 := Aside0.mk hc0
  clear hr0 hc0
  have H : (spec_TooLong.l0 k 0 l0 (l0.length : Int) 0) = some r := h
  clear h
  have H' := Aside0.mk H
  clear H
  go_enter Tryd.func9, Tryd.ntmps9
  go_wp2
  go_loopg [3, 8] k (fun kq v3 v8 w' => ∃ (x3_1 : Int) (x8_1 : Int), v3 = .int .i64 x3_1 ∧ v8 = .int .i64 x8_1 ∧ Aside0 (spec_TooLong.l0 kq x3_1 l0 (l0.length : Int) x8_1 = some r) ∧ Aside0 (kq ≤ k) ∧ Drawn0 w w')
  case atStart => exact ⟨(0), (0), (by first | rfl | (simp; done) | (simp [*]; done)), (by first | rfl | (simp; done) | (simp [*]; done)), H', ⟨Nat.le_refl _⟩, by repeat (first | exact Drawn0.refl _ | apply Drawn0.step)⟩
  case round =>
    clear H'
    obtain ⟨x3_1, x8_1, rfl, rfl, HA, HK1, ⟨m1, rfl⟩⟩ := hrel
    cases gk with
    | zero => exact absurd HA.out (by simp [spec_TooLong.l0])
    | succ k1 =>
      have H := HA.out
      clear HA
      simp only [spec_TooLong.l0] at H
      by_cases c2 : x8_1 < (l0.length : Int)
      · rw [if_pos c2] at H
        have c2b0 : decide (x8_1 < (l0.length : Int)) = true := decide_eq_true c2
        clear c2
        by_cases c3 : 0 ≤ x8_1
        · rw [if_pos c3] at H
          have c3b0 : decide (0 ≤ x8_1) = true := decide_eq_true c3
          clear c3
          by_cases c4 : x8_1 < (l0.length : Int)
          · rw [if_pos c4] at H
            have c4b0 : decide (x8_1 < (l0.length : Int)) = true := decide_eq_true c4
            clear c4
            by_cases c5 : (rd l0 x8_1) > (wrap64 (1000000 - x3_1))
            · rw [if_pos c5] at H
              have c5b0 : decide ((wrap64 (1000000 - x3_1)) < (rd l0 x8_1)) = true := decide_eq_true c5
              clear c5
              obtain rfl := Option.some.inj H
              have p101 : 0 ≤ (x8_1 : Int) := of_decide_eq_true (by first | (with_reducible assumption) | assumption)
              have q101 : x8_1 < (l0.length : Int) := of_decide_eq_true (by first | (with_reducible assumption) | assumption)
              obtain ⟨ad101, e101, hx101_0⟩ := Kd.at_int HR0.out x8_1 p101 q101
              cases e101
              replace p101 := eq_true p101
              replace q101 := eq_true q101
              go_wp2
              go_ret
              exact ⟨by first | rfl | (simp; done) | (simp [*]; done), by repeat (first | exact Drawn0.refl _ | apply Drawn0.step)⟩
            · rw [if_neg c5] at H
              have c5b0 : decide ((wrap64 (1000000 - x3_1)) < (rd l0 x8_1)) = false := decide_eq_false c5
              clear c5
              have H' := Aside0.mk H
              clear H
              have p101 : 0 ≤ (x8_1 : Int) := of_decide_eq_true (by first | (with_reducible assumption) | assumption)
              have q101 : x8_1 < (l0.length : Int) := of_decide_eq_true (by first | (with_reducible assumption) | assumption)
              obtain ⟨ad101, e101, hx101_0⟩ := Kd.at_int HR0.out x8_1 p101 q101
              cases e101
              replace p101 := eq_true p101
              replace q101 := eq_true q101
              go_wp2
              go_roundg k1
              case measure => have := HK1.out; omega
              case rel => exact ⟨(wrap64 (x3_1 + (rd l0 x8_1))), (wrap64 (x8_1 + 1)), (by first | rfl | (simp; done) | (simp [*]; done)), (by first | rfl | (simp; done) | (simp [*]; done)), H', ⟨by have := HK1.out; omega⟩, by repeat (first | exact Drawn0.refl _ | apply Drawn0.step)⟩
          · rw [if_neg c4] at H
            exact absurd H (by simp)
        · rw [if_neg c3] at H
          exact absurd H (by simp)
      · rw [if_neg c2] at H
        have c2b0 : decide (x8_1 < (l0.length : Int)) = false := decide_eq_false c2
        clear c2
        obtain rfl := Option.some.inj H
        go_wp2
        go_ret
        exact ⟨by first | rfl | (simp; done) | (simp [*]; done), by repeat (first | exact Drawn0.refl _ | apply Drawn0.step)⟩

/-! ### spec_literalExtra: function 59 -/
def spec_literalExtra.f  : Option (List Int) := some (([1, 1, 1, 1, 2, 2, 3, 3, 4, 6, 7, 8, 9, 10, 11, 12, 13, 14, 15, 16] : List Int))
set_option maxHeartbeats 8000000 in
set_option maxRecDepth 100000 in
theorem spec_literalExtra.calls  (r : List Int) (w : World) (h : spec_literalExtra.f  = some r) :
    Calls Tryd.prog 59 #[] w fun e w' => ∃ v0_ : Value, e = .returned (v0_) ∧ Kd.R (Kd.int .i64) 3 w' w.heap.size (fun _ => True) v0_ r ∧ Below w.heap.size w w' := by
  have HB := Aside0.mk (Below.refl w.heap.size w)
  have H : (some (([1, 1, 1, 1, 2, 2, 3, 3, 4, 6, 7, 8, 9, 10, 11, 12, 13, 14, 15, 16] : List Int))) = some r := h
  clear h
  obtain ⟨y102, hy102⟩ : ∃ y_ : List Int, y_ = (([1, 1, 1, 1, 2, 2, 3, 3, 4, 6, 7, 8, 9, 10, 11, 12, 13, 14, 15, 16] : List Int)) := ⟨_, rfl⟩
  replace H : (some y102) = some r := by first | (rw [hy102]; with_reducible exact H) | (have H2_ := (Option.bind_some _ _).symm.trans H; rw [hy102]; with_reducible exact H2_) | (have H2_ := (Option.bind_some _ _).symm.trans H; with_reducible exact H2_) | with_reducible exact H | (rw [hy102]; exact H) | exact H
  have Ny102 := Aside0.mk hy102
  clear hy102
  obtain rfl := Option.some.inj H
  go_enter Tryd.func59, Tryd.ntmps59
  go_wp2_with (first | ((with_reducible refine gate_dst (N := 1) rfl ?_); refine Kd.R_lit (Kd.int .i64) _ 3 ?hg (N := 1) ?hd (xs := ([1, 1, 1, 1, 2, 2, 3, 3, 4, 6, 7, 8, 9, 10, 11, 12, 13, 14, 15, 16] : List Int)) (inner := [.int .i64 1, .int .i64 1, .int .i64 1, .int .i64 1, .int .i64 2, .int .i64 2, .int .i64 3, .int .i64 3, .int .i64 4, .int .i64 6, .int .i64 7, .int .i64 8, .int .i64 9, .int .i64 10, .int .i64 11, .int .i64 12, .int .i64 13, .int .i64 14, .int .i64 15, .int .i64 16]) (ok := fun _ => True) (okp := fun _ => True) ?hr ?hp (fun _ hk => hk) trivial (Below.refl _ _) (Nat.le_refl _) (by simp) ?_; (case hd => rfl); (case hg => rfl); (case hr => first | (go_simp; done) | (go_simp; rfl)); (case hp => exact (Reps.one (show Kd.M (Kd.int .i64) _ _ _ 1 [.int .i64 1] from rfl) (Reps.one (show Kd.M (Kd.int .i64) _ _ _ 1 [.int .i64 1] from rfl) (Reps.one (show Kd.M (Kd.int .i64) _ _ _ 1 [.int .i64 1] from rfl) (Reps.one (show Kd.M (Kd.int .i64) _ _ _ 1 [.int .i64 1] from rfl) (Reps.one (show Kd.M (Kd.int .i64) _ _ _ 2 [.int .i64 2] from rfl) (Reps.one (show Kd.M (Kd.int .i64) _ _ _ 2 [.int .i64 2] from rfl) (Reps.one (show Kd.M (Kd.int .i64) _ _ _ 3 [.int .i64 3] from rfl) (Reps.one (show Kd.M (Kd.int .i64) _ _ _ 3 [.int .i64 3] from rfl) (Reps.one (show Kd.M (Kd.int .i64) _ _ _ 4 [.int .i64 4] from rfl) (Reps.one (show Kd.M (Kd.int .i64) _ _ _ 6 [.int .i64 6] from rfl) (Reps.one (show Kd.M (Kd.int .i64) _ _ _ 7 [.int .i64 7] from rfl) (Reps.one (show Kd.M (Kd.int .i64) _ _ _ 8 [.int .i64 8] from rfl) (Reps.one (show Kd.M (Kd.int .i64) _ _ _ 9 [.int .i64 9] from rfl) (Reps.one (show Kd.M (Kd.int .i64) _ _ _ 10 [.int .i64 10] from rfl) (Reps.one (show Kd.M (Kd.int .i64) _ _ _ 11 [.int .i64 11] from rfl) (Reps.one (show Kd.M (Kd.int .i64) _ _ _ 12 [.int .i64 12] from rfl) (Reps.one (show Kd.M (Kd.int .i64) _ _ _ 13 [.int .i64 13] from rfl) (Reps.one (show Kd.M (Kd.int .i64) _ _ _ 14 [.int .i64 14] from rfl) (Reps.one (show Kd.M (Kd.int .i64) _ _ _ 15 [.int .i64 15] from rfl) (Reps.one (show Kd.M (Kd.int .i64) _ _ _ 16 [.int .i64 16] from rfl) (Reps.none _ _)))))))))))))))))))))); intro v103 w1 ho2 hb hg_ hnew_; clear hg_ hnew_; (first | rw [← Ny102.out] at ho2 | (simp only [Int.reduceToNat] at ho2; rw [← Ny102.out] at ho2)); have n0_ := Aside0.mk (Kd.R_lower ho2 (below_size (by repeat (first | (with_reducible first | exact HB.out | apply below_alloc | apply pw_below_drewN | apply below_drew1) | exact HB.out)))); have n1_ := Aside0.mk (below_step (by repeat (first | (with_reducible first | exact HB.out | apply below_alloc | apply pw_below_drewN | apply below_drew1) | exact HB.out)) hb); clear HB; have HO104 := n0_; have HB := n1_; clear n0_ n1_; clear hb ho2))
  go_ret
  exact ⟨_, by first | rfl | (simp [errW_none, errW_some] <;> rfl) | (simp [*, errW_none, errW_some] <;> rfl), by (with_reducible repeat (first | apply Kd.R_alloc | apply Kd.R_drewN | apply Kd.R_drew)); exact HO104.out, by repeat (first | (with_reducible first | exact HB.out | apply below_alloc | apply pw_below_drewN | apply below_drew1) | exact HB.out)⟩

/-! ### spec_LiteralValue: function 43 -/
def spec_LiteralValue.l0 : Nat → Int → List Int → Int → List Int → Int → Int → Option (Int × Int × Bool)
  | 0, _, _, _, _, _, _ => none
  | k + 1, x0, x5, x6, x23, x24, x25 => if x25 < x24 then (if 0 ≤ x25 then (if x25 < (x23.length : Int) then (if 0 ≤ (rd x23 x25) then (spec_LiteralValue.l0 k x0 x5 (wrap64 (x6 + (shl .i64 1 (rd x23 x25)))) x23 x24 (wrap64 (x25 + 1))) else (none)) else (none)) else (none)) else (if 0 ≤ (wrap64 (x0 - 16)) then (if (wrap64 (x0 - 16)) < (x5.length : Int) then (some (x6, rd x5 (wrap64 (x0 - 16)), true)) else (none)) else (none))
def spec_LiteralValue.f (k : Nat) (a0 : Int) : Option (Int × Int × Bool) := (spec_literalExtra.f).bind fun t105 => (if a0 < 16 then (some (a0, 0, decide (a0 ≥ 0))) else (if (wrap64 (a0 - 16)) ≥ (t105.length : Int) then (some (0, 0, false)) else (if 0 ≤ (wrap64 (a0 - 16)) then (if (wrap64 (a0 - 16)) ≤ (t105.length : Int) then ((some (t105.take ((wrap64 (a0 - 16)) : Int).toNat : List Int)).bind fun y108 => (spec_LiteralValue.l0 k a0 t105 16 y108 (y108.length : Int) 0)) else (none)) else (none))))
theorem spec_LiteralValue.mono_l : ∀ k, (∀ y0 y1 y2 y3 y4 y5, LeO (spec_LiteralValue.l0 k y0 y1 y2 y3 y4 y5) (spec_LiteralValue.l0 (k + 1) y0 y1 y2 y3 y4 y5))
  | 0 => fun _ _ _ _ _ _ r h => by simp [spec_LiteralValue.l0] at h
  | k + 1 => by
    have ih0 := spec_LiteralValue.mono_l k
    · intro y0 y1 y2 y3 y4 y5
      unfold spec_LiteralValue.l0
      repeat' first
      | (with_reducible exact ih0 _ _ _ _ _ _)
      | (with_reducible exact LeO.refl _)
      | (with_reducible exact LeO.none _)
      | (with_reducible refine LeO.ite ?_ ?_)
      | (with_reducible refine LeO.bind ?_ (fun _ => ?_))
      | exact ih0 _ _ _ _ _ _
      | exact LeO.none _
      | refine LeO.ite ?_ ?_
      | refine LeO.bind ?_ (fun _ => ?_)
theorem spec_LiteralValue.mono : ∀ a0 k, LeO (spec_LiteralValue.f k a0) (spec_LiteralValue.f (k + 1) a0) := by
  intro a0 k
  have ih0 := spec_LiteralValue.mono_l k
  unfold spec_LiteralValue.f
  repeat' first
      | (with_reducible exact ih0 _ _ _ _ _ _)
      | (with_reducible exact LeO.refl _)
      | (with_reducible exact LeO.none _)
      | (with_reducible refine LeO.ite ?_ ?_)
      | (with_reducible refine LeO.bind ?_ (fun _ => ?_))
      | exact ih0 _ _ _ _ _ _
      | exact LeO.none _
      | refine LeO.ite ?_ ?_
      | refine LeO.bind ?_ (fun _ => ?_)
set_option maxHeartbeats 8000000 in
set_option maxRecDepth 100000 in
theorem spec_LiteralValue.calls (k : Nat) (a0 : Int) (r1 : Int) (r2 : Int) (r3 : Bool) (w : World) (h : spec_LiteralValue.f k a0 = some (r1, r2, r3)) :
    Calls Tryd.prog 43 #[.int .i64 a0] w fun e w' => e = .returned (.tuple #[.int .i64 r1, .int .i64 r2, .bool r3]) ∧ Below w.heap.size w w' := by
  have HB := Aside0.mk (Below.refl w.heap.size w)
  have H : ((spec_literalExtra.f).bind fun t105 => (if a0 < 16 then (some (a0, 0, decide (a0 ≥ 0))) else (if (wrap64 (a0 - 16)) ≥ (t105.length : Int) then (some (0, 0, false)) else (if 0 ≤ (wrap64 (a0 - 16)) then (if (wrap64 (a0 - 16)) ≤ (t105.length : Int) then ((some (t105.take ((wrap64 (a0 - 16)) : Int).toNat : List Int)).bind fun y108 => (spec_LiteralValue.l0 k a0 t105 16 y108 (y108.length : Int) 0)) else (none)) else (none))))) = some (r1, r2, r3) := h
  clear h
  replace H := Option.bind_eq_some_iff.mp H
  obtain ⟨t105, A20, H⟩ := H
  replace H : (if a0 < 16 then (some (a0, 0, decide (a0 ≥ 0))) else (if (wrap64 (a0 - 16)) ≥ (t105.length : Int) then (some (0, 0, false)) else (if 0 ≤ (wrap64 (a0 - 16)) then (if (wrap64 (a0 - 16)) ≤ (t105.length : Int) then ((some (t105.take ((wrap64 (a0 - 16)) : Int).toNat : List Int)).bind fun y108 => (spec_LiteralValue.l0 k a0 t105 16 y108 (y108.length : Int) 0)) else (none)) else (none)))) = some (r1, r2, r3) := H
  have A2 := Aside0.mk A20
  clear A20
  by_cases c3 : a0 < 16
  · rw [if_pos c3] at H
    have c3b0 : decide (a0 < 16) = true := decide_eq_true c3
    clear c3
    simp only [Option.some.injEq, Prod.mk.injEq] at H
    obtain ⟨rfl, rfl, rfl⟩ := H
    go_enter Tryd.func43, Tryd.ntmps43
    go_wp2_with (first | (go_at_call 59; (with_reducible refine (spec_literalExtra.calls  t105 _ A2.out).mono ?_); rintro e w4 ⟨v106, rfl, ho0, hb⟩; have n0_ := Aside0.mk (Kd.R_lower ho0 (below_size (by repeat (first | (with_reducible first | exact HB.out | apply below_alloc | apply pw_below_drewN | apply below_drew1) | exact HB.out)))); have n1_ := Aside0.mk (below_step (by repeat (first | (with_reducible first | exact HB.out | apply below_alloc | apply pw_below_drewN | apply below_drew1) | exact HB.out)) hb); clear HB; have HO107 := n0_; have HB := n1_; clear n0_ n1_; (try clear hb); (try clear hb2); (try clear hk); (try clear hi); (try clear ho0)))
    repeat (go_quiet (first | (go_at_call 59; (with_reducible refine (spec_literalExtra.calls  t105 _ A2.out).mono ?_); rintro e w4 ⟨v106, rfl, ho0, hb⟩; have n0_ := Aside0.mk (Kd.R_lower ho0 (below_size (by repeat (first | (with_reducible first | exact HB.out | apply below_alloc | apply pw_below_drewN | apply below_drew1) | exact HB.out)))); have n1_ := Aside0.mk (below_step (by repeat (first | (with_reducible first | exact HB.out | apply below_alloc | apply pw_below_drewN | apply below_drew1) | exact HB.out)) hb); clear HB; have HO107 := n0_; have HB := n1_; clear n0_ n1_; (try clear hb); (try clear hb2); (try clear hk); (try clear hi); (try clear ho0))); try go_wp2_with (first | (go_at_call 59; (with_reducible refine (spec_literalExtra.calls  t105 _ A2.out).mono ?_); rintro e w4 ⟨v106, rfl, ho0, hb⟩; have n0_ := Aside0.mk (Kd.R_lower ho0 (below_size (by repeat (first | (with_reducible first | exact HB.out | apply below_alloc | apply pw_below_drewN | apply below_drew1) | exact HB.out)))); have n1_ := Aside0.mk (below_step (by repeat (first | (with_reducible first | exact HB.out | apply below_alloc | apply pw_below_drewN | apply below_drew1) | exact HB.out)) hb); clear HB; have HO107 := n0_; have HB := n1_; clear n0_ n1_; (try clear hb); (try clear hb2); (try clear hk); (try clear hi); (try clear ho0))))
    go_ret3
    exact ⟨by first | rfl | (simp [errW_none, errW_some] <;> rfl) | (simp [*, errW_none, errW_some] <;> rfl), by repeat (first | (with_reducible first | exact HB.out | apply below_alloc | apply pw_below_drewN | apply below_drew1) | exact HB.out)⟩
  · rw [if_neg c3] at H
    have c3b0 : decide (a0 < 16) = false := decide_eq_false c3
    clear c3
    by_cases c5 : (wrap64 (a0 - 16)) ≥ (t105.length : Int)
    · rw [if_pos c5] at H
      have c5b0 : decide ((t105.length : Int) ≤ (wrap64 (a0 - 16))) = true := decide_eq_true c5
      clear c5
      simp only [Option.some.injEq, Prod.mk.injEq] at H
      obtain ⟨rfl, rfl, rfl⟩ := H
      go_enter Tryd.func43, Tryd.ntmps43
      go_wp2_with (first | (go_at_call 59; (with_reducible refine (spec_literalExtra.calls  t105 _ A2.out).mono ?_); rintro e w6 ⟨v106, rfl, ho0, hb⟩; have n0_ := Aside0.mk (Kd.R_lower ho0 (below_size (by repeat (first | (with_reducible first | exact HB.out | apply below_alloc | apply pw_below_drewN | apply below_drew1) | exact HB.out)))); have n1_ := Aside0.mk (below_step (by repeat (first | (with_reducible first | exact HB.out | apply below_alloc | apply pw_below_drewN | apply below_drew1) | exact HB.out)) hb); clear HB; have HO107 := n0_; have HB := n1_; clear n0_ n1_; (try clear hb); (try clear hb2); (try clear hk); (try clear hi); (try clear ho0); obtain ⟨Ao7, co7, eo7⟩ := Kd.R_slice HO107.out; subst eo7))
      repeat (go_quiet (first | (go_at_call 59; (with_reducible refine (spec_literalExtra.calls  t105 _ A2.out).mono ?_); rintro e w6 ⟨v106, rfl, ho0, hb⟩; have n0_ := Aside0.mk (Kd.R_lower ho0 (below_size (by repeat (first | (with_reducible first | exact HB.out | apply below_alloc | apply pw_below_drewN | apply below_drew1) | exact HB.out)))); have n1_ := Aside0.mk (below_step (by repeat (first | (with_reducible first | exact HB.out | apply below_alloc | apply pw_below_drewN | apply below_drew1) | exact HB.out)) hb); clear HB; have HO107 := n0_; have HB := n1_; clear n0_ n1_; (try clear hb); (try clear hb2); (try clear hk); (try clear hi); (try clear ho0); obtain ⟨Ao7, co7, eo7⟩ := Kd.R_slice HO107.out; subst eo7)); try go_wp2_with (first | (go_at_call 59; (with_reducible refine (spec_literalExtra.calls  t105 _ A2.out).mono ?_); rintro e w6 ⟨v106, rfl, ho0, hb⟩; have n0_ := Aside0.mk (Kd.R_lower ho0 (below_size (by repeat (first | (with_reducible first | exact HB.out | apply below_alloc | apply pw_below_drewN | apply below_drew1) | exact HB.out)))); have n1_ := Aside0.mk (below_step (by repeat (first | (with_reducible first | exact HB.out | apply below_alloc | apply pw_below_drewN | apply below_drew1) | exact HB.out)) hb); clear HB; have HO107 := n0_; have HB := n1_; clear n0_ n1_; (try clear hb); (try clear hb2); (try clear hk); (try clear hi); (try clear ho0); obtain ⟨Ao7, co7, eo7⟩ := Kd.R_slice HO107.out; subst eo7)))
      go_ret3
      exact ⟨by first | rfl | (simp [errW_none, errW_some] <;> rfl) | (simp [*, errW_none, errW_some] <;> rfl), by repeat (first | (with_reducible first | exact HB.out | apply below_alloc | apply pw_below_drewN | apply below_drew1) | exact HB.out)⟩
    · rw [if_neg c5] at H
      have c5b0 : decide ((t105.length : Int) ≤ (wrap64 (a0 - 16))) = false := decide_eq_false c5
      clear c5
      obtain ⟨ji8, hji8⟩ : ∃ j_ : Int, (wrap64 (a0 - 16)) = j_ := ⟨_, rfl⟩
      replace H : (if 0 ≤ (ji8) then (if (ji8) ≤ (t105.length : Int) then ((some (t105.take ((ji8) : Int).toNat : List Int)).bind fun y108 => (spec_LiteralValue.l0 k a0 t105 16 y108 (y108.length : Int) 0)) else (none)) else (none)) = some (r1, r2, r3) := by first | (rw [hji8] at H; exact H) | (simp only [hji8] at H ⊢; exact H)
      (try rw [hji8] at c5b0)
      (try rw [hji8] at A2)
      have hji8w : (IntKind.i64.wrap (a0 - 16)) = ji8 := (i64_w _).trans hji8
      by_cases c9 : 0 ≤ (ji8)
      · rw [if_pos c9] at H
        have c9b0 := eq_true c9
        have c9b1 : decide (0 ≤ (ji8)) = true := decide_eq_true c9
        clear c9
        by_cases c10 : (ji8) ≤ (t105.length : Int)
        · rw [if_pos c10] at H
          have c10b0 := eq_true c10
          have c10b1 : decide ((ji8) ≤ (t105.length : Int)) = true := decide_eq_true c10
          clear c10
          obtain ⟨y108, hy108⟩ : ∃ y_ : List Int, y_ = (t105.take ((ji8) : Int).toNat) := ⟨_, rfl⟩
          replace H : (spec_LiteralValue.l0 k a0 t105 16 y108 (y108.length : Int) 0) = some (r1, r2, r3) := by first | (rw [hy108]; with_reducible exact H) | (have H2_ := (Option.bind_some _ _).symm.trans H; rw [hy108]; with_reducible exact H2_) | (have H2_ := (Option.bind_some _ _).symm.trans H; with_reducible exact H2_) | with_reducible exact H | (rw [hy108]; exact H) | exact H
          have Ny108 := Aside0.mk hy108
          clear hy108
          have H' := Aside0.mk H
          clear H
          go_enter Tryd.func43, Tryd.ntmps43
          go_wp2_with (first | (go_at_call 59; (with_reducible refine (spec_literalExtra.calls  t105 _ A2.out).mono ?_); rintro e w11 ⟨v106, rfl, ho0, hb⟩; have n0_ := Aside0.mk (Kd.R_lower ho0 (below_size (by repeat (first | (with_reducible first | exact HB.out | apply below_alloc | apply pw_below_drewN | apply below_drew1) | exact HB.out)))); have n1_ := Aside0.mk (below_step (by repeat (first | (with_reducible first | exact HB.out | apply below_alloc | apply pw_below_drewN | apply below_drew1) | exact HB.out)) hb); clear HB; have HO107 := n0_; have HB := n1_; clear n0_ n1_; (try clear hb); (try clear hb2); (try clear hk); (try clear hi); (try clear ho0); obtain ⟨Ao12, co12, eo12⟩ := Kd.R_slice HO107.out; subst eo12; have q13 : ((ji8) : Int) ≤ ((t105.length : Int) : Int) := of_decide_eq_true (by first | (with_reducible assumption) | assumption); obtain ⟨i013, hi013, _, hsz13, _⟩ := info_parts info3; have hroom13 : t105.length ≤ co12 := (Kd.R_reads' HO107.out).2.1; have hC13 : Kd.C (Kd.int .i64) _ Ao12 t105.length t105 := (Kd.R_reads' HO107.out).2.2; have hcut13 := cut_to (P := Tryd.prog) 33 3 .i64 Tryd.underlying33 hi013 Ao12 t105.length co12 (ji8) (of_decide_eq_true (by first | (with_reducible assumption) | assumption)) q13 hroom13; have hr13 := Kd.C_take (m := ((ji8) : Int).toNat) hC13 (by omega); have hy13 : y108.length = ((ji8) : Int).toNat := (by rw [Ny108.out, List.length_take]; omega); rw [← Ny108.out] at hr13; rw [← hy13] at hcut13; have HR111 := Aside0.mk hr13; have HC111 := Aside0.mk (show y108.length ≤ co12 from by omega); clear hr13 hC13 hroom13 hi013 hsz13; have KY13 := Aside0.mk hy13; clear hy13; have KL13 := Aside0.mk (show ((ji8) : Int).toNat ≤ t105.length from by omega); replace q13 := eq_true q13))
          repeat (go_quiet (first | (go_at_call 59; (with_reducible refine (spec_literalExtra.calls  t105 _ A2.out).mono ?_); rintro e w11 ⟨v106, rfl, ho0, hb⟩; have n0_ := Aside0.mk (Kd.R_lower ho0 (below_size (by repeat (first | (with_reducible first | exact HB.out | apply below_alloc | apply pw_below_drewN | apply below_drew1) | exact HB.out)))); have n1_ := Aside0.mk (below_step (by repeat (first | (with_reducible first | exact HB.out | apply below_alloc | apply pw_below_drewN | apply below_drew1) | exact HB.out)) hb); clear HB; have HO107 := n0_; have HB := n1_; clear n0_ n1_; (try clear hb); (try clear hb2); (try clear hk); (try clear hi); (try clear ho0); obtain ⟨Ao12, co12, eo12⟩ := Kd.R_slice HO107.out; subst eo12; have q13 : ((ji8) : Int) ≤ ((t105.length : Int) : Int) := of_decide_eq_true (by first | (with_reducible assumption) | assumption); obtain ⟨i013, hi013, _, hsz13, _⟩ := info_parts info3; have hroom13 : t105.length ≤ co12 := (Kd.R_reads' HO107.out).2.1; have hC13 : Kd.C (Kd.int .i64) _ Ao12 t105.length t105 := (Kd.R_reads' HO107.out).2.2; have hcut13 := cut_to (P := Tryd.prog) 33 3 .i64 Tryd.underlying33 hi013 Ao12 t105.length co12 (ji8) (of_decide_eq_true (by first | (with_reducible assumption) | assumption)) q13 hroom13; have hr13 := Kd.C_take (m := ((ji8) : Int).toNat) hC13 (by omega); have hy13 : y108.length = ((ji8) : Int).toNat := (by rw [Ny108.out, List.length_take]; omega); rw [← Ny108.out] at hr13; rw [← hy13] at hcut13; have HR111 := Aside0.mk hr13; have HC111 := Aside0.mk (show y108.length ≤ co12 from by omega); clear hr13 hC13 hroom13 hi013 hsz13; have KY13 := Aside0.mk hy13; clear hy13; have KL13 := Aside0.mk (show ((ji8) : Int).toNat ≤ t105.length from by omega); replace q13 := eq_true q13)); try go_wp2_with (first | (go_at_call 59; (with_reducible refine (spec_literalExtra.calls  t105 _ A2.out).mono ?_); rintro e w11 ⟨v106, rfl, ho0, hb⟩; have n0_ := Aside0.mk (Kd.R_lower ho0 (below_size (by repeat (first | (with_reducible first | exact HB.out | apply below_alloc | apply pw_below_drewN | apply below_drew1) | exact HB.out)))); have n1_ := Aside0.mk (below_step (by repeat (first | (with_reducible first | exact HB.out | apply below_alloc | apply pw_below_drewN | apply below_drew1) | exact HB.out)) hb); clear HB; have HO107 := n0_; have HB := n1_; clear n0_ n1_; (try clear hb); (try clear hb2); (try clear hk); (try clear hi); (try clear ho0); obtain ⟨Ao12, co12, eo12⟩ := Kd.R_slice HO107.out; subst eo12; have q13 : ((ji8) : Int) ≤ ((t105.length : Int) : Int) := of_decide_eq_true (by first | (with_reducible assumption) | assumption); obtain ⟨i013, hi013, _, hsz13, _⟩ := info_parts info3; have hroom13 : t105.length ≤ co12 := (Kd.R_reads' HO107.out).2.1; have hC13 : Kd.C (Kd.int .i64) _ Ao12 t105.length t105 := (Kd.R_reads' HO107.out).2.2; have hcut13 := cut_to (P := Tryd.prog) 33 3 .i64 Tryd.underlying33 hi013 Ao12 t105.length co12 (ji8) (of_decide_eq_true (by first | (with_reducible assumption) | assumption)) q13 hroom13; have hr13 := Kd.C_take (m := ((ji8) : Int).toNat) hC13 (by omega); have hy13 : y108.length = ((ji8) : Int).toNat := (by rw [Ny108.out, List.length_take]; omega); rw [← Ny108.out] at hr13; rw [← hy13] at hcut13; have HR111 := Aside0.mk hr13; have HC111 := Aside0.mk (show y108.length ≤ co12 from by omega); clear hr13 hC13 hroom13 hi013 hsz13; have KY13 := Aside0.mk hy13; clear hy13; have KL13 := Aside0.mk (show ((ji8) : Int).toNat ≤ t105.length from by omega); replace q13 := eq_true q13)))
          go_loopg [6, 25] k (fun kq v6 v25 w' => ∃ (x6_1 : Int) (x25_1 : Int), v6 = .int .i64 x6_1 ∧ v25 = .int .i64 x25_1 ∧ Aside0 (spec_LiteralValue.l0 kq a0 t105 x6_1 y108 (y108.length : Int) x25_1 = some (r1, r2, r3)) ∧ Aside0 (kq ≤ k) ∧ Aside0 (Kd.R (Kd.int .i64) 3 w' w.heap.size (fun _ => True) (.slice Ao12 t105.length co12) t105) ∧ Aside0 (Kd.C (Kd.int .i64) w' Ao12 y108.length y108) ∧ Aside0 (Below w.heap.size w w'))
          case atStart => exact ⟨(16), (0), (by first | rfl | (simp; done) | (simp [*]; done)), (by first | rfl | (simp; done) | (simp [*]; done)), H', ⟨Nat.le_refl _⟩, ⟨by (with_reducible repeat (first | apply Kd.R_alloc | apply Kd.R_drewN | apply Kd.R_drew)); exact HO107.out⟩, ⟨by repeat (first | (with_reducible exact HR111.out) | (with_reducible refine Kd.C_alloc ?_ _) | (with_reducible refine Kd.C_drewN ?_ _) | (with_reducible refine Kd.C_drew ?_) | exact HR111.out)⟩, ⟨by repeat (first | (with_reducible first | exact HB.out | apply below_alloc | apply pw_below_drewN | apply below_drew1) | exact HB.out)⟩⟩
          case round =>
            clear H'
            try clear c1
            try clear q1
            try clear p2
            try clear c3
            try clear c3b0
            try clear c4
            try clear c5
            try clear c5b0
            try clear p6
            try clear c9
            try clear c9b0
            try clear c9b1
            try clear c10
            try clear c10b0
            try clear c10b1
            try clear q13
            try clear q13
            obtain ⟨x6_1, x25_1, rfl, rfl, HA, HK1, HO_5, HR111, HB⟩ := hrel
            cases gk with
            | zero => exact absurd HA.out (by simp [spec_LiteralValue.l0])
            | succ k1 =>
              have H := HA.out
              clear HA
              simp only [spec_LiteralValue.l0] at H
              by_cases c14 : x25_1 < (y108.length : Int)
              · rw [if_pos c14] at H
                have c14b0 : decide (x25_1 < (y108.length : Int)) = true := decide_eq_true c14
                clear c14
                by_cases c15 : 0 ≤ x25_1
                · rw [if_pos c15] at H
                  have c15b0 : decide (0 ≤ x25_1) = true := decide_eq_true c15
                  clear c15
                  by_cases c16 : x25_1 < (y108.length : Int)
                  · rw [if_pos c16] at H
                    have c16b0 : decide (x25_1 < (y108.length : Int)) = true := decide_eq_true c16
                    clear c16
                    by_cases c17 : 0 ≤ (rd y108 x25_1)
                    · rw [if_pos c17] at H
                      have c17b0 := eq_true c17
                      have c17b1 : decide (0 ≤ (rd y108 x25_1)) = true := decide_eq_true c17
                      clear c17
                      obtain ⟨ji18, hji18⟩ : ∃ j_ : Int, (shl .i64 1 (rd y108 x25_1)) = j_ := ⟨_, rfl⟩
                      replace H : (spec_LiteralValue.l0 k1 a0 t105 (wrap64 (x6_1 + (ji18))) y108 (y108.length : Int) (wrap64 (x25_1 + 1))) = some (r1, r2, r3) := by first | (rw [hji18] at H; exact H) | (simp only [hji18] at H ⊢; exact H)
                      have hji18_ : (IntKind.i64.wrap (1 * 2 ^ min (rd y108 x25_1).toNat 64)) = ji18 := hji18
                      have hji18z : (rd y108 x25_1) ≤ 64 → (IntKind.i64.wrap (1 * 2 ^ (rd y108 x25_1).toNat)) = ji18 := shl_small hji18
                      have hji18u : (IntKind.i64.wrap (2 ^ min (rd y108 x25_1).toNat 64)) = ji18 := by have h_ := hji18_; rw [Int.one_mul] at h_; exact h_
                      have hji18v : (rd y108 x25_1) ≤ 64 → (IntKind.i64.wrap (2 ^ (rd y108 x25_1).toNat)) = ji18 := fun hle_ => by have h_ := hji18z hle_; rw [Int.one_mul] at h_; exact h_
                      have hji18y : (wrap64 (1 * 2 ^ min (rd y108 x25_1).toNat 64)) = ji18 := (i64_w _).symm.trans hji18_
                      have hji18x : (rd y108 x25_1) ≤ 64 → (wrap64 (1 * 2 ^ (rd y108 x25_1).toNat)) = ji18 := fun h_ => (i64_w _).symm.trans (hji18z h_)
                      have H' := Aside0.mk H
                      clear H
                      have p112 : 0 ≤ (x25_1 : Int) := of_decide_eq_true (by first | (with_reducible assumption) | assumption)
                      have q112 : x25_1 < (y108.length : Int) := of_decide_eq_true (by first | (with_reducible assumption) | assumption)
                      obtain ⟨ad112, e112, hx112_0⟩ := Kd.at_int HR111.out x25_1 p112 q112
                      cases e112
                      replace p112 := eq_true p112
                      replace q112 := eq_true q112
                      go_wp2
                      repeat (go_quiet (fail); try go_wp2)
                      go_roundg k1
                      case measure => have := HK1.out; omega
                      case rel => exact ⟨(wrap64 (x6_1 + (ji18))), (wrap64 (x25_1 + 1)), (by first | rfl | (simp; done) | (simp only [← hji18] <;> (first | rfl | simp)) | (simp [*]; done)), (by first | rfl | (simp; done) | (simp [*]; done)), H', ⟨by have := HK1.out; omega⟩, ⟨by (with_reducible repeat (first | apply Kd.R_alloc | apply Kd.R_drewN | apply Kd.R_drew)); exact HO_5.out⟩, ⟨by repeat (first | (with_reducible exact HR111.out) | (with_reducible refine Kd.C_alloc ?_ _) | (with_reducible refine Kd.C_drewN ?_ _) | (with_reducible refine Kd.C_drew ?_) | exact HR111.out)⟩, ⟨by repeat (first | (with_reducible first | exact HB.out | apply below_alloc | apply pw_below_drewN | apply below_drew1) | exact HB.out)⟩⟩
                    · rw [if_neg c17] at H
                      exact absurd H (by simp)
                  · rw [if_neg c16] at H
                    exact absurd H (by simp)
                · rw [if_neg c15] at H
                  exact absurd H (by simp)
              · rw [if_neg c14] at H
                have c14b0 : decide (x25_1 < (y108.length : Int)) = false := decide_eq_false c14
                clear c14
                obtain ⟨ji19, hji19⟩ : ∃ j_ : Int, (wrap64 (a0 - 16)) = j_ := ⟨_, rfl⟩
                replace H : (if 0 ≤ (ji19) then (if (ji19) < (t105.length : Int) then (some (x6_1, rd t105 (ji19), true)) else (none)) else (none)) = some (r1, r2, r3) := by first | (rw [hji19] at H; exact H) | (simp only [hji19] at H ⊢; exact H)
                (try rw [hji19] at c5b0)
                have hji19w : (IntKind.i64.wrap (a0 - 16)) = ji19 := (i64_w _).trans hji19
                obtain rfl : ji19 = ji8 := hji19.symm.trans hji8
                by_cases c20 : 0 ≤ (ji19)
                · rw [if_pos c20] at H
                  have c20b0 : decide (0 ≤ (ji19)) = true := decide_eq_true c20
                  clear c20
                  by_cases c21 : (ji19) < (t105.length : Int)
                  · rw [if_pos c21] at H
                    have c21b0 : decide ((ji19) < (t105.length : Int)) = true := decide_eq_true c21
                    clear c21
                    simp only [Option.some.injEq, Prod.mk.injEq] at H
                    obtain ⟨rfl, rfl, rfl⟩ := H
                    have p113 : 0 ≤ ((ji19) : Int) := of_decide_eq_true (by first | (with_reducible assumption) | assumption)
                    have q113 : (ji19) < (t105.length : Int) := of_decide_eq_true (by first | (with_reducible assumption) | assumption)
                    obtain ⟨ad113, e113, hx113_0⟩ := Kd.at_int (Kd.R_reads' HO_5.out).2.2 (ji19) p113 q113
                    cases e113
                    replace p113 := eq_true p113
                    replace q113 := eq_true q113
                    go_wp2
                    repeat (go_quiet (fail); try go_wp2)
                    go_ret3
                    exact ⟨by first | rfl | (simp [errW_none, errW_some] <;> rfl) | (simp only [← hji8, ← hji19]; first | rfl | (simp [errW_none, errW_some] <;> rfl)) | (simp [*, errW_none, errW_some] <;> rfl), by repeat (first | (with_reducible first | exact HB.out | apply below_alloc | apply pw_below_drewN | apply below_drew1) | exact HB.out)⟩
                  · rw [if_neg c21] at H
                    exact absurd H (by simp)
                · rw [if_neg c20] at H
                  exact absurd H (by simp)
        · rw [if_neg c10] at H
          exact absurd H (by simp)
      · rw [if_neg c9] at H
        exact absurd H (by simp)

/-! ### spec_OffsetValue: function 44 -/
def spec_OffsetValue.j0 : Nat → Int → Bool → Option (Int × Int × Bool)
  | 0, _, _ => none
  | k + 1, x0, x5 => if x5 = true then (some (0, 0, false)) else (if x0 < 2 then (if 0 ≤ x0 then (some (shl .i64 1 x0, x0, true)) else (none)) else (if 0 ≤ x0 then (some (wrap64 ((shl .i64 1 x0) - 3), x0, true)) else (none)))
def spec_OffsetValue.f (k : Nat) (a0 : Int) : Option (Int × Int × Bool) := if a0 < 0 then (spec_OffsetValue.j0 k a0 true) else (spec_OffsetValue.j0 k a0 (decide (a0 > 31)))
theorem spec_OffsetValue.mono_l : ∀ k, (∀ y0 y1, LeO (spec_OffsetValue.j0 k y0 y1) (spec_OffsetValue.j0 (k + 1) y0 y1))
  | 0 => fun _ _ r h => by simp [spec_OffsetValue.j0] at h
  | k + 1 => by
    have ih0 := spec_OffsetValue.mono_l k
    · intro y0 y1
      unfold spec_OffsetValue.j0
      repeat' first
      | (with_reducible exact ih0 _ _)
      | (with_reducible exact LeO.refl _)
      | (with_reducible exact LeO.none _)
      | (with_reducible refine LeO.ite ?_ ?_)
      | (with_reducible refine LeO.bind ?_ (fun _ => ?_))
      | exact ih0 _ _
      | exact LeO.none _
      | refine LeO.ite ?_ ?_
      | refine LeO.bind ?_ (fun _ => ?_)
theorem spec_OffsetValue.mono : ∀ a0 k, LeO (spec_OffsetValue.f k a0) (spec_OffsetValue.f (k + 1) a0) := by
  intro a0 k
  have ih0 := spec_OffsetValue.mono_l k
  unfold spec_OffsetValue.f
  repeat' first
      | (with_reducible exact ih0 _ _)
      | (with_reducible exact LeO.refl _)
      | (with_reducible exact LeO.none _)
      | (with_reducible refine LeO.ite ?_ ?_)
      | (with_reducible refine LeO.bind ?_ (fun _ => ?_))
      | exact ih0 _ _
      | exact LeO.none _
      | refine LeO.ite ?_ ?_
      | refine LeO.bind ?_ (fun _ => ?_)
set_option maxHeartbeats 8000000 in
set_option maxRecDepth 100000 in
theorem spec_OffsetValue.calls (k : Nat) (a0 : Int) (r1 : Int) (r2 : Int) (r3 : Bool) (w : World) (h : spec_OffsetValue.f k a0 = some (r1, r2, r3)) :
    Calls Tryd.prog 44 #[.int .i64 a0] w fun e w' => e = .returned (.tuple #[.int .i64 r1, .int .i64 r2, .bool r3]) ∧ Drawn0 w w' := by
  have H : (if a0 < 0 then (spec_OffsetValue.j0 k a0 true) else (spec_OffsetValue.j0 k a0 (decide (a0 > 31)))) = some (r1, r2, r3) := h
  clear h
  have HC2 := Aside0.mk H
  clear H
  go_enter Tryd.func44, Tryd.ntmps44
  go_upto_region 1 with (fail)
  go_cut [5] (fun v5 wc => ∃ (kq : Nat) (x5_1 : Bool), v5 = .bool x5_1 ∧ Aside0 (spec_OffsetValue.j0 kq a0 x5_1 = some (r1, r2, r3)) ∧ Aside0 (kq ≤ k) ∧ Drawn0 w wc)
  case first =>
    have H := HC2.out
    clear HC2
    by_cases c3 : a0 < 0
    · rw [if_pos c3] at H
      have c3b0 : decide (a0 < 0) = true := decide_eq_true c3
      clear c3
      (first | rw [c3b0] | (simp only [i64_w, i32_w]; rw [c3b0]) | skip)
      have H' := Aside0.mk H
      clear H
      go_wp2
      go_meet
      case rel => exact ⟨_, (true), (by first | rfl | (simp; done) | (simp [*]; done)), H', ⟨by first | omega | exact Nat.le_refl _⟩, by repeat (first | exact Drawn0.refl _ | apply Drawn0.step)⟩
    · rw [if_neg c3] at H
      have c3b0 : decide (a0 < 0) = false := decide_eq_false c3
      clear c3
      (first | rw [c3b0] | (simp only [i64_w, i32_w]; rw [c3b0]) | skip)
      have H' := Aside0.mk H
      clear H
      go_wp2
      go_meet
      case rel => exact ⟨_, (decide (a0 > 31)), (by first | rfl | (simp; done) | (simp [*]; done)), H', ⟨by first | omega | exact Nat.le_refl _⟩, by repeat (first | exact Drawn0.refl _ | apply Drawn0.step)⟩
  case rest =>
    clear HC2
    try clear p2
    try clear c3
    try clear c3b0
    obtain ⟨kq, x5_1, rfl, HA, HJ1, ⟨mc1, rfl⟩⟩ := hcut
    cases kq with
    | zero => exact absurd HA.out (by simp [spec_OffsetValue.j0])
    | succ kj1 =>
      have H := HA.out
      clear HA
      simp only [spec_OffsetValue.j0] at H
      by_cases c4 : x5_1 = true
      · subst c4
        have H1 : (some (0, 0, false)) = some (r1, r2, r3) := by rw [if_pos rfl] at H; exact H
        clear H
        have H := H1
        clear H1
        simp only [Option.some.injEq, Prod.mk.injEq] at H
        obtain ⟨rfl, rfl, rfl⟩ := H
        go_wp2
        go_ret3
        exact ⟨by first | rfl | (simp; done) | (simp [*]; done), by repeat (first | exact Drawn0.refl _ | apply Drawn0.step)⟩
      · replace c4 := Bool.eq_false_iff.mpr c4
        subst c4
        have H1 : (if a0 < 2 then (if 0 ≤ a0 then (some (shl .i64 1 a0, a0, true)) else (none)) else (if 0 ≤ a0 then (some (wrap64 ((shl .i64 1 a0) - 3), a0, true)) else (none))) = some (r1, r2, r3) := by rw [if_neg (show ¬ (false = true) by decide)] at H; exact H
        clear H
        have H := H1
        clear H1
        by_cases c5 : a0 < 2
        · rw [if_pos c5] at H
          have c5b0 : decide (a0 < 2) = true := decide_eq_true c5
          clear c5
          by_cases c6 : 0 ≤ a0
          · rw [if_pos c6] at H
            have c6b0 := eq_true c6
            have c6b1 : decide (0 ≤ a0) = true := decide_eq_true c6
            clear c6
            obtain ⟨ji7, hji7⟩ : ∃ j_ : Int, (shl .i64 1 a0) = j_ := ⟨_, rfl⟩
            replace H : (some (ji7, a0, true)) = some (r1, r2, r3) := by first | (rw [hji7] at H; exact H) | (simp only [hji7] at H ⊢; exact H)
            have hji7_ : (IntKind.i64.wrap (1 * 2 ^ min a0.toNat 64)) = ji7 := hji7
            have hji7z : a0 ≤ 64 → (IntKind.i64.wrap (1 * 2 ^ a0.toNat)) = ji7 := shl_small hji7
            have hji7u : (IntKind.i64.wrap (2 ^ min a0.toNat 64)) = ji7 := by have h_ := hji7_; rw [Int.one_mul] at h_; exact h_
            have hji7v : a0 ≤ 64 → (IntKind.i64.wrap (2 ^ a0.toNat)) = ji7 := fun hle_ => by have h_ := hji7z hle_; rw [Int.one_mul] at h_; exact h_
            have hji7y : (wrap64 (1 * 2 ^ min a0.toNat 64)) = ji7 := (i64_w _).symm.trans hji7_
            have hji7x : a0 ≤ 64 → (wrap64 (1 * 2 ^ a0.toNat)) = ji7 := fun h_ => (i64_w _).symm.trans (hji7z h_)
            simp only [Option.some.injEq, Prod.mk.injEq] at H
            obtain ⟨rfl, rfl, rfl⟩ := H
            go_wp2
            go_ret3
            exact ⟨by first | rfl | (simp; done) | (simp only [← hji7] <;> (first | rfl | simp)) | (simp [*]; done), by repeat (first | exact Drawn0.refl _ | apply Drawn0.step)⟩
          · rw [if_neg c6] at H
            exact absurd H (by simp)
        · rw [if_neg c5] at H
          have c5b0 : decide (a0 < 2) = false := decide_eq_false c5
          clear c5
          by_cases c8 : 0 ≤ a0
          · rw [if_pos c8] at H
            have c8b0 := eq_true c8
            have c8b1 : decide (0 ≤ a0) = true := decide_eq_true c8
            clear c8
            obtain ⟨ji9, hji9⟩ : ∃ j_ : Int, (shl .i64 1 a0) = j_ := ⟨_, rfl⟩
            replace H : (some (wrap64 ((ji9) - 3), a0, true)) = some (r1, r2, r3) := by first | (rw [hji9] at H; exact H) | (simp only [hji9] at H ⊢; exact H)
            have hji9_ : (IntKind.i64.wrap (1 * 2 ^ min a0.toNat 64)) = ji9 := hji9
            have hji9z : a0 ≤ 64 → (IntKind.i64.wrap (1 * 2 ^ a0.toNat)) = ji9 := shl_small hji9
            have hji9u : (IntKind.i64.wrap (2 ^ min a0.toNat 64)) = ji9 := by have h_ := hji9_; rw [Int.one_mul] at h_; exact h_
            have hji9v : a0 ≤ 64 → (IntKind.i64.wrap (2 ^ a0.toNat)) = ji9 := fun hle_ => by have h_ := hji9z hle_; rw [Int.one_mul] at h_; exact h_
            have hji9y : (wrap64 (1 * 2 ^ min a0.toNat 64)) = ji9 := (i64_w _).symm.trans hji9_
            have hji9x : a0 ≤ 64 → (wrap64 (1 * 2 ^ a0.toNat)) = ji9 := fun h_ => (i64_w _).symm.trans (hji9z h_)
            simp only [Option.some.injEq, Prod.mk.injEq] at H
            obtain ⟨rfl, rfl, rfl⟩ := H
            go_wp2
            go_ret3
            exact ⟨by first | rfl | (simp; done) | (simp only [← hji9] <;> (first | rfl | simp)) | (simp [*]; done), by repeat (first | exact Drawn0.refl _ | apply Drawn0.step)⟩
          · rw [if_neg c8] at H
            exact absurd H (by simp)

/-! ### spec_matchExtra: function 60 -/
def spec_matchExtra.f  : Option (List Int) := some (([1, 1, 1, 1, 2, 2, 3, 3, 4, 4, 5, 7, 8, 9, 10, 11, 12, 13, 14, 15, 16] : List Int))
set_option maxHeartbeats 8000000 in
set_option maxRecDepth 100000 in
theorem spec_matchExtra.calls  (r : List Int) (w : World) (h : spec_matchExtra.f  = some r) :
    Calls Tryd.prog 60 #[] w fun e w' => ∃ v0_ : Value, e = .returned (v0_) ∧ Kd.R (Kd.int .i64) 3 w' w.heap.size (fun _ => True) v0_ r ∧ Below w.heap.size w w' := by
  have HB := Aside0.mk (Below.refl w.heap.size w)
  have H : (some (([1, 1, 1, 1, 2, 2, 3, 3, 4, 4, 5, 7, 8, 9, 10, 11, 12, 13, 14, 15, 16] : List Int))) = some r := h
  clear h
  obtain ⟨y114, hy114⟩ : ∃ y_ : List Int, y_ = (([1, 1, 1, 1, 2, 2, 3, 3, 4, 4, 5, 7, 8, 9, 10, 11, 12, 13, 14, 15, 16] : List Int)) := ⟨_, rfl⟩
  replace H : (some y114) = some r := by first | (rw [hy114]; with_reducible exact H) | (have H2_ := (Option.bind_some _ _).symm.trans H; rw [hy114]; with_reducible exact H2_) | (have H2_ := (Option.bind_some _ _).symm.trans H; with_reducible exact H2_) | with_reducible exact H | (rw [hy114]; exact H) | exact H
  have Ny114 := Aside0.mk hy114
  clear hy114
  obtain rfl := Option.some.inj H
  go_enter Tryd.func60, Tryd.ntmps60
  go_wp2_with (first | ((with_reducible refine gate_dst (N := 1) rfl ?_); refine Kd.R_lit (Kd.int .i64) _ 3 ?hg (N := 1) ?hd (xs := ([1, 1, 1, 1, 2, 2, 3, 3, 4, 4, 5, 7, 8, 9, 10, 11, 12, 13, 14, 15, 16] : List Int)) (inner := [.int .i64 1, .int .i64 1, .int .i64 1, .int .i64 1, .int .i64 2, .int .i64 2, .int .i64 3, .int .i64 3, .int .i64 4, .int .i64 4, .int .i64 5, .int .i64 7, .int .i64 8, .int .i64 9, .int .i64 10, .int .i64 11, .int .i64 12, .int .i64 13, .int .i64 14, .int .i64 15, .int .i64 16]) (ok := fun _ => True) (okp := fun _ => True) ?hr ?hp (fun _ hk => hk) trivial (Below.refl _ _) (Nat.le_refl _) (by simp) ?_; (case hd => rfl); (case hg => rfl); (case hr => first | (go_simp; done) | (go_simp; rfl)); (case hp => exact (Reps.one (show Kd.M (Kd.int .i64) _ _ _ 1 [.int .i64 1] from rfl) (Reps.one (show Kd.M (Kd.int .i64) _ _ _ 1 [.int .i64 1] from rfl) (Reps.one (show Kd.M (Kd.int .i64) _ _ _ 1 [.int .i64 1] from rfl) (Reps.one (show Kd.M (Kd.int .i64) _ _ _ 1 [.int .i64 1] from rfl) (Reps.one (show Kd.M (Kd.int .i64) _ _ _ 2 [.int .i64 2] from rfl) (Reps.one (show Kd.M (Kd.int .i64) _ _ _ 2 [.int .i64 2] from rfl) (Reps.one (show Kd.M (Kd.int .i64) _ _ _ 3 [.int .i64 3] from rfl) (Reps.one (show Kd.M (Kd.int .i64) _ _ _ 3 [.int .i64 3] from rfl) (Reps.one (show Kd.M (Kd.int .i64) _ _ _ 4 [.int .i64 4] from rfl) (Reps.one (show Kd.M (Kd.int .i64) _ _ _ 4 [.int .i64 4] from rfl) (Reps.one (show Kd.M (Kd.int .i64) _ _ _ 5 [.int .i64 5] from rfl) (Reps.one (show Kd.M (Kd.int .i64) _ _ _ 7 [.int .i64 7] from rfl) (Reps.one (show Kd.M (Kd.int .i64) _ _ _ 8 [.int .i64 8] from rfl) (Reps.one (show Kd.M (Kd.int .i64) _ _ _ 9 [.int .i64 9] from rfl) (Reps.one (show Kd.M (Kd.int .i64) _ _ _ 10 [.int .i64 10] from rfl) (Reps.one (show Kd.M (Kd.int .i64) _ _ _ 11 [.int .i64 11] from rfl) (Reps.one (show Kd.M (Kd.int .i64) _ _ _ 12 [.int .i64 12] from rfl) (Reps.one (show Kd.M (Kd.int .i64) _ _ _ 13 [.int .i64 13] from rfl) (Reps.one (show Kd.M (Kd.int .i64) _ _ _ 14 [.int .i64 14] from rfl) (Reps.one (show Kd.M (Kd.int .i64) _ _ _ 15 [.int .i64 15] from rfl) (Reps.one (show Kd.M (Kd.int .i64) _ _ _ 16 [.int .i64 16] from rfl) (Reps.none _ _))))))))))))))))))))))); intro v115 w1 ho2 hb hg_ hnew_; clear hg_ hnew_; (first | rw [← Ny114.out] at ho2 | (simp only [Int.reduceToNat] at ho2; rw [← Ny114.out] at ho2)); have n0_ := Aside0.mk (Kd.R_lower ho2 (below_size (by repeat (first | (with_reducible first | exact HB.out | apply below_alloc | apply pw_below_drewN | apply below_drew1) | exact HB.out)))); have n1_ := Aside0.mk (below_step (by repeat (first | (with_reducible first | exact HB.out | apply below_alloc | apply pw_below_drewN | apply below_drew1) | exact HB.out)) hb); clear HB; have HO116 := n0_; have HB := n1_; clear n0_ n1_; clear hb ho2))
  go_ret
  exact ⟨_, by first | rfl | (simp [errW_none, errW_some] <;> rfl) | (simp [*, errW_none, errW_some] <;> rfl), by (with_reducible repeat (first | apply Kd.R_alloc | apply Kd.R_drewN | apply Kd.R_drew)); exact HO116.out, by repeat (first | (with_reducible first | exact HB.out | apply below_alloc | apply pw_below_drewN | apply below_drew1) | exact HB.out)⟩

/-! ### spec_MatchValue: function 45 -/
def spec_MatchValue.l0 : Nat → Int → List Int → Int → List Int → Int → Int → Option (Int × Int × Bool)
  | 0, _, _, _, _, _, _ => none
  | k + 1, x0, x5, x6, x24, x25, x26 => if x26 < x25 then (if 0 ≤ x26 then (if x26 < (x24.length : Int) then (if 0 ≤ (rd x24 x26) then (spec_MatchValue.l0 k x0 x5 (wrap64 (x6 + (shl .i64 1 (rd x24 x26)))) x24 x25 (wrap64 (x26 + 1))) else (none)) else (none)) else (none)) else (if 0 ≤ (wrap64 (x0 - 32)) then (if (wrap64 (x0 - 32)) < (x5.length : Int) then (some (x6, rd x5 (wrap64 (x0 - 32)), true)) else (none)) else (none))
def spec_MatchValue.f (k : Nat) (a0 : Int) : Option (Int × Int × Bool) := (spec_matchExtra.f).bind fun t117 => (if a0 < 32 then (some (wrap64 (a0 + 3), 0, decide (a0 ≥ 0))) else (if (wrap64 (a0 - 32)) ≥ (t117.length : Int) then (some (0, 0, false)) else (if 0 ≤ (wrap64 (a0 - 32)) then (if (wrap64 (a0 - 32)) ≤ (t117.length : Int) then ((some (t117.take ((wrap64 (a0 - 32)) : Int).toNat : List Int)).bind fun y120 => (spec_MatchValue.l0 k a0 t117 35 y120 (y120.length : Int) 0)) else (none)) else (none))))
theorem spec_MatchValue.mono_l : ∀ k, (∀ y0 y1 y2 y3 y4 y5, LeO (spec_MatchValue.l0 k y0 y1 y2 y3 y4 y5) (spec_MatchValue.l0 (k + 1) y0 y1 y2 y3 y4 y5))
  | 0 => fun _ _ _ _ _ _ r h => by simp [spec_MatchValue.l0] at h
  | k + 1 => by
    have ih0 := spec_MatchValue.mono_l k
    · intro y0 y1 y2 y3 y4 y5
      unfold spec_MatchValue.l0
      repeat' first
      | (with_reducible exact ih0 _ _ _ _ _ _)
      | (with_reducible exact LeO.refl _)
      | (with_reducible exact LeO.none _)
      | (with_reducible refine LeO.ite ?_ ?_)
      | (with_reducible refine LeO.bind ?_ (fun _ => ?_))
      | exact ih0 _ _ _ _ _ _
      | exact LeO.none _
      | refine LeO.ite ?_ ?_
      | refine LeO.bind ?_ (fun _ => ?_)
theorem spec_MatchValue.mono : ∀ a0 k, LeO (spec_MatchValue.f k a0) (spec_MatchValue.f (k + 1) a0) := by
  intro a0 k
  have ih0 := spec_MatchValue.mono_l k
  unfold spec_MatchValue.f
  repeat' first
      | (with_reducible exact ih0 _ _ _ _ _ _)
      | (with_reducible exact LeO.refl _)
      | (with_reducible exact LeO.none _)
      | (with_reducible refine LeO.ite ?_ ?_)
      | (with_reducible refine LeO.bind ?_ (fun _ => ?_))
      | exact ih0 _ _ _ _ _ _
      | exact LeO.none _
      | refine LeO.ite ?_ ?_
      | refine LeO.bind ?_ (fun _ => ?_)
set_option maxHeartbeats 8000000 in
set_option maxRecDepth 100000 in
theorem spec_MatchValue.calls (k : Nat) (a0 : Int) (r1 : Int) (r2 : Int) (r3 : Bool) (w : World) (h : spec_MatchValue.f k a0 = some (r1, r2, r3)) :
    Calls Tryd.prog 45 #[.int .i64 a0] w fun e w' => e = .returned (.tuple #[.int .i64 r1, .int .i64 r2, .bool r3]) ∧ Below w.heap.size w w' := by
  have HB := Aside0.mk (Below.refl w.heap.size w)
  have H : ((spec_matchExtra.f).bind fun t117 => (if a0 < 32 then (some (wrap64 (a0 + 3), 0, decide (a0 ≥ 0))) else (if (wrap64 (a0 - 32)) ≥ (t117.length : Int) then (some (0, 0, false)) else (if 0 ≤ (wrap64 (a0 - 32)) then (if (wrap64 (a0 - 32)) ≤ (t117.length : Int) then ((some (t117.take ((wrap64 (a0 - 32)) : Int).toNat : List Int)).bind fun y120 => (spec_MatchValue.l0 k a0 t117 35 y120 (y120.length : Int) 0)) else (none)) else (none))))) = some (r1, r2, r3) := h
  clear h
  replace H := Option.bind_eq_some_iff.mp H
  obtain ⟨t117, A20, H⟩ := H
  replace H : (if a0 < 32 then (some (wrap64 (a0 + 3), 0, decide (a0 ≥ 0))) else (if (wrap64 (a0 - 32)) ≥ (t117.length : Int) then (some (0, 0, false)) else (if 0 ≤ (wrap64 (a0 - 32)) then (if (wrap64 (a0 - 32)) ≤ (t117.length : Int) then ((some (t117.take ((wrap64 (a0 - 32)) : Int).toNat : List Int)).bind fun y120 => (spec_MatchValue.l0 k a0 t117 35 y120 (y120.length : Int) 0)) else (none)) else (none)))) = some (r1, r2, r3) := H
  have A2 := Aside0.mk A20
  clear A20
  by_cases c3 : a0 < 32
  · rw [if_pos c3] at H
    have c3b0 : decide (a0 < 32) = true := decide_eq_true c3
    clear c3
    simp only [Option.some.injEq, Prod.mk.injEq] at H
    obtain ⟨rfl, rfl, rfl⟩ := H
    go_enter Tryd.func45, Tryd.ntmps45
    go_wp2_with (first | (go_at_call 60; (with_reducible refine (spec_matchExtra.calls  t117 _ A2.out).mono ?_); rintro e w4 ⟨v118, rfl, ho0, hb⟩; have n0_ := Aside0.mk (Kd.R_lower ho0 (below_size (by repeat (first | (with_reducible first | exact HB.out | apply below_alloc | apply pw_below_drewN | apply below_drew1) | exact HB.out)))); have n1_ := Aside0.mk (below_step (by repeat (first | (with_reducible first | exact HB.out | apply below_alloc | apply pw_below_drewN | apply below_drew1) | exact HB.out)) hb); clear HB; have HO119 := n0_; have HB := n1_; clear n0_ n1_; (try clear hb); (try clear hb2); (try clear hk); (try clear hi); (try clear ho0)))
    repeat (go_quiet (first | (go_at_call 60; (with_reducible refine (spec_matchExtra.calls  t117 _ A2.out).mono ?_); rintro e w4 ⟨v118, rfl, ho0, hb⟩; have n0_ := Aside0.mk (Kd.R_lower ho0 (below_size (by repeat (first | (with_reducible first | exact HB.out | apply below_alloc | apply pw_below_drewN | apply below_drew1) | exact HB.out)))); have n1_ := Aside0.mk (below_step (by repeat (first | (with_reducible first | exact HB.out | apply below_alloc | apply pw_below_drewN | apply below_drew1) | exact HB.out)) hb); clear HB; have HO119 := n0_; have HB := n1_; clear n0_ n1_; (try clear hb); (try clear hb2); (try clear hk); (try clear hi); (try clear ho0))); try go_wp2_with (first | (go_at_call 60; (with_reducible refine (spec_matchExtra.calls  t117 _ A2.out).mono ?_); rintro e w4 ⟨v118, rfl, ho0, hb⟩; have n0_ := Aside0.mk (Kd.R_lower ho0 (below_size (by repeat (first | (with_reducible first | exact HB.out | apply below_alloc | apply pw_below_drewN | apply below_drew1) | exact HB.out)))); have n1_ := Aside0.mk (below_step (by repeat (first | (with_reducible first | exact HB.out | apply below_alloc | apply pw_below_drewN | apply below_drew1) | exact HB.out)) hb); clear HB; have HO119 := n0_; have HB := n1_; clear n0_ n1_; (try clear hb); (try clear hb2); (try clear hk); (try clear hi); (try clear ho0))))
    go_ret3
    exact ⟨by first | rfl | (simp [errW_none, errW_some] <;> rfl) | (simp [*, errW_none, errW_some] <;> rfl), by repeat (first | (with_reducible first | exact HB.out | apply below_alloc | apply pw_below_drewN | apply below_drew1) | exact HB.out)⟩
  · rw [if_neg c3] at H
    have c3b0 : decide (a0 < 32) = false := decide_eq_false c3
    clear c3
    by_cases c5 : (wrap64 (a0 - 32)) ≥ (t117.length : Int)
    · rw [if_pos c5] at H
      have c5b0 : decide ((t117.length : Int) ≤ (wrap64 (a0 - 32))) = true := decide_eq_true c5
      clear c5
      simp only [Option.some.injEq, Prod.mk.injEq] at H
      obtain ⟨rfl, rfl, rfl⟩ := H
      go_enter Tryd.func45, Tryd.ntmps45
      go_wp2_with (first | (go_at_call 60; (with_reducible refine (spec_matchExtra.calls  t117 _ A2.out).mono ?_); rintro e w6 ⟨v118, rfl, ho0, hb⟩; have n0_ := Aside0.mk (Kd.R_lower ho0 (below_size (by repeat (first | (with_reducible first | exact HB.out | apply below_alloc | apply pw_below_drewN | apply below_drew1) | exact HB.out)))); have n1_ := Aside0.mk (below_step (by repeat (first | (with_reducible first | exact HB.out | apply below_alloc | apply pw_below_drewN | apply below_drew1) | exact HB.out)) hb); clear HB; have HO119 := n0_; have HB := n1_; clear n0_ n1_; (try clear hb); (try clear hb2); (try clear hk); (try clear hi); (try clear ho0); obtain ⟨Ao7, co7, eo7⟩ := Kd.R_slice HO119.out; subst eo7))
      repeat (go_quiet (first | (go_at_call 60; (with_reducible refine (spec_matchExtra.calls  t117 _ A2.out).mono ?_); rintro e w6 ⟨v118, rfl, ho0, hb⟩; have n0_ := Aside0.mk (Kd.R_lower ho0 (below_size (by repeat (first | (with_reducible first | exact HB.out | apply below_alloc | apply pw_below_drewN | apply below_drew1) | exact HB.out)))); have n1_ := Aside0.mk (below_step (by repeat (first | (with_reducible first | exact HB.out | apply below_alloc | apply pw_below_drewN | apply below_drew1) | exact HB.out)) hb); clear HB; have HO119 := n0_; have HB := n1_; clear n0_ n1_; (try clear hb); (try clear hb2); (try clear hk); (try clear hi); (try clear ho0); obtain ⟨Ao7, co7, eo7⟩ := Kd.R_slice HO119.out; subst eo7)); try go_wp2_with (first | (go_at_call 60; (with_reducible refine (spec_matchExtra.calls  t117 _ A2.out).mono ?_); rintro e w6 ⟨v118, rfl, ho0, hb⟩; have n0_ := Aside0.mk (Kd.R_lower ho0 (below_size (by repeat (first | (with_reducible first | exact HB.out | apply below_alloc | apply pw_below_drewN | apply below_drew1) | exact HB.out)))); have n1_ := Aside0.mk (below_step (by repeat (first | (with_reducible first | exact HB.out | apply below_alloc | apply pw_below_drewN | apply below_drew1) | exact HB.out)) hb); clear HB; have HO119 := n0_; have HB := n1_; clear n0_ n1_; (try clear hb); (try clear hb2); (try clear hk); (try clear hi); (try clear ho0); obtain ⟨Ao7, co7, eo7⟩ := Kd.R_slice HO119.out; subst eo7)))
      go_ret3
      exact ⟨by first | rfl | (simp [errW_none, errW_some] <;> rfl) | (simp [*, errW_none, errW_some] <;> rfl), by repeat (first | (with_reducible first | exact HB.out | apply below_alloc | apply pw_below_drewN | apply below_drew1) | exact HB.out)⟩
    · rw [if_neg c5] at H
      have c5b0 : decide ((t117.length : Int) ≤ (wrap64 (a0 - 32))) = false := decide_eq_false c5
      clear c5
      obtain ⟨ji8, hji8⟩ : ∃ j_ : Int, (wrap64 (a0 - 32)) = j_ := ⟨_, rfl⟩
      replace H : (if 0 ≤ (ji8) then (if (ji8) ≤ (t117.length : Int) then ((some (t117.take ((ji8) : Int).toNat : List Int)).bind fun y120 => (spec_MatchValue.l0 k a0 t117 35 y120 (y120.length : Int) 0)) else (none)) else (none)) = some (r1, r2, r3) := by first | (rw [hji8] at H; exact H) | (simp only [hji8] at H ⊢; exact H)
      (try rw [hji8] at c5b0)
      (try rw [hji8] at A2)
      have hji8w : (IntKind.i64.wrap (a0 - 32)) = ji8 := (i64_w _).trans hji8
      by_cases c9 : 0 ≤ (ji8)
      · rw [if_pos c9] at H
        have c9b0 := eq_true c9
        have c9b1 : decide (0 ≤ (ji8)) = true := decide_eq_true c9
        clear c9
        by_cases c10 : (ji8) ≤ (t117.length : Int)
        · rw [if_pos c10] at H
          have c10b0 := eq_true c10
          have c10b1 : decide ((ji8) ≤ (t117.length : Int)) = true := decide_eq_true c10
          clear c10
          obtain ⟨y120, hy120⟩ : ∃ y_ : List Int, y_ = (t117.take ((ji8) : Int).toNat) := ⟨_, rfl⟩
          replace H : (spec_MatchValue.l0 k a0 t117 35 y120 (y120.length : Int) 0) = some (r1, r2, r3) := by first | (rw [hy120]; with_reducible exact H) | (have H2_ := (Option.bind_some _ _).symm.trans H; rw [hy120]; with_reducible exact H2_) | (have H2_ := (Option.bind_some _ _).symm.trans H; with_reducible exact H2_) | with_reducible exact H | (rw [hy120]; exact H) | exact H
          have Ny120 := Aside0.mk hy120
          clear hy120
          have H' := Aside0.mk H
          clear H
          go_enter Tryd.func45, Tryd.ntmps45
          go_wp2_with (first | (go_at_call 60; (with_reducible refine (spec_matchExtra.calls  t117 _ A2.out).mono ?_); rintro e w11 ⟨v118, rfl, ho0, hb⟩; have n0_ := Aside0.mk (Kd.R_lower ho0 (below_size (by repeat (first | (with_reducible first | exact HB.out | apply below_alloc | apply pw_below_drewN | apply below_drew1) | exact HB.out)))); have n1_ := Aside0.mk (below_step (by repeat (first | (with_reducible first | exact HB.out | apply below_alloc | apply pw_below_drewN | apply below_drew1) | exact HB.out)) hb); clear HB; have HO119 := n0_; have HB := n1_; clear n0_ n1_; (try clear hb); (try clear hb2); (try clear hk); (try clear hi); (try clear ho0); obtain ⟨Ao12, co12, eo12⟩ := Kd.R_slice HO119.out; subst eo12; have q13 : ((ji8) : Int) ≤ ((t117.length : Int) : Int) := of_decide_eq_true (by first | (with_reducible assumption) | assumption); obtain ⟨i013, hi013, _, hsz13, _⟩ := info_parts info3; have hroom13 : t117.length ≤ co12 := (Kd.R_reads' HO119.out).2.1; have hC13 : Kd.C (Kd.int .i64) _ Ao12 t117.length t117 := (Kd.R_reads' HO119.out).2.2; have hcut13 := cut_to (P := Tryd.prog) 33 3 .i64 Tryd.underlying33 hi013 Ao12 t117.length co12 (ji8) (of_decide_eq_true (by first | (with_reducible assumption) | assumption)) q13 hroom13; have hr13 := Kd.C_take (m := ((ji8) : Int).toNat) hC13 (by omega); have hy13 : y120.length = ((ji8) : Int).toNat := (by rw [Ny120.out, List.length_take]; omega); rw [← Ny120.out] at hr13; rw [← hy13] at hcut13; have HR123 := Aside0.mk hr13; have HC123 := Aside0.mk (show y120.length ≤ co12 from by omega); clear hr13 hC13 hroom13 hi013 hsz13; have KY13 := Aside0.mk hy13; clear hy13; have KL13 := Aside0.mk (show ((ji8) : Int).toNat ≤ t117.length from by omega); replace q13 := eq_true q13))
          repeat (go_quiet (first | (go_at_call 60; (with_reducible refine (spec_matchExtra.calls  t117 _ A2.out).mono ?_); rintro e w11 ⟨v118, rfl, ho0, hb⟩; have n0_ := Aside0.mk (Kd.R_lower ho0 (below_size (by repeat (first | (with_reducible first | exact HB.out | apply below_alloc | apply pw_below_drewN | apply below_drew1) | exact HB.out)))); have n1_ := Aside0.mk (below_step (by repeat (first | (with_reducible first | exact HB.out | apply below_alloc | apply pw_below_drewN | apply below_drew1) | exact HB.out)) hb); clear HB; have HO119 := n0_; have HB := n1_; clear n0_ n1_; (try clear hb); (try clear hb2); (try clear hk); (try clear hi); (try clear ho0); obtain ⟨Ao12, co12, eo12⟩ := Kd.R_slice HO119.out; subst eo12; have q13 : ((ji8) : Int) ≤ ((t117.length : Int) : Int) := of_decide_eq_true (by first | (with_reducible assumption) | assumption); obtain ⟨i013, hi013, _, hsz13, _⟩ := info_parts info3; have hroom13 : t117.length ≤ co12 := (Kd.R_reads' HO119.out).2.1; have hC13 : Kd.C (Kd.int .i64) _ Ao12 t117.length t117 := (Kd.R_reads' HO119.out).2.2; have hcut13 := cut_to (P := Tryd.prog) 33 3 .i64 Tryd.underlying33 hi013 Ao12 t117.length co12 (ji8) (of_decide_eq_true (by first | (with_reducible assumption) | assumption)) q13 hroom13; have hr13 := Kd.C_take (m := ((ji8) : Int).toNat) hC13 (by omega); have hy13 : y120.length = ((ji8) : Int).toNat := (by rw [Ny120.out, List.length_take]; omega); rw [← Ny120.out] at hr13; rw [← hy13] at hcut13; have HR123 := Aside0.mk hr13; have HC123 := Aside0.mk (show y120.length ≤ co12 from by omega); clear hr13 hC13 hroom13 hi013 hsz13; have KY13 := Aside0.mk hy13; clear hy13; have KL13 := Aside0.mk (show ((ji8) : Int).toNat ≤ t117.length from by omega); replace q13 := eq_true q13)); try go_wp2_with (first | (go_at_call 60; (with_reducible refine (spec_matchExtra.calls  t117 _ A2.out).mono ?_); rintro e w11 ⟨v118, rfl, ho0, hb⟩; have n0_ := Aside0.mk (Kd.R_lower ho0 (below_size (by repeat (first | (with_reducible first | exact HB.out | apply below_alloc | apply pw_below_drewN | apply below_drew1) | exact HB.out)))); have n1_ := Aside0.mk (below_step (by repeat (first | (with_reducible first | exact HB.out | apply below_alloc | apply pw_below_drewN | apply below_drew1) | exact HB.out)) hb); clear HB; have HO119 := n0_; have HB := n1_; clear n0_ n1_; (try clear hb); (try clear hb2); (try clear hk); (try clear hi); (try clear ho0); obtain ⟨Ao12, co12, eo12⟩ := Kd.R_slice HO119.out; subst eo12; have q13 : ((ji8) : Int) ≤ ((t117.length : Int) : Int) := of_decide_eq_true (by first | (with_reducible assumption) | assumption); obtain ⟨i013, hi013, _, hsz13, _⟩ := info_parts info3; have hroom13 : t117.length ≤ co12 := (Kd.R_reads' HO119.out).2.1; have hC13 : Kd.C (Kd.int .i64) _ Ao12 t117.length t117 := (Kd.R_reads' HO119.out).2.2; have hcut13 := cut_to (P := Tryd.prog) 33 3 .i64 Tryd.underlying33 hi013 Ao12 t117.length co12 (ji8) (of_decide_eq_true (by first | (with_reducible assumption) | assumption)) q13 hroom13; have hr13 := Kd.C_take (m := ((ji8) : Int).toNat) hC13 (by omega); have hy13 : y120.length = ((ji8) : Int).toNat := (by rw [Ny120.out, List.length_take]; omega); rw [← Ny120.out] at hr13; rw [← hy13] at hcut13; have HR123 := Aside0.mk hr13; have HC123 := Aside0.mk (show y120.length ≤ co12 from by omega); clear hr13 hC13 hroom13 hi013 hsz13; have KY13 := Aside0.mk hy13; clear hy13; have KL13 := Aside0.mk (show ((ji8) : Int).toNat ≤ t117.length from by omega); replace q13 := eq_true q13)))
          go_loopg [6, 26] k (fun kq v6 v26 w' => ∃ (x6_1 : Int) (x26_1 : Int), v6 = .int .i64 x6_1 ∧ v26 = .int .i64 x26_1 ∧ Aside0 (spec_MatchValue.l0 kq a0 t117 x6_1 y120 (y120.length : Int) x26_1 = some (r1, r2, r3)) ∧ Aside0 (kq ≤ k) ∧ Aside0 (Kd.R (Kd.int .i64) 3 w' w.heap.size (fun _ => True) (.slice Ao12 t117.length co12) t117) ∧ Aside0 (Kd.C (Kd.int .i64) w' Ao12 y120.length y120) ∧ Aside0 (Below w.heap.size w w'))
          case atStart => exact ⟨(35), (0), (by first | rfl | (simp; done) | (simp [*]; done)), (by first | rfl | (simp; done) | (simp [*]; done)), H', ⟨Nat.le_refl _⟩, ⟨by (with_reducible repeat (first | apply Kd.R_alloc | apply Kd.R_drewN | apply Kd.R_drew)); exact HO119.out⟩, ⟨by repeat (first | (with_reducible exact HR123.out) | (with_reducible refine Kd.C_alloc ?_ _) | (with_reducible refine Kd.C_drewN ?_ _) | (with_reducible refine Kd.C_drew ?_) | exact HR123.out)⟩, ⟨by repeat (first | (with_reducible first | exact HB.out | apply below_alloc | apply pw_below_drewN | apply below_drew1) | exact HB.out)⟩⟩
          case round =>
            clear H'
            try clear c1
            try clear q1
            try clear p2
            try clear c3
            try clear c3b0
            try clear c4
            try clear c5
            try clear c5b0
            try clear p6
            try clear c9
            try clear c9b0
            try clear c9b1
            try clear c10
            try clear c10b0
            try clear c10b1
            try clear q13
            try clear q13
            obtain ⟨x6_1, x26_1, rfl, rfl, HA, HK1, HO_5, HR123, HB⟩ := hrel
            cases gk with
            | zero => exact absurd HA.out (by simp [spec_MatchValue.l0])
            | succ k1 =>
              have H := HA.out
              clear HA
              simp only [spec_MatchValue.l0] at H
              by_cases c14 : x26_1 < (y120.length : Int)
              · rw [if_pos c14] at H
                have c14b0 : decide (x26_1 < (y120.length : Int)) = true := decide_eq_true c14
                clear c14
                by_cases c15 : 0 ≤ x26_1
                · rw [if_pos c15] at H
                  have c15b0 : decide (0 ≤ x26_1) = true := decide_eq_true c15
                  clear c15
                  by_cases c16 : x26_1 < (y120.length : Int)
                  · rw [if_pos c16] at H
                    have c16b0 : decide (x26_1 < (y120.length : Int)) = true := decide_eq_true c16
                    clear c16
                    by_cases c17 : 0 ≤ (rd y120 x26_1)
                    · rw [if_pos c17] at H
                      have c17b0 := eq_true c17
                      have c17b1 : decide (0 ≤ (rd y120 x26_1)) = true := decide_eq_true c17
                      clear c17
                      obtain ⟨ji18, hji18⟩ : ∃ j_ : Int, (shl .i64 1 (rd y120 x26_1)) = j_ := ⟨_, rfl⟩
                      replace H : (spec_MatchValue.l0 k1 a0 t117 (wrap64 (x6_1 + (ji18))) y120 (y120.length : Int) (wrap64 (x26_1 + 1))) = some (r1, r2, r3) := by first | (rw [hji18] at H; exact H) | (simp only [hji18] at H ⊢; exact H)
                      have hji18_ : (IntKind.i64.wrap (1 * 2 ^ min (rd y120 x26_1).toNat 64)) = ji18 := hji18
                      have hji18z : (rd y120 x26_1) ≤ 64 → (IntKind.i64.wrap (1 * 2 ^ (rd y120 x26_1).toNat)) = ji18 := shl_small hji18
                      have hji18u : (IntKind.i64.wrap (2 ^ min (rd y120 x26_1).toNat 64)) = ji18 := by have h_ := hji18_; rw [Int.one_mul] at h_; exact h_
                      have hji18v : (rd y120 x26_1) ≤ 64 → (IntKind.i64.wrap (2 ^ (rd y120 x26_1).toNat)) = ji18 := fun hle_ => by have h_ := hji18z hle_; rw [Int.one_mul] at h_; exact h_
                      have hji18y : (wrap64 (1 * 2 ^ min (rd y120 x26_1).toNat 64)) = ji18 := (i64_w _).symm.trans hji18_
                      have hji18x : (rd y120 x26_1) ≤ 64 → (wrap64 (1 * 2 ^ (rd y120 x26_1).toNat)) = ji18 := fun h_ => (i64_w _).symm.trans (hji18z h_)
                      have H' := Aside0.mk H
                      clear H
                      have p124 : 0 ≤ (x26_1 : Int) := of_decide_eq_true (by first | (with_reducible assumption) | assumption)
                      have q124 : x26_1 < (y120.length : Int) := of_decide_eq_true (by first | (with_reducible assumption) | assumption)
                      obtain ⟨ad124, e124, hx124_0⟩ := Kd.at_int HR123.out x26_1 p124 q124
                      cases e124
                      replace p124 := eq_true p124
                      replace q124 := eq_true q124
                      go_wp2
                      repeat (go_quiet (fail); try go_wp2)
                      go_roundg k1
                      case measure => have := HK1.out; omega
                      case rel => exact ⟨(wrap64 (x6_1 + (ji18))), (wrap64 (x26_1 + 1)), (by first | rfl | (simp; done) | (simp only [← hji18] <;> (first | rfl | simp)) | (simp [*]; done)), (by first | rfl | (simp; done) | (simp [*]; done)), H', ⟨by have := HK1.out; omega⟩, ⟨by (with_reducible repeat (first | apply Kd.R_alloc | apply Kd.R_drewN | apply Kd.R_drew)); exact HO_5.out⟩, ⟨by repeat (first | (with_reducible exact HR123.out) | (with_reducible refine Kd.C_alloc ?_ _) | (with_reducible refine Kd.C_drewN ?_ _) | (with_reducible refine Kd.C_drew ?_) | exact HR123.out)⟩, ⟨by repeat (first | (with_reducible first | exact HB.out | apply below_alloc | apply pw_below_drewN | apply below_drew1) | exact HB.out)⟩⟩
                    · rw [if_neg c17] at H
                      exact absurd H (by simp)
                  · rw [if_neg c16] at H
                    exact absurd H (by simp)
                · rw [if_neg c15] at H
                  exact absurd H (by simp)
              · rw [if_neg c14] at H
                have c14b0 : decide (x26_1 < (y120.length : Int)) = false := decide_eq_false c14
                clear c14
                obtain ⟨ji19, hji19⟩ : ∃ j_ : Int, (wrap64 (a0 - 32)) = j_ := ⟨_, rfl⟩
                replace H : (if 0 ≤ (ji19) then (if (ji19) < (t117.length : Int) then (some (x6_1, rd t117 (ji19), true)) else (none)) else (none)) = some (r1, r2, r3) := by first | (rw [hji19] at H; exact H) | (simp only [hji19] at H ⊢; exact H)
                (try rw [hji19] at c5b0)
                have hji19w : (IntKind.i64.wrap (a0 - 32)) = ji19 := (i64_w _).trans hji19
                obtain rfl : ji19 = ji8 := hji19.symm.trans hji8
                by_cases c20 : 0 ≤ (ji19)
                · rw [if_pos c20] at H
                  have c20b0 : decide (0 ≤ (ji19)) = true := decide_eq_true c20
                  clear c20
                  by_cases c21 : (ji19) < (t117.length : Int)
                  · rw [if_pos c21] at H
                    have c21b0 : decide ((ji19) < (t117.length : Int)) = true := decide_eq_true c21
                    clear c21
                    simp only [Option.some.injEq, Prod.mk.injEq] at H
                    obtain ⟨rfl, rfl, rfl⟩ := H
                    have p125 : 0 ≤ ((ji19) : Int) := of_decide_eq_true (by first | (with_reducible assumption) | assumption)
                    have q125 : (ji19) < (t117.length : Int) := of_decide_eq_true (by first | (with_reducible assumption) | assumption)
                    obtain ⟨ad125, e125, hx125_0⟩ := Kd.at_int (Kd.R_reads' HO_5.out).2.2 (ji19) p125 q125
                    cases e125
                    replace p125 := eq_true p125
                    replace q125 := eq_true q125
                    go_wp2
                    repeat (go_quiet (fail); try go_wp2)
                    go_ret3
                    exact ⟨by first | rfl | (simp [errW_none, errW_some] <;> rfl) | (simp only [← hji8, ← hji19]; first | rfl | (simp [errW_none, errW_some] <;> rfl)) | (simp [*, errW_none, errW_some] <;> rfl), by repeat (first | (with_reducible first | exact HB.out | apply below_alloc | apply pw_below_drewN | apply below_drew1) | exact HB.out)⟩
                  · rw [if_neg c21] at H
                    exact absurd H (by simp)
                · rw [if_neg c20] at H
                  exact absurd H (by simp)
        · rw [if_neg c10] at H
          exact absurd H (by simp)
      · rw [if_neg c9] at H
        exact absurd H (by simp)

/-! ### spec_Value: function 26 -/
def spec_Value.f (k : Nat) (a0 : Int) (a1 : Int) : Option (Int × Int × Bool) := if a0 = 0 then ((spec_LiteralValue.f k a1).bind fun bt126 => (some (bt126.1, bt126.2.1, bt126.2.2))) else (if a0 = 1 then ((spec_OffsetValue.f k a1).bind fun bt129 => (some (bt129.1, bt129.2.1, bt129.2.2))) else ((spec_MatchValue.f k a1).bind fun bt132 => (some (bt132.1, bt132.2.1, bt132.2.2))))
theorem spec_Value.mono : ∀ a0 a1 k, LeO (spec_Value.f k a0 a1) (spec_Value.f (k + 1) a0 a1) := by
  intro a0 a1 k
  unfold spec_Value.f
  repeat' first
      | (with_reducible exact spec_LiteralValue.mono _ _)
      | (with_reducible exact spec_MatchValue.mono _ _)
      | (with_reducible exact spec_OffsetValue.mono _ _)
      | (with_reducible exact LeO.refl _)
      | (with_reducible exact LeO.none _)
      | (with_reducible refine LeO.ite ?_ ?_)
      | (with_reducible refine LeO.bind ?_ (fun _ => ?_))
      | exact spec_LiteralValue.mono _ _
      | exact spec_MatchValue.mono _ _
      | exact spec_OffsetValue.mono _ _
      | exact LeO.none _
      | refine LeO.ite ?_ ?_
      | refine LeO.bind ?_ (fun _ => ?_)
set_option maxHeartbeats 8000000 in
set_option maxRecDepth 100000 in
theorem spec_Value.calls (k : Nat) (a0 : Int) (a1 : Int) (r1 : Int) (r2 : Int) (r3 : Bool) (w : World) (h : spec_Value.f k a0 a1 = some (r1, r2, r3)) :
    Calls Tryd.prog 26 #[.int .i64 a0, .int .i64 a1] w fun e w' => e = .returned (.tuple #[.int .i64 r1, .int .i64 r2, .bool r3]) ∧ Below w.heap.size w w' := by
  have HB := Aside0.mk (Below.refl w.heap.size w)
  have H : (if a0 = 0 then ((spec_LiteralValue.f k a1).bind fun bt126 => (some (bt126.1, bt126.2.1, bt126.2.2))) else (if a0 = 1 then ((spec_OffsetValue.f k a1).bind fun bt129 => (some (bt129.1, bt129.2.1, bt129.2.2))) else ((spec_MatchValue.f k a1).bind fun bt132 => (some (bt132.1, bt132.2.1, bt132.2.2))))) = some (r1, r2, r3) := h
  clear h
  by_cases c3 : a0 = 0
  · rw [if_pos c3] at H
    have c3b0 : (a0 == 0) = true := beq_iff_eq.mpr c3
    have c3b1 : (a0 != 0) = false := bne_eq_false_iff_eq.mpr c3
    clear c3
    replace H := Option.bind_eq_some_iff.mp H
    obtain ⟨⟨t126, t127, t128⟩, A40, H⟩ := H
    replace H : (some (t126, t127, t128)) = some (r1, r2, r3) := H
    have A4 := Aside0.mk A40
    clear A40
    simp only [Option.some.injEq, Prod.mk.injEq] at H
    obtain ⟨rfl, rfl, rfl⟩ := H
    go_enter Tryd.func26, Tryd.ntmps26
    go_wp2_with (first | ((with_reducible refine gate_callee (f := 43) rfl ?_); refine goesL_ (some 11) rfl rfl Tryd.func43 (by kernel_rfl) rfl #[.int .i64 a1] rfl (by (try simp only [List.map_toArray, List.map_cons, List.map_nil]); first | done | rfl | (simp only [List.length_drop, List.length_take]; rfl)) ?_; (with_reducible refine (spec_LiteralValue.calls k a1 t126 t127 t128 _ A4.out).mono ?_); rintro e w5 ⟨rfl, hb⟩; refine ⟨_, rfl, ?_⟩; have n0_ := Aside0.mk (below_step (by repeat (first | (with_reducible first | exact HB.out | apply below_alloc | apply pw_below_drewN | apply below_drew1) | exact HB.out)) hb); clear HB; have HB := n0_; clear n0_; (try clear hb); (try clear hb2); (try clear hk); (try clear hi)))
    go_ret3
    exact ⟨by first | rfl | (simp [errW_none, errW_some] <;> rfl) | (simp [*, errW_none, errW_some] <;> rfl), by repeat (first | (with_reducible first | exact HB.out | apply below_alloc | apply pw_below_drewN | apply below_drew1) | exact HB.out)⟩
  · rw [if_neg c3] at H
    have c3b0 : (a0 == 0) = false := beq_eq_false_iff_ne.mpr c3
    have c3b1 : (a0 != 0) = true := bne_iff_ne.mpr c3
    by_cases c6 : a0 = 1
    · rw [if_pos c6] at H
      have c6b0 : (a0 == 1) = true := beq_iff_eq.mpr c6
      have c6b1 : (a0 != 1) = false := bne_eq_false_iff_eq.mpr c6
      clear c6
      replace H := Option.bind_eq_some_iff.mp H
      obtain ⟨⟨t129, t130, t131⟩, A70, H⟩ := H
      replace H : (some (t129, t130, t131)) = some (r1, r2, r3) := H
      have A7 := Aside0.mk A70
      clear A70
      simp only [Option.some.injEq, Prod.mk.injEq] at H
      obtain ⟨rfl, rfl, rfl⟩ := H
      go_enter Tryd.func26, Tryd.ntmps26
      go_wp2_with (first | ((with_reducible refine gate_callee (f := 44) rfl ?_); refine goesL_ (some 18) rfl rfl Tryd.func44 (by kernel_rfl) rfl #[.int .i64 a1] rfl (by (try simp only [List.map_toArray, List.map_cons, List.map_nil]); first | done | rfl | (simp only [List.length_drop, List.length_take]; rfl)) ?_; (with_reducible refine (spec_OffsetValue.calls k a1 t129 t130 t131 _ A7.out).mono ?_); rintro e w' ⟨rfl, ⟨nd, rfl⟩⟩; refine ⟨_, rfl, ?_⟩))
      go_ret3
      exact ⟨by first | rfl | (simp [errW_none, errW_some] <;> rfl) | (simp [*, errW_none, errW_some] <;> rfl), by repeat (first | (with_reducible first | exact HB.out | apply below_alloc | apply pw_below_drewN | apply below_drew1) | exact HB.out)⟩
    · rw [if_neg c6] at H
      have c6b0 : (a0 == 1) = false := beq_eq_false_iff_ne.mpr c6
      have c6b1 : (a0 != 1) = true := bne_iff_ne.mpr c6
      replace H := Option.bind_eq_some_iff.mp H
      obtain ⟨⟨t132, t133, t134⟩, A80, H⟩ := H
      replace H : (some (t132, t133, t134)) = some (r1, r2, r3) := H
      have A8 := Aside0.mk A80
      clear A80
      simp only [Option.some.injEq, Prod.mk.injEq] at H
      obtain ⟨rfl, rfl, rfl⟩ := H
      go_enter Tryd.func26, Tryd.ntmps26
      go_wp2_with (first | ((with_reducible refine gate_callee (f := 45) rfl ?_); refine goesL_ (some 23) rfl rfl Tryd.func45 (by kernel_rfl) rfl #[.int .i64 a1] rfl (by (try simp only [List.map_toArray, List.map_cons, List.map_nil]); first | done | rfl | (simp only [List.length_drop, List.length_take]; rfl)) ?_; (with_reducible refine (spec_MatchValue.calls k a1 t132 t133 t134 _ A8.out).mono ?_); rintro e w9 ⟨rfl, hb⟩; refine ⟨_, rfl, ?_⟩; have n0_ := Aside0.mk (below_step (by repeat (first | (with_reducible first | exact HB.out | apply below_alloc | apply pw_below_drewN | apply below_drew1) | exact HB.out)) hb); clear HB; have HB := n0_; clear n0_; (try clear hb); (try clear hb2); (try clear hk); (try clear hi)))
      go_ret3
      exact ⟨by first | rfl | (simp [errW_none, errW_some] <;> rfl) | (simp [*, errW_none, errW_some] <;> rfl), by repeat (first | (with_reducible first | exact HB.out | apply below_alloc | apply pw_below_drewN | apply below_drew1) | exact HB.out)⟩

end Go.Proofs.YtopadgohinoomaaDoor.PC
