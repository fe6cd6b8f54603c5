/- What some of the functions that the laws use answer, as plain Lean functions, and that the calls come to these answers: written by a program of this session, after the way of the kit's print; some lines mended by hand. -/
import Derived.Test.YtopadgohinoomaaDoorPC0
import Derived.Test.YtopadgohinoomaaDoorPC2
namespace Go.Proofs.YtopadgohinoomaaDoor.PC
open Go.RowKit Go.Proofs.YtopadgohinoomaaDoorW.PrintWords Go.Proofs.YtopadgohinoomaaDoorW.PrintLast Go.Proofs.YtopadgohinoomaaDoorW.PrintMore
attribute [local go_sem] max2_int min2_int max_two min_two max_three min_three max_four min_four   -- for this text's walks alone
set_option linter.unusedVariables false
set_option linter.unusedSimpArgs false

/-! ### spec_BasedOf: function 10 -/
def spec_BasedOf.l0 : Nat → Int → List (S54) → List (S29) → Int → Int → Option ((List (S54)) × Bool)
  | 0, _, _, _, _, _ => none
  | k + 1, x0, x6, x13, x14, x15 => if x15 < x14 then (if 0 ≤ x15 then (if x15 < (x13.length : Int) then ((spec_Value.f k x0 ((rd_T29 x13 x15).f0)).bind fun bt140 => (if bt140.2.2 = true then (if x6.length < 4398046511104 then (spec_BasedOf.l0 k x0 (x6 ++ [(⟨bt140.1, bt140.2.1, (rd_T29 x13 x15).f1, (rd_T29 x13 x15).f2⟩ : S54)]) x13 x14 (wrap64 (x15 + 1))) else (none)) else (some (([] : List (S54)), false)))) else (none)) else (none)) else (some (x6, true))
def spec_BasedOf.f (k : Nat) (a0 : Int) (l1 : List (S29)) : Option ((List (S54)) × Bool) := spec_BasedOf.l0 k a0 (([] : List (S54))) l1 (l1.length : Int) 0
theorem spec_BasedOf.mono_l : ∀ k, (∀ y0 y1 y2 y3 y4, LeO (spec_BasedOf.l0 k y0 y1 y2 y3 y4) (spec_BasedOf.l0 (k + 1) y0 y1 y2 y3 y4))
  | 0 => fun _ _ _ _ _ r h => by simp [spec_BasedOf.l0] at h
  | k + 1 => by
    have ih0 := spec_BasedOf.mono_l k
    · intro y0 y1 y2 y3 y4
      unfold spec_BasedOf.l0
      repeat' first
      | (with_reducible exact ih0 _ _ _ _ _)
      | (with_reducible exact spec_Value.mono _ _ _)
      | (with_reducible exact LeO.refl _)
      | (with_reducible exact LeO.none _)
      | (with_reducible refine LeO.ite ?_ ?_)
      | (with_reducible refine LeO.bind ?_ (fun _ => ?_))
      | exact ih0 _ _ _ _ _
      | exact spec_Value.mono _ _ _
      | exact LeO.none _
      | refine LeO.ite ?_ ?_
      | refine LeO.bind ?_ (fun _ => ?_)
theorem spec_BasedOf.mono : ∀ a0 a1 k, LeO (spec_BasedOf.f k a0 a1) (spec_BasedOf.f (k + 1) a0 a1) := by
  intro a0 a1 k
  have ih0 := spec_BasedOf.mono_l k
  unfold spec_BasedOf.f
  repeat' first
      | (with_reducible exact ih0 _ _ _ _ _)
      | (with_reducible exact spec_Value.mono _ _ _)
      | (with_reducible exact LeO.refl _)
      | (with_reducible exact LeO.none _)
      | (with_reducible refine LeO.ite ?_ ?_)
      | (with_reducible refine LeO.bind ?_ (fun _ => ?_))
      | exact ih0 _ _ _ _ _
      | exact spec_Value.mono _ _ _
      | exact LeO.none _
      | refine LeO.ite ?_ ?_
      | refine LeO.bind ?_ (fun _ => ?_)
set_option maxHeartbeats 8000000 in
set_option maxRecDepth 100000 in
theorem spec_BasedOf.calls (k : Nat) (a0 : Int) (A1 : Option Addr) (c1 : Nat) (l1 : List (S29)) (r1 : List (S54)) (r2 : Bool) (w : World) (hr1 : Kd.C k29 w A1 l1.length l1) (hc1 : l1.length ≤ c1) (h : spec_BasedOf.f k a0 l1 = some (r1, r2)) :
    Calls Tryd.prog 10 #[.int .i64 a0, .slice A1 l1.length c1] w fun e w' => ∃ v0_ : Value, e = .returned (.tuple #[v0_, .bool r2]) ∧ Kd.R k54 54 w' w.heap.size (fun _ => True) v0_ r1 ∧ Below w.heap.size w w' := by
  have hu29 := Tryd.underlying29
  have hu54 := Tryd.underlying54
  have HR1 := Aside0.mk hr1
  have HC1 := Aside0.mk hc1
  clear hr1 hc1
  have HB := Aside0.mk (Below.refl w.heap.size w)
  have H : (spec_BasedOf.l0 k a0 (([] : List (S54))) l1 (l1.length : Int) 0) = some (r1, r2) := h
  clear h
  obtain ⟨y135, hy135⟩ : ∃ y_ : List (S54), y_ = (([] : List (S54))) := ⟨_, rfl⟩
  replace H : (spec_BasedOf.l0 k a0 y135 l1 (l1.length : Int) 0) = some (r1, r2) := by first | (rw [hy135]; with_reducible exact H) | (have H2_ := (Option.bind_some _ _).symm.trans H; rw [hy135]; with_reducible exact H2_) | (have H2_ := (Option.bind_some _ _).symm.trans H; with_reducible exact H2_) | with_reducible exact H | (rw [hy135]; exact H) | exact H
  have Ny135 := Aside0.mk hy135
  clear hy135
  have H' := Aside0.mk H
  clear H
  go_enter Tryd.func10, Tryd.ntmps10
  go_wp2_with (first | ((with_reducible refine gate_dst (N := 12) rfl ?_); refine Kd.R_lit k54 _ 54 ?hg (N := 12) ?hd (xs := ([] : List (S54))) (inner := []) (ok := fun _ => True) (okp := fun _ => True) ?hr ?hp (fun _ hk => hk) trivial (Below.refl _ _) (Nat.le_refl _) (by simp) ?_; (case hd => rfl); (case hg => rfl); (case hr => first | (go_simp; done) | (go_simp; rfl)); (case hp => exact (Reps.none _ _)); intro v136 w3 ho4 hb hg_ hnew_; clear hg_ hnew_; (first | rw [← Ny135.out] at ho4 | (simp only [Int.reduceToNat] at ho4; rw [← Ny135.out] at ho4)); have n0_ := Aside0.mk (Kd.R_lower ho4 (below_size (by repeat (first | (with_reducible first | exact HB.out | apply below_alloc | apply pw_below_drewN | apply below_drew1) | exact HB.out)))); have n1_ := Aside0.mk (below_step (by repeat (first | (with_reducible first | exact HB.out | apply below_alloc | apply pw_below_drewN | apply below_drew1) | exact HB.out)) hb); clear HB; have HO137 := n0_; have HB := n1_; clear n0_ n1_; clear hb ho4))
  go_loopg [6, 15] k (fun kq v6 v15 w' => ∃ (x6_1 : List (S54)) (x15_1 : Int), v15 = .int .i64 x15_1 ∧ Aside0 (spec_BasedOf.l0 kq a0 x6_1 l1 (l1.length : Int) x15_1 = some (r1, r2)) ∧ Aside0 (kq ≤ k) ∧ Aside0 (Kd.R k54 54 w' w.heap.size (fun _ => True) v6 x6_1) ∧ Aside0 (Below w.heap.size w w'))
  case atStart => exact ⟨(y135), (0), (by first | rfl | (simp; done) | (simp [*]; done)), H', ⟨Nat.le_refl _⟩, ⟨by (with_reducible repeat (first | apply Kd.R_alloc | apply Kd.R_drewN | apply Kd.R_drew)); exact HO137.out⟩, ⟨by repeat (first | (with_reducible first | exact HB.out | apply below_alloc | apply pw_below_drewN | apply below_drew1) | exact HB.out)⟩⟩
  case round =>
    clear H'
    try clear c1
    try clear p2
    obtain ⟨x6_1, x15_1, rfl, HA, HK1, HO_6, HB⟩ := hrel
    cases gk with
    | zero => exact absurd HA.out (by simp [spec_BasedOf.l0])
    | succ k1 =>
      have H := HA.out
      clear HA
      simp only [spec_BasedOf.l0] at H
      by_cases c5 : x15_1 < (l1.length : Int)
      · rw [if_pos c5] at H
        have c5b0 : decide (x15_1 < (l1.length : Int)) = true := decide_eq_true c5
        clear c5
        by_cases c6 : 0 ≤ x15_1
        · rw [if_pos c6] at H
          have c6b0 : decide (0 ≤ x15_1) = true := decide_eq_true c6
          clear c6
          by_cases c7 : x15_1 < (l1.length : Int)
          · rw [if_pos c7] at H
            have c7b0 : decide (x15_1 < (l1.length : Int)) = true := decide_eq_true c7
            clear c7
            replace H := Option.bind_eq_some_iff.mp H
            obtain ⟨⟨t140, t141, t142⟩, A80, H⟩ := H
            replace H : (if t142 = true then (if x6_1.length < 4398046511104 then (spec_BasedOf.l0 k1 a0 (x6_1 ++ [(⟨t140, t141, (rd_T29 l1 x15_1).f1, (rd_T29 l1 x15_1).f2⟩ : S54)]) l1 (l1.length : Int) (wrap64 (x15_1 + 1))) else (none)) else (some (([] : List (S54)), false))) = some (r1, r2) := H
            have A8 := Aside0.mk A80
            clear A80
            by_cases c9 : t142 = true
            · subst c9
              have H1 : (if x6_1.length < 4398046511104 then (spec_BasedOf.l0 k1 a0 (x6_1 ++ [(⟨t140, t141, (rd_T29 l1 x15_1).f1, (rd_T29 l1 x15_1).f2⟩ : S54)]) l1 (l1.length : Int) (wrap64 (x15_1 + 1))) else (none)) = some (r1, r2) := by rw [if_pos rfl] at H; exact H
              clear H
              have H := H1
              clear H1
              by_cases c10 : x6_1.length < 4398046511104
              · rw [if_pos c10] at H
                have LMc10 := Aside0.mk c10
                clear c10
                obtain ⟨y143, hy143⟩ : ∃ y_ : List (S54), y_ = (x6_1 ++ [(⟨t140, t141, (rd_T29 l1 x15_1).f1, (rd_T29 l1 x15_1).f2⟩ : S54)]) := ⟨_, rfl⟩
                replace H : (spec_BasedOf.l0 k1 a0 y143 l1 (l1.length : Int) (wrap64 (x15_1 + 1))) = some (r1, r2) := by first | (rw [hy143]; with_reducible exact H) | (have H2_ := (Option.bind_some _ _).symm.trans H; rw [hy143]; with_reducible exact H2_) | (have H2_ := (Option.bind_some _ _).symm.trans H; with_reducible exact H2_) | with_reducible exact H | (rw [hy143]; exact H) | exact H
                have Ny143 := Aside0.mk hy143
                clear hy143
                have H' := Aside0.mk H
                clear H
                have p138 : 0 ≤ (x15_1 : Int) := of_decide_eq_true (by first | (with_reducible assumption) | assumption)
                have q138 : x15_1 < (l1.length : Int) := of_decide_eq_true (by first | (with_reducible assumption) | assumption)
                obtain ⟨ad138, e138, hx138_0, hx138_1, hx138_2⟩ := at_T29 HR1.out x15_1 p138 q138
                cases e138
                replace hx138_0 := (HB.out.cell (World.block_lt_of_cell? w _ hx138_0)).trans hx138_0
                replace hx138_1 := (HB.out.cell (World.block_lt_of_cell? w _ hx138_1)).trans hx138_1
                replace hx138_2 := (HB.out.cell (World.block_lt_of_cell? w _ hx138_2)).trans hx138_2
                replace p138 := eq_true p138
                replace q138 := eq_true q138
                go_wp2_with (first | ((with_reducible refine gate_dst (N := 8) rfl ?_); refine box_event ?hg (N := 8) ?hd (cs := #[.int .i64 0, .int .i64 0, .int .i64 0]) (t := 29) ?hr ?_; (case hd => rfl); (case hg => rfl); (case hr => first | (go_simp; done) | (go_simp; rfl)); intro gb139 hg w11 hbox hb; have n0_ := Aside0.mk (Kd.R_below (by (with_reducible repeat (first | apply Kd.R_alloc | apply Kd.R_drewN | apply Kd.R_drew)); exact HO_6.out) hb); have n1_ := Aside0.mk (below_step (by repeat (first | (with_reducible first | exact HB.out | apply below_alloc | apply pw_below_drewN | apply below_drew1) | exact HB.out)) hb); have n2_ := Aside0.mk (hbox); have n3_ := Aside0.mk ((by rw [hg]; exact (below_size (by repeat (first | (with_reducible first | exact HB.out | apply below_alloc | apply pw_below_drewN | apply below_drew1) | exact HB.out))) : w.heap.size ≤ gb139)); have n4_ := Aside0.mk ((by rw [hg]; exact (below_size (by repeat (first | (with_reducible first | exact HB.out | apply below_alloc | apply pw_below_drewN | apply below_drew1) | exact HB.out))) : w.heap.size ≤ gb139)); clear HO_6; clear HB; have HO_6 := n0_; have HB := n1_; have BK139 := n2_; have GW139 := n3_; have GE139 := n4_; clear n0_ n1_ n2_ n3_ n4_; clear hb hbox hg; have hcz12_0 : w11.cell? ⟨gb139, 0, none⟩ = some (.int .i64 0) := (blk_cell BK139.out 0).trans rfl; have hcz12_1 : w11.cell? ⟨gb139, 1, none⟩ = some (.int .i64 0) := (blk_cell BK139.out 1).trans rfl; have hcz12_2 : w11.cell? ⟨gb139, 2, none⟩ = some (.int .i64 0) := (blk_cell BK139.out 2).trans rfl; have hfz12_0 := blk_frozen BK139.out 0; have hfz12_1 := blk_frozen BK139.out 1; have hfz12_2 := blk_frozen BK139.out 2) | ((with_reducible refine gate_callee (f := 26) rfl ?_); refine goesL_ (some 23) rfl rfl Tryd.func26 (by kernel_rfl) rfl #[.int .i64 a0, .int .i64 ((rd_T29 l1 x15_1).f0)] rfl (by (try simp only [List.map_toArray, List.map_cons, List.map_nil]); first | done | rfl | (simp only [List.length_drop, List.length_take]; rfl)) ?_; (with_reducible refine (spec_Value.calls k1 a0 ((rd_T29 l1 x15_1).f0) t140 t141 true _ A8.out).mono ?_); rintro e w13 ⟨rfl, hb⟩; refine ⟨_, rfl, ?_⟩; have n0_ := Aside0.mk (Kd.R_below (by (with_reducible repeat (first | apply Kd.R_alloc | apply Kd.R_drewN | apply Kd.R_drew)); exact (Kd.R_mono (Kd.R_far (p := ⟨gb139, 2, none⟩) (Kd.R_far (p := ⟨gb139, 1, none⟩) (Kd.R_far (p := ⟨gb139, 0, none⟩) (Kd.R_types HO_6.out BK139.out (by decide)) (fun _ hk => hk.2) (.int .i64 ((rd_T29 l1 x15_1).f0))) (fun _ hk => hk.2) (.int .i64 ((rd_T29 l1 x15_1).f1))) (fun _ hk => hk.2) (.int .i64 ((rd_T29 l1 x15_1).f2))) (fun _ h_ => h_.1))) hb); have n1_ := Aside0.mk (blk_below (g := gb139) (o := .cells #[.int .i64 ((rd_T29 l1 x15_1).f0), .int .i64 ((rd_T29 l1 x15_1).f1), .int .i64 ((rd_T29 l1 x15_1).f2)] 29 (0, 0)) (by (with_reducible repeat (first | refine blk_drewN ?_ _ | refine blk_drew ?_ | refine blk_alloc ?_ _)); refine blk_put (cs := #[.int .i64 ((rd_T29 l1 x15_1).f0), .int .i64 ((rd_T29 l1 x15_1).f1), .int .i64 0]) ?_ 2 _ rfl; (with_reducible repeat (first | refine blk_drewN ?_ _ | refine blk_drew ?_ | refine blk_alloc ?_ _)); refine blk_put (cs := #[.int .i64 ((rd_T29 l1 x15_1).f0), .int .i64 0, .int .i64 0]) ?_ 1 _ rfl; (with_reducible repeat (first | refine blk_drewN ?_ _ | refine blk_drew ?_ | refine blk_alloc ?_ _)); refine blk_put (cs := #[.int .i64 0, .int .i64 0, .int .i64 0]) ?_ 0 _ rfl; (with_reducible repeat (first | refine blk_drewN ?_ _ | refine blk_drew ?_ | refine blk_alloc ?_ _)); exact BK139.out) hb); have n2_ := Aside0.mk (below_step (by repeat (first | (with_reducible first | exact HB.out | apply below_alloc | apply pw_below_drewN | apply below_drew1 | refine below_set ?_ GE139.out) | exact HB.out)) hb); clear HO_6; clear BK139; clear HB; have HO_6 := n0_; have BK139 := n1_; have HB := n2_; clear n0_ n1_ n2_; (try clear hb); (try clear hb2); (try clear hk); (try clear hi); have hcz14_0 : w13.cell? ⟨gb139, 0, none⟩ = some (.int .i64 ((rd_T29 l1 x15_1).f0)) := (blk_cell BK139.out 0).trans rfl; have hcz14_1 : w13.cell? ⟨gb139, 1, none⟩ = some (.int .i64 ((rd_T29 l1 x15_1).f1)) := (blk_cell BK139.out 1).trans rfl; have hcz14_2 : w13.cell? ⟨gb139, 2, none⟩ = some (.int .i64 ((rd_T29 l1 x15_1).f2)) := (blk_cell BK139.out 2).trans rfl; have hfz14_0 := blk_frozen BK139.out 0; have hfz14_1 := blk_frozen BK139.out 1; have hfz14_2 := blk_frozen BK139.out 2) | ((with_reducible refine gate_builtin (b := .append) (xs := #[.tmp 29, .tmp 37]) rfl ?_); at_builtin; refine Kd.R_append k54 (w0 := w) w.heap.size rfl (.tmp 29) (.tmp 37) 24 54 (.agg #[(.int .i64 0), (.int .i64 0), (.int .i64 0), (.int .i64 0)]) 32 rfl Tryd.underlying24 info54 rfl (by decide) (by omega) u6 x6_1 (⟨t140, t141, (rd_T29 l1 x15_1).f1, (rd_T29 l1 x15_1).f2⟩ : S54) [.int .i64 t140, .int .i64 t141, .int .i64 ((rd_T29 l1 x15_1).f1), .int .i64 ((rd_T29 l1 x15_1).f2)] (fun _ => True) (fun _ => False) rfl rfl ?aP (fun _ hk => hk.elim) ?aF ?aO ?aB ?aS ?aL ?_; (case aP => exact k54_mkM _ _ _ (⟨t140, t141, (rd_T29 l1 x15_1).f1, (rd_T29 l1 x15_1).f2⟩ : S54)); (case aB => exact (by repeat (first | (with_reducible first | exact HB.out | apply below_alloc | apply pw_below_drewN | apply below_drew1 | refine below_set ?_ GE139.out) | exact HB.out))); (case aF => exact (fun _ _ => trivial)); (case aO => exact (by (with_reducible repeat (first | apply Kd.R_alloc | apply Kd.R_drewN | apply Kd.R_drew)); exact HO_6.out)); (case aS => exact (below_size (by repeat (first | (with_reducible first | exact HB.out | apply below_alloc | apply pw_below_drewN | apply below_drew1 | refine below_set ?_ GE139.out) | exact HB.out)))); (case aL => have := LMc10.out; omega); intro v144 w15 ho hb hg hat; rw [← Ny143.out] at ho; have n0_ := Aside0.mk (blk_grown (g := gb139) (o := .cells #[.int .i64 ((rd_T29 l1 x15_1).f0), .int .i64 ((rd_T29 l1 x15_1).f1), .int .i64 ((rd_T29 l1 x15_1).f2)] 29 (0, 0)) (by (with_reducible repeat (first | refine blk_drewN ?_ _ | refine blk_drew ?_ | refine blk_alloc ?_ _)); exact BK139.out) hg (Kd.R_ne HO_6.out BK139.out (by decide))); have n1_ := Aside0.mk (hb); have n2_ := Aside0.mk (ho); clear BK139; clear HB; clear HO_6; have BK139 := n0_; have HB := n1_; have HO145 := n2_; clear n0_ n1_ n2_; clear ho hb hg hat))
                go_roundg k1
                case measure => have := HK1.out; omega
                case rel => exact ⟨(y143), (wrap64 (x15_1 + 1)), (by first | rfl | (simp; done) | (simp [*]; done)), H', ⟨by have := HK1.out; omega⟩, ⟨by (with_reducible repeat (first | apply Kd.R_alloc | apply Kd.R_drewN | apply Kd.R_drew)); exact HO145.out⟩, ⟨by repeat (first | (with_reducible first | exact HB.out | apply below_alloc | apply pw_below_drewN | apply below_drew1 | refine below_set ?_ GE139.out) | exact HB.out)⟩⟩
              · rw [if_neg c10] at H
                exact absurd H (by simp)
            · replace c9 := Bool.eq_false_iff.mpr c9
              subst c9
              have H1 : (some (([] : List (S54)), false)) = some (r1, r2) := by rw [if_neg (show ¬ (false = true) by decide)] at H; exact H
              clear H
              have H := H1
              clear H1
              simp only [Option.some.injEq, Prod.mk.injEq] at H
              obtain ⟨rfl, rfl⟩ := H
              have p138 : 0 ≤ (x15_1 : Int) := of_decide_eq_true (by first | (with_reducible assumption) | assumption)
              have q138 : x15_1 < (l1.length : Int) := of_decide_eq_true (by first | (with_reducible assumption) | assumption)
              obtain ⟨ad138, e138, hx138_0, hx138_1, hx138_2⟩ := at_T29 HR1.out x15_1 p138 q138
              cases e138
              replace hx138_0 := (HB.out.cell (World.block_lt_of_cell? w _ hx138_0)).trans hx138_0
              replace hx138_1 := (HB.out.cell (World.block_lt_of_cell? w _ hx138_1)).trans hx138_1
              replace hx138_2 := (HB.out.cell (World.block_lt_of_cell? w _ hx138_2)).trans hx138_2
              replace p138 := eq_true p138
              replace q138 := eq_true q138
              go_wp2_with (first | ((with_reducible refine gate_dst (N := 8) rfl ?_); refine box_event ?hg (N := 8) ?hd (cs := #[.int .i64 0, .int .i64 0, .int .i64 0]) (t := 29) ?hr ?_; (case hd => rfl); (case hg => rfl); (case hr => first | (go_simp; done) | (go_simp; rfl)); intro gb139 hg w16 hbox hb; have n0_ := Aside0.mk (Kd.R_below (by (with_reducible repeat (first | apply Kd.R_alloc | apply Kd.R_drewN | apply Kd.R_drew)); exact HO_6.out) hb); have n1_ := Aside0.mk (below_step (by repeat (first | (with_reducible first | exact HB.out | apply below_alloc | apply pw_below_drewN | apply below_drew1) | exact HB.out)) hb); have n2_ := Aside0.mk (hbox); have n3_ := Aside0.mk ((by rw [hg]; exact (below_size (by repeat (first | (with_reducible first | exact HB.out | apply below_alloc | apply pw_below_drewN | apply below_drew1) | exact HB.out))) : w.heap.size ≤ gb139)); have n4_ := Aside0.mk ((by rw [hg]; exact (below_size (by repeat (first | (with_reducible first | exact HB.out | apply below_alloc | apply pw_below_drewN | apply below_drew1) | exact HB.out))) : w.heap.size ≤ gb139)); clear HO_6; clear HB; have HO_6 := n0_; have HB := n1_; have BK139 := n2_; have GW139 := n3_; have GE139 := n4_; clear n0_ n1_ n2_ n3_ n4_; clear hb hbox hg; have hcz17_0 : w16.cell? ⟨gb139, 0, none⟩ = some (.int .i64 0) := (blk_cell BK139.out 0).trans rfl; have hcz17_1 : w16.cell? ⟨gb139, 1, none⟩ = some (.int .i64 0) := (blk_cell BK139.out 1).trans rfl; have hcz17_2 : w16.cell? ⟨gb139, 2, none⟩ = some (.int .i64 0) := (blk_cell BK139.out 2).trans rfl; have hfz17_0 := blk_frozen BK139.out 0; have hfz17_1 := blk_frozen BK139.out 1; have hfz17_2 := blk_frozen BK139.out 2) | ((with_reducible refine gate_callee (f := 26) rfl ?_); refine goesL_ (some 23) rfl rfl Tryd.func26 (by kernel_rfl) rfl #[.int .i64 a0, .int .i64 ((rd_T29 l1 x15_1).f0)] rfl (by (try simp only [List.map_toArray, List.map_cons, List.map_nil]); first | done | rfl | (simp only [List.length_drop, List.length_take]; rfl)) ?_; (with_reducible refine (spec_Value.calls k1 a0 ((rd_T29 l1 x15_1).f0) t140 t141 false _ A8.out).mono ?_); rintro e w18 ⟨rfl, hb⟩; refine ⟨_, rfl, ?_⟩; have n0_ := Aside0.mk (Kd.R_below (by (with_reducible repeat (first | apply Kd.R_alloc | apply Kd.R_drewN | apply Kd.R_drew)); exact (Kd.R_mono (Kd.R_far (p := ⟨gb139, 2, none⟩) (Kd.R_far (p := ⟨gb139, 1, none⟩) (Kd.R_far (p := ⟨gb139, 0, none⟩) (Kd.R_types HO_6.out BK139.out (by decide)) (fun _ hk => hk.2) (.int .i64 ((rd_T29 l1 x15_1).f0))) (fun _ hk => hk.2) (.int .i64 ((rd_T29 l1 x15_1).f1))) (fun _ hk => hk.2) (.int .i64 ((rd_T29 l1 x15_1).f2))) (fun _ h_ => h_.1))) hb); have n1_ := Aside0.mk (blk_below (g := gb139) (o := .cells #[.int .i64 ((rd_T29 l1 x15_1).f0), .int .i64 ((rd_T29 l1 x15_1).f1), .int .i64 ((rd_T29 l1 x15_1).f2)] 29 (0, 0)) (by (with_reducible repeat (first | refine blk_drewN ?_ _ | refine blk_drew ?_ | refine blk_alloc ?_ _)); refine blk_put (cs := #[.int .i64 ((rd_T29 l1 x15_1).f0), .int .i64 ((rd_T29 l1 x15_1).f1), .int .i64 0]) ?_ 2 _ rfl; (with_reducible repeat (first | refine blk_drewN ?_ _ | refine blk_drew ?_ | refine blk_alloc ?_ _)); refine blk_put (cs := #[.int .i64 ((rd_T29 l1 x15_1).f0), .int .i64 0, .int .i64 0]) ?_ 1 _ rfl; (with_reducible repeat (first | refine blk_drewN ?_ _ | refine blk_drew ?_ | refine blk_alloc ?_ _)); refine blk_put (cs := #[.int .i64 0, .int .i64 0, .int .i64 0]) ?_ 0 _ rfl; (with_reducible repeat (first | refine blk_drewN ?_ _ | refine blk_drew ?_ | refine blk_alloc ?_ _)); exact BK139.out) hb); have n2_ := Aside0.mk (below_step (by repeat (first | (with_reducible first | exact HB.out | apply below_alloc | apply pw_below_drewN | apply below_drew1 | refine below_set ?_ GE139.out) | exact HB.out)) hb); clear HO_6; clear BK139; clear HB; have HO_6 := n0_; have BK139 := n1_; have HB := n2_; clear n0_ n1_ n2_; (try clear hb); (try clear hb2); (try clear hk); (try clear hi)))
              go_ret2
              exact ⟨_, by first | rfl | (simp [errW_none, errW_some] <;> rfl) | (simp [*, errW_none, errW_some] <;> rfl), by first | exact Kd.R_nil _ _ _ _ _ | exact Kd.N_nil _ _ _ _ _ | exact Kd.V_nil _ _ _ _ _ | exact Kd.Q_nil _ _ _ _ _ | exact Kd.S_nil _ _ _ _ _, by repeat (first | (with_reducible first | exact HB.out | apply below_alloc | apply pw_below_drewN | apply below_drew1 | refine below_set ?_ GE139.out) | exact HB.out)⟩
          · rw [if_neg c7] at H
            exact absurd H (by simp)
        · rw [if_neg c6] at H
          exact absurd H (by simp)
      · rw [if_neg c5] at H
        have c5b0 : decide (x15_1 < (l1.length : Int)) = false := decide_eq_false c5
        clear c5
        simp only [Option.some.injEq, Prod.mk.injEq] at H
        obtain ⟨rfl, rfl⟩ := H
        go_wp2
        go_ret2
        exact ⟨_, by first | rfl | (simp [errW_none, errW_some] <;> rfl) | (simp [*, errW_none, errW_some] <;> rfl), by (with_reducible repeat (first | apply Kd.R_alloc | apply Kd.R_drewN | apply Kd.R_drew)); exact HO_6.out, by repeat (first | (with_reducible first | exact HB.out | apply below_alloc | apply pw_below_drewN | apply below_drew1) | exact HB.out)⟩

-- NOT PRINTED: function 71 (zstd_Reader_wrapError)

-- NOT PRINTED: function 72 (errors_New)

-- NOT PRINTED: function 61 (zstd_Reader_makeError)

-- NOT PRINTED: function 46 (zstd_Reader_makeLiteralBaselineFSE)

/-! ### zstd_zzInFSE: function 47 -/
def zstd_zzInFSE.l0 : Nat → List (S123) → List (S105) → Int → Int → Option ((List (S123)))
  | 0, _, _, _, _ => none
  | k + 1, x2, x5, x6, x7 => if x7 < x6 then (if 0 ≤ x7 then (if x7 < (x5.length : Int) then (if x2.length < 35184372088832 then (zstd_zzInFSE.l0 k (x2 ++ [(⟨(rd_T105 x5 x7).f0, (rd_T105 x5 x7).f1, (rd_T105 x5 x7).f2⟩ : S123)]) x5 x6 (wrap64 (x7 + 1))) else (none)) else (none)) else (none)) else (some x2)
def zstd_zzInFSE.f (k : Nat) (l0 : List (S105)) : Option ((List (S123))) := zstd_zzInFSE.l0 k ([] : List (S123)) l0 (l0.length : Int) 0
theorem zstd_zzInFSE.mono_l : ∀ k, (∀ y0 y1 y2 y3, LeO (zstd_zzInFSE.l0 k y0 y1 y2 y3) (zstd_zzInFSE.l0 (k + 1) y0 y1 y2 y3))
  | 0 => fun _ _ _ _ r h => by simp [zstd_zzInFSE.l0] at h
  | k + 1 => by
    have ih0 := zstd_zzInFSE.mono_l k
    · intro y0 y1 y2 y3
      unfold zstd_zzInFSE.l0
      repeat' first
      | (with_reducible exact ih0 _ _ _ _)
      | (with_reducible exact LeO.refl _)
      | (with_reducible exact LeO.none _)
      | (with_reducible refine LeO.ite ?_ ?_)
      | (with_reducible refine LeO.bind ?_ (fun _ => ?_))
      | exact ih0 _ _ _ _
      | exact LeO.none _
      | refine LeO.ite ?_ ?_
      | refine LeO.bind ?_ (fun _ => ?_)
theorem zstd_zzInFSE.mono : ∀ a0 k, LeO (zstd_zzInFSE.f k a0) (zstd_zzInFSE.f (k + 1) a0) := by
  intro a0 k
  have ih0 := zstd_zzInFSE.mono_l k
  unfold zstd_zzInFSE.f
  repeat' first
      | (with_reducible exact ih0 _ _ _ _)
      | (with_reducible exact LeO.refl _)
      | (with_reducible exact LeO.none _)
      | (with_reducible refine LeO.ite ?_ ?_)
      | (with_reducible refine LeO.bind ?_ (fun _ => ?_))
      | exact ih0 _ _ _ _
      | exact LeO.none _
      | refine LeO.ite ?_ ?_
      | refine LeO.bind ?_ (fun _ => ?_)
set_option maxHeartbeats 8000000 in
set_option maxRecDepth 100000 in
theorem zstd_zzInFSE.calls (k : Nat) (A0 : Option Addr) (c0 : Nat) (l0 : List (S105)) (r : List (S123)) (w : World) (hr0 : Kd.C k105 w A0 l0.length l0) (hc0 : l0.length ≤ c0) (h : zstd_zzInFSE.f k l0 = some r) :
    Calls Tryd.prog 47 #[.slice A0 l0.length c0] w fun e w' => ∃ v0_ : Value, e = .returned (v0_) ∧ Kd.R k123 123 w' w.heap.size (fun _ => True) v0_ r ∧ Below w.heap.size w w' := by
  have hu105 := Tryd.underlying105
  have hu123 := Tryd.underlying123
  have HR0 := Aside0.mk hr0
  have HC0 := Aside0.mk hc0
  clear hr0 hc0
  have HB := Aside0.mk (Below.refl w.heap.size w)
  have H : (zstd_zzInFSE.l0 k ([] : List (S123)) l0 (l0.length : Int) 0) = some r := h
  clear h
  have H' := Aside0.mk H
  clear H
  go_enter Tryd.func47, Tryd.ntmps47
  go_wp2
  go_loopg [2, 7] k (fun kq v2 v7 w' => ∃ (x2_1 : List (S123)) (x7_1 : Int), v7 = .int .i64 x7_1 ∧ Aside0 (zstd_zzInFSE.l0 kq x2_1 l0 (l0.length : Int) x7_1 = some r) ∧ Aside0 (kq ≤ k) ∧ Aside0 (Kd.R k123 123 w' w.heap.size (fun _ => True) v2 x2_1) ∧ Aside0 (Below w.heap.size w w'))
  case atStart => exact ⟨(([] : List (S123))), (0), (by first | rfl | (simp; done) | (simp [*]; done)), H', ⟨Nat.le_refl _⟩, ⟨by first | exact Kd.R_nil _ _ _ _ _ | exact Kd.N_nil _ _ _ _ _ | exact Kd.V_nil _ _ _ _ _ | exact Kd.Q_nil _ _ _ _ _ | exact Kd.S_nil _ _ _ _ _⟩, ⟨by repeat (first | (with_reducible first | exact HB.out | apply below_alloc | apply pw_below_drewN | apply below_drew1) | exact HB.out)⟩⟩
  case round =>
    clear H'
    obtain ⟨x2_1, x7_1, rfl, HA, HK1, HO_2, HB⟩ := hrel
    cases gk with
    | zero => exact absurd HA.out (by simp [zstd_zzInFSE.l0])
    | succ k1 =>
      have H := HA.out
      clear HA
      simp only [zstd_zzInFSE.l0] at H
      by_cases c2 : x7_1 < (l0.length : Int)
      · rw [if_pos c2] at H
        have c2b0 : decide (x7_1 < (l0.length : Int)) = true := decide_eq_true c2
        clear c2
        by_cases c3 : 0 ≤ x7_1
        · rw [if_pos c3] at H
          have c3b0 : decide (0 ≤ x7_1) = true := decide_eq_true c3
          clear c3
          by_cases c4 : x7_1 < (l0.length : Int)
          · rw [if_pos c4] at H
            have c4b0 : decide (x7_1 < (l0.length : Int)) = true := decide_eq_true c4
            clear c4
            by_cases c5 : x2_1.length < 35184372088832
            · rw [if_pos c5] at H
              have LMc5 := Aside0.mk c5
              clear c5
              obtain ⟨y149, hy149⟩ : ∃ y_ : List (S123), y_ = (x2_1 ++ [(⟨(rd_T105 l0 x7_1).f0, (rd_T105 l0 x7_1).f1, (rd_T105 l0 x7_1).f2⟩ : S123)]) := ⟨_, rfl⟩
              replace H : (zstd_zzInFSE.l0 k1 y149 l0 (l0.length : Int) (wrap64 (x7_1 + 1))) = some r := by first | (rw [hy149]; with_reducible exact H) | (have H2_ := (Option.bind_some _ _).symm.trans H; rw [hy149]; with_reducible exact H2_) | (have H2_ := (Option.bind_some _ _).symm.trans H; with_reducible exact H2_) | with_reducible exact H | (rw [hy149]; exact H) | exact H
              have Ny149 := Aside0.mk hy149
              clear hy149
              have H' := Aside0.mk H
              clear H
              have p147 : 0 ≤ (x7_1 : Int) := of_decide_eq_true (by first | (with_reducible assumption) | assumption)
              have q147 : x7_1 < (l0.length : Int) := of_decide_eq_true (by first | (with_reducible assumption) | assumption)
              obtain ⟨ad147, e147, hx147_0, hx147_1, hx147_2⟩ := at_T105 HR0.out x7_1 p147 q147
              cases e147
              replace hx147_0 := (HB.out.cell (World.block_lt_of_cell? w _ hx147_0)).trans hx147_0
              replace hx147_1 := (HB.out.cell (World.block_lt_of_cell? w _ hx147_1)).trans hx147_1
              replace hx147_2 := (HB.out.cell (World.block_lt_of_cell? w _ hx147_2)).trans hx147_2
              replace p147 := eq_true p147
              replace q147 := eq_true q147
              go_wp2_with (first | ((with_reducible refine gate_dst (N := 4) rfl ?_); refine box_event ?hg (N := 4) ?hd (cs := #[.int .u8 0, .int .u8 0, .int .u16 0]) (t := 105) ?hr ?_; (case hd => rfl); (case hg => rfl); (case hr => first | (go_simp; done) | (go_simp; rfl)); intro gb148 hg w6 hbox hb; have n0_ := Aside0.mk (Kd.R_below (by (with_reducible repeat (first | apply Kd.R_alloc | apply Kd.R_drewN | apply Kd.R_drew)); exact HO_2.out) hb); have n1_ := Aside0.mk (below_step (by repeat (first | (with_reducible first | exact HB.out | apply below_alloc | apply pw_below_drewN | apply below_drew1) | exact HB.out)) hb); have n2_ := Aside0.mk (hbox); have n3_ := Aside0.mk ((by rw [hg]; exact (below_size (by repeat (first | (with_reducible first | exact HB.out | apply below_alloc | apply pw_below_drewN | apply below_drew1) | exact HB.out))) : w.heap.size ≤ gb148)); have n4_ := Aside0.mk ((by rw [hg]; exact (below_size (by repeat (first | (with_reducible first | exact HB.out | apply below_alloc | apply pw_below_drewN | apply below_drew1) | exact HB.out))) : w.heap.size ≤ gb148)); clear HO_2; clear HB; have HO_2 := n0_; have HB := n1_; have BK148 := n2_; have GW148 := n3_; have GE148 := n4_; clear n0_ n1_ n2_ n3_ n4_; clear hb hbox hg; have hcz7_0 : w6.cell? ⟨gb148, 0, none⟩ = some (.int .u8 0) := (blk_cell BK148.out 0).trans rfl; have hcz7_1 : w6.cell? ⟨gb148, 1, none⟩ = some (.int .u8 0) := (blk_cell BK148.out 1).trans rfl; have hcz7_2 : w6.cell? ⟨gb148, 2, none⟩ = some (.int .u16 0) := (blk_cell BK148.out 2).trans rfl; have hfz7_0 := blk_frozen BK148.out 0; have hfz7_1 := blk_frozen BK148.out 1; have hfz7_2 := blk_frozen BK148.out 2) | ((with_reducible refine gate_builtin (b := .append) (xs := #[.tmp 11, .tmp 19]) rfl ?_); at_builtin; refine Kd.R_append k123 (w0 := w) w.heap.size rfl (.tmp 11) (.tmp 19) 93 123 (.agg #[(.int .u8 0), (.int .u8 0), (.int .u16 0)]) 4 rfl Tryd.underlying93 info123 rfl (by decide) (by omega) u2 x2_1 (⟨(rd_T105 l0 x7_1).f0, (rd_T105 l0 x7_1).f1, (rd_T105 l0 x7_1).f2⟩ : S123) [.int .u8 ((rd_T105 l0 x7_1).f0), .int .u8 ((rd_T105 l0 x7_1).f1), .int .u16 ((rd_T105 l0 x7_1).f2)] (fun _ => True) (fun _ => False) rfl (by first | (go_simp; done) | (go_simp; rfl)) ?aP (fun _ hk => hk.elim) ?aF ?aO ?aB ?aS ?aL ?_; (case aP => exact k123_mkM _ _ _ (⟨(rd_T105 l0 x7_1).f0, (rd_T105 l0 x7_1).f1, (rd_T105 l0 x7_1).f2⟩ : S123)); (case aB => exact (by repeat (first | (with_reducible first | exact HB.out | apply below_alloc | apply pw_below_drewN | apply below_drew1 | refine below_set ?_ GE148.out) | exact HB.out))); (case aF => exact (fun _ _ => trivial)); (case aO => exact (by (with_reducible repeat (first | apply Kd.R_alloc | apply Kd.R_drewN | apply Kd.R_drew)); exact Kd.R_mono (Kd.R_far (p := ⟨gb148, 2, none⟩) (Kd.R_far (p := ⟨gb148, 1, none⟩) (Kd.R_far (p := ⟨gb148, 0, none⟩) (Kd.R_types HO_2.out BK148.out (by decide)) (fun _ hk => hk.2) (.int .u8 ((rd_T105 l0 x7_1).f0))) (fun _ hk => hk.2) (.int .u8 ((rd_T105 l0 x7_1).f1))) (fun _ hk => hk.2) (.int .u16 ((rd_T105 l0 x7_1).f2))) (fun _ hk => trivial))); (case aS => exact (below_size (by repeat (first | (with_reducible first | exact HB.out | apply below_alloc | apply pw_below_drewN | apply below_drew1 | refine below_set ?_ GE148.out) | exact HB.out)))); (case aL => have := LMc5.out; omega); intro v150 w8 ho hb hg hat; rw [← Ny149.out] at ho; have n0_ := Aside0.mk (blk_grown (g := gb148) (o := .cells #[.int .u8 ((rd_T105 l0 x7_1).f0), .int .u8 ((rd_T105 l0 x7_1).f1), .int .u16 ((rd_T105 l0 x7_1).f2)] 105 (0, 0)) (by (with_reducible repeat (first | refine blk_drewN ?_ _ | refine blk_drew ?_ | refine blk_alloc ?_ _)); refine blk_put (cs := #[.int .u8 ((rd_T105 l0 x7_1).f0), .int .u8 ((rd_T105 l0 x7_1).f1), .int .u16 0]) ?_ 2 _ rfl; (with_reducible repeat (first | refine blk_drewN ?_ _ | refine blk_drew ?_ | refine blk_alloc ?_ _)); refine blk_put (cs := #[.int .u8 ((rd_T105 l0 x7_1).f0), .int .u8 0, .int .u16 0]) ?_ 1 _ rfl; (with_reducible repeat (first | refine blk_drewN ?_ _ | refine blk_drew ?_ | refine blk_alloc ?_ _)); refine blk_put (cs := #[.int .u8 0, .int .u8 0, .int .u16 0]) ?_ 0 _ rfl; (with_reducible repeat (first | refine blk_drewN ?_ _ | refine blk_drew ?_ | refine blk_alloc ?_ _)); exact BK148.out) hg (Kd.R_ne HO_2.out BK148.out (by decide))); have n1_ := Aside0.mk (hb); have n2_ := Aside0.mk (ho); clear BK148; clear HB; clear HO_2; have BK148 := n0_; have HB := n1_; have HO151 := n2_; clear n0_ n1_ n2_; clear ho hb hg hat))
              go_roundg k1
              case measure => have := HK1.out; omega
              case rel => exact ⟨(y149), (wrap64 (x7_1 + 1)), (by first | rfl | (simp; done) | (simp [*]; done)), H', ⟨by have := HK1.out; omega⟩, ⟨by (with_reducible repeat (first | apply Kd.R_alloc | apply Kd.R_drewN | apply Kd.R_drew)); exact HO151.out⟩, ⟨by repeat (first | (with_reducible first | exact HB.out | apply below_alloc | apply pw_below_drewN | apply below_drew1 | refine below_set ?_ GE148.out) | exact HB.out)⟩⟩
            · rw [if_neg c5] at H
              exact absurd H (by simp)
          · rw [if_neg c4] at H
            exact absurd H (by simp)
        · rw [if_neg c3] at H
          exact absurd H (by simp)
      · rw [if_neg c2] at H
        have c2b0 : decide (x7_1 < (l0.length : Int)) = false := decide_eq_false c2
        clear c2
        obtain rfl := Option.some.inj H
        go_wp2
        go_ret
        exact ⟨_, by first | rfl | (simp [errW_none, errW_some] <;> rfl) | (simp [*, errW_none, errW_some] <;> rfl), by (with_reducible repeat (first | apply Kd.R_alloc | apply Kd.R_drewN | apply Kd.R_drew)); exact HO_2.out, by repeat (first | (with_reducible first | exact HB.out | apply below_alloc | apply pw_below_drewN | apply below_drew1) | exact HB.out)⟩

/-! ### zstd_zzBaseline: function 48 -/
def zstd_zzBaseline.l0 : Nat → List (S107) → List (S125) → Int → Int → Option ((List (S107)))
  | 0, _, _, _, _ => none
  | k + 1, x2, x5, x6, x7 => if x7 < x6 then (if 0 ≤ x7 then (if x7 < (x5.length : Int) then (if x2.length < 17592186044416 then (zstd_zzBaseline.l0 k (x2 ++ [(⟨(rd_T125 x5 x7).f0, (rd_T125 x5 x7).f1, (rd_T125 x5 x7).f2, (rd_T125 x5 x7).f3⟩ : S107)]) x5 x6 (wrap64 (x7 + 1))) else (none)) else (none)) else (none)) else (some x2)
def zstd_zzBaseline.f (k : Nat) (l0 : List (S125)) : Option ((List (S107))) := zstd_zzBaseline.l0 k ([] : List (S107)) l0 (l0.length : Int) 0
theorem zstd_zzBaseline.mono_l : ∀ k, (∀ y0 y1 y2 y3, LeO (zstd_zzBaseline.l0 k y0 y1 y2 y3) (zstd_zzBaseline.l0 (k + 1) y0 y1 y2 y3))
  | 0 => fun _ _ _ _ r h => by simp [zstd_zzBaseline.l0] at h
  | k + 1 => by
    have ih0 := zstd_zzBaseline.mono_l k
    · intro y0 y1 y2 y3
      unfold zstd_zzBaseline.l0
      repeat' first
      | (with_reducible exact ih0 _ _ _ _)
      | (with_reducible exact LeO.refl _)
      | (with_reducible exact LeO.none _)
      | (with_reducible refine LeO.ite ?_ ?_)
      | (with_reducible refine LeO.bind ?_ (fun _ => ?_))
      | exact ih0 _ _ _ _
      | exact LeO.none _
      | refine LeO.ite ?_ ?_
      | refine LeO.bind ?_ (fun _ => ?_)
theorem zstd_zzBaseline.mono : ∀ a0 k, LeO (zstd_zzBaseline.f k a0) (zstd_zzBaseline.f (k + 1) a0) := by
  intro a0 k
  have ih0 := zstd_zzBaseline.mono_l k
  unfold zstd_zzBaseline.f
  repeat' first
      | (with_reducible exact ih0 _ _ _ _)
      | (with_reducible exact LeO.refl _)
      | (with_reducible exact LeO.none _)
      | (with_reducible refine LeO.ite ?_ ?_)
      | (with_reducible refine LeO.bind ?_ (fun _ => ?_))
      | exact ih0 _ _ _ _
      | exact LeO.none _
      | refine LeO.ite ?_ ?_
      | refine LeO.bind ?_ (fun _ => ?_)
set_option maxHeartbeats 8000000 in
set_option maxRecDepth 100000 in
theorem zstd_zzBaseline.calls (k : Nat) (A0 : Option Addr) (c0 : Nat) (l0 : List (S125)) (r : List (S107)) (w : World) (hr0 : Kd.C k125 w A0 l0.length l0) (hc0 : l0.length ≤ c0) (h : zstd_zzBaseline.f k l0 = some r) :
    Calls Tryd.prog 48 #[.slice A0 l0.length c0] w fun e w' => ∃ v0_ : Value, e = .returned (v0_) ∧ Kd.R k107 107 w' w.heap.size (fun _ => True) v0_ r ∧ Below w.heap.size w w' := by
  have hu125 := Tryd.underlying125
  have hu107 := Tryd.underlying107
  have HR0 := Aside0.mk hr0
  have HC0 := Aside0.mk hc0
  clear hr0 hc0
  have HB := Aside0.mk (Below.refl w.heap.size w)
  have H : (zstd_zzBaseline.l0 k ([] : List (S107)) l0 (l0.length : Int) 0) = some r := h
  clear h
  have H' := Aside0.mk H
  clear H
  go_enter Tryd.func48, Tryd.ntmps48
  go_wp2
  go_loopg [2, 7] k (fun kq v2 v7 w' => ∃ (x2_1 : List (S107)) (x7_1 : Int), v7 = .int .i64 x7_1 ∧ Aside0 (zstd_zzBaseline.l0 kq x2_1 l0 (l0.length : Int) x7_1 = some r) ∧ Aside0 (kq ≤ k) ∧ Aside0 (Kd.R k107 107 w' w.heap.size (fun _ => True) v2 x2_1) ∧ Aside0 (Below w.heap.size w w'))
  case atStart => exact ⟨(([] : List (S107))), (0), (by first | rfl | (simp; done) | (simp [*]; done)), H', ⟨Nat.le_refl _⟩, ⟨by first | exact Kd.R_nil _ _ _ _ _ | exact Kd.N_nil _ _ _ _ _ | exact Kd.V_nil _ _ _ _ _ | exact Kd.Q_nil _ _ _ _ _ | exact Kd.S_nil _ _ _ _ _⟩, ⟨by repeat (first | (with_reducible first | exact HB.out | apply below_alloc | apply pw_below_drewN | apply below_drew1) | exact HB.out)⟩⟩
  case round =>
    clear H'
    obtain ⟨x2_1, x7_1, rfl, HA, HK1, HO_2, HB⟩ := hrel
    cases gk with
    | zero => exact absurd HA.out (by simp [zstd_zzBaseline.l0])
    | succ k1 =>
      have H := HA.out
      clear HA
      simp only [zstd_zzBaseline.l0] at H
      by_cases c2 : x7_1 < (l0.length : Int)
      · rw [if_pos c2] at H
        have c2b0 : decide (x7_1 < (l0.length : Int)) = true := decide_eq_true c2
        clear c2
        by_cases c3 : 0 ≤ x7_1
        · rw [if_pos c3] at H
          have c3b0 : decide (0 ≤ x7_1) = true := decide_eq_true c3
          clear c3
          by_cases c4 : x7_1 < (l0.length : Int)
          · rw [if_pos c4] at H
            have c4b0 : decide (x7_1 < (l0.length : Int)) = true := decide_eq_true c4
            clear c4
            by_cases c5 : x2_1.length < 17592186044416
            · rw [if_pos c5] at H
              have LMc5 := Aside0.mk c5
              clear c5
              obtain ⟨y154, hy154⟩ : ∃ y_ : List (S107), y_ = (x2_1 ++ [(⟨(rd_T125 l0 x7_1).f0, (rd_T125 l0 x7_1).f1, (rd_T125 l0 x7_1).f2, (rd_T125 l0 x7_1).f3⟩ : S107)]) := ⟨_, rfl⟩
              replace H : (zstd_zzBaseline.l0 k1 y154 l0 (l0.length : Int) (wrap64 (x7_1 + 1))) = some r := by first | (rw [hy154]; with_reducible exact H) | (have H2_ := (Option.bind_some _ _).symm.trans H; rw [hy154]; with_reducible exact H2_) | (have H2_ := (Option.bind_some _ _).symm.trans H; with_reducible exact H2_) | with_reducible exact H | (rw [hy154]; exact H) | exact H
              have Ny154 := Aside0.mk hy154
              clear hy154
              have H' := Aside0.mk H
              clear H
              have p152 : 0 ≤ (x7_1 : Int) := of_decide_eq_true (by first | (with_reducible assumption) | assumption)
              have q152 : x7_1 < (l0.length : Int) := of_decide_eq_true (by first | (with_reducible assumption) | assumption)
              obtain ⟨ad152, e152, hx152_0, hx152_1, hx152_2, hx152_3⟩ := at_T125 HR0.out x7_1 p152 q152
              cases e152
              replace hx152_0 := (HB.out.cell (World.block_lt_of_cell? w _ hx152_0)).trans hx152_0
              replace hx152_1 := (HB.out.cell (World.block_lt_of_cell? w _ hx152_1)).trans hx152_1
              replace hx152_2 := (HB.out.cell (World.block_lt_of_cell? w _ hx152_2)).trans hx152_2
              replace hx152_3 := (HB.out.cell (World.block_lt_of_cell? w _ hx152_3)).trans hx152_3
              replace p152 := eq_true p152
              replace q152 := eq_true q152
              go_wp2_with (first | ((with_reducible refine gate_dst (N := 4) rfl ?_); refine box_event ?hg (N := 4) ?hd (cs := #[.int .u32 0, .int .u8 0, .int .u8 0, .int .u16 0]) (t := 125) ?hr ?_; (case hd => rfl); (case hg => rfl); (case hr => first | (go_simp; done) | (go_simp; rfl)); intro gb153 hg w6 hbox hb; have n0_ := Aside0.mk (Kd.R_below (by (with_reducible repeat (first | apply Kd.R_alloc | apply Kd.R_drewN | apply Kd.R_drew)); exact HO_2.out) hb); have n1_ := Aside0.mk (below_step (by repeat (first | (with_reducible first | exact HB.out | apply below_alloc | apply pw_below_drewN | apply below_drew1) | exact HB.out)) hb); have n2_ := Aside0.mk (hbox); have n3_ := Aside0.mk ((by rw [hg]; exact (below_size (by repeat (first | (with_reducible first | exact HB.out | apply below_alloc | apply pw_below_drewN | apply below_drew1) | exact HB.out))) : w.heap.size ≤ gb153)); have n4_ := Aside0.mk ((by rw [hg]; exact (below_size (by repeat (first | (with_reducible first | exact HB.out | apply below_alloc | apply pw_below_drewN | apply below_drew1) | exact HB.out))) : w.heap.size ≤ gb153)); clear HO_2; clear HB; have HO_2 := n0_; have HB := n1_; have BK153 := n2_; have GW153 := n3_; have GE153 := n4_; clear n0_ n1_ n2_ n3_ n4_; clear hb hbox hg; have hcz7_0 : w6.cell? ⟨gb153, 0, none⟩ = some (.int .u32 0) := (blk_cell BK153.out 0).trans rfl; have hcz7_1 : w6.cell? ⟨gb153, 1, none⟩ = some (.int .u8 0) := (blk_cell BK153.out 1).trans rfl; have hcz7_2 : w6.cell? ⟨gb153, 2, none⟩ = some (.int .u8 0) := (blk_cell BK153.out 2).trans rfl; have hcz7_3 : w6.cell? ⟨gb153, 3, none⟩ = some (.int .u16 0) := (blk_cell BK153.out 3).trans rfl; have hfz7_0 := blk_frozen BK153.out 0; have hfz7_1 := blk_frozen BK153.out 1; have hfz7_2 := blk_frozen BK153.out 2; have hfz7_3 := blk_frozen BK153.out 3) | ((with_reducible refine gate_builtin (b := .append) (xs := #[.tmp 11, .tmp 21]) rfl ?_); at_builtin; refine Kd.R_append k107 (w0 := w) w.heap.size rfl (.tmp 11) (.tmp 21) 55 107 (.agg #[(.int .u32 0), (.int .u8 0), (.int .u8 0), (.int .u16 0)]) 8 rfl Tryd.underlying55 info107 rfl (by decide) (by omega) u2 x2_1 (⟨(rd_T125 l0 x7_1).f0, (rd_T125 l0 x7_1).f1, (rd_T125 l0 x7_1).f2, (rd_T125 l0 x7_1).f3⟩ : S107) [.int .u32 ((rd_T125 l0 x7_1).f0), .int .u8 ((rd_T125 l0 x7_1).f1), .int .u8 ((rd_T125 l0 x7_1).f2), .int .u16 ((rd_T125 l0 x7_1).f3)] (fun _ => True) (fun _ => False) rfl (by first | (go_simp; done) | (go_simp; rfl)) ?aP (fun _ hk => hk.elim) ?aF ?aO ?aB ?aS ?aL ?_; (case aP => exact k107_mkM _ _ _ (⟨(rd_T125 l0 x7_1).f0, (rd_T125 l0 x7_1).f1, (rd_T125 l0 x7_1).f2, (rd_T125 l0 x7_1).f3⟩ : S107)); (case aB => exact (by repeat (first | (with_reducible first | exact HB.out | apply below_alloc | apply pw_below_drewN | apply below_drew1 | refine below_set ?_ GE153.out) | exact HB.out))); (case aF => exact (fun _ _ => trivial)); (case aO => exact (by (with_reducible repeat (first | apply Kd.R_alloc | apply Kd.R_drewN | apply Kd.R_drew)); exact Kd.R_mono (Kd.R_far (p := ⟨gb153, 3, none⟩) (Kd.R_far (p := ⟨gb153, 2, none⟩) (Kd.R_far (p := ⟨gb153, 1, none⟩) (Kd.R_far (p := ⟨gb153, 0, none⟩) (Kd.R_types HO_2.out BK153.out (by decide)) (fun _ hk => hk.2) (.int .u32 ((rd_T125 l0 x7_1).f0))) (fun _ hk => hk.2) (.int .u8 ((rd_T125 l0 x7_1).f1))) (fun _ hk => hk.2) (.int .u8 ((rd_T125 l0 x7_1).f2))) (fun _ hk => hk.2) (.int .u16 ((rd_T125 l0 x7_1).f3))) (fun _ hk => trivial))); (case aS => exact (below_size (by repeat (first | (with_reducible first | exact HB.out | apply below_alloc | apply pw_below_drewN | apply below_drew1 | refine below_set ?_ GE153.out) | exact HB.out)))); (case aL => have := LMc5.out; omega); intro v155 w8 ho hb hg hat; rw [← Ny154.out] at ho; have n0_ := Aside0.mk (blk_grown (g := gb153) (o := .cells #[.int .u32 ((rd_T125 l0 x7_1).f0), .int .u8 ((rd_T125 l0 x7_1).f1), .int .u8 ((rd_T125 l0 x7_1).f2), .int .u16 ((rd_T125 l0 x7_1).f3)] 125 (0, 0)) (by (with_reducible repeat (first | refine blk_drewN ?_ _ | refine blk_drew ?_ | refine blk_alloc ?_ _)); refine blk_put (cs := #[.int .u32 ((rd_T125 l0 x7_1).f0), .int .u8 ((rd_T125 l0 x7_1).f1), .int .u8 ((rd_T125 l0 x7_1).f2), .int .u16 0]) ?_ 3 _ rfl; (with_reducible repeat (first | refine blk_drewN ?_ _ | refine blk_drew ?_ | refine blk_alloc ?_ _)); refine blk_put (cs := #[.int .u32 ((rd_T125 l0 x7_1).f0), .int .u8 ((rd_T125 l0 x7_1).f1), .int .u8 0, .int .u16 0]) ?_ 2 _ rfl; (with_reducible repeat (first | refine blk_drewN ?_ _ | refine blk_drew ?_ | refine blk_alloc ?_ _)); refine blk_put (cs := #[.int .u32 ((rd_T125 l0 x7_1).f0), .int .u8 0, .int .u8 0, .int .u16 0]) ?_ 1 _ rfl; (with_reducible repeat (first | refine blk_drewN ?_ _ | refine blk_drew ?_ | refine blk_alloc ?_ _)); refine blk_put (cs := #[.int .u32 0, .int .u8 0, .int .u8 0, .int .u16 0]) ?_ 0 _ rfl; (with_reducible repeat (first | refine blk_drewN ?_ _ | refine blk_drew ?_ | refine blk_alloc ?_ _)); exact BK153.out) hg (Kd.R_ne HO_2.out BK153.out (by decide))); have n1_ := Aside0.mk (hb); have n2_ := Aside0.mk (ho); clear BK153; clear HB; clear HO_2; have BK153 := n0_; have HB := n1_; have HO156 := n2_; clear n0_ n1_ n2_; clear ho hb hg hat))
              go_roundg k1
              case measure => have := HK1.out; omega
              case rel => exact ⟨(y154), (wrap64 (x7_1 + 1)), (by first | rfl | (simp; done) | (simp [*]; done)), H', ⟨by have := HK1.out; omega⟩, ⟨by (with_reducible repeat (first | apply Kd.R_alloc | apply Kd.R_drewN | apply Kd.R_drew)); exact HO156.out⟩, ⟨by repeat (first | (with_reducible first | exact HB.out | apply below_alloc | apply pw_below_drewN | apply below_drew1 | refine below_set ?_ GE153.out) | exact HB.out)⟩⟩
            · rw [if_neg c5] at H
              exact absurd H (by simp)
          · rw [if_neg c4] at H
            exact absurd H (by simp)
        · rw [if_neg c3] at H
          exact absurd H (by simp)
      · rw [if_neg c2] at H
        have c2b0 : decide (x7_1 < (l0.length : Int)) = false := decide_eq_false c2
        clear c2
        obtain rfl := Option.some.inj H
        go_wp2
        go_ret
        exact ⟨_, by first | rfl | (simp [errW_none, errW_some] <;> rfl) | (simp [*, errW_none, errW_some] <;> rfl), by (with_reducible repeat (first | apply Kd.R_alloc | apply Kd.R_drewN | apply Kd.R_drew)); exact HO_2.out, by repeat (first | (with_reducible first | exact HB.out | apply below_alloc | apply pw_below_drewN | apply below_drew1) | exact HB.out)⟩

-- NOT PRINTED: function 27 (zstd_ZZLiteralBaseline)

/-! ### impl_entriesOf: function 28 -/
def impl_entriesOf.l0 : Nat → List (S105) → List (S29) → Int → Int → Option ((List (S105)))
  | 0, _, _, _, _ => none
  | k + 1, x3, x7, x8, x9 => if x9 < x8 then (if 0 ≤ x9 then (if x9 < (x7.length : Int) then (if x3.length < 35184372088832 then (impl_entriesOf.l0 k (x3 ++ [(⟨((rd_T29 x7 x9).f0) % 256, ((rd_T29 x7 x9).f1) % 256, IntKind.u16.wrap ((rd_T29 x7 x9).f2)⟩ : S105)]) x7 x8 (wrap64 (x9 + 1))) else (none)) else (none)) else (none)) else (some x3)
def impl_entriesOf.f (k : Nat) (l0 : List (S29)) : Option ((List (S105))) := impl_entriesOf.l0 k (([] : List (S105))) l0 (l0.length : Int) 0
theorem impl_entriesOf.mono_l : ∀ k, (∀ y0 y1 y2 y3, LeO (impl_entriesOf.l0 k y0 y1 y2 y3) (impl_entriesOf.l0 (k + 1) y0 y1 y2 y3))
  | 0 => fun _ _ _ _ r h => by simp [impl_entriesOf.l0] at h
  | k + 1 => by
    have ih0 := impl_entriesOf.mono_l k
    · intro y0 y1 y2 y3
      unfold impl_entriesOf.l0
      repeat' first
      | (with_reducible exact ih0 _ _ _ _)
      | (with_reducible exact LeO.refl _)
      | (with_reducible exact LeO.none _)
      | (with_reducible refine LeO.ite ?_ ?_)
      | (with_reducible refine LeO.bind ?_ (fun _ => ?_))
      | exact ih0 _ _ _ _
      | exact LeO.none _
      | refine LeO.ite ?_ ?_
      | refine LeO.bind ?_ (fun _ => ?_)
theorem impl_entriesOf.mono : ∀ a0 k, LeO (impl_entriesOf.f k a0) (impl_entriesOf.f (k + 1) a0) := by
  intro a0 k
  have ih0 := impl_entriesOf.mono_l k
  unfold impl_entriesOf.f
  repeat' first
      | (with_reducible exact ih0 _ _ _ _)
      | (with_reducible exact LeO.refl _)
      | (with_reducible exact LeO.none _)
      | (with_reducible refine LeO.ite ?_ ?_)
      | (with_reducible refine LeO.bind ?_ (fun _ => ?_))
      | exact ih0 _ _ _ _
      | exact LeO.none _
      | refine LeO.ite ?_ ?_
      | refine LeO.bind ?_ (fun _ => ?_)
set_option maxHeartbeats 8000000 in
set_option maxRecDepth 100000 in
theorem impl_entriesOf.calls (k : Nat) (A0 : Option Addr) (c0 : Nat) (l0 : List (S29)) (r : List (S105)) (w : World) (hr0 : Kd.C k29 w A0 l0.length l0) (hc0 : l0.length ≤ c0) (h : impl_entriesOf.f k l0 = some r) :
    Calls Tryd.prog 28 #[.slice A0 l0.length c0] w fun e w' => ∃ v0_ : Value, e = .returned (v0_) ∧ Kd.R k105 105 w' w.heap.size (fun _ => True) v0_ r ∧ Below w.heap.size w w' := by
  have hu29 := Tryd.underlying29
  have hu105 := Tryd.underlying105
  have HR0 := Aside0.mk hr0
  have HC0 := Aside0.mk hc0
  clear hr0 hc0
  have HB := Aside0.mk (Below.refl w.heap.size w)
  have H : (impl_entriesOf.l0 k (([] : List (S105))) l0 (l0.length : Int) 0) = some r := h
  clear h
  obtain ⟨y160, hy160⟩ : ∃ y_ : List (S105), y_ = (([] : List (S105))) := ⟨_, rfl⟩
  replace H : (impl_entriesOf.l0 k y160 l0 (l0.length : Int) 0) = some r := by first | (rw [hy160]; with_reducible exact H) | (have H2_ := (Option.bind_some _ _).symm.trans H; rw [hy160]; with_reducible exact H2_) | (have H2_ := (Option.bind_some _ _).symm.trans H; with_reducible exact H2_) | with_reducible exact H | (rw [hy160]; exact H) | exact H
  have Ny160 := Aside0.mk hy160
  clear hy160
  have H' := Aside0.mk H
  clear H
  go_enter Tryd.func28, Tryd.ntmps28
  go_wp2_with (first | ((with_reducible refine gate_dst (N := 6) rfl ?_); refine Kd.R_lit k105 _ 105 ?hg (N := 6) ?hd (xs := ([] : List (S105))) (inner := []) (ok := fun _ => True) (okp := fun _ => True) ?hr ?hp (fun _ hk => hk) trivial (Below.refl _ _) (Nat.le_refl _) (by simp) ?_; (case hd => rfl); (case hg => rfl); (case hr => first | (go_simp; done) | (go_simp; rfl)); (case hp => exact (Reps.none _ _)); intro v161 w2 ho3 hb hg_ hnew_; clear hg_ hnew_; (first | rw [← Ny160.out] at ho3 | (simp only [Int.reduceToNat] at ho3; rw [← Ny160.out] at ho3)); have n0_ := Aside0.mk (Kd.R_lower ho3 (below_size (by repeat (first | (with_reducible first | exact HB.out | apply below_alloc | apply pw_below_drewN | apply below_drew1) | exact HB.out)))); have n1_ := Aside0.mk (below_step (by repeat (first | (with_reducible first | exact HB.out | apply below_alloc | apply pw_below_drewN | apply below_drew1) | exact HB.out)) hb); clear HB; have HO162 := n0_; have HB := n1_; clear n0_ n1_; clear hb ho3))
  go_loopg [3, 9] k (fun kq v3 v9 w' => ∃ (x3_1 : List (S105)) (x9_1 : Int), v9 = .int .i64 x9_1 ∧ Aside0 (impl_entriesOf.l0 kq x3_1 l0 (l0.length : Int) x9_1 = some r) ∧ Aside0 (kq ≤ k) ∧ Aside0 (Kd.R k105 105 w' w.heap.size (fun _ => True) v3 x3_1) ∧ Aside0 (Below w.heap.size w w'))
  case atStart => exact ⟨(y160), (0), (by first | rfl | (simp; done) | (simp [*]; done)), H', ⟨Nat.le_refl _⟩, ⟨by (with_reducible repeat (first | apply Kd.R_alloc | apply Kd.R_drewN | apply Kd.R_drew)); exact HO162.out⟩, ⟨by repeat (first | (with_reducible first | exact HB.out | apply below_alloc | apply pw_below_drewN | apply below_drew1) | exact HB.out)⟩⟩
  case round =>
    clear H'
    try clear c2
    try clear p2
    obtain ⟨x3_1, x9_1, rfl, HA, HK1, HO_3, HB⟩ := hrel
    cases gk with
    | zero => exact absurd HA.out (by simp [impl_entriesOf.l0])
    | succ k1 =>
      have H := HA.out
      clear HA
      simp only [impl_entriesOf.l0] at H
      by_cases c4 : x9_1 < (l0.length : Int)
      · rw [if_pos c4] at H
        have c4b0 : decide (x9_1 < (l0.length : Int)) = true := decide_eq_true c4
        clear c4
        by_cases c5 : 0 ≤ x9_1
        · rw [if_pos c5] at H
          have c5b0 : decide (0 ≤ x9_1) = true := decide_eq_true c5
          clear c5
          by_cases c6 : x9_1 < (l0.length : Int)
          · rw [if_pos c6] at H
            have c6b0 : decide (x9_1 < (l0.length : Int)) = true := decide_eq_true c6
            clear c6
            by_cases c7 : x3_1.length < 35184372088832
            · rw [if_pos c7] at H
              have LMc7 := Aside0.mk c7
              clear c7
              obtain ⟨y165, hy165⟩ : ∃ y_ : List (S105), y_ = (x3_1 ++ [(⟨((rd_T29 l0 x9_1).f0) % 256, ((rd_T29 l0 x9_1).f1) % 256, IntKind.u16.wrap ((rd_T29 l0 x9_1).f2)⟩ : S105)]) := ⟨_, rfl⟩
              replace H : (impl_entriesOf.l0 k1 y165 l0 (l0.length : Int) (wrap64 (x9_1 + 1))) = some r := by first | (rw [hy165]; with_reducible exact H) | (have H2_ := (Option.bind_some _ _).symm.trans H; rw [hy165]; with_reducible exact H2_) | (have H2_ := (Option.bind_some _ _).symm.trans H; with_reducible exact H2_) | with_reducible exact H | (rw [hy165]; exact H) | exact H
              have Ny165 := Aside0.mk hy165
              clear hy165
              have H' := Aside0.mk H
              clear H
              have p163 : 0 ≤ (x9_1 : Int) := of_decide_eq_true (by first | (with_reducible assumption) | assumption)
              have q163 : x9_1 < (l0.length : Int) := of_decide_eq_true (by first | (with_reducible assumption) | assumption)
              obtain ⟨ad163, e163, hx163_0, hx163_1, hx163_2⟩ := at_T29 HR0.out x9_1 p163 q163
              cases e163
              replace hx163_0 := (HB.out.cell (World.block_lt_of_cell? w _ hx163_0)).trans hx163_0
              replace hx163_1 := (HB.out.cell (World.block_lt_of_cell? w _ hx163_1)).trans hx163_1
              replace hx163_2 := (HB.out.cell (World.block_lt_of_cell? w _ hx163_2)).trans hx163_2
              replace p163 := eq_true p163
              replace q163 := eq_true q163
              go_wp2_with (first | ((with_reducible refine gate_dst (N := 5) rfl ?_); refine box_event ?hg (N := 5) ?hd (cs := #[.int .i64 0, .int .i64 0, .int .i64 0]) (t := 29) ?hr ?_; (case hd => rfl); (case hg => rfl); (case hr => first | (go_simp; done) | (go_simp; rfl)); intro gb164 hg w8 hbox hb; have n0_ := Aside0.mk (Kd.R_below (by (with_reducible repeat (first | apply Kd.R_alloc | apply Kd.R_drewN | apply Kd.R_drew)); exact HO_3.out) hb); have n1_ := Aside0.mk (below_step (by repeat (first | (with_reducible first | exact HB.out | apply below_alloc | apply pw_below_drewN | apply below_drew1) | exact HB.out)) hb); have n2_ := Aside0.mk (hbox); have n3_ := Aside0.mk ((by rw [hg]; exact (below_size (by repeat (first | (with_reducible first | exact HB.out | apply below_alloc | apply pw_below_drewN | apply below_drew1) | exact HB.out))) : w.heap.size ≤ gb164)); have n4_ := Aside0.mk ((by rw [hg]; exact (below_size (by repeat (first | (with_reducible first | exact HB.out | apply below_alloc | apply pw_below_drewN | apply below_drew1) | exact HB.out))) : w.heap.size ≤ gb164)); clear HO_3; clear HB; have HO_3 := n0_; have HB := n1_; have BK164 := n2_; have GW164 := n3_; have GE164 := n4_; clear n0_ n1_ n2_ n3_ n4_; clear hb hbox hg; have hcz9_0 : w8.cell? ⟨gb164, 0, none⟩ = some (.int .i64 0) := (blk_cell BK164.out 0).trans rfl; have hcz9_1 : w8.cell? ⟨gb164, 1, none⟩ = some (.int .i64 0) := (blk_cell BK164.out 1).trans rfl; have hcz9_2 : w8.cell? ⟨gb164, 2, none⟩ = some (.int .i64 0) := (blk_cell BK164.out 2).trans rfl; have hfz9_0 := blk_frozen BK164.out 0; have hfz9_1 := blk_frozen BK164.out 1; have hfz9_2 := blk_frozen BK164.out 2) | ((with_reducible refine gate_builtin (b := .append) (xs := #[.tmp 13, .tmp 24]) rfl ?_); at_builtin; refine Kd.R_append k105 (w0 := w) w.heap.size rfl (.tmp 13) (.tmp 24) 60 105 (.agg #[(.int .u8 0), (.int .u8 0), (.int .u16 0)]) 4 rfl Tryd.underlying60 info105 rfl (by decide) (by omega) u3 x3_1 (⟨((rd_T29 l0 x9_1).f0) % 256, ((rd_T29 l0 x9_1).f1) % 256, IntKind.u16.wrap ((rd_T29 l0 x9_1).f2)⟩ : S105) [.int .u8 (((rd_T29 l0 x9_1).f0) % 256), .int .u8 (((rd_T29 l0 x9_1).f1) % 256), .int .u16 (IntKind.u16.wrap ((rd_T29 l0 x9_1).f2))] (fun _ => True) (fun _ => False) rfl (by first | (go_simp; done) | (go_simp; rfl)) ?aP (fun _ hk => hk.elim) ?aF ?aO ?aB ?aS ?aL ?_; (case aP => exact k105_mkM _ _ _ (⟨((rd_T29 l0 x9_1).f0) % 256, ((rd_T29 l0 x9_1).f1) % 256, IntKind.u16.wrap ((rd_T29 l0 x9_1).f2)⟩ : S105)); (case aB => exact (by repeat (first | (with_reducible first | exact HB.out | apply below_alloc | apply pw_below_drewN | apply below_drew1 | refine below_set ?_ GE164.out) | exact HB.out))); (case aF => exact (fun _ _ => trivial)); (case aO => exact (by (with_reducible repeat (first | apply Kd.R_alloc | apply Kd.R_drewN | apply Kd.R_drew)); exact Kd.R_mono (Kd.R_far (p := ⟨gb164, 2, none⟩) (Kd.R_far (p := ⟨gb164, 1, none⟩) (Kd.R_far (p := ⟨gb164, 0, none⟩) (Kd.R_types HO_3.out BK164.out (by decide)) (fun _ hk => hk.2) (.int .i64 ((rd_T29 l0 x9_1).f0))) (fun _ hk => hk.2) (.int .i64 ((rd_T29 l0 x9_1).f1))) (fun _ hk => hk.2) (.int .i64 ((rd_T29 l0 x9_1).f2))) (fun _ hk => trivial))); (case aS => exact (below_size (by repeat (first | (with_reducible first | exact HB.out | apply below_alloc | apply pw_below_drewN | apply below_drew1 | refine below_set ?_ GE164.out) | exact HB.out)))); (case aL => have := LMc7.out; omega); intro v166 w10 ho hb hg hat; rw [← Ny165.out] at ho; have n0_ := Aside0.mk (blk_grown (g := gb164) (o := .cells #[.int .i64 ((rd_T29 l0 x9_1).f0), .int .i64 ((rd_T29 l0 x9_1).f1), .int .i64 ((rd_T29 l0 x9_1).f2)] 29 (0, 0)) (by (with_reducible repeat (first | refine blk_drewN ?_ _ | refine blk_drew ?_ | refine blk_alloc ?_ _)); refine blk_put (cs := #[.int .i64 ((rd_T29 l0 x9_1).f0), .int .i64 ((rd_T29 l0 x9_1).f1), .int .i64 0]) ?_ 2 _ rfl; (with_reducible repeat (first | refine blk_drewN ?_ _ | refine blk_drew ?_ | refine blk_alloc ?_ _)); refine blk_put (cs := #[.int .i64 ((rd_T29 l0 x9_1).f0), .int .i64 0, .int .i64 0]) ?_ 1 _ rfl; (with_reducible repeat (first | refine blk_drewN ?_ _ | refine blk_drew ?_ | refine blk_alloc ?_ _)); refine blk_put (cs := #[.int .i64 0, .int .i64 0, .int .i64 0]) ?_ 0 _ rfl; (with_reducible repeat (first | refine blk_drewN ?_ _ | refine blk_drew ?_ | refine blk_alloc ?_ _)); exact BK164.out) hg (Kd.R_ne HO_3.out BK164.out (by decide))); have n1_ := Aside0.mk (hb); have n2_ := Aside0.mk (ho); clear BK164; clear HB; clear HO_3; have BK164 := n0_; have HB := n1_; have HO167 := n2_; clear n0_ n1_ n2_; clear ho hb hg hat))
              go_roundg k1
              case measure => have := HK1.out; omega
              case rel => exact ⟨(y165), (wrap64 (x9_1 + 1)), (by first | rfl | (simp; done) | (simp [*]; done)), H', ⟨by have := HK1.out; omega⟩, ⟨by (with_reducible repeat (first | apply Kd.R_alloc | apply Kd.R_drewN | apply Kd.R_drew)); exact HO167.out⟩, ⟨by repeat (first | (with_reducible first | exact HB.out | apply below_alloc | apply pw_below_drewN | apply below_drew1 | refine below_set ?_ GE164.out) | exact HB.out)⟩⟩
            · rw [if_neg c7] at H
              exact absurd H (by simp)
          · rw [if_neg c6] at H
            exact absurd H (by simp)
        · rw [if_neg c5] at H
          exact absurd H (by simp)
      · rw [if_neg c4] at H
        have c4b0 : decide (x9_1 < (l0.length : Int)) = false := decide_eq_false c4
        clear c4
        obtain rfl := Option.some.inj H
        go_wp2
        go_ret
        exact ⟨_, by first | rfl | (simp [errW_none, errW_some] <;> rfl) | (simp [*, errW_none, errW_some] <;> rfl), by (with_reducible repeat (first | apply Kd.R_alloc | apply Kd.R_drewN | apply Kd.R_drew)); exact HO_3.out, by repeat (first | (with_reducible first | exact HB.out | apply below_alloc | apply pw_below_drewN | apply below_drew1) | exact HB.out)⟩

/-! ### impl_basedOf: function 29 -/
def impl_basedOf.l0 : Nat → List (S54) → List (S107) → Int → Int → Option ((List (S54)))
  | 0, _, _, _, _ => none
  | k + 1, x3, x7, x8, x9 => if x9 < x8 then (if 0 ≤ x9 then (if x9 < (x7.length : Int) then (if x3.length < 4398046511104 then (impl_basedOf.l0 k (x3 ++ [(⟨wrap64 ((rd_T107 x7 x9).f0), wrap64 ((rd_T107 x7 x9).f1), wrap64 ((rd_T107 x7 x9).f2), wrap64 ((rd_T107 x7 x9).f3)⟩ : S54)]) x7 x8 (wrap64 (x9 + 1))) else (none)) else (none)) else (none)) else (some x3)
def impl_basedOf.f (k : Nat) (l0 : List (S107)) : Option ((List (S54))) := impl_basedOf.l0 k (([] : List (S54))) l0 (l0.length : Int) 0
theorem impl_basedOf.mono_l : ∀ k, (∀ y0 y1 y2 y3, LeO (impl_basedOf.l0 k y0 y1 y2 y3) (impl_basedOf.l0 (k + 1) y0 y1 y2 y3))
  | 0 => fun _ _ _ _ r h => by simp [impl_basedOf.l0] at h
  | k + 1 => by
    have ih0 := impl_basedOf.mono_l k
    · intro y0 y1 y2 y3
      unfold impl_basedOf.l0
      repeat' first
      | (with_reducible exact ih0 _ _ _ _)
      | (with_reducible exact LeO.refl _)
      | (with_reducible exact LeO.none _)
      | (with_reducible refine LeO.ite ?_ ?_)
      | (with_reducible refine LeO.bind ?_ (fun _ => ?_))
      | exact ih0 _ _ _ _
      | exact LeO.none _
      | refine LeO.ite ?_ ?_
      | refine LeO.bind ?_ (fun _ => ?_)
theorem impl_basedOf.mono : ∀ a0 k, LeO (impl_basedOf.f k a0) (impl_basedOf.f (k + 1) a0) := by
  intro a0 k
  have ih0 := impl_basedOf.mono_l k
  unfold impl_basedOf.f
  repeat' first
      | (with_reducible exact ih0 _ _ _ _)
      | (with_reducible exact LeO.refl _)
      | (with_reducible exact LeO.none _)
      | (with_reducible refine LeO.ite ?_ ?_)
      | (with_reducible refine LeO.bind ?_ (fun _ => ?_))
      | exact ih0 _ _ _ _
      | exact LeO.none _
      | refine LeO.ite ?_ ?_
      | refine LeO.bind ?_ (fun _ => ?_)
set_option maxHeartbeats 8000000 in
set_option maxRecDepth 100000 in
theorem impl_basedOf.calls (k : Nat) (A0 : Option Addr) (c0 : Nat) (l0 : List (S107)) (r : List (S54)) (w : World) (hr0 : Kd.C k107 w A0 l0.length l0) (hc0 : l0.length ≤ c0) (h : impl_basedOf.f k l0 = some r) :
    Calls Tryd.prog 29 #[.slice A0 l0.length c0] w fun e w' => ∃ v0_ : Value, e = .returned (v0_) ∧ Kd.R k54 54 w' w.heap.size (fun _ => True) v0_ r ∧ Below w.heap.size w w' := by
  have hu107 := Tryd.underlying107
  have hu54 := Tryd.underlying54
  have HR0 := Aside0.mk hr0
  have HC0 := Aside0.mk hc0
  clear hr0 hc0
  have HB := Aside0.mk (Below.refl w.heap.size w)
  have H : (impl_basedOf.l0 k (([] : List (S54))) l0 (l0.length : Int) 0) = some r := h
  clear h
  obtain ⟨y168, hy168⟩ : ∃ y_ : List (S54), y_ = (([] : List (S54))) := ⟨_, rfl⟩
  replace H : (impl_basedOf.l0 k y168 l0 (l0.length : Int) 0) = some r := by first | (rw [hy168]; with_reducible exact H) | (have H2_ := (Option.bind_some _ _).symm.trans H; rw [hy168]; with_reducible exact H2_) | (have H2_ := (Option.bind_some _ _).symm.trans H; with_reducible exact H2_) | with_reducible exact H | (rw [hy168]; exact H) | exact H
  have Ny168 := Aside0.mk hy168
  clear hy168
  have H' := Aside0.mk H
  clear H
  go_enter Tryd.func29, Tryd.ntmps29
  go_wp2_with (first | ((with_reducible refine gate_dst (N := 6) rfl ?_); refine Kd.R_lit k54 _ 54 ?hg (N := 6) ?hd (xs := ([] : List (S54))) (inner := []) (ok := fun _ => True) (okp := fun _ => True) ?hr ?hp (fun _ hk => hk) trivial (Below.refl _ _) (Nat.le_refl _) (by simp) ?_; (case hd => rfl); (case hg => rfl); (case hr => first | (go_simp; done) | (go_simp; rfl)); (case hp => exact (Reps.none _ _)); intro v169 w2 ho3 hb hg_ hnew_; clear hg_ hnew_; (first | rw [← Ny168.out] at ho3 | (simp only [Int.reduceToNat] at ho3; rw [← Ny168.out] at ho3)); have n0_ := Aside0.mk (Kd.R_lower ho3 (below_size (by repeat (first | (with_reducible first | exact HB.out | apply below_alloc | apply pw_below_drewN | apply below_drew1) | exact HB.out)))); have n1_ := Aside0.mk (below_step (by repeat (first | (with_reducible first | exact HB.out | apply below_alloc | apply pw_below_drewN | apply below_drew1) | exact HB.out)) hb); clear HB; have HO170 := n0_; have HB := n1_; clear n0_ n1_; clear hb ho3))
  go_loopg [3, 9] k (fun kq v3 v9 w' => ∃ (x3_1 : List (S54)) (x9_1 : Int), v9 = .int .i64 x9_1 ∧ Aside0 (impl_basedOf.l0 kq x3_1 l0 (l0.length : Int) x9_1 = some r) ∧ Aside0 (kq ≤ k) ∧ Aside0 (Kd.R k54 54 w' w.heap.size (fun _ => True) v3 x3_1) ∧ Aside0 (Below w.heap.size w w'))
  case atStart => exact ⟨(y168), (0), (by first | rfl | (simp; done) | (simp [*]; done)), H', ⟨Nat.le_refl _⟩, ⟨by (with_reducible repeat (first | apply Kd.R_alloc | apply Kd.R_drewN | apply Kd.R_drew)); exact HO170.out⟩, ⟨by repeat (first | (with_reducible first | exact HB.out | apply below_alloc | apply pw_below_drewN | apply below_drew1) | exact HB.out)⟩⟩
  case round =>
    clear H'
    try clear c2
    try clear p2
    obtain ⟨x3_1, x9_1, rfl, HA, HK1, HO_3, HB⟩ := hrel
    cases gk with
    | zero => exact absurd HA.out (by simp [impl_basedOf.l0])
    | succ k1 =>
      have H := HA.out
      clear HA
      simp only [impl_basedOf.l0] at H
      by_cases c4 : x9_1 < (l0.length : Int)
      · rw [if_pos c4] at H
        have c4b0 : decide (x9_1 < (l0.length : Int)) = true := decide_eq_true c4
        clear c4
        by_cases c5 : 0 ≤ x9_1
        · rw [if_pos c5] at H
          have c5b0 : decide (0 ≤ x9_1) = true := decide_eq_true c5
          clear c5
          by_cases c6 : x9_1 < (l0.length : Int)
          · rw [if_pos c6] at H
            have c6b0 : decide (x9_1 < (l0.length : Int)) = true := decide_eq_true c6
            clear c6
            by_cases c7 : x3_1.length < 4398046511104
            · rw [if_pos c7] at H
              have LMc7 := Aside0.mk c7
              clear c7
              obtain ⟨y173, hy173⟩ : ∃ y_ : List (S54), y_ = (x3_1 ++ [(⟨wrap64 ((rd_T107 l0 x9_1).f0), wrap64 ((rd_T107 l0 x9_1).f1), wrap64 ((rd_T107 l0 x9_1).f2), wrap64 ((rd_T107 l0 x9_1).f3)⟩ : S54)]) := ⟨_, rfl⟩
              replace H : (impl_basedOf.l0 k1 y173 l0 (l0.length : Int) (wrap64 (x9_1 + 1))) = some r := by first | (rw [hy173]; with_reducible exact H) | (have H2_ := (Option.bind_some _ _).symm.trans H; rw [hy173]; with_reducible exact H2_) | (have H2_ := (Option.bind_some _ _).symm.trans H; with_reducible exact H2_) | with_reducible exact H | (rw [hy173]; exact H) | exact H
              have Ny173 := Aside0.mk hy173
              clear hy173
              have H' := Aside0.mk H
              clear H
              have p171 : 0 ≤ (x9_1 : Int) := of_decide_eq_true (by first | (with_reducible assumption) | assumption)
              have q171 : x9_1 < (l0.length : Int) := of_decide_eq_true (by first | (with_reducible assumption) | assumption)
              obtain ⟨ad171, e171, hx171_0, hx171_1, hx171_2, hx171_3⟩ := at_T107 HR0.out x9_1 p171 q171
              cases e171
              replace hx171_0 := (HB.out.cell (World.block_lt_of_cell? w _ hx171_0)).trans hx171_0
              replace hx171_1 := (HB.out.cell (World.block_lt_of_cell? w _ hx171_1)).trans hx171_1
              replace hx171_2 := (HB.out.cell (World.block_lt_of_cell? w _ hx171_2)).trans hx171_2
              replace hx171_3 := (HB.out.cell (World.block_lt_of_cell? w _ hx171_3)).trans hx171_3
              replace p171 := eq_true p171
              replace q171 := eq_true q171
              go_wp2_with (first | ((with_reducible refine gate_dst (N := 5) rfl ?_); refine box_event ?hg (N := 5) ?hd (cs := #[.int .u32 0, .int .u8 0, .int .u8 0, .int .u16 0]) (t := 107) ?hr ?_; (case hd => rfl); (case hg => rfl); (case hr => first | (go_simp; done) | (go_simp; rfl)); intro gb172 hg w8 hbox hb; have n0_ := Aside0.mk (Kd.R_below (by (with_reducible repeat (first | apply Kd.R_alloc | apply Kd.R_drewN | apply Kd.R_drew)); exact HO_3.out) hb); have n1_ := Aside0.mk (below_step (by repeat (first | (with_reducible first | exact HB.out | apply below_alloc | apply pw_below_drewN | apply below_drew1) | exact HB.out)) hb); have n2_ := Aside0.mk (hbox); have n3_ := Aside0.mk ((by rw [hg]; exact (below_size (by repeat (first | (with_reducible first | exact HB.out | apply below_alloc | apply pw_below_drewN | apply below_drew1) | exact HB.out))) : w.heap.size ≤ gb172)); have n4_ := Aside0.mk ((by rw [hg]; exact (below_size (by repeat (first | (with_reducible first | exact HB.out | apply below_alloc | apply pw_below_drewN | apply below_drew1) | exact HB.out))) : w.heap.size ≤ gb172)); clear HO_3; clear HB; have HO_3 := n0_; have HB := n1_; have BK172 := n2_; have GW172 := n3_; have GE172 := n4_; clear n0_ n1_ n2_ n3_ n4_; clear hb hbox hg; have hcz9_0 : w8.cell? ⟨gb172, 0, none⟩ = some (.int .u32 0) := (blk_cell BK172.out 0).trans rfl; have hcz9_1 : w8.cell? ⟨gb172, 1, none⟩ = some (.int .u8 0) := (blk_cell BK172.out 1).trans rfl; have hcz9_2 : w8.cell? ⟨gb172, 2, none⟩ = some (.int .u8 0) := (blk_cell BK172.out 2).trans rfl; have hcz9_3 : w8.cell? ⟨gb172, 3, none⟩ = some (.int .u16 0) := (blk_cell BK172.out 3).trans rfl; have hfz9_0 := blk_frozen BK172.out 0; have hfz9_1 := blk_frozen BK172.out 1; have hfz9_2 := blk_frozen BK172.out 2; have hfz9_3 := blk_frozen BK172.out 3) | ((with_reducible refine gate_builtin (b := .append) (xs := #[.tmp 13, .tmp 27]) rfl ?_); at_builtin; refine Kd.R_append k54 (w0 := w) w.heap.size rfl (.tmp 13) (.tmp 27) 24 54 (.agg #[(.int .i64 0), (.int .i64 0), (.int .i64 0), (.int .i64 0)]) 32 rfl Tryd.underlying24 info54 rfl (by decide) (by omega) u3 x3_1 (⟨wrap64 ((rd_T107 l0 x9_1).f0), wrap64 ((rd_T107 l0 x9_1).f1), wrap64 ((rd_T107 l0 x9_1).f2), wrap64 ((rd_T107 l0 x9_1).f3)⟩ : S54) [.int .i64 (wrap64 ((rd_T107 l0 x9_1).f0)), .int .i64 (wrap64 ((rd_T107 l0 x9_1).f1)), .int .i64 (wrap64 ((rd_T107 l0 x9_1).f2)), .int .i64 (wrap64 ((rd_T107 l0 x9_1).f3))] (fun _ => True) (fun _ => False) rfl (by first | (go_simp; done) | (go_simp; rfl)) ?aP (fun _ hk => hk.elim) ?aF ?aO ?aB ?aS ?aL ?_; (case aP => exact k54_mkM _ _ _ (⟨wrap64 ((rd_T107 l0 x9_1).f0), wrap64 ((rd_T107 l0 x9_1).f1), wrap64 ((rd_T107 l0 x9_1).f2), wrap64 ((rd_T107 l0 x9_1).f3)⟩ : S54)); (case aB => exact (by repeat (first | (with_reducible first | exact HB.out | apply below_alloc | apply pw_below_drewN | apply below_drew1 | refine below_set ?_ GE172.out) | exact HB.out))); (case aF => exact (fun _ _ => trivial)); (case aO => exact (by (with_reducible repeat (first | apply Kd.R_alloc | apply Kd.R_drewN | apply Kd.R_drew)); exact Kd.R_mono (Kd.R_far (p := ⟨gb172, 3, none⟩) (Kd.R_far (p := ⟨gb172, 2, none⟩) (Kd.R_far (p := ⟨gb172, 1, none⟩) (Kd.R_far (p := ⟨gb172, 0, none⟩) (Kd.R_types HO_3.out BK172.out (by decide)) (fun _ hk => hk.2) (.int .u32 ((rd_T107 l0 x9_1).f0))) (fun _ hk => hk.2) (.int .u8 ((rd_T107 l0 x9_1).f1))) (fun _ hk => hk.2) (.int .u8 ((rd_T107 l0 x9_1).f2))) (fun _ hk => hk.2) (.int .u16 ((rd_T107 l0 x9_1).f3))) (fun _ hk => trivial))); (case aS => exact (below_size (by repeat (first | (with_reducible first | exact HB.out | apply below_alloc | apply pw_below_drewN | apply below_drew1 | refine below_set ?_ GE172.out) | exact HB.out)))); (case aL => have := LMc7.out; omega); intro v174 w10 ho hb hg hat; rw [← Ny173.out] at ho; have n0_ := Aside0.mk (blk_grown (g := gb172) (o := .cells #[.int .u32 ((rd_T107 l0 x9_1).f0), .int .u8 ((rd_T107 l0 x9_1).f1), .int .u8 ((rd_T107 l0 x9_1).f2), .int .u16 ((rd_T107 l0 x9_1).f3)] 107 (0, 0)) (by (with_reducible repeat (first | refine blk_drewN ?_ _ | refine blk_drew ?_ | refine blk_alloc ?_ _)); refine blk_put (cs := #[.int .u32 ((rd_T107 l0 x9_1).f0), .int .u8 ((rd_T107 l0 x9_1).f1), .int .u8 ((rd_T107 l0 x9_1).f2), .int .u16 0]) ?_ 3 _ rfl; (with_reducible repeat (first | refine blk_drewN ?_ _ | refine blk_drew ?_ | refine blk_alloc ?_ _)); refine blk_put (cs := #[.int .u32 ((rd_T107 l0 x9_1).f0), .int .u8 ((rd_T107 l0 x9_1).f1), .int .u8 0, .int .u16 0]) ?_ 2 _ rfl; (with_reducible repeat (first | refine blk_drewN ?_ _ | refine blk_drew ?_ | refine blk_alloc ?_ _)); refine blk_put (cs := #[.int .u32 ((rd_T107 l0 x9_1).f0), .int .u8 0, .int .u8 0, .int .u16 0]) ?_ 1 _ rfl; (with_reducible repeat (first | refine blk_drewN ?_ _ | refine blk_drew ?_ | refine blk_alloc ?_ _)); refine blk_put (cs := #[.int .u32 0, .int .u8 0, .int .u8 0, .int .u16 0]) ?_ 0 _ rfl; (with_reducible repeat (first | refine blk_drewN ?_ _ | refine blk_drew ?_ | refine blk_alloc ?_ _)); exact BK172.out) hg (Kd.R_ne HO_3.out BK172.out (by decide))); have n1_ := Aside0.mk (hb); have n2_ := Aside0.mk (ho); clear BK172; clear HB; clear HO_3; have BK172 := n0_; have HB := n1_; have HO175 := n2_; clear n0_ n1_ n2_; clear ho hb hg hat))
              go_roundg k1
              case measure => have := HK1.out; omega
              case rel => exact ⟨(y173), (wrap64 (x9_1 + 1)), (by first | rfl | (simp; done) | (simp [*]; done)), H', ⟨by have := HK1.out; omega⟩, ⟨by (with_reducible repeat (first | apply Kd.R_alloc | apply Kd.R_drewN | apply Kd.R_drew)); exact HO175.out⟩, ⟨by repeat (first | (with_reducible first | exact HB.out | apply below_alloc | apply pw_below_drewN | apply below_drew1 | refine below_set ?_ GE172.out) | exact HB.out)⟩⟩
            · rw [if_neg c7] at H
              exact absurd H (by simp)
          · rw [if_neg c6] at H
            exact absurd H (by simp)
        · rw [if_neg c5] at H
          exact absurd H (by simp)
      · rw [if_neg c4] at H
        have c4b0 : decide (x9_1 < (l0.length : Int)) = false := decide_eq_false c4
        clear c4
        obtain rfl := Option.some.inj H
        go_wp2
        go_ret
        exact ⟨_, by first | rfl | (simp [errW_none, errW_some] <;> rfl) | (simp [*, errW_none, errW_some] <;> rfl), by (with_reducible repeat (first | apply Kd.R_alloc | apply Kd.R_drewN | apply Kd.R_drew)); exact HO_3.out, by repeat (first | (with_reducible first | exact HB.out | apply below_alloc | apply pw_below_drewN | apply below_drew1) | exact HB.out)⟩

-- NOT PRINTED: function 11 (impl_LiteralStates)

/-! ### spec_AreStates: function 12 -/
def spec_AreStates.l0 : Nat → List (S29) → Int → Int → Option (Bool)
  | 0, _, _, _ => none
  | k + 1, x5, x6, x7 => if x7 < x6 then (if 0 ≤ x7 then (if x7 < (x5.length : Int) then (if ((rd_T29 x5 x7).f0) < 0 then (some false) else (if ((rd_T29 x5 x7).f0) > 255 then (some false) else (if ((rd_T29 x5 x7).f1) < 0 then (some false) else (if ((rd_T29 x5 x7).f1) > 255 then (some false) else (if ((rd_T29 x5 x7).f2) < 0 then (some false) else (if ((rd_T29 x5 x7).f2) > 65535 then (some false) else (spec_AreStates.l0 k x5 x6 (wrap64 (x7 + 1))))))))) else (none)) else (none)) else (some true)
def spec_AreStates.f (k : Nat) (l0 : List (S29)) : Option (Bool) := spec_AreStates.l0 k l0 (l0.length : Int) 0
theorem spec_AreStates.mono_l : ∀ k, (∀ y0 y1 y2, LeO (spec_AreStates.l0 k y0 y1 y2) (spec_AreStates.l0 (k + 1) y0 y1 y2))
  | 0 => fun _ _ _ r h => by simp [spec_AreStates.l0] at h
  | k + 1 => by
    have ih0 := spec_AreStates.mono_l k
    · intro y0 y1 y2
      unfold spec_AreStates.l0
      repeat' first
      | (with_reducible exact ih0 _ _ _)
      | (with_reducible exact LeO.refl _)
      | (with_reducible exact LeO.none _)
      | (with_reducible refine LeO.ite ?_ ?_)
      | (with_reducible refine LeO.bind ?_ (fun _ => ?_))
      | exact ih0 _ _ _
      | exact LeO.none _
      | refine LeO.ite ?_ ?_
      | refine LeO.bind ?_ (fun _ => ?_)
theorem spec_AreStates.mono : ∀ a0 k, LeO (spec_AreStates.f k a0) (spec_AreStates.f (k + 1) a0) := by
  intro a0 k
  have ih0 := spec_AreStates.mono_l k
  unfold spec_AreStates.f
  repeat' first
      | (with_reducible exact ih0 _ _ _)
      | (with_reducible exact LeO.refl _)
      | (with_reducible exact LeO.none _)
      | (with_reducible refine LeO.ite ?_ ?_)
      | (with_reducible refine LeO.bind ?_ (fun _ => ?_))
      | exact ih0 _ _ _
      | exact LeO.none _
      | refine LeO.ite ?_ ?_
      | refine LeO.bind ?_ (fun _ => ?_)
set_option maxHeartbeats 8000000 in
set_option maxRecDepth 100000 in
theorem spec_AreStates.calls (k : Nat) (A0 : Option Addr) (c0 : Nat) (l0 : List (S29)) (r : Bool) (w : World) (hr0 : Kd.C k29 w A0 l0.length l0) (hc0 : l0.length ≤ c0) (h : spec_AreStates.f k l0 = some r) :
    Calls Tryd.prog 12 #[.slice A0 l0.length c0] w fun e w' => e = .returned (.bool r) ∧ Below w.heap.size w w' := by
  have hu29 := Tryd.underlying29
  have HR0 := Aside0.mk hr0
  have HC0 := Aside0.mk hc0
  clear hr0 hc0
  have HB := Aside0.mk (Below.refl w.heap.size w)
  have H : (spec_AreStates.l0 k l0 (l0.length : Int) 0) = some r := h
  clear h
  have H' := Aside0.mk H
  clear H
  go_enter Tryd.func12, Tryd.ntmps12
  go_wp2
  go_loopg [7] k (fun kq v7 w' => ∃ (x7_1 : Int), v7 = .int .i64 x7_1 ∧ Aside0 (spec_AreStates.l0 kq l0 (l0.length : Int) x7_1 = some r) ∧ Aside0 (kq ≤ k) ∧ Aside0 (Below w.heap.size w w'))
  case atStart => exact ⟨(0), (by first | rfl | (simp; done) | (simp [*]; done)), H', ⟨Nat.le_refl _⟩, ⟨by repeat (first | (with_reducible first | exact HB.out | apply below_alloc | apply pw_below_drewN | apply below_drew1) | exact HB.out)⟩⟩
  case round =>
    clear H'
    try clear c1
    obtain ⟨x7_1, rfl, HA, HK1, HB⟩ := hrel
    cases gk with
    | zero => exact absurd HA.out (by simp [spec_AreStates.l0])
    | succ k1 =>
      have H := HA.out
      clear HA
      simp only [spec_AreStates.l0] at H
      by_cases c2 : x7_1 < (l0.length : Int)
      · rw [if_pos c2] at H
        have c2b0 : decide (x7_1 < (l0.length : Int)) = true := decide_eq_true c2
        clear c2
        by_cases c3 : 0 ≤ x7_1
        · rw [if_pos c3] at H
          have c3b0 : decide (0 ≤ x7_1) = true := decide_eq_true c3
          clear c3
          by_cases c4 : x7_1 < (l0.length : Int)
          · rw [if_pos c4] at H
            have c4b0 : decide (x7_1 < (l0.length : Int)) = true := decide_eq_true c4
            clear c4
            by_cases c5 : ((rd_T29 l0 x7_1).f0) < 0
            · rw [if_pos c5] at H
              have c5b0 : decide (((rd_T29 l0 x7_1).f0) < 0) = true := decide_eq_true c5
              clear c5
              obtain rfl := Option.some.inj H
              have p179 : 0 ≤ (x7_1 : Int) := of_decide_eq_true (by first | (with_reducible assumption) | assumption)
              have q179 : x7_1 < (l0.length : Int) := of_decide_eq_true (by first | (with_reducible assumption) | assumption)
              obtain ⟨ad179, e179, hx179_0, hx179_1, hx179_2⟩ := at_T29 HR0.out x7_1 p179 q179
              cases e179
              replace hx179_0 := (HB.out.cell (World.block_lt_of_cell? w _ hx179_0)).trans hx179_0
              replace hx179_1 := (HB.out.cell (World.block_lt_of_cell? w _ hx179_1)).trans hx179_1
              replace hx179_2 := (HB.out.cell (World.block_lt_of_cell? w _ hx179_2)).trans hx179_2
              replace p179 := eq_true p179
              replace q179 := eq_true q179
              go_wp2_with (first | ((with_reducible refine gate_dst (N := 4) rfl ?_); refine box_event ?hg (N := 4) ?hd (cs := #[.int .i64 0, .int .i64 0, .int .i64 0]) (t := 29) ?hr ?_; (case hd => rfl); (case hg => rfl); (case hr => first | (go_simp; done) | (go_simp; rfl)); intro gb180 hg w6 hbox hb; have n0_ := Aside0.mk (below_step (by repeat (first | (with_reducible first | exact HB.out | apply below_alloc | apply pw_below_drewN | apply below_drew1) | exact HB.out)) hb); have n1_ := Aside0.mk (hbox); have n2_ := Aside0.mk ((by rw [hg]; exact (below_size (by repeat (first | (with_reducible first | exact HB.out | apply below_alloc | apply pw_below_drewN | apply below_drew1) | exact HB.out))) : w.heap.size ≤ gb180)); have n3_ := Aside0.mk ((by rw [hg]; exact (below_size (by repeat (first | (with_reducible first | exact HB.out | apply below_alloc | apply pw_below_drewN | apply below_drew1) | exact HB.out))) : w.heap.size ≤ gb180)); clear HB; have HB := n0_; have BK180 := n1_; have GW180 := n2_; have GE180 := n3_; clear n0_ n1_ n2_ n3_; clear hb hbox hg; have hcz7_0 : w6.cell? ⟨gb180, 0, none⟩ = some (.int .i64 0) := (blk_cell BK180.out 0).trans rfl; have hcz7_1 : w6.cell? ⟨gb180, 1, none⟩ = some (.int .i64 0) := (blk_cell BK180.out 1).trans rfl; have hcz7_2 : w6.cell? ⟨gb180, 2, none⟩ = some (.int .i64 0) := (blk_cell BK180.out 2).trans rfl; have hfz7_0 := blk_frozen BK180.out 0; have hfz7_1 := blk_frozen BK180.out 1; have hfz7_2 := blk_frozen BK180.out 2))
              go_ret
              exact ⟨by first | rfl | (simp [errW_none, errW_some] <;> rfl) | (simp [*, errW_none, errW_some] <;> rfl), by repeat (first | (with_reducible first | exact HB.out | apply below_alloc | apply pw_below_drewN | apply below_drew1 | refine below_set ?_ GE180.out) | exact HB.out)⟩
            · rw [if_neg c5] at H
              have c5b0 : decide (((rd_T29 l0 x7_1).f0) < 0) = false := decide_eq_false c5
              clear c5
              by_cases c8 : ((rd_T29 l0 x7_1).f0) > 255
              · rw [if_pos c8] at H
                have c8b0 : decide (255 < ((rd_T29 l0 x7_1).f0)) = true := decide_eq_true c8
                clear c8
                obtain rfl := Option.some.inj H
                have p179 : 0 ≤ (x7_1 : Int) := of_decide_eq_true (by first | (with_reducible assumption) | assumption)
                have q179 : x7_1 < (l0.length : Int) := of_decide_eq_true (by first | (with_reducible assumption) | assumption)
                obtain ⟨ad179, e179, hx179_0, hx179_1, hx179_2⟩ := at_T29 HR0.out x7_1 p179 q179
                cases e179
                replace hx179_0 := (HB.out.cell (World.block_lt_of_cell? w _ hx179_0)).trans hx179_0
                replace hx179_1 := (HB.out.cell (World.block_lt_of_cell? w _ hx179_1)).trans hx179_1
                replace hx179_2 := (HB.out.cell (World.block_lt_of_cell? w _ hx179_2)).trans hx179_2
                replace p179 := eq_true p179
                replace q179 := eq_true q179
                go_wp2_with (first | ((with_reducible refine gate_dst (N := 4) rfl ?_); refine box_event ?hg (N := 4) ?hd (cs := #[.int .i64 0, .int .i64 0, .int .i64 0]) (t := 29) ?hr ?_; (case hd => rfl); (case hg => rfl); (case hr => first | (go_simp; done) | (go_simp; rfl)); intro gb180 hg w9 hbox hb; have n0_ := Aside0.mk (below_step (by repeat (first | (with_reducible first | exact HB.out | apply below_alloc | apply pw_below_drewN | apply below_drew1) | exact HB.out)) hb); have n1_ := Aside0.mk (hbox); have n2_ := Aside0.mk ((by rw [hg]; exact (below_size (by repeat (first | (with_reducible first | exact HB.out | apply below_alloc | apply pw_below_drewN | apply below_drew1) | exact HB.out))) : w.heap.size ≤ gb180)); have n3_ := Aside0.mk ((by rw [hg]; exact (below_size (by repeat (first | (with_reducible first | exact HB.out | apply below_alloc | apply pw_below_drewN | apply below_drew1) | exact HB.out))) : w.heap.size ≤ gb180)); clear HB; have HB := n0_; have BK180 := n1_; have GW180 := n2_; have GE180 := n3_; clear n0_ n1_ n2_ n3_; clear hb hbox hg; have hcz10_0 : w9.cell? ⟨gb180, 0, none⟩ = some (.int .i64 0) := (blk_cell BK180.out 0).trans rfl; have hcz10_1 : w9.cell? ⟨gb180, 1, none⟩ = some (.int .i64 0) := (blk_cell BK180.out 1).trans rfl; have hcz10_2 : w9.cell? ⟨gb180, 2, none⟩ = some (.int .i64 0) := (blk_cell BK180.out 2).trans rfl; have hfz10_0 := blk_frozen BK180.out 0; have hfz10_1 := blk_frozen BK180.out 1; have hfz10_2 := blk_frozen BK180.out 2))
                go_ret
                exact ⟨by first | rfl | (simp [errW_none, errW_some] <;> rfl) | (simp [*, errW_none, errW_some] <;> rfl), by repeat (first | (with_reducible first | exact HB.out | apply below_alloc | apply pw_below_drewN | apply below_drew1 | refine below_set ?_ GE180.out) | exact HB.out)⟩
              · rw [if_neg c8] at H
                have c8b0 : decide (255 < ((rd_T29 l0 x7_1).f0)) = false := decide_eq_false c8
                clear c8
                by_cases c11 : ((rd_T29 l0 x7_1).f1) < 0
                · rw [if_pos c11] at H
                  have c11b0 : decide (((rd_T29 l0 x7_1).f1) < 0) = true := decide_eq_true c11
                  clear c11
                  obtain rfl := Option.some.inj H
                  have p179 : 0 ≤ (x7_1 : Int) := of_decide_eq_true (by first | (with_reducible assumption) | assumption)
                  have q179 : x7_1 < (l0.length : Int) := of_decide_eq_true (by first | (with_reducible assumption) | assumption)
                  obtain ⟨ad179, e179, hx179_0, hx179_1, hx179_2⟩ := at_T29 HR0.out x7_1 p179 q179
                  cases e179
                  replace hx179_0 := (HB.out.cell (World.block_lt_of_cell? w _ hx179_0)).trans hx179_0
                  replace hx179_1 := (HB.out.cell (World.block_lt_of_cell? w _ hx179_1)).trans hx179_1
                  replace hx179_2 := (HB.out.cell (World.block_lt_of_cell? w _ hx179_2)).trans hx179_2
                  replace p179 := eq_true p179
                  replace q179 := eq_true q179
                  go_wp2_with (first | ((with_reducible refine gate_dst (N := 4) rfl ?_); refine box_event ?hg (N := 4) ?hd (cs := #[.int .i64 0, .int .i64 0, .int .i64 0]) (t := 29) ?hr ?_; (case hd => rfl); (case hg => rfl); (case hr => first | (go_simp; done) | (go_simp; rfl)); intro gb180 hg w12 hbox hb; have n0_ := Aside0.mk (below_step (by repeat (first | (with_reducible first | exact HB.out | apply below_alloc | apply pw_below_drewN | apply below_drew1) | exact HB.out)) hb); have n1_ := Aside0.mk (hbox); have n2_ := Aside0.mk ((by rw [hg]; exact (below_size (by repeat (first | (with_reducible first | exact HB.out | apply below_alloc | apply pw_below_drewN | apply below_drew1) | exact HB.out))) : w.heap.size ≤ gb180)); have n3_ := Aside0.mk ((by rw [hg]; exact (below_size (by repeat (first | (with_reducible first | exact HB.out | apply below_alloc | apply pw_below_drewN | apply below_drew1) | exact HB.out))) : w.heap.size ≤ gb180)); clear HB; have HB := n0_; have BK180 := n1_; have GW180 := n2_; have GE180 := n3_; clear n0_ n1_ n2_ n3_; clear hb hbox hg; have hcz13_0 : w12.cell? ⟨gb180, 0, none⟩ = some (.int .i64 0) := (blk_cell BK180.out 0).trans rfl; have hcz13_1 : w12.cell? ⟨gb180, 1, none⟩ = some (.int .i64 0) := (blk_cell BK180.out 1).trans rfl; have hcz13_2 : w12.cell? ⟨gb180, 2, none⟩ = some (.int .i64 0) := (blk_cell BK180.out 2).trans rfl; have hfz13_0 := blk_frozen BK180.out 0; have hfz13_1 := blk_frozen BK180.out 1; have hfz13_2 := blk_frozen BK180.out 2))
                  go_ret
                  exact ⟨by first | rfl | (simp [errW_none, errW_some] <;> rfl) | (simp [*, errW_none, errW_some] <;> rfl), by repeat (first | (with_reducible first | exact HB.out | apply below_alloc | apply pw_below_drewN | apply below_drew1 | refine below_set ?_ GE180.out) | exact HB.out)⟩
                · rw [if_neg c11] at H
                  have c11b0 : decide (((rd_T29 l0 x7_1).f1) < 0) = false := decide_eq_false c11
                  clear c11
                  by_cases c14 : ((rd_T29 l0 x7_1).f1) > 255
                  · rw [if_pos c14] at H
                    have c14b0 : decide (255 < ((rd_T29 l0 x7_1).f1)) = true := decide_eq_true c14
                    clear c14
                    obtain rfl := Option.some.inj H
                    have p179 : 0 ≤ (x7_1 : Int) := of_decide_eq_true (by first | (with_reducible assumption) | assumption)
                    have q179 : x7_1 < (l0.length : Int) := of_decide_eq_true (by first | (with_reducible assumption) | assumption)
                    obtain ⟨ad179, e179, hx179_0, hx179_1, hx179_2⟩ := at_T29 HR0.out x7_1 p179 q179
                    cases e179
                    replace hx179_0 := (HB.out.cell (World.block_lt_of_cell? w _ hx179_0)).trans hx179_0
                    replace hx179_1 := (HB.out.cell (World.block_lt_of_cell? w _ hx179_1)).trans hx179_1
                    replace hx179_2 := (HB.out.cell (World.block_lt_of_cell? w _ hx179_2)).trans hx179_2
                    replace p179 := eq_true p179
                    replace q179 := eq_true q179
                    go_wp2_with (first | ((with_reducible refine gate_dst (N := 4) rfl ?_); refine box_event ?hg (N := 4) ?hd (cs := #[.int .i64 0, .int .i64 0, .int .i64 0]) (t := 29) ?hr ?_; (case hd => rfl); (case hg => rfl); (case hr => first | (go_simp; done) | (go_simp; rfl)); intro gb180 hg w15 hbox hb; have n0_ := Aside0.mk (below_step (by repeat (first | (with_reducible first | exact HB.out | apply below_alloc | apply pw_below_drewN | apply below_drew1) | exact HB.out)) hb); have n1_ := Aside0.mk (hbox); have n2_ := Aside0.mk ((by rw [hg]; exact (below_size (by repeat (first | (with_reducible first | exact HB.out | apply below_alloc | apply pw_below_drewN | apply below_drew1) | exact HB.out))) : w.heap.size ≤ gb180)); have n3_ := Aside0.mk ((by rw [hg]; exact (below_size (by repeat (first | (with_reducible first | exact HB.out | apply below_alloc | apply pw_below_drewN | apply below_drew1) | exact HB.out))) : w.heap.size ≤ gb180)); clear HB; have HB := n0_; have BK180 := n1_; have GW180 := n2_; have GE180 := n3_; clear n0_ n1_ n2_ n3_; clear hb hbox hg; have hcz16_0 : w15.cell? ⟨gb180, 0, none⟩ = some (.int .i64 0) := (blk_cell BK180.out 0).trans rfl; have hcz16_1 : w15.cell? ⟨gb180, 1, none⟩ = some (.int .i64 0) := (blk_cell BK180.out 1).trans rfl; have hcz16_2 : w15.cell? ⟨gb180, 2, none⟩ = some (.int .i64 0) := (blk_cell BK180.out 2).trans rfl; have hfz16_0 := blk_frozen BK180.out 0; have hfz16_1 := blk_frozen BK180.out 1; have hfz16_2 := blk_frozen BK180.out 2))
                    go_ret
                    exact ⟨by first | rfl | (simp [errW_none, errW_some] <;> rfl) | (simp [*, errW_none, errW_some] <;> rfl), by repeat (first | (with_reducible first | exact HB.out | apply below_alloc | apply pw_below_drewN | apply below_drew1 | refine below_set ?_ GE180.out) | exact HB.out)⟩
                  · rw [if_neg c14] at H
                    have c14b0 : decide (255 < ((rd_T29 l0 x7_1).f1)) = false := decide_eq_false c14
                    clear c14
                    by_cases c17 : ((rd_T29 l0 x7_1).f2) < 0
                    · rw [if_pos c17] at H
                      have c17b0 : decide (((rd_T29 l0 x7_1).f2) < 0) = true := decide_eq_true c17
                      clear c17
                      obtain rfl := Option.some.inj H
                      have p179 : 0 ≤ (x7_1 : Int) := of_decide_eq_true (by first | (with_reducible assumption) | assumption)
                      have q179 : x7_1 < (l0.length : Int) := of_decide_eq_true (by first | (with_reducible assumption) | assumption)
                      obtain ⟨ad179, e179, hx179_0, hx179_1, hx179_2⟩ := at_T29 HR0.out x7_1 p179 q179
                      cases e179
                      replace hx179_0 := (HB.out.cell (World.block_lt_of_cell? w _ hx179_0)).trans hx179_0
                      replace hx179_1 := (HB.out.cell (World.block_lt_of_cell? w _ hx179_1)).trans hx179_1
                      replace hx179_2 := (HB.out.cell (World.block_lt_of_cell? w _ hx179_2)).trans hx179_2
                      replace p179 := eq_true p179
                      replace q179 := eq_true q179
                      go_wp2_with (first | ((with_reducible refine gate_dst (N := 4) rfl ?_); refine box_event ?hg (N := 4) ?hd (cs := #[.int .i64 0, .int .i64 0, .int .i64 0]) (t := 29) ?hr ?_; (case hd => rfl); (case hg => rfl); (case hr => first | (go_simp; done) | (go_simp; rfl)); intro gb180 hg w18 hbox hb; have n0_ := Aside0.mk (below_step (by repeat (first | (with_reducible first | exact HB.out | apply below_alloc | apply pw_below_drewN | apply below_drew1) | exact HB.out)) hb); have n1_ := Aside0.mk (hbox); have n2_ := Aside0.mk ((by rw [hg]; exact (below_size (by repeat (first | (with_reducible first | exact HB.out | apply below_alloc | apply pw_below_drewN | apply below_drew1) | exact HB.out))) : w.heap.size ≤ gb180)); have n3_ := Aside0.mk ((by rw [hg]; exact (below_size (by repeat (first | (with_reducible first | exact HB.out | apply below_alloc | apply pw_below_drewN | apply below_drew1) | exact HB.out))) : w.heap.size ≤ gb180)); clear HB; have HB := n0_; have BK180 := n1_; have GW180 := n2_; have GE180 := n3_; clear n0_ n1_ n2_ n3_; clear hb hbox hg; have hcz19_0 : w18.cell? ⟨gb180, 0, none⟩ = some (.int .i64 0) := (blk_cell BK180.out 0).trans rfl; have hcz19_1 : w18.cell? ⟨gb180, 1, none⟩ = some (.int .i64 0) := (blk_cell BK180.out 1).trans rfl; have hcz19_2 : w18.cell? ⟨gb180, 2, none⟩ = some (.int .i64 0) := (blk_cell BK180.out 2).trans rfl; have hfz19_0 := blk_frozen BK180.out 0; have hfz19_1 := blk_frozen BK180.out 1; have hfz19_2 := blk_frozen BK180.out 2))
                      go_ret
                      exact ⟨by first | rfl | (simp [errW_none, errW_some] <;> rfl) | (simp [*, errW_none, errW_some] <;> rfl), by repeat (first | (with_reducible first | exact HB.out | apply below_alloc | apply pw_below_drewN | apply below_drew1 | refine below_set ?_ GE180.out) | exact HB.out)⟩
                    · rw [if_neg c17] at H
                      have c17b0 : decide (((rd_T29 l0 x7_1).f2) < 0) = false := decide_eq_false c17
                      clear c17
                      by_cases c20 : ((rd_T29 l0 x7_1).f2) > 65535
                      · rw [if_pos c20] at H
                        have c20b0 : decide (65535 < ((rd_T29 l0 x7_1).f2)) = true := decide_eq_true c20
                        clear c20
                        obtain rfl := Option.some.inj H
                        have p179 : 0 ≤ (x7_1 : Int) := of_decide_eq_true (by first | (with_reducible assumption) | assumption)
                        have q179 : x7_1 < (l0.length : Int) := of_decide_eq_true (by first | (with_reducible assumption) | assumption)
                        obtain ⟨ad179, e179, hx179_0, hx179_1, hx179_2⟩ := at_T29 HR0.out x7_1 p179 q179
                        cases e179
                        replace hx179_0 := (HB.out.cell (World.block_lt_of_cell? w _ hx179_0)).trans hx179_0
                        replace hx179_1 := (HB.out.cell (World.block_lt_of_cell? w _ hx179_1)).trans hx179_1
                        replace hx179_2 := (HB.out.cell (World.block_lt_of_cell? w _ hx179_2)).trans hx179_2
                        replace p179 := eq_true p179
                        replace q179 := eq_true q179
                        go_wp2_with (first | ((with_reducible refine gate_dst (N := 4) rfl ?_); refine box_event ?hg (N := 4) ?hd (cs := #[.int .i64 0, .int .i64 0, .int .i64 0]) (t := 29) ?hr ?_; (case hd => rfl); (case hg => rfl); (case hr => first | (go_simp; done) | (go_simp; rfl)); intro gb180 hg w21 hbox hb; have n0_ := Aside0.mk (below_step (by repeat (first | (with_reducible first | exact HB.out | apply below_alloc | apply pw_below_drewN | apply below_drew1) | exact HB.out)) hb); have n1_ := Aside0.mk (hbox); have n2_ := Aside0.mk ((by rw [hg]; exact (below_size (by repeat (first | (with_reducible first | exact HB.out | apply below_alloc | apply pw_below_drewN | apply below_drew1) | exact HB.out))) : w.heap.size ≤ gb180)); have n3_ := Aside0.mk ((by rw [hg]; exact (below_size (by repeat (first | (with_reducible first | exact HB.out | apply below_alloc | apply pw_below_drewN | apply below_drew1) | exact HB.out))) : w.heap.size ≤ gb180)); clear HB; have HB := n0_; have BK180 := n1_; have GW180 := n2_; have GE180 := n3_; clear n0_ n1_ n2_ n3_; clear hb hbox hg; have hcz22_0 : w21.cell? ⟨gb180, 0, none⟩ = some (.int .i64 0) := (blk_cell BK180.out 0).trans rfl; have hcz22_1 : w21.cell? ⟨gb180, 1, none⟩ = some (.int .i64 0) := (blk_cell BK180.out 1).trans rfl; have hcz22_2 : w21.cell? ⟨gb180, 2, none⟩ = some (.int .i64 0) := (blk_cell BK180.out 2).trans rfl; have hfz22_0 := blk_frozen BK180.out 0; have hfz22_1 := blk_frozen BK180.out 1; have hfz22_2 := blk_frozen BK180.out 2))
                        go_ret
                        exact ⟨by first | rfl | (simp [errW_none, errW_some] <;> rfl) | (simp [*, errW_none, errW_some] <;> rfl), by repeat (first | (with_reducible first | exact HB.out | apply below_alloc | apply pw_below_drewN | apply below_drew1 | refine below_set ?_ GE180.out) | exact HB.out)⟩
                      · rw [if_neg c20] at H
                        have c20b0 : decide (65535 < ((rd_T29 l0 x7_1).f2)) = false := decide_eq_false c20
                        clear c20
                        have H' := Aside0.mk H
                        clear H
                        have p179 : 0 ≤ (x7_1 : Int) := of_decide_eq_true (by first | (with_reducible assumption) | assumption)
                        have q179 : x7_1 < (l0.length : Int) := of_decide_eq_true (by first | (with_reducible assumption) | assumption)
                        obtain ⟨ad179, e179, hx179_0, hx179_1, hx179_2⟩ := at_T29 HR0.out x7_1 p179 q179
                        cases e179
                        replace hx179_0 := (HB.out.cell (World.block_lt_of_cell? w _ hx179_0)).trans hx179_0
                        replace hx179_1 := (HB.out.cell (World.block_lt_of_cell? w _ hx179_1)).trans hx179_1
                        replace hx179_2 := (HB.out.cell (World.block_lt_of_cell? w _ hx179_2)).trans hx179_2
                        replace p179 := eq_true p179
                        replace q179 := eq_true q179
                        go_wp2_with (first | ((with_reducible refine gate_dst (N := 4) rfl ?_); refine box_event ?hg (N := 4) ?hd (cs := #[.int .i64 0, .int .i64 0, .int .i64 0]) (t := 29) ?hr ?_; (case hd => rfl); (case hg => rfl); (case hr => first | (go_simp; done) | (go_simp; rfl)); intro gb180 hg w23 hbox hb; have n0_ := Aside0.mk (below_step (by repeat (first | (with_reducible first | exact HB.out | apply below_alloc | apply pw_below_drewN | apply below_drew1) | exact HB.out)) hb); have n1_ := Aside0.mk (hbox); have n2_ := Aside0.mk ((by rw [hg]; exact (below_size (by repeat (first | (with_reducible first | exact HB.out | apply below_alloc | apply pw_below_drewN | apply below_drew1) | exact HB.out))) : w.heap.size ≤ gb180)); have n3_ := Aside0.mk ((by rw [hg]; exact (below_size (by repeat (first | (with_reducible first | exact HB.out | apply below_alloc | apply pw_below_drewN | apply below_drew1) | exact HB.out))) : w.heap.size ≤ gb180)); clear HB; have HB := n0_; have BK180 := n1_; have GW180 := n2_; have GE180 := n3_; clear n0_ n1_ n2_ n3_; clear hb hbox hg; have hcz24_0 : w23.cell? ⟨gb180, 0, none⟩ = some (.int .i64 0) := (blk_cell BK180.out 0).trans rfl; have hcz24_1 : w23.cell? ⟨gb180, 1, none⟩ = some (.int .i64 0) := (blk_cell BK180.out 1).trans rfl; have hcz24_2 : w23.cell? ⟨gb180, 2, none⟩ = some (.int .i64 0) := (blk_cell BK180.out 2).trans rfl; have hfz24_0 := blk_frozen BK180.out 0; have hfz24_1 := blk_frozen BK180.out 1; have hfz24_2 := blk_frozen BK180.out 2))
                        go_roundg k1
                        case measure => have := HK1.out; omega
                        case rel => exact ⟨(wrap64 (x7_1 + 1)), (by first | rfl | (simp; done) | (simp [*]; done)), H', ⟨by have := HK1.out; omega⟩, ⟨by repeat (first | (with_reducible first | exact HB.out | apply below_alloc | apply pw_below_drewN | apply below_drew1 | refine below_set ?_ GE180.out) | exact HB.out)⟩⟩
          · rw [if_neg c4] at H
            exact absurd H (by simp)
        · rw [if_neg c3] at H
          exact absurd H (by simp)
      · rw [if_neg c2] at H
        have c2b0 : decide (x7_1 < (l0.length : Int)) = false := decide_eq_false c2
        clear c2
        obtain rfl := Option.some.inj H
        go_wp2
        go_ret
        exact ⟨by first | rfl | (simp [errW_none, errW_some] <;> rfl) | (simp [*, errW_none, errW_some] <;> rfl), by repeat (first | (with_reducible first | exact HB.out | apply below_alloc | apply pw_below_drewN | apply below_drew1) | exact HB.out)⟩

end Go.Proofs.YtopadgohinoomaaDoor.PC
