/- What some of the functions that the laws use answer, as plain Lean functions, and that the calls come to these answers: written by a program of this session, after the way of the kit's print; some lines mended by hand. -/
import Derived.Test.YtopadgohinoomaaDoorPC0
namespace Go.Proofs.YtopadgohinoomaaDoor.PC
open Go.RowKit Go.Proofs.YtopadgohinoomaaDoorW.PrintWords Go.Proofs.YtopadgohinoomaaDoorW.PrintLast Go.Proofs.YtopadgohinoomaaDoorW.PrintMore
attribute [local go_sem] max2_int min2_int max_two min_two max_three min_three max_four min_four   -- for this text's walks alone
set_option linter.unusedVariables false
set_option linter.unusedSimpArgs false

/-! ### spec_Has: function 19 -/
mutual
def spec_Has.l0 : Nat → List Int → List Bool → List (S68) → Int → Int → Option (Bool)
  | 0, _, _, _, _, _ => none
  | k + 1, x1, x5, x11, x12, x13 => if x13 < x12 then (if 0 ≤ x13 then (if x13 < (x11.length : Int) then (if 0 ≤ (Go.bits .and .i64 ((rd_T68 x11 x13).f0) 255) then (if (Go.bits .and .i64 ((rd_T68 x11 x13).f0) 255) < (x5.length : Int) then (spec_Has.l0 k x1 (x5.set ((Go.bits .and .i64 ((rd_T68 x11 x13).f0) 255) : Int).toNat true) x11 x12 (wrap64 (x13 + 1))) else (none)) else (none)) else (none)) else (none)) else (spec_Has.l1 k x5 x1 (x1.length : Int) 0)
def spec_Has.l1 : Nat → List Bool → List Int → Int → Int → Option (Bool)
  | 0, _, _, _, _ => none
  | k + 1, x5, x23, x24, x25 => if x25 < x24 then (if 0 ≤ x25 then (if x25 < (x23.length : Int) then (if 0 ≤ (rd x23 x25) then (if (rd x23 x25) < (x5.length : Int) then (if (rdOf false x5 (rd x23 x25) = true) then (spec_Has.l1 k x5 x23 x24 (wrap64 (x25 + 1))) else (some false)) else (none)) else (none)) else (none)) else (none)) else (some true)
end
def spec_Has.f (k : Nat) (l0 : List (S68)) (l1 : List Int) : Option (Bool) := if 256 ≤ 281474976710656 then (spec_Has.l0 k l1 (List.replicate 256 false) l0 (l0.length : Int) 0) else (none)
theorem spec_Has.mono_l : ∀ k, (∀ y0 y1 y2 y3 y4, LeO (spec_Has.l0 k y0 y1 y2 y3 y4) (spec_Has.l0 (k + 1) y0 y1 y2 y3 y4)) ∧ (∀ y0 y1 y2 y3, LeO (spec_Has.l1 k y0 y1 y2 y3) (spec_Has.l1 (k + 1) y0 y1 y2 y3))
  | 0 => ⟨fun _ _ _ _ _ r h => by simp [spec_Has.l0] at h, fun _ _ _ _ r h => by simp [spec_Has.l1] at h⟩
  | k + 1 => by
    obtain ⟨ih0, ih1⟩ := spec_Has.mono_l k
    refine ⟨?_, ?_⟩
    · intro y0 y1 y2 y3 y4
      unfold spec_Has.l0
      repeat' first
      | (with_reducible exact ih0 _ _ _ _ _)
      | (with_reducible exact ih1 _ _ _ _)
      | (with_reducible exact LeO.refl _)
      | (with_reducible exact LeO.none _)
      | (with_reducible refine LeO.ite ?_ ?_)
      | (with_reducible refine LeO.bind ?_ (fun _ => ?_))
      | exact ih0 _ _ _ _ _
      | exact ih1 _ _ _ _
      | exact LeO.none _
      | refine LeO.ite ?_ ?_
      | refine LeO.bind ?_ (fun _ => ?_)
    · intro y0 y1 y2 y3
      unfold spec_Has.l1
      repeat' first
      | (with_reducible exact ih0 _ _ _ _ _)
      | (with_reducible exact ih1 _ _ _ _)
      | (with_reducible exact LeO.refl _)
      | (with_reducible exact LeO.none _)
      | (with_reducible refine LeO.ite ?_ ?_)
      | (with_reducible refine LeO.bind ?_ (fun _ => ?_))
      | exact ih0 _ _ _ _ _
      | exact ih1 _ _ _ _
      | exact LeO.none _
      | refine LeO.ite ?_ ?_
      | refine LeO.bind ?_ (fun _ => ?_)
theorem spec_Has.mono : ∀ a0 a1 k, LeO (spec_Has.f k a0 a1) (spec_Has.f (k + 1) a0 a1) := by
  intro a0 a1 k
  obtain ⟨ih0, ih1⟩ := spec_Has.mono_l k
  unfold spec_Has.f
  repeat' first
      | (with_reducible exact ih0 _ _ _ _ _)
      | (with_reducible exact ih1 _ _ _ _)
      | (with_reducible exact LeO.refl _)
      | (with_reducible exact LeO.none _)
      | (with_reducible refine LeO.ite ?_ ?_)
      | (with_reducible refine LeO.bind ?_ (fun _ => ?_))
      | exact ih0 _ _ _ _ _
      | exact ih1 _ _ _ _
      | exact LeO.none _
      | refine LeO.ite ?_ ?_
      | refine LeO.bind ?_ (fun _ => ?_)
set_option maxHeartbeats 8000000 in
set_option maxRecDepth 100000 in
theorem spec_Has.calls (k : Nat) (A0 : Option Addr) (c0 : Nat) (l0 : List (S68)) (A1 : Option Addr) (c1 : Nat) (l1 : List Int) (r : Bool) (w : World) (hr0 : Kd.C k68 w A0 l0.length l0) (hc0 : l0.length ≤ c0) (hr1 : Kd.C (Kd.int .u8) w A1 l1.length l1) (hc1 : l1.length ≤ c1) (h : spec_Has.f k l0 l1 = some r) :
    Calls Tryd.prog 19 #[.slice A0 l0.length c0, .slice A1 l1.length c1] w fun e w' => e = .returned (.bool r) ∧ Below w.heap.size w w' := by
  have hu68 := Tryd.underlying68
  have HR0 := Aside0.mk hr0
  have HC0 := Aside0.mk hc0
  clear hr0 hc0
  have HR1 := Aside0.mk hr1
  have HC1 := Aside0.mk hc1
  clear hr1 hc1
  have HB := Aside0.mk (Below.refl w.heap.size w)
  have H : (if 256 ≤ 281474976710656 then (spec_Has.l0 k l1 (List.replicate 256 false) l0 (l0.length : Int) 0) else (none)) = some r := h
  clear h
  by_cases c3 : 256 ≤ 281474976710656
  · rw [if_pos c3] at H
    have c3b0 := eq_true c3
    have c3b1 : decide (256 ≤ 281474976710656) = true := decide_eq_true c3
    clear c3
    obtain ⟨y272, hy272⟩ : ∃ y_ : List Bool, y_ = (List.replicate 256 false) := ⟨_, rfl⟩
    replace H : (spec_Has.l0 k l1 y272 l0 (l0.length : Int) 0) = some r := by first | (rw [hy272]; with_reducible exact H) | (have H2_ := (Option.bind_some _ _).symm.trans H; rw [hy272]; with_reducible exact H2_) | (have H2_ := (Option.bind_some _ _).symm.trans H; with_reducible exact H2_) | with_reducible exact H | (rw [hy272]; exact H) | exact H
    have Ny272 := Aside0.mk hy272
    clear hy272
    have H' := Aside0.mk H
    clear H
    go_enter Tryd.func19, Tryd.ntmps19
    go_wp2_with (first | ((with_reducible refine gate_dst (N := 10) rfl ?_); refine Kd.R_make Kd.bool _ 4 rfl (N := 10) rfl 69 _ _ rfl 256 rfl rfl Tryd.underlying69 (.bool false) 1 info4 rfl (by decide) (by omega) false (ok := fun _ => True) (okp := fun _ => True) rfl (fun _ hk => hk) trivial (by omega) (by omega) (Below.refl _ _) (Nat.le_refl _) ?_; intro v273 w4 ho5 hb hg_ hnew_; clear hg_ hnew_; (first | rw [← Ny272.out] at ho5 | (simp only [Int.reduceToNat] at ho5; rw [← Ny272.out] at ho5)); have n0_ := Aside0.mk (Kd.R_lower ho5 (below_size (by repeat (first | (with_reducible first | exact HB.out | apply below_alloc | apply pw_below_drewN | apply below_drew1) | exact HB.out)))); have n1_ := Aside0.mk (below_step (by repeat (first | (with_reducible first | exact HB.out | apply below_alloc | apply pw_below_drewN | apply below_drew1) | exact HB.out)) hb); clear HB; have HO274 := n0_; have HB := n1_; clear n0_ n1_; clear hb ho5))
    go_loopg [13] k (fun kq v13 w' => ∃ (x5_1 : List Bool) (x13_1 : Int), v13 = .int .i64 x13_1 ∧ Aside0 (spec_Has.l0 kq l1 x5_1 l0 (l0.length : Int) x13_1 = some r) ∧ Aside0 (kq ≤ k) ∧ Aside0 (Kd.R Kd.bool 4 w' w.heap.size (fun _ => True) v273 x5_1) ∧ Aside0 (Below w.heap.size w w'))
    case atStart => exact ⟨(y272), (0), (by first | rfl | (simp; done) | (simp [*]; done)), H', ⟨Nat.le_refl _⟩, ⟨by (with_reducible repeat (first | apply Kd.R_alloc | apply Kd.R_drewN | apply Kd.R_drew)); exact HO274.out⟩, ⟨by repeat (first | (with_reducible first | exact HB.out | apply below_alloc | apply pw_below_drewN | apply below_drew1) | exact HB.out)⟩⟩
    case round =>
      clear H'
      try clear c1
      try clear p2
      try clear c3
      try clear c3b0
      try clear c3b1
      obtain ⟨x5_1, x13_1, rfl, HA, HK1, HO_5, HB⟩ := hrel
      cases gk with
      | zero => exact absurd HA.out (by simp [spec_Has.l0])
      | succ k1 =>
        have H := HA.out
        clear HA
        simp only [spec_Has.l0] at H
        by_cases c6 : x13_1 < (l0.length : Int)
        · rw [if_pos c6] at H
          have c6b0 : decide (x13_1 < (l0.length : Int)) = true := decide_eq_true c6
          clear c6
          by_cases c7 : 0 ≤ x13_1
          · rw [if_pos c7] at H
            have c7b0 : decide (0 ≤ x13_1) = true := decide_eq_true c7
            clear c7
            by_cases c8 : x13_1 < (l0.length : Int)
            · rw [if_pos c8] at H
              have c8b0 : decide (x13_1 < (l0.length : Int)) = true := decide_eq_true c8
              clear c8
              by_cases c9 : 0 ≤ (Go.bits .and .i64 ((rd_T68 l0 x13_1).f0) 255)
              · rw [if_pos c9] at H
                have c9b0 : decide (0 ≤ (Go.bits .and .i64 ((rd_T68 l0 x13_1).f0) 255)) = true := decide_eq_true c9
                clear c9
                by_cases c10 : (Go.bits .and .i64 ((rd_T68 l0 x13_1).f0) 255) < (x5_1.length : Int)
                · rw [if_pos c10] at H
                  have c10b0 : decide ((Go.bits .and .i64 ((rd_T68 l0 x13_1).f0) 255) < (x5_1.length : Int)) = true := decide_eq_true c10
                  clear c10
                  obtain ⟨y277, hy277⟩ : ∃ y_ : List Bool, y_ = (x5_1.set ((Go.bits .and .i64 ((rd_T68 l0 x13_1).f0) 255) : Int).toNat true) := ⟨_, rfl⟩
                  replace H : (spec_Has.l0 k1 l1 y277 l0 (l0.length : Int) (wrap64 (x13_1 + 1))) = some r := by first | (rw [hy277]; with_reducible exact H) | (have H2_ := (Option.bind_some _ _).symm.trans H; rw [hy277]; with_reducible exact H2_) | (have H2_ := (Option.bind_some _ _).symm.trans H; with_reducible exact H2_) | with_reducible exact H | (rw [hy277]; exact H) | exact H
                  have Ny277 := Aside0.mk hy277
                  clear hy277
                  have H' := Aside0.mk H
                  clear H
                  have p275 : 0 ≤ (x13_1 : Int) := of_decide_eq_true (by first | (with_reducible assumption) | assumption)
                  have q275 : x13_1 < (l0.length : Int) := of_decide_eq_true (by first | (with_reducible assumption) | assumption)
                  obtain ⟨ad275, e275, hx275_0, hx275_1⟩ := at_T68 HR0.out x13_1 p275 q275
                  cases e275
                  replace hx275_0 := (HB.out.cell (World.block_lt_of_cell? w _ hx275_0)).trans hx275_0
                  replace hx275_1 := (HB.out.cell (World.block_lt_of_cell? w _ hx275_1)).trans hx275_1
                  replace p275 := eq_true p275
                  replace q275 := eq_true q275
                  go_wp2_with (first | ((with_reducible refine gate_dst (N := 7) rfl ?_); refine box_event ?hg (N := 7) ?hd (cs := #[.int .i64 0, .int .i64 0]) (t := 68) ?hr ?_; (case hd => rfl); (case hg => rfl); (case hr => first | (go_simp; done) | (go_simp; rfl)); intro gb276 hg w12 hbox hb; have n0_ := Aside0.mk (Kd.R_below (by (with_reducible repeat (first | apply Kd.R_alloc | apply Kd.R_drewN | apply Kd.R_drew)); exact HO_5.out) hb); have n1_ := Aside0.mk (below_step (by repeat (first | (with_reducible first | exact HB.out | apply below_alloc | apply pw_below_drewN | apply below_drew1) | exact HB.out)) hb); have n2_ := Aside0.mk (hbox); have n3_ := Aside0.mk ((by rw [hg]; exact (below_size (by repeat (first | (with_reducible first | exact HB.out | apply below_alloc | apply pw_below_drewN | apply below_drew1) | exact HB.out))) : w.heap.size ≤ gb276)); have n4_ := Aside0.mk ((by rw [hg]; exact (below_size (by repeat (first | (with_reducible first | exact HB.out | apply below_alloc | apply pw_below_drewN | apply below_drew1) | exact HB.out))) : w.heap.size ≤ gb276)); clear HO_5; clear HB; have HO_5 := n0_; have HB := n1_; have BK276 := n2_; have GW276 := n3_; have GE276 := n4_; clear n0_ n1_ n2_ n3_ n4_; clear hb hbox hg; have hcz13_0 : w12.cell? ⟨gb276, 0, none⟩ = some (.int .i64 0) := (blk_cell BK276.out 0).trans rfl; have hcz13_1 : w12.cell? ⟨gb276, 1, none⟩ = some (.int .i64 0) := (blk_cell BK276.out 1).trans rfl; have hfz13_0 := blk_frozen BK276.out 0; have hfz13_1 := blk_frozen BK276.out 1) | ((with_reducible refine gate_store (t := 68) (p := 7) rfl ?_); refine store_event (t := 68) (p := 7) (v := ?vo_w14) (w1 := ((w12.setCell ⟨gb276, 0, none⟩ (.int .i64 ((rd_T68 l0 x13_1).f0))).setCell ⟨gb276, 1, none⟩ (.int .i64 ((rd_T68 l0 x13_1).f1)))) ?hg ?ho ?hn ?hr ?_; (case ho => rfl); (case hg => rfl); (case hn => rfl); (case hr => first | (go_simp; done) | (go_simp; rfl)); intro w14 hw; have n0_ : Aside0 (Kd.R Kd.bool 4 w14 w.heap.size (fun _ => True) v273 x5_1) := ⟨(by rw [hw]; exact (by (with_reducible repeat (first | apply Kd.R_alloc | apply Kd.R_drewN | apply Kd.R_drew)); exact Kd.R_mono (Kd.R_far (p := ⟨gb276, 1, none⟩) (Kd.R_far (p := ⟨gb276, 0, none⟩) (Kd.R_types HO_5.out BK276.out (by decide)) (fun _ hk => hk.2) (.int .i64 ((rd_T68 l0 x13_1).f0))) (fun _ hk => hk.2) (.int .i64 ((rd_T68 l0 x13_1).f1))) (fun _ hk => trivial)))⟩; have n1_ : Aside0 (w14.heap[gb276]? = some (.cells #[.int .i64 ((rd_T68 l0 x13_1).f0), .int .i64 ((rd_T68 l0 x13_1).f1)] 68 (0, 0))) := ⟨(by rw [hw]; exact (by (with_reducible repeat (first | refine blk_drewN ?_ _ | refine blk_drew ?_ | refine blk_alloc ?_ _)); refine blk_put (cs := #[.int .i64 ((rd_T68 l0 x13_1).f0), .int .i64 0]) ?_ 1 _ rfl; (with_reducible repeat (first | refine blk_drewN ?_ _ | refine blk_drew ?_ | refine blk_alloc ?_ _)); refine blk_put (cs := #[.int .i64 0, .int .i64 0]) ?_ 0 _ rfl; (with_reducible repeat (first | refine blk_drewN ?_ _ | refine blk_drew ?_ | refine blk_alloc ?_ _)); exact BK276.out))⟩; have n2_ : Aside0 (Below w.heap.size w w14) := ⟨(by rw [hw]; exact (by repeat (first | (with_reducible first | exact HB.out | apply below_alloc | apply pw_below_drewN | apply below_drew1 | refine below_set ?_ GE276.out) | exact HB.out)))⟩; clear hw; clear HO_5; clear BK276; clear HB; have HO_5 := n0_; have BK276 := n1_; have HB := n2_; clear n0_ n1_ n2_; have hcz15_0 : w14.cell? ⟨gb276, 0, none⟩ = some (.int .i64 ((rd_T68 l0 x13_1).f0)) := (blk_cell BK276.out 0).trans rfl; have hcz15_1 : w14.cell? ⟨gb276, 1, none⟩ = some (.int .i64 ((rd_T68 l0 x13_1).f1)) := (blk_cell BK276.out 1).trans rfl; have hfz15_0 := blk_frozen BK276.out 0; have hfz15_1 := blk_frozen BK276.out 1; have p11 : 0 ≤ ((Go.bits .and .i64 ((rd_T68 l0 x13_1).f0) 255) : Int) := of_decide_eq_true (by first | (with_reducible assumption) | assumption); have q11 : ((Go.bits .and .i64 ((rd_T68 l0 x13_1).f0) 255) : Int) < ((x5_1.length : Int) : Int) := of_decide_eq_true (by first | (with_reducible assumption) | assumption); obtain ⟨go11, co11, eo11, gb11, gl11, cl11, HG11⟩ := Kd.R_form HO_5.out (by omega); (first | cases eo11 | (injection eo11 with ea_ en_ ec_; (first | subst ea_ | (injection ea_ with ea_; subst ea_)); subst ec_; clear en_)); have GB11 := Aside0.mk gb11; have GG11 := Aside0.mk HG11; clear gb11 gl11 HG11; obtain ⟨hx11_0, hf11_0⟩ := Kd.R_celln false HO_5.out ((Go.bits .and .i64 ((rd_T68 l0 x13_1).f0) 255) : Int) p11 q11; replace p11 := eq_true p11; replace q11 := eq_true q11; obtain ⟨hy16_, hz16_⟩ := Kd.R_celln false HO_5.out ((Go.bits .and .i64 ((rd_T68 l0 x13_1).f0) 255) : Int) (of_decide_eq_true (by first | (with_reducible assumption) | assumption)) (of_decide_eq_true (by first | (with_reducible assumption) | assumption)); have HP16 := Kd.R_putg HO_5.out ((Go.bits .and .i64 ((rd_T68 l0 x13_1).f0) 255) : Int) true) | ((with_reducible refine gate_store (t := 4) (p := 21) rfl ?_); refine store_event (t := 4) (p := 21) (v := ?vo_w17) (w1 := (w14.setCell ⟨go11, ((Go.bits .and .i64 ((rd_T68 l0 x13_1).f0) 255) : Int).toNat, none⟩ (.bool true))) ?hg ?ho ?hn ?hr ?_; (case ho => rfl); (case hg => rfl); (case hn => rfl); (case hr => first | (go_simp; done) | (go_simp; rfl)); intro w17 hw; have hg : w14.grownBy w17 (some go11) := (by rw [hw]; exact HP16.2); have hp_ : Kd.R Kd.bool 4 w17 w.heap.size (fun _ => True) (.slice (some ⟨go11, 0, none⟩) x5_1.length co11) y277 := (by rw [hw, Ny277.out]; exact HP16.1); clear HP16; have n0_ := Aside0.mk (hp_); have n1_ := Aside0.mk (blk_grown (g := gb276) (o := .cells #[.int .i64 ((rd_T68 l0 x13_1).f0), .int .i64 ((rd_T68 l0 x13_1).f1)] 68 (0, 0)) (by (with_reducible repeat (first | refine blk_drewN ?_ _ | refine blk_drew ?_ | refine blk_alloc ?_ _)); exact BK276.out) hg (Kd.R_ne HO_5.out BK276.out (by decide))); have n2_ := Aside0.mk ((by rw [hw]; exact below_set (HB.out) GB11.out : Below w.heap.size w w17)); clear HO_5; clear BK276; clear HB; have HO_5 := n0_; have BK276 := n1_; have HB := n2_; clear n0_ n1_ n2_; clear hg hw hp_))
                  go_roundg k1
                  case measure => have := HK1.out; omega
                  case rel => exact ⟨(y277), (wrap64 (x13_1 + 1)), (by first | rfl | (simp; done) | (simp [*]; done)), H', ⟨by have := HK1.out; omega⟩, ⟨by (with_reducible repeat (first | apply Kd.R_alloc | apply Kd.R_drewN | apply Kd.R_drew)); exact HO_5.out⟩, ⟨by repeat (first | (with_reducible first | exact HB.out | apply below_alloc | apply pw_below_drewN | apply below_drew1 | refine below_set ?_ GE276.out) | exact HB.out)⟩⟩
                · rw [if_neg c10] at H
                  exact absurd H (by simp)
              · rw [if_neg c9] at H
                exact absurd H (by simp)
            · rw [if_neg c8] at H
              exact absurd H (by simp)
          · rw [if_neg c7] at H
            exact absurd H (by simp)
        · rw [if_neg c6] at H
          have c6b0 : decide (x13_1 < (l0.length : Int)) = false := decide_eq_false c6
          clear c6
          have H' := Aside0.mk H
          clear H
          go_wp2
          go_loopg [25] k1 (fun kq v25 w' => ∃ (x25_2 : Int), v25 = .int .i64 x25_2 ∧ Aside0 (spec_Has.l1 kq x5_1 l1 (l1.length : Int) x25_2 = some r) ∧ Aside0 (kq ≤ k1) ∧ Aside0 (Kd.R Kd.bool 4 w' w.heap.size (fun _ => True) v273 x5_1) ∧ Aside0 (Below w.heap.size w w'))
          case atStart => exact ⟨(0), (by first | rfl | (simp; done) | (simp [*]; done)), H', ⟨Nat.le_refl _⟩, ⟨by (with_reducible repeat (first | apply Kd.R_alloc | apply Kd.R_drewN | apply Kd.R_drew)); exact HO_5.out⟩, ⟨by repeat (first | (with_reducible first | exact HB.out | apply below_alloc | apply pw_below_drewN | apply below_drew1) | exact HB.out)⟩⟩
          case round =>
            clear H'
            try clear c1
            try clear p1
            try clear q1
            try clear hx1
            try clear p2
            try clear q2
            try clear hx2
            try clear c3
            try clear c3b0
            try clear c3b1
            try clear c6
            try clear c6b0
            try clear p6
            try clear c7
            try clear c7b0
            try clear c8
            try clear c8b0
            try clear c9
            try clear c9b0
            try clear c10
            try clear c10b0
            try clear p11
            try clear q11
            try clear hx11
            try clear hf11
            try clear hcz13_0
            try clear hcz13_1
            try clear hcz15_0
            try clear hcz15_1
            try clear hfz13_0
            try clear hfz13_1
            try clear hfz15_0
            try clear hfz15_1
            try clear hx11_0
            try clear hx275_0
            try clear hx275_1
            try clear p11
            try clear p2
            try clear p275
            try clear q11
            try clear q275
            obtain ⟨x25_2, rfl, HA, HK2, HO_5, HB⟩ := hrel
            cases gk with
            | zero => exact absurd HA.out (by simp [spec_Has.l1])
            | succ k2 =>
              have H := HA.out
              clear HA
              simp only [spec_Has.l1] at H
              by_cases c18 : x25_2 < (l1.length : Int)
              · rw [if_pos c18] at H
                have c18b0 : decide (x25_2 < (l1.length : Int)) = true := decide_eq_true c18
                clear c18
                by_cases c19 : 0 ≤ x25_2
                · rw [if_pos c19] at H
                  have c19b0 : decide (0 ≤ x25_2) = true := decide_eq_true c19
                  clear c19
                  by_cases c20 : x25_2 < (l1.length : Int)
                  · rw [if_pos c20] at H
                    have c20b0 : decide (x25_2 < (l1.length : Int)) = true := decide_eq_true c20
                    clear c20
                    by_cases c21 : 0 ≤ (rd l1 x25_2)
                    · rw [if_pos c21] at H
                      have c21b0 : decide (0 ≤ (rd l1 x25_2)) = true := decide_eq_true c21
                      clear c21
                      by_cases c22 : (rd l1 x25_2) < (x5_1.length : Int)
                      · rw [if_pos c22] at H
                        have c22b0 : decide ((rd l1 x25_2) < (x5_1.length : Int)) = true := decide_eq_true c22
                        clear c22
                        obtain ⟨bq23, hbq23⟩ : ∃ b_ : Bool, b_ = (rdOf false x5_1 (rd l1 x25_2)) := ⟨_, rfl⟩
                        replace H : (if (bq23 = true) then (spec_Has.l1 k2 x5_1 l1 (l1.length : Int) (wrap64 (x25_2 + 1))) else (some false)) = some r := by rw [← hbq23] at H; exact H
                        have Nbq23 := Aside0.mk hbq23
                        clear hbq23
                        by_cases c24 : (bq23 = true)
                        · subst c24
                          have H1 : (spec_Has.l1 k2 x5_1 l1 (l1.length : Int) (wrap64 (x25_2 + 1))) = some r := by rw [if_pos rfl] at H; exact H
                          clear H
                          have H := H1
                          clear H1
                          have H' := Aside0.mk H
                          clear H
                          have p278 : 0 ≤ (x25_2 : Int) := of_decide_eq_true (by first | (with_reducible assumption) | assumption)
                          have q278 : x25_2 < (l1.length : Int) := of_decide_eq_true (by first | (with_reducible assumption) | assumption)
                          obtain ⟨ad278, e278, hx278_0⟩ := Kd.at_int HR1.out x25_2 p278 q278
                          cases e278
                          replace hx278_0 := (HB.out.cell (World.block_lt_of_cell? w _ hx278_0)).trans hx278_0
                          replace p278 := eq_true p278
                          replace q278 := eq_true q278
                          obtain ⟨Ao25, co25, eo25⟩ := Kd.R_slice HO_5.out
                          subst eo25
                          have p279 : 0 ≤ ((rd l1 x25_2) : Int) := of_decide_eq_true (by first | (with_reducible assumption) | assumption)
                          have q279 : (rd l1 x25_2) < (x5_1.length : Int) := of_decide_eq_true (by first | (with_reducible assumption) | assumption)
                          obtain ⟨ad279, e279, hx279_0⟩ := Kd.at_bool (Kd.R_reads' HO_5.out).2.2 (rd l1 x25_2) p279 q279
                          (try rw [← Nbq23.out] at hx279_0)
                          cases e279
                          replace p279 := eq_true p279
                          replace q279 := eq_true q279
                          go_wp2
                          go_roundg k2
                          case measure => have := HK1.out; have := HK2.out; omega
                          case rel => exact ⟨(wrap64 (x25_2 + 1)), (by first | rfl | (simp; done) | (simp [*]; done)), H', ⟨by have := HK1.out; have := HK2.out; omega⟩, ⟨by (with_reducible repeat (first | apply Kd.R_alloc | apply Kd.R_drewN | apply Kd.R_drew)); exact HO_5.out⟩, ⟨by repeat (first | (with_reducible first | exact HB.out | apply below_alloc | apply pw_below_drewN | apply below_drew1) | exact HB.out)⟩⟩
                        · replace c24 := Bool.eq_false_iff.mpr c24
                          subst c24
                          have H1 : (some false) = some r := by rw [if_neg (show ¬ (false = true) by decide)] at H; exact H
                          clear H
                          have H := H1
                          clear H1
                          obtain rfl := Option.some.inj H
                          have p278 : 0 ≤ (x25_2 : Int) := of_decide_eq_true (by first | (with_reducible assumption) | assumption)
                          have q278 : x25_2 < (l1.length : Int) := of_decide_eq_true (by first | (with_reducible assumption) | assumption)
                          obtain ⟨ad278, e278, hx278_0⟩ := Kd.at_int HR1.out x25_2 p278 q278
                          cases e278
                          replace hx278_0 := (HB.out.cell (World.block_lt_of_cell? w _ hx278_0)).trans hx278_0
                          replace p278 := eq_true p278
                          replace q278 := eq_true q278
                          obtain ⟨Ao26, co26, eo26⟩ := Kd.R_slice HO_5.out
                          subst eo26
                          have p279 : 0 ≤ ((rd l1 x25_2) : Int) := of_decide_eq_true (by first | (with_reducible assumption) | assumption)
                          have q279 : (rd l1 x25_2) < (x5_1.length : Int) := of_decide_eq_true (by first | (with_reducible assumption) | assumption)
                          obtain ⟨ad279, e279, hx279_0⟩ := Kd.at_bool (Kd.R_reads' HO_5.out).2.2 (rd l1 x25_2) p279 q279
                          (try rw [← Nbq23.out] at hx279_0)
                          cases e279
                          replace p279 := eq_true p279
                          replace q279 := eq_true q279
                          go_wp2
                          go_ret
                          exact ⟨by first | rfl | (simp [errW_none, errW_some] <;> rfl) | (simp [*, errW_none, errW_some] <;> rfl), by repeat (first | (with_reducible first | exact HB.out | apply below_alloc | apply pw_below_drewN | apply below_drew1) | exact HB.out)⟩
                      · rw [if_neg c22] at H
                        exact absurd H (by simp)
                    · rw [if_neg c21] at H
                      exact absurd H (by simp)
                  · rw [if_neg c20] at H
                    exact absurd H (by simp)
                · rw [if_neg c19] at H
                  exact absurd H (by simp)
              · rw [if_neg c18] at H
                have c18b0 : decide (x25_2 < (l1.length : Int)) = false := decide_eq_false c18
                clear c18
                obtain rfl := Option.some.inj H
                go_wp2
                go_ret
                exact ⟨by first | rfl | (simp [errW_none, errW_some] <;> rfl) | (simp [*, errW_none, errW_some] <;> rfl), by repeat (first | (with_reducible first | exact HB.out | apply below_alloc | apply pw_below_drewN | apply below_drew1) | exact HB.out)⟩
  · rw [if_neg c3] at H
    exact absurd H (by simp)

/-! ### spec_quarters: function 35 -/
def spec_quarters.f (a0 : Int) : Option (List Int) := some (([wrap64 (Int.tdiv (wrap64 (a0 + 3)) 4), wrap64 (2 * (wrap64 (Int.tdiv (wrap64 (a0 + 3)) 4))), wrap64 (3 * (wrap64 (Int.tdiv (wrap64 (a0 + 3)) 4))), a0] : List Int))
set_option maxHeartbeats 8000000 in
set_option maxRecDepth 100000 in
theorem spec_quarters.calls (a0 : Int) (r : List Int) (w : World) (h : spec_quarters.f a0 = some r) :
    Calls Tryd.prog 35 #[.int .i64 a0] w fun e w' => ∃ v0_ : Value, e = .returned (v0_) ∧ Kd.R (Kd.int .i64) 3 w' w.heap.size (fun _ => True) v0_ r ∧ Below w.heap.size w w' := by
  have HB := Aside0.mk (Below.refl w.heap.size w)
  have H : (some (([wrap64 (Int.tdiv (wrap64 (a0 + 3)) 4), wrap64 (2 * (wrap64 (Int.tdiv (wrap64 (a0 + 3)) 4))), wrap64 (3 * (wrap64 (Int.tdiv (wrap64 (a0 + 3)) 4))), a0] : List Int))) = some r := h
  clear h
  obtain ⟨y280, hy280⟩ : ∃ y_ : List Int, y_ = (([wrap64 (Int.tdiv (wrap64 (a0 + 3)) 4), wrap64 (2 * (wrap64 (Int.tdiv (wrap64 (a0 + 3)) 4))), wrap64 (3 * (wrap64 (Int.tdiv (wrap64 (a0 + 3)) 4))), a0] : List Int)) := ⟨_, rfl⟩
  replace H : (some y280) = some r := by first | (rw [hy280]; with_reducible exact H) | (have H2_ := (Option.bind_some _ _).symm.trans H; rw [hy280]; with_reducible exact H2_) | (have H2_ := (Option.bind_some _ _).symm.trans H; with_reducible exact H2_) | with_reducible exact H | (rw [hy280]; exact H) | exact H
  have Ny280 := Aside0.mk hy280
  clear hy280
  obtain rfl := Option.some.inj H
  go_enter Tryd.func35, Tryd.ntmps35
  go_wp2_with (first | ((with_reducible refine gate_dst (N := 13) rfl ?_); refine Kd.R_lit (Kd.int .i64) _ 3 ?hg (N := 13) ?hd (xs := ([wrap64 (Int.tdiv (wrap64 (a0 + 3)) 4), wrap64 (2 * (wrap64 (Int.tdiv (wrap64 (a0 + 3)) 4))), wrap64 (3 * (wrap64 (Int.tdiv (wrap64 (a0 + 3)) 4))), a0] : List Int)) (inner := [.int .i64 (wrap64 (Int.tdiv (wrap64 (a0 + 3)) 4)), .int .i64 (wrap64 (2 * (wrap64 (Int.tdiv (wrap64 (a0 + 3)) 4)))), .int .i64 (wrap64 (3 * (wrap64 (Int.tdiv (wrap64 (a0 + 3)) 4)))), .int .i64 a0]) (ok := fun _ => True) (okp := fun _ => True) ?hr ?hp (fun _ hk => hk) trivial (Below.refl _ _) (Nat.le_refl _) (by simp) ?_; (case hd => rfl); (case hg => rfl); (case hr => first | (go_simp; done) | (go_simp; rfl)); (case hp => exact (Reps.one (show Kd.M (Kd.int .i64) _ _ _ (wrap64 (Int.tdiv (wrap64 (a0 + 3)) 4)) [.int .i64 (wrap64 (Int.tdiv (wrap64 (a0 + 3)) 4))] from rfl) (Reps.one (show Kd.M (Kd.int .i64) _ _ _ (wrap64 (2 * (wrap64 (Int.tdiv (wrap64 (a0 + 3)) 4)))) [.int .i64 (wrap64 (2 * (wrap64 (Int.tdiv (wrap64 (a0 + 3)) 4))))] from rfl) (Reps.one (show Kd.M (Kd.int .i64) _ _ _ (wrap64 (3 * (wrap64 (Int.tdiv (wrap64 (a0 + 3)) 4)))) [.int .i64 (wrap64 (3 * (wrap64 (Int.tdiv (wrap64 (a0 + 3)) 4))))] from rfl) (Reps.one (show Kd.M (Kd.int .i64) _ _ _ a0 [.int .i64 a0] from rfl) (Reps.none _ _)))))); intro v281 w2 ho3 hb hg_ hnew_; clear hg_ hnew_; (first | rw [← Ny280.out] at ho3 | (simp only [Int.reduceToNat] at ho3; rw [← Ny280.out] at ho3)); have n0_ := Aside0.mk (Kd.R_lower ho3 (below_size (by repeat (first | (with_reducible first | exact HB.out | apply below_alloc | apply pw_below_drewN | apply below_drew1) | exact HB.out)))); have n1_ := Aside0.mk (below_step (by repeat (first | (with_reducible first | exact HB.out | apply below_alloc | apply pw_below_drewN | apply below_drew1) | exact HB.out)) hb); clear HB; have HO282 := n0_; have HB := n1_; clear n0_ n1_; clear hb ho3))
  go_ret
  exact ⟨_, by first | rfl | (simp [errW_none, errW_some] <;> rfl) | (simp [*, errW_none, errW_some] <;> rfl), by (with_reducible repeat (first | apply Kd.R_alloc | apply Kd.R_drewN | apply Kd.R_drew)); exact HO282.out, by repeat (first | (with_reducible first | exact HB.out | apply below_alloc | apply pw_below_drewN | apply below_drew1) | exact HB.out)⟩

/-! ### spec_codeOf: function 53 -/
def spec_codeOf.l0 : Nat → Int → Int → List (S68) → Int → Int → Option (Int × Int)
  | 0, _, _, _, _, _ => none
  | k + 1, x1, x2, x10, x11, x12 => if x12 < x11 then (if 0 ≤ x12 then (if x12 < (x10.length : Int) then (if ((rd_T68 x10 x12).f0) = x2 then (if 0 ≤ (wrap64 (x1 - ((rd_T68 x10 x12).f1))) then (some (shr .i64 x12 (wrap64 (x1 - ((rd_T68 x10 x12).f1))), (rd_T68 x10 x12).f1)) else (none)) else (spec_codeOf.l0 k x1 x2 x10 x11 (wrap64 (x12 + 1)))) else (none)) else (none)) else (some (0, 0))
def spec_codeOf.f (k : Nat) (l0 : List (S68)) (a1 : Int) (a2 : Int) : Option (Int × Int) := spec_codeOf.l0 k a1 a2 l0 (l0.length : Int) 0
theorem spec_codeOf.mono_l : ∀ k, (∀ y0 y1 y2 y3 y4, LeO (spec_codeOf.l0 k y0 y1 y2 y3 y4) (spec_codeOf.l0 (k + 1) y0 y1 y2 y3 y4))
  | 0 => fun _ _ _ _ _ r h => by simp [spec_codeOf.l0] at h
  | k + 1 => by
    have ih0 := spec_codeOf.mono_l k
    · intro y0 y1 y2 y3 y4
      unfold spec_codeOf.l0
      repeat' first
      | (with_reducible exact ih0 _ _ _ _ _)
      | (with_reducible exact LeO.refl _)
      | (with_reducible exact LeO.none _)
      | (with_reducible refine LeO.ite ?_ ?_)
      | (with_reducible refine LeO.bind ?_ (fun _ => ?_))
      | exact ih0 _ _ _ _ _
      | exact LeO.none _
      | refine LeO.ite ?_ ?_
      | refine LeO.bind ?_ (fun _ => ?_)
theorem spec_codeOf.mono : ∀ a0 a1 a2 k, LeO (spec_codeOf.f k a0 a1 a2) (spec_codeOf.f (k + 1) a0 a1 a2) := by
  intro a0 a1 a2 k
  have ih0 := spec_codeOf.mono_l k
  unfold spec_codeOf.f
  repeat' first
      | (with_reducible exact ih0 _ _ _ _ _)
      | (with_reducible exact LeO.refl _)
      | (with_reducible exact LeO.none _)
      | (with_reducible refine LeO.ite ?_ ?_)
      | (with_reducible refine LeO.bind ?_ (fun _ => ?_))
      | exact ih0 _ _ _ _ _
      | exact LeO.none _
      | refine LeO.ite ?_ ?_
      | refine LeO.bind ?_ (fun _ => ?_)
set_option maxHeartbeats 8000000 in
set_option maxRecDepth 100000 in
theorem spec_codeOf.calls (k : Nat) (A0 : Option Addr) (c0 : Nat) (l0 : List (S68)) (a1 : Int) (a2 : Int) (r1 : Int) (r2 : Int) (w : World) (hr0 : Kd.C k68 w A0 l0.length l0) (hc0 : l0.length ≤ c0) (h : spec_codeOf.f k l0 a1 a2 = some (r1, r2)) :
    Calls Tryd.prog 53 #[.slice A0 l0.length c0, .int .i64 a1, .int .i64 a2] w fun e w' => e = .returned (.tuple #[.int .i64 r1, .int .i64 r2]) ∧ Below w.heap.size w w' := by
  have hu68 := Tryd.underlying68
  have HR0 := Aside0.mk hr0
  have HC0 := Aside0.mk hc0
  clear hr0 hc0
  have HB := Aside0.mk (Below.refl w.heap.size w)
  have H : (spec_codeOf.l0 k a1 a2 l0 (l0.length : Int) 0) = some (r1, r2) := h
  clear h
  have H' := Aside0.mk H
  clear H
  go_enter Tryd.func53, Tryd.ntmps53
  go_wp2
  repeat (go_quiet (fail); try go_wp2)
  go_loopg [12] k (fun kq v12 w' => ∃ (x12_1 : Int), v12 = .int .i64 x12_1 ∧ Aside0 (spec_codeOf.l0 kq a1 a2 l0 (l0.length : Int) x12_1 = some (r1, r2)) ∧ Aside0 (kq ≤ k) ∧ Aside0 (Below w.heap.size w w'))
  case atStart => exact ⟨(0), (by first | rfl | (simp; done) | (simp [*]; done)), H', ⟨Nat.le_refl _⟩, ⟨by repeat (first | (with_reducible first | exact HB.out | apply below_alloc | apply pw_below_drewN | apply below_drew1) | exact HB.out)⟩⟩
  case round =>
    clear H'
    try clear p2
    obtain ⟨x12_1, rfl, HA, HK1, HB⟩ := hrel
    cases gk with
    | zero => exact absurd HA.out (by simp [spec_codeOf.l0])
    | succ k1 =>
      have H := HA.out
      clear HA
      simp only [spec_codeOf.l0] at H
      by_cases c4 : x12_1 < (l0.length : Int)
      · rw [if_pos c4] at H
        have c4b0 : decide (x12_1 < (l0.length : Int)) = true := decide_eq_true c4
        clear c4
        by_cases c5 : 0 ≤ x12_1
        · rw [if_pos c5] at H
          have c5b0 : decide (0 ≤ x12_1) = true := decide_eq_true c5
          clear c5
          by_cases c6 : x12_1 < (l0.length : Int)
          · rw [if_pos c6] at H
            have c6b0 : decide (x12_1 < (l0.length : Int)) = true := decide_eq_true c6
            clear c6
            by_cases c7 : ((rd_T68 l0 x12_1).f0) = a2
            · rw [if_pos c7] at H
              have c7b0 : (((rd_T68 l0 x12_1).f0) == a2) = true := beq_iff_eq.mpr c7
              have c7b1 : (((rd_T68 l0 x12_1).f0) != a2) = false := bne_eq_false_iff_eq.mpr c7
              clear c7
              obtain ⟨ji8, hji8⟩ : ∃ j_ : Int, (wrap64 (a1 - ((rd_T68 l0 x12_1).f1))) = j_ := ⟨_, rfl⟩
              replace H : (if 0 ≤ (ji8) then (some (shr .i64 x12_1 (ji8), (rd_T68 l0 x12_1).f1)) else (none)) = some (r1, r2) := by first | (rw [hji8] at H; exact H) | (simp only [hji8] at H ⊢; exact H)
              have hji8w : (IntKind.i64.wrap (a1 - ((rd_T68 l0 x12_1).f1))) = ji8 := (i64_w _).trans hji8
              by_cases c9 : 0 ≤ (ji8)
              · rw [if_pos c9] at H
                have c9b0 := eq_true c9
                have c9b1 : decide (0 ≤ (ji8)) = true := decide_eq_true c9
                clear c9
                obtain ⟨ji10, hji10⟩ : ∃ j_ : Int, (shr .i64 x12_1 (ji8)) = j_ := ⟨_, rfl⟩
                replace H : (some (ji10, (rd_T68 l0 x12_1).f1)) = some (r1, r2) := by first | (rw [hji10] at H; exact H) | (simp only [hji10] at H ⊢; exact H)
                have hji10_ : (x12_1 / 2 ^ min (ji8).toNat 64) = ji10 := hji10
                have hji10z : (ji8) ≤ 64 → (x12_1 / 2 ^ (ji8).toNat) = ji10 := shr_small hji10
                simp only [Option.some.injEq, Prod.mk.injEq] at H
                obtain ⟨rfl, rfl⟩ := H
                have p283 : 0 ≤ (x12_1 : Int) := of_decide_eq_true (by first | (with_reducible assumption) | assumption)
                have q283 : x12_1 < (l0.length : Int) := of_decide_eq_true (by first | (with_reducible assumption) | assumption)
                obtain ⟨ad283, e283, hx283_0, hx283_1⟩ := at_T68 HR0.out x12_1 p283 q283
                cases e283
                replace hx283_0 := (HB.out.cell (World.block_lt_of_cell? w _ hx283_0)).trans hx283_0
                replace hx283_1 := (HB.out.cell (World.block_lt_of_cell? w _ hx283_1)).trans hx283_1
                replace p283 := eq_true p283
                replace q283 := eq_true q283
                go_wp2_with (first | ((with_reducible refine gate_dst (N := 9) rfl ?_); refine box_event ?hg (N := 9) ?hd (cs := #[.int .i64 0, .int .i64 0]) (t := 68) ?hr ?_; (case hd => rfl); (case hg => rfl); (case hr => first | (go_simp; done) | (go_simp; rfl)); intro gb284 hg w11 hbox hb; have n0_ := Aside0.mk (below_step (by repeat (first | (with_reducible first | exact HB.out | apply below_alloc | apply pw_below_drewN | apply below_drew1) | exact HB.out)) hb); have n1_ := Aside0.mk (hbox); have n2_ := Aside0.mk ((by rw [hg]; exact (below_size (by repeat (first | (with_reducible first | exact HB.out | apply below_alloc | apply pw_below_drewN | apply below_drew1) | exact HB.out))) : w.heap.size ≤ gb284)); have n3_ := Aside0.mk ((by rw [hg]; exact (below_size (by repeat (first | (with_reducible first | exact HB.out | apply below_alloc | apply pw_below_drewN | apply below_drew1) | exact HB.out))) : w.heap.size ≤ gb284)); clear HB; have HB := n0_; have BK284 := n1_; have GW284 := n2_; have GE284 := n3_; clear n0_ n1_ n2_ n3_; clear hb hbox hg; have hcz12_0 : w11.cell? ⟨gb284, 0, none⟩ = some (.int .i64 0) := (blk_cell BK284.out 0).trans rfl; have hcz12_1 : w11.cell? ⟨gb284, 1, none⟩ = some (.int .i64 0) := (blk_cell BK284.out 1).trans rfl; have hfz12_0 := blk_frozen BK284.out 0; have hfz12_1 := blk_frozen BK284.out 1))
                repeat (go_quiet (first | ((with_reducible refine gate_dst (N := 9) rfl ?_); refine box_event ?hg (N := 9) ?hd (cs := #[.int .i64 0, .int .i64 0]) (t := 68) ?hr ?_; (case hd => rfl); (case hg => rfl); (case hr => first | (go_simp; done) | (go_simp; rfl)); intro gb284 hg w11 hbox hb; have n0_ := Aside0.mk (below_step (by repeat (first | (with_reducible first | exact HB.out | apply below_alloc | apply pw_below_drewN | apply below_drew1) | exact HB.out)) hb); have n1_ := Aside0.mk (hbox); have n2_ := Aside0.mk ((by rw [hg]; exact (below_size (by repeat (first | (with_reducible first | exact HB.out | apply below_alloc | apply pw_below_drewN | apply below_drew1) | exact HB.out))) : w.heap.size ≤ gb284)); have n3_ := Aside0.mk ((by rw [hg]; exact (below_size (by repeat (first | (with_reducible first | exact HB.out | apply below_alloc | apply pw_below_drewN | apply below_drew1) | exact HB.out))) : w.heap.size ≤ gb284)); clear HB; have HB := n0_; have BK284 := n1_; have GW284 := n2_; have GE284 := n3_; clear n0_ n1_ n2_ n3_; clear hb hbox hg; have hcz12_0 : w11.cell? ⟨gb284, 0, none⟩ = some (.int .i64 0) := (blk_cell BK284.out 0).trans rfl; have hcz12_1 : w11.cell? ⟨gb284, 1, none⟩ = some (.int .i64 0) := (blk_cell BK284.out 1).trans rfl; have hfz12_0 := blk_frozen BK284.out 0; have hfz12_1 := blk_frozen BK284.out 1)); try go_wp2_with (first | ((with_reducible refine gate_dst (N := 9) rfl ?_); refine box_event ?hg (N := 9) ?hd (cs := #[.int .i64 0, .int .i64 0]) (t := 68) ?hr ?_; (case hd => rfl); (case hg => rfl); (case hr => first | (go_simp; done) | (go_simp; rfl)); intro gb284 hg w11 hbox hb; have n0_ := Aside0.mk (below_step (by repeat (first | (with_reducible first | exact HB.out | apply below_alloc | apply pw_below_drewN | apply below_drew1) | exact HB.out)) hb); have n1_ := Aside0.mk (hbox); have n2_ := Aside0.mk ((by rw [hg]; exact (below_size (by repeat (first | (with_reducible first | exact HB.out | apply below_alloc | apply pw_below_drewN | apply below_drew1) | exact HB.out))) : w.heap.size ≤ gb284)); have n3_ := Aside0.mk ((by rw [hg]; exact (below_size (by repeat (first | (with_reducible first | exact HB.out | apply below_alloc | apply pw_below_drewN | apply below_drew1) | exact HB.out))) : w.heap.size ≤ gb284)); clear HB; have HB := n0_; have BK284 := n1_; have GW284 := n2_; have GE284 := n3_; clear n0_ n1_ n2_ n3_; clear hb hbox hg; have hcz12_0 : w11.cell? ⟨gb284, 0, none⟩ = some (.int .i64 0) := (blk_cell BK284.out 0).trans rfl; have hcz12_1 : w11.cell? ⟨gb284, 1, none⟩ = some (.int .i64 0) := (blk_cell BK284.out 1).trans rfl; have hfz12_0 := blk_frozen BK284.out 0; have hfz12_1 := blk_frozen BK284.out 1)))
                go_ret2
                exact ⟨by first | rfl | (simp [errW_none, errW_some] <;> rfl) | (simp only [← hji8, ← hji10]; first | rfl | (simp [errW_none, errW_some] <;> rfl)) | (simp [*, errW_none, errW_some] <;> rfl), by repeat (first | (with_reducible first | exact HB.out | apply below_alloc | apply pw_below_drewN | apply below_drew1 | refine below_set ?_ GE284.out) | exact HB.out)⟩
              · rw [if_neg c9] at H
                exact absurd H (by simp)
            · rw [if_neg c7] at H
              have c7b0 : (((rd_T68 l0 x12_1).f0) == a2) = false := beq_eq_false_iff_ne.mpr c7
              have c7b1 : (((rd_T68 l0 x12_1).f0) != a2) = true := bne_iff_ne.mpr c7
              have H' := Aside0.mk H
              clear H
              have p283 : 0 ≤ (x12_1 : Int) := of_decide_eq_true (by first | (with_reducible assumption) | assumption)
              have q283 : x12_1 < (l0.length : Int) := of_decide_eq_true (by first | (with_reducible assumption) | assumption)
              obtain ⟨ad283, e283, hx283_0, hx283_1⟩ := at_T68 HR0.out x12_1 p283 q283
              cases e283
              replace hx283_0 := (HB.out.cell (World.block_lt_of_cell? w _ hx283_0)).trans hx283_0
              replace hx283_1 := (HB.out.cell (World.block_lt_of_cell? w _ hx283_1)).trans hx283_1
              replace p283 := eq_true p283
              replace q283 := eq_true q283
              go_wp2_with (first | ((with_reducible refine gate_dst (N := 9) rfl ?_); refine box_event ?hg (N := 9) ?hd (cs := #[.int .i64 0, .int .i64 0]) (t := 68) ?hr ?_; (case hd => rfl); (case hg => rfl); (case hr => first | (go_simp; done) | (go_simp; rfl)); intro gb284 hg w13 hbox hb; have n0_ := Aside0.mk (below_step (by repeat (first | (with_reducible first | exact HB.out | apply below_alloc | apply pw_below_drewN | apply below_drew1) | exact HB.out)) hb); have n1_ := Aside0.mk (hbox); have n2_ := Aside0.mk ((by rw [hg]; exact (below_size (by repeat (first | (with_reducible first | exact HB.out | apply below_alloc | apply pw_below_drewN | apply below_drew1) | exact HB.out))) : w.heap.size ≤ gb284)); have n3_ := Aside0.mk ((by rw [hg]; exact (below_size (by repeat (first | (with_reducible first | exact HB.out | apply below_alloc | apply pw_below_drewN | apply below_drew1) | exact HB.out))) : w.heap.size ≤ gb284)); clear HB; have HB := n0_; have BK284 := n1_; have GW284 := n2_; have GE284 := n3_; clear n0_ n1_ n2_ n3_; clear hb hbox hg; have hcz14_0 : w13.cell? ⟨gb284, 0, none⟩ = some (.int .i64 0) := (blk_cell BK284.out 0).trans rfl; have hcz14_1 : w13.cell? ⟨gb284, 1, none⟩ = some (.int .i64 0) := (blk_cell BK284.out 1).trans rfl; have hfz14_0 := blk_frozen BK284.out 0; have hfz14_1 := blk_frozen BK284.out 1))
              repeat (go_quiet (first | ((with_reducible refine gate_dst (N := 9) rfl ?_); refine box_event ?hg (N := 9) ?hd (cs := #[.int .i64 0, .int .i64 0]) (t := 68) ?hr ?_; (case hd => rfl); (case hg => rfl); (case hr => first | (go_simp; done) | (go_simp; rfl)); intro gb284 hg w13 hbox hb; have n0_ := Aside0.mk (below_step (by repeat (first | (with_reducible first | exact HB.out | apply below_alloc | apply pw_below_drewN | apply below_drew1) | exact HB.out)) hb); have n1_ := Aside0.mk (hbox); have n2_ := Aside0.mk ((by rw [hg]; exact (below_size (by repeat (first | (with_reducible first | exact HB.out | apply below_alloc | apply pw_below_drewN | apply below_drew1) | exact HB.out))) : w.heap.size ≤ gb284)); have n3_ := Aside0.mk ((by rw [hg]; exact (below_size (by repeat (first | (with_reducible first | exact HB.out | apply below_alloc | apply pw_below_drewN | apply below_drew1) | exact HB.out))) : w.heap.size ≤ gb284)); clear HB; have HB := n0_; have BK284 := n1_; have GW284 := n2_; have GE284 := n3_; clear n0_ n1_ n2_ n3_; clear hb hbox hg; have hcz14_0 : w13.cell? ⟨gb284, 0, none⟩ = some (.int .i64 0) := (blk_cell BK284.out 0).trans rfl; have hcz14_1 : w13.cell? ⟨gb284, 1, none⟩ = some (.int .i64 0) := (blk_cell BK284.out 1).trans rfl; have hfz14_0 := blk_frozen BK284.out 0; have hfz14_1 := blk_frozen BK284.out 1)); try go_wp2_with (first | ((with_reducible refine gate_dst (N := 9) rfl ?_); refine box_event ?hg (N := 9) ?hd (cs := #[.int .i64 0, .int .i64 0]) (t := 68) ?hr ?_; (case hd => rfl); (case hg => rfl); (case hr => first | (go_simp; done) | (go_simp; rfl)); intro gb284 hg w13 hbox hb; have n0_ := Aside0.mk (below_step (by repeat (first | (with_reducible first | exact HB.out | apply below_alloc | apply pw_below_drewN | apply below_drew1) | exact HB.out)) hb); have n1_ := Aside0.mk (hbox); have n2_ := Aside0.mk ((by rw [hg]; exact (below_size (by repeat (first | (with_reducible first | exact HB.out | apply below_alloc | apply pw_below_drewN | apply below_drew1) | exact HB.out))) : w.heap.size ≤ gb284)); have n3_ := Aside0.mk ((by rw [hg]; exact (below_size (by repeat (first | (with_reducible first | exact HB.out | apply below_alloc | apply pw_below_drewN | apply below_drew1) | exact HB.out))) : w.heap.size ≤ gb284)); clear HB; have HB := n0_; have BK284 := n1_; have GW284 := n2_; have GE284 := n3_; clear n0_ n1_ n2_ n3_; clear hb hbox hg; have hcz14_0 : w13.cell? ⟨gb284, 0, none⟩ = some (.int .i64 0) := (blk_cell BK284.out 0).trans rfl; have hcz14_1 : w13.cell? ⟨gb284, 1, none⟩ = some (.int .i64 0) := (blk_cell BK284.out 1).trans rfl; have hfz14_0 := blk_frozen BK284.out 0; have hfz14_1 := blk_frozen BK284.out 1)))
              go_roundg k1
              case measure => have := HK1.out; omega
              case rel => exact ⟨(wrap64 (x12_1 + 1)), (by first | rfl | (simp; done) | (simp [*]; done)), H', ⟨by have := HK1.out; omega⟩, ⟨by repeat (first | (with_reducible first | exact HB.out | apply below_alloc | apply pw_below_drewN | apply below_drew1 | refine below_set ?_ GE284.out) | exact HB.out)⟩⟩
          · rw [if_neg c6] at H
            exact absurd H (by simp)
        · rw [if_neg c5] at H
          exact absurd H (by simp)
      · rw [if_neg c4] at H
        have c4b0 : decide (x12_1 < (l0.length : Int)) = false := decide_eq_false c4
        clear c4
        simp only [Option.some.injEq, Prod.mk.injEq] at H
        obtain ⟨rfl, rfl⟩ := H
        go_wp2
        repeat (go_quiet (fail); try go_wp2)
        go_ret2
        exact ⟨by first | rfl | (simp [errW_none, errW_some] <;> rfl) | (simp [*, errW_none, errW_some] <;> rfl), by repeat (first | (with_reducible first | exact HB.out | apply below_alloc | apply pw_below_drewN | apply below_drew1) | exact HB.out)⟩

/-! ### spec_Stream: function 54 -/
def spec_Stream.l0 : Nat → List Int → List Int → List Int → Int → Int → Option (List Int)
  | 0, _, _, _, _, _ => none
  | k + 1, x3, x4, x16, x17, x18 => if x18 < x17 then (if 0 ≤ x18 then (if x18 < (x16.length : Int) then (if 0 ≤ (wrap64 (Int.tdiv (wrap64 ((wrap64 ((x3.length : Int) - 1)) - x18)) 8)) then (if (wrap64 (Int.tdiv (wrap64 ((wrap64 ((x3.length : Int) - 1)) - x18)) 8)) < (x4.length : Int) then (if 0 ≤ (Int.tmod (wrap64 ((wrap64 ((x3.length : Int) - 1)) - x18)) 8) then (spec_Stream.l0 k x3 (x4.set ((wrap64 (Int.tdiv (wrap64 ((wrap64 ((x3.length : Int) - 1)) - x18)) 8)) : Int).toNat (Go.bits .or .u8 (rd x4 (wrap64 (Int.tdiv (wrap64 ((wrap64 ((x3.length : Int) - 1)) - x18)) 8))) ((shl .i64 (rd x16 x18) (Int.tmod (wrap64 ((wrap64 ((x3.length : Int) - 1)) - x18)) 8)) % 256))) x16 x17 (wrap64 (x18 + 1))) else (none)) else (none)) else (none)) else (none)) else (none)) else (some x4)
def spec_Stream.f (k : Nat) (l0 : List Int) : Option (List Int) := (some (([1] : List Int) : List Int)).bind fun y285 => (if y285.length + l0.length < 17592186044416 then ((some (y285 ++ l0 : List Int)).bind fun y288 => (if 0 ≤ (wrap64 (Int.tdiv (wrap64 ((y288.length : Int) + 7)) 8)) then (if (wrap64 (Int.tdiv (wrap64 ((y288.length : Int) + 7)) 8) : Int).toNat ≤ 281474976710656 then (spec_Stream.l0 k y288 (List.replicate (wrap64 (Int.tdiv (wrap64 ((y288.length : Int) + 7)) 8) : Int).toNat 0) y288 (y288.length : Int) 0) else (none)) else (none))) else (none))
theorem spec_Stream.mono_l : ∀ k, (∀ y0 y1 y2 y3 y4, LeO (spec_Stream.l0 k y0 y1 y2 y3 y4) (spec_Stream.l0 (k + 1) y0 y1 y2 y3 y4))
  | 0 => fun _ _ _ _ _ r h => by simp [spec_Stream.l0] at h
  | k + 1 => by
    have ih0 := spec_Stream.mono_l k
    · intro y0 y1 y2 y3 y4
      unfold spec_Stream.l0
      repeat' first
      | (with_reducible exact ih0 _ _ _ _ _)
      | (with_reducible exact LeO.refl _)
      | (with_reducible exact LeO.none _)
      | (with_reducible refine LeO.ite ?_ ?_)
      | (with_reducible refine LeO.bind ?_ (fun _ => ?_))
      | exact ih0 _ _ _ _ _
      | exact LeO.none _
      | refine LeO.ite ?_ ?_
      | refine LeO.bind ?_ (fun _ => ?_)
theorem spec_Stream.mono : ∀ a0 k, LeO (spec_Stream.f k a0) (spec_Stream.f (k + 1) a0) := by
  intro a0 k
  have ih0 := spec_Stream.mono_l k
  unfold spec_Stream.f
  repeat' first
      | (with_reducible exact ih0 _ _ _ _ _)
      | (with_reducible exact LeO.refl _)
      | (with_reducible exact LeO.none _)
      | (with_reducible refine LeO.ite ?_ ?_)
      | (with_reducible refine LeO.bind ?_ (fun _ => ?_))
      | exact ih0 _ _ _ _ _
      | exact LeO.none _
      | refine LeO.ite ?_ ?_
      | refine LeO.bind ?_ (fun _ => ?_)
def spec_Stream.T7 : Bool × List (List Nat × List Nat) := (true, [([], []), ([], []), ([1], [1]), ([0, 2], [0, 2]), ([3], [3]), ([], []), ([], []), ([6], [6]), ([5, 7], [5, 7]), ([8], [8]), ([4, 9], [4, 9]), ([0, 2, 0, 1, 2, 3, 4, 5, 6, 7, 8, 9, 10], [0, 2]), ([11, 10, 0, 1, 2, 3, 4, 5, 6, 7, 8, 9, 10], [10, 11])])
def spec_Stream.B7 : List Nat := [0, 0, 2, 7, 15, 0, 0, 64, 224, 480, 1023, 2047, 4095]
theorem spec_Stream.tab7 : rtab .any (opsOf Tryd.f54 7) = spec_Stream.T7 := by kernel_rfl
theorem spec_Stream.bits7 : waitsOk spec_Stream.T7.2 spec_Stream.B7 = true := by kernel_rfl
set_option maxHeartbeats 8000000 in
set_option maxRecDepth 100000 in
theorem spec_Stream.calls (k : Nat) (A0 : Option Addr) (c0 : Nat) (l0 : List Int) (r : List Int) (w : World) (hr0 : Kd.C (Kd.int .i64) w A0 l0.length l0) (hc0 : l0.length ≤ c0) (h : spec_Stream.f k l0 = some r) :
    Calls Tryd.prog 54 #[.slice A0 l0.length c0] w fun e w' => ∃ v0_ : Value, e = .returned (v0_) ∧ Kd.R (Kd.int .u8) 5 w' w.heap.size (fun _ => True) v0_ r ∧ Below w.heap.size w w' := by
  have HR0 := Aside0.mk hr0
  have HC0 := Aside0.mk hc0
  clear hr0 hc0
  have HB := Aside0.mk (Below.refl w.heap.size w)
  have H : ((some (([1] : List Int) : List Int)).bind fun y285 => (if y285.length + l0.length < 17592186044416 then ((some (y285 ++ l0 : List Int)).bind fun y288 => (if 0 ≤ (wrap64 (Int.tdiv (wrap64 ((y288.length : Int) + 7)) 8)) then (if (wrap64 (Int.tdiv (wrap64 ((y288.length : Int) + 7)) 8) : Int).toNat ≤ 281474976710656 then (spec_Stream.l0 k y288 (List.replicate (wrap64 (Int.tdiv (wrap64 ((y288.length : Int) + 7)) 8) : Int).toNat 0) y288 (y288.length : Int) 0) else (none)) else (none))) else (none))) = some r := h
  clear h
  obtain ⟨y285, hy285⟩ : ∃ y_ : List Int, y_ = (([1] : List Int)) := ⟨_, rfl⟩
  replace H : (if y285.length + l0.length < 17592186044416 then ((some (y285 ++ l0 : List Int)).bind fun y288 => (if 0 ≤ (wrap64 (Int.tdiv (wrap64 ((y288.length : Int) + 7)) 8)) then (if (wrap64 (Int.tdiv (wrap64 ((y288.length : Int) + 7)) 8) : Int).toNat ≤ 281474976710656 then (spec_Stream.l0 k y288 (List.replicate (wrap64 (Int.tdiv (wrap64 ((y288.length : Int) + 7)) 8) : Int).toNat 0) y288 (y288.length : Int) 0) else (none)) else (none))) else (none)) = some r := by first | (rw [hy285]; with_reducible exact H) | (have H2_ := (Option.bind_some _ _).symm.trans H; rw [hy285]; with_reducible exact H2_) | (have H2_ := (Option.bind_some _ _).symm.trans H; with_reducible exact H2_) | with_reducible exact H | (rw [hy285]; exact H) | exact H
  have Ny285 := Aside0.mk hy285
  clear hy285
  by_cases c2 : y285.length + l0.length < 17592186044416
  · rw [if_pos c2] at H
    have LMc2 := Aside0.mk c2
    clear c2
    obtain ⟨y288, hy288⟩ : ∃ y_ : List Int, y_ = (y285 ++ l0) := ⟨_, rfl⟩
    replace H : (if 0 ≤ (wrap64 (Int.tdiv (wrap64 ((y288.length : Int) + 7)) 8)) then (if (wrap64 (Int.tdiv (wrap64 ((y288.length : Int) + 7)) 8) : Int).toNat ≤ 281474976710656 then (spec_Stream.l0 k y288 (List.replicate (wrap64 (Int.tdiv (wrap64 ((y288.length : Int) + 7)) 8) : Int).toNat 0) y288 (y288.length : Int) 0) else (none)) else (none)) = some r := by first | (rw [hy288]; with_reducible exact H) | (have H2_ := (Option.bind_some _ _).symm.trans H; rw [hy288]; with_reducible exact H2_) | (have H2_ := (Option.bind_some _ _).symm.trans H; with_reducible exact H2_) | with_reducible exact H | (rw [hy288]; exact H) | exact H
    have Ny288 := Aside0.mk hy288
    clear hy288
    obtain ⟨ji3, hji3⟩ : ∃ j_ : Int, (wrap64 (Int.tdiv (wrap64 ((y288.length : Int) + 7)) 8)) = j_ := ⟨_, rfl⟩
    replace H : (if 0 ≤ (ji3) then (if (ji3 : Int).toNat ≤ 281474976710656 then (spec_Stream.l0 k y288 (List.replicate (ji3 : Int).toNat 0) y288 (y288.length : Int) 0) else (none)) else (none)) = some r := by first | (rw [hji3] at H; exact H) | (simp only [hji3] at H ⊢; exact H)
    have hji3w : (IntKind.i64.wrap (Int.tdiv (wrap64 ((y288.length : Int) + 7)) 8)) = ji3 := (i64_w _).trans hji3
    by_cases c4 : 0 ≤ (ji3)
    · rw [if_pos c4] at H
      have c4b0 := eq_true c4
      have c4b1 : decide (0 ≤ (ji3)) = true := decide_eq_true c4
      clear c4
      by_cases c5 : (ji3 : Int).toNat ≤ 281474976710656
      · rw [if_pos c5] at H
        have c5b0 := eq_true c5
        have c5b1 : decide ((ji3 : Int).toNat ≤ 281474976710656) = true := decide_eq_true c5
        clear c5
        obtain ⟨y291, hy291⟩ : ∃ y_ : List Int, y_ = (List.replicate (ji3 : Int).toNat 0) := ⟨_, rfl⟩
        replace H : (spec_Stream.l0 k y288 y291 y288 (y288.length : Int) 0) = some r := by first | (rw [hy291]; with_reducible exact H) | (have H2_ := (Option.bind_some _ _).symm.trans H; rw [hy291]; with_reducible exact H2_) | (have H2_ := (Option.bind_some _ _).symm.trans H; with_reducible exact H2_) | with_reducible exact H | (rw [hy291]; exact H) | exact H
        have Ny291 := Aside0.mk hy291
        clear hy291
        have H' := Aside0.mk H
        clear H
        go_enter Tryd.func54, Tryd.ntmps54
        go_wp2_with (first | ((with_reducible refine gate_dst (N := 8) rfl ?_); refine Kd.R_lit (Kd.int .i64) _ 3 ?hg (N := 8) ?hd (xs := ([1] : List Int)) (inner := [.int .i64 1]) (ok := fun _ => True) (okp := fun _ => True) ?hr ?hp (fun _ hk => hk) trivial (Below.refl _ _) (Nat.le_refl _) (by simp) ?_; (case hd => rfl); (case hg => rfl); (case hr => first | (go_simp; done) | (go_simp; rfl)); (case hp => exact (Reps.one (show Kd.M (Kd.int .i64) _ _ _ 1 [.int .i64 1] from rfl) (Reps.none _ _))); intro v286 w6 ho7 hb hg_ hnew_; clear hg_ hnew_; (first | rw [← Ny285.out] at ho7 | (simp only [Int.reduceToNat] at ho7; rw [← Ny285.out] at ho7)); have n0_ := Aside0.mk (Kd.R_lower ho7 (below_size (by repeat (first | (with_reducible first | exact HB.out | apply below_alloc | apply pw_below_drewN | apply below_drew1) | exact HB.out)))); have n1_ := Aside0.mk (below_step (by repeat (first | (with_reducible first | exact HB.out | apply below_alloc | apply pw_below_drewN | apply below_drew1) | exact HB.out)) hb); clear HB; have HO287 := n0_; have HB := n1_; clear n0_ n1_; clear hb ho7) | ((with_reducible refine gate_builtin (b := .append) (xs := #[.tmp 8, .tmp 9]) rfl ?_); at_builtin; refine Kd.R_append_rows (Kd.int .i64) (w0 := w) w.heap.size rfl (.tmp 8) (.tmp 9) 33 3 (.int .i64 0) 8 rfl Tryd.underlying33 info3 rfl (by decide) (by omega) v286 y285 l0 _ _ _ (fun _ => True) (fun _ => False) rfl rfl ?aO ?aR (fun _ _ h => h) (fun _ h => h.elim) ?aF ?aB ?aS ?aL ?_; (case aR => repeat (first | exact (Kd.C_below HR0.out HB.out) | (with_reducible refine Kd.C_alloc ?_ _) | (with_reducible refine Kd.C_drewN ?_ _) | (with_reducible refine Kd.C_drew ?_))); (case aB => exact (by repeat (first | (with_reducible first | exact HB.out | apply below_alloc | apply pw_below_drewN | apply below_drew1) | exact HB.out))); (case aF => exact (fun _ _ => trivial)); (case aO => exact (by (with_reducible repeat (first | apply Kd.R_alloc | apply Kd.R_drewN | apply Kd.R_drew)); exact HO287.out)); (case aS => exact (below_size (by repeat (first | (with_reducible first | exact HB.out | apply below_alloc | apply pw_below_drewN | apply below_drew1) | exact HB.out)))); (case aL => have := LMc2.out; omega); intro v289 w8 ho hb hg hat; rw [← Ny288.out] at ho; have n0_ := Aside0.mk (hb); have n1_ := Aside0.mk (ho); clear HB; clear HO287; have HB := n0_; have HO290 := n1_; clear n0_ n1_; clear ho hb hg hat; obtain ⟨Ao9, co9, eo9⟩ := Kd.R_slice HO290.out; subst eo9) | ((with_reducible refine gate_dst (N := 15) rfl ?_); refine Kd.R_make (Kd.int .u8) _ 5 rfl (N := 15) rfl 32 _ _ rfl ji3 rfl rfl Tryd.underlying32 (.int .u8 0) 1 info5 rfl (by decide) (by omega) 0 (ok := fun _ => True) (okp := fun _ => True) rfl (fun _ hk => hk) trivial (of_decide_eq_true (by first | (with_reducible assumption) | assumption)) (Nat.le_trans (Nat.mul_le_mul_right _ (of_decide_eq_true (by first | (with_reducible assumption) | assumption) : ji3.toNat ≤ 281474976710656)) (by omega)) (Below.refl _ _) (Nat.le_refl _) ?_; intro v292 w10 ho11 hb hg_ hnew_; clear hg_ hnew_; (first | rw [← Ny291.out] at ho11 | (simp only [Int.reduceToNat] at ho11; rw [← Ny291.out] at ho11)); have n0_ := Aside0.mk (Kd.R_below (by (with_reducible repeat (first | apply Kd.R_alloc | apply Kd.R_drewN | apply Kd.R_drew)); exact HO290.out) hb); have n1_ := Aside0.mk (Kd.R_lower ho11 (below_size (by repeat (first | (with_reducible first | exact HB.out | apply below_alloc | apply pw_below_drewN | apply below_drew1) | exact HB.out)))); have n2_ := Aside0.mk (below_step (by repeat (first | (with_reducible first | exact HB.out | apply below_alloc | apply pw_below_drewN | apply below_drew1) | exact HB.out)) hb); clear HO290; clear HB; have HO290 := n0_; have HO293 := n1_; have HB := n2_; clear n0_ n1_ n2_; clear hb ho11))
        go_loopg [18] k (fun kq v18 w' => ∃ (x4_1 : List Int) (x18_1 : Int), v18 = .int .i64 x18_1 ∧ Aside0 (spec_Stream.l0 kq y288 x4_1 y288 (y288.length : Int) x18_1 = some r) ∧ Aside0 (kq ≤ k) ∧ Aside0 (Kd.R (Kd.int .i64) 3 w' w.heap.size (fun _ => True) (.slice Ao9 y288.length co9) y288) ∧ Aside0 (Kd.R (Kd.int .u8) 5 w' w.heap.size (fun _ => True) v292 x4_1) ∧ Aside0 (Kd.R (Kd.int .i64) 3 w' w.heap.size (fun _ => True) (.slice Ao9 y288.length co9) y288) ∧ Aside0 (Below w.heap.size w w'))
        case atStart => exact ⟨(y291), (0), (by first | rfl | (simp; done) | (simp [*]; done)), H', ⟨Nat.le_refl _⟩, ⟨by (with_reducible repeat (first | apply Kd.R_alloc | apply Kd.R_drewN | apply Kd.R_drew)); exact HO290.out⟩, ⟨by (with_reducible repeat (first | apply Kd.R_alloc | apply Kd.R_drewN | apply Kd.R_drew)); exact HO293.out⟩, ⟨by (with_reducible repeat (first | apply Kd.R_alloc | apply Kd.R_drewN | apply Kd.R_drew)); exact HO290.out⟩, ⟨by repeat (first | (with_reducible first | exact HB.out | apply below_alloc | apply pw_below_drewN | apply below_drew1) | exact HB.out)⟩⟩
        case round =>
          clear H'
          try clear c2
          try clear p2
          try clear c4
          try clear c4b0
          try clear c4b1
          try clear c5
          try clear c5b0
          try clear c5b1
          try clear p6
          obtain ⟨x4_1, x18_1, rfl, HA, HK1, HO_3, HO_4, HO_16, HB⟩ := hrel
          cases gk with
          | zero => exact absurd HA.out (by simp [spec_Stream.l0])
          | succ k1 =>
            have H := HA.out
            clear HA
            simp only [spec_Stream.l0] at H
            by_cases c12 : x18_1 < (y288.length : Int)
            · rw [if_pos c12] at H
              have c12b0 : decide (x18_1 < (y288.length : Int)) = true := decide_eq_true c12
              clear c12
              by_cases c13 : 0 ≤ x18_1
              · rw [if_pos c13] at H
                have c13b0 : decide (0 ≤ x18_1) = true := decide_eq_true c13
                clear c13
                by_cases c14 : x18_1 < (y288.length : Int)
                · rw [if_pos c14] at H
                  have c14b0 : decide (x18_1 < (y288.length : Int)) = true := decide_eq_true c14
                  clear c14
                  obtain ⟨ji15, hji15⟩ : ∃ j_ : Int, (wrap64 (Int.tdiv (wrap64 ((wrap64 ((y288.length : Int) - 1)) - x18_1)) 8)) = j_ := ⟨_, rfl⟩
                  replace H : (if 0 ≤ (ji15) then (if (ji15) < (x4_1.length : Int) then (if 0 ≤ (Int.tmod (wrap64 ((wrap64 ((y288.length : Int) - 1)) - x18_1)) 8) then (spec_Stream.l0 k1 y288 (x4_1.set ((ji15) : Int).toNat (Go.bits .or .u8 (rd x4_1 (ji15)) ((shl .i64 (rd y288 x18_1) (Int.tmod (wrap64 ((wrap64 ((y288.length : Int) - 1)) - x18_1)) 8)) % 256))) y288 (y288.length : Int) (wrap64 (x18_1 + 1))) else (none)) else (none)) else (none)) = some r := by first | (rw [hji15] at H; exact H) | (simp only [hji15] at H ⊢; exact H)
                  have hji15w : (IntKind.i64.wrap (Int.tdiv (wrap64 ((wrap64 ((y288.length : Int) - 1)) - x18_1)) 8)) = ji15 := (i64_w _).trans hji15
                  by_cases c16 : 0 ≤ (ji15)
                  · rw [if_pos c16] at H
                    have c16b0 : decide (0 ≤ (ji15)) = true := decide_eq_true c16
                    clear c16
                    by_cases c17 : (ji15) < (x4_1.length : Int)
                    · rw [if_pos c17] at H
                      have c17b0 : decide ((ji15) < (x4_1.length : Int)) = true := decide_eq_true c17
                      clear c17
                      obtain ⟨ji18, hji18⟩ : ∃ j_ : Int, (Int.tmod (wrap64 ((wrap64 ((y288.length : Int) - 1)) - x18_1)) 8) = j_ := ⟨_, rfl⟩
                      replace H : (if 0 ≤ (ji18) then (spec_Stream.l0 k1 y288 (x4_1.set ((ji15) : Int).toNat (Go.bits .or .u8 (rd x4_1 (ji15)) ((shl .i64 (rd y288 x18_1) (ji18)) % 256))) y288 (y288.length : Int) (wrap64 (x18_1 + 1))) else (none)) = some r := by first | (rw [hji18] at H; exact H) | (simp only [hji18] at H ⊢; exact H)
                      by_cases c19 : 0 ≤ (ji18)
                      · rw [if_pos c19] at H
                        have c19b0 := eq_true c19
                        have c19b1 : decide (0 ≤ (ji18)) = true := decide_eq_true c19
                        clear c19
                        obtain ⟨ji20, hji20⟩ : ∃ j_ : Int, (shl .i64 (rd y288 x18_1) (ji18)) = j_ := ⟨_, rfl⟩
                        replace H : (spec_Stream.l0 k1 y288 (x4_1.set ((ji15) : Int).toNat (Go.bits .or .u8 (rd x4_1 (ji15)) ((ji20) % 256))) y288 (y288.length : Int) (wrap64 (x18_1 + 1))) = some r := by first | (rw [hji20] at H; exact H) | (simp only [hji20] at H ⊢; exact H)
                        have hji20_ : (IntKind.i64.wrap ((rd y288 x18_1) * 2 ^ min (ji18).toNat 64)) = ji20 := hji20
                        have hji20z : (ji18) ≤ 64 → (IntKind.i64.wrap ((rd y288 x18_1) * 2 ^ (ji18).toNat)) = ji20 := shl_small hji20
                        have hji20y : (wrap64 ((rd y288 x18_1) * 2 ^ min (ji18).toNat 64)) = ji20 := (i64_w _).symm.trans hji20_
                        have hji20x : (ji18) ≤ 64 → (wrap64 ((rd y288 x18_1) * 2 ^ (ji18).toNat)) = ji20 := fun h_ => (i64_w _).symm.trans (hji20z h_)
                        obtain ⟨y296, hy296⟩ : ∃ y_ : List Int, y_ = (x4_1.set ((ji15) : Int).toNat (Go.bits .or .u8 (rd x4_1 (ji15)) ((ji20) % 256))) := ⟨_, rfl⟩
                        replace H : (spec_Stream.l0 k1 y288 y296 y288 (y288.length : Int) (wrap64 (x18_1 + 1))) = some r := by first | (rw [hy296]; with_reducible exact H) | (have H2_ := (Option.bind_some _ _).symm.trans H; rw [hy296]; with_reducible exact H2_) | (have H2_ := (Option.bind_some _ _).symm.trans H; with_reducible exact H2_) | with_reducible exact H | (rw [hy296]; exact H) | exact H
                        have Ny296 := Aside0.mk hy296
                        clear hy296
                        have H' := Aside0.mk H
                        clear H
                        have p294 : 0 ≤ (x18_1 : Int) := of_decide_eq_true (by first | (with_reducible assumption) | assumption)
                        have q294 : x18_1 < (y288.length : Int) := of_decide_eq_true (by first | (with_reducible assumption) | assumption)
                        obtain ⟨ad294, e294, hx294_0⟩ := Kd.at_int (Kd.R_reads' HO_16.out).2.2 x18_1 p294 q294
                        cases e294
                        replace p294 := eq_true p294
                        replace q294 := eq_true q294
                        try go_wp2
                        have n0_ := Aside0.mk (Kd.R_drew HO_3.out)
                        have n1_ := Aside0.mk (Kd.R_drew HO_4.out)
                        have n2_ := Aside0.mk (Kd.R_drew HO_16.out)
                        have n3_ := Aside0.mk (below_drew1 HB.out)
                        clear HO_3
                        clear HO_4
                        clear HO_16
                        clear HB
                        have HO_3 := n0_
                        have HO_4 := n1_
                        have HO_16 := n2_
                        have HB := n3_
                        clear n0_ n1_ n2_ n3_
                        obtain ⟨Ao23, co23, eo23⟩ := Kd.R_slice HO_4.out
                        (first | subst eo23 | (injection eo23 with f1_ f2_ f3_; have f4_ := f1_.symm; have f5_ := f3_.symm; clear f1_ f2_ f3_; subst f4_; subst f5_))
                        have p295 : 0 ≤ ((ji15) : Int) := of_decide_eq_true (by first | (with_reducible assumption) | assumption)
                        have q295 : (ji15) < (x4_1.length : Int) := of_decide_eq_true (by first | (with_reducible assumption) | assumption)
                        obtain ⟨ad295, e295, hx295_0⟩ := Kd.at_int (Kd.R_reads' HO_4.out).2.2 (ji15) p295 q295
                        cases e295
                        replace p295 := eq_true p295
                        replace q295 := eq_true q295
                        have p21 : 0 ≤ ((ji15) : Int) := of_decide_eq_true (by first | (with_reducible assumption) | assumption)
                        have q21 : ((ji15) : Int) < ((x4_1.length : Int) : Int) := of_decide_eq_true (by first | (with_reducible assumption) | assumption)
                        obtain ⟨go21, co21, eo21, gb21, gl21, cl21, HG21⟩ := Kd.R_form HO_4.out (by omega)
                        (first | cases eo21 | (injection eo21 with ea_ en_ ec_; (first | subst ea_ | (injection ea_ with ea_; subst ea_)); subst ec_; clear en_))
                        have GB21 := Aside0.mk gb21
                        have GG21 := Aside0.mk HG21
                        clear gb21 gl21 HG21
                        (first | simp only [add_plain] at hx295_0 | skip)
                        obtain ⟨hx21_0, hf21_0⟩ := Kd.R_celln 0 HO_4.out ((ji15) : Int) p21 q21
                        replace p21 := eq_true p21
                        replace q21 := eq_true q21
                        have HP24 := Kd.R_putn HO_4.out ((ji15) : Int) (Go.bits .or .u8 (rd x4_1 (ji15)) ((ji20) % 256))
                        rw [← Ny296.out] at HP24
                        have HQ24 := Aside0.mk HP24
                        clear HP24
                        refine start_ (n := 13) (S := fun w' => w'.cell? ⟨go21, ((ji15)).toNat, none⟩ = some (.int .u8 (rd x4_1 (ji15)))) (ds := [12]) #[false, false, false, false, false, false, false, false, false, false, false, false, false] (by kernel_rfl) rfl rfl (hx295_0) (fun hHeld => ?_); refine with_tabW spec_Stream.tab7 spec_Stream.bits7 (fun HT_ HW_ => ?_)
                        generalize wr.drew = w22 at HO_3 HO_4 HO_16 HB GG21 HQ24 hf21_0 hx21_0 hx295_0 hHeld ⊢
                        refine pure_ (i := 0) (N := some 28) (v := ?_) (a' := ?_) #[true, false, false, false, false, false, false, false, false, false, false, false, false] rfl rfl (any_of HT_.out (by kernel_rfl)) (fun _ _ _ h => h) (Or.inl ⟨by rfl, ?_⟩) ?_ ?_
                        rotate_left
                        · intro w'
                          go_simp
                          with_reducible rfl
                        rotate_left
                        · simp only [Act.put, List.setIfInBounds_toArray, List.set_cons_zero, List.set_cons_succ, i64_w, i32_w]
                          rfl
                        refine pure_ (i := 1) (N := some 29) (v := ?_) (a' := ?_) #[true, true, false, false, false, false, false, false, false, false, false, false, false] rfl rfl (any_of HT_.out (by kernel_rfl)) (fun _ _ _ h => h) (Or.inl ⟨by rfl, ?_⟩) ?_ ?_
                        rotate_left
                        · intro w'
                          go_simp
                          with_reducible rfl
                        rotate_left
                        · simp only [Act.put, List.setIfInBounds_toArray, List.set_cons_zero, List.set_cons_succ, i64_w, i32_w]
                          rfl
                        refine pure_ (i := 2) (N := some 30) (v := ?_) (a' := ?_) #[true, true, true, false, false, false, false, false, false, false, false, false, false] rfl rfl (any_of HT_.out (by kernel_rfl)) (fun _ _ _ h => h) (Or.inl ⟨by rfl, ?_⟩) ?_ ?_
                        rotate_left
                        · intro w'
                          go_simp
                          with_reducible rfl
                        rotate_left
                        · simp only [Act.put, List.setIfInBounds_toArray, List.set_cons_zero, List.set_cons_succ, i64_w, i32_w]
                          rfl
                        refine pure_ (i := 3) (N := some 31) (v := ?_) (a' := ?_) #[true, true, true, true, false, false, false, false, false, false, false, false, false] rfl rfl (any_of HT_.out (by kernel_rfl)) (fun _ _ _ h => h) (Or.inl ⟨by rfl, ?_⟩) ?_ ?_
                        rotate_left
                        · intro w'
                          go_simp
                          with_reducible rfl
                        rotate_left
                        · simp only [Act.put, List.setIfInBounds_toArray, List.set_cons_zero, List.set_cons_succ, i64_w, i32_w]
                          rfl
                        refine pure_ (i := 5) (N := some 33) (v := ?_) (a' := ?_) #[true, true, true, true, false, true, false, false, false, false, false, false, false] rfl rfl (any_of HT_.out (by kernel_rfl)) (fun _ _ _ h => h) (Or.inl ⟨by rfl, ?_⟩) ?_ ?_
                        rotate_left
                        · intro w'
                          go_simp
                          with_reducible rfl
                        rotate_left
                        · simp only [Act.put, List.setIfInBounds_toArray, List.set_cons_zero, List.set_cons_succ, i64_w, i32_w]
                          rfl
                        refine pure_ (i := 6) (N := some 34) (v := ?_) (a' := ?_) #[true, true, true, true, false, true, true, false, false, false, false, false, false] rfl rfl (any_of HT_.out (by kernel_rfl)) (fun _ _ _ h => h) (Or.inl ⟨by rfl, ?_⟩) ?_ ?_
                        rotate_left
                        · intro w'
                          go_simp
                          with_reducible rfl
                        rotate_left
                        · simp only [Act.put, List.setIfInBounds_toArray, List.set_cons_zero, List.set_cons_succ, i64_w, i32_w]
                          rfl
                        refine pure_ (i := 7) (N := some 35) (v := ?_) (a' := ?_) #[true, true, true, true, false, true, true, true, false, false, false, false, false] rfl rfl (any_of HT_.out (by kernel_rfl)) (fun _ _ _ h => h) (Or.inl ⟨by rfl, ?_⟩) ?_ ?_
                        rotate_left
                        · intro w'
                          go_simp
                          with_reducible rfl
                        rotate_left
                        · simp only [Act.put, List.setIfInBounds_toArray, List.set_cons_zero, List.set_cons_succ, i64_w, i32_w]
                          rfl
                        refine pure_ (i := 8) (N := some 36) (v := ?_) (a' := ?_) #[true, true, true, true, false, true, true, true, true, false, false, false, false] rfl rfl (any_of HT_.out (by kernel_rfl)) (fun _ _ _ h => h) (Or.inl ⟨by rfl, ?_⟩) ?_ ?_
                        rotate_left
                        · intro w'
                          go_simp
                          with_reducible rfl
                        rotate_left
                        · simp only [Act.put, List.setIfInBounds_toArray, List.set_cons_zero, List.set_cons_succ, i64_w, i32_w]
                          rfl
                        refine pure_ (i := 9) (N := some 37) (v := ?_) (a' := ?_) #[true, true, true, true, false, true, true, true, true, true, false, false, false] rfl rfl (any_of HT_.out (by kernel_rfl)) (fun _ _ _ h => h) (Or.inl ⟨by rfl, ?_⟩) ?_ ?_
                        rotate_left
                        · intro w'
                          go_simp
                          with_reducible rfl
                        rotate_left
                        · simp only [Act.put, List.setIfInBounds_toArray, List.set_cons_zero, List.set_cons_succ, i64_w, i32_w]
                          rfl
                        refine take_ (i := 4) (N := some 32) (v := ?_) (a' := ?_) #[true, true, true, true, true, true, true, true, true, true, false, false, false] rfl rfl (take_ofW HT_.out HW_.out (by kernel_rfl)) (fun _ _ _ h => h) (Or.inl ⟨by rfl, ?_⟩) hHeld ?_ ?_
                        rotate_left
                        · intro w' s0
                          go_simp
                          with_reducible rfl
                        rotate_left
                        · simp only [Act.put, List.setIfInBounds_toArray, List.set_cons_zero, List.set_cons_succ, i64_w, i32_w]
                          rfl
                        refine pure_ (i := 10) (N := some 38) (v := ?_) (a' := ?_) #[true, true, true, true, true, true, true, true, true, true, true, false, false] rfl rfl (any_of HT_.out (by kernel_rfl)) (fun _ _ _ h => h) (Or.inl ⟨by rfl, ?_⟩) ?_ ?_
                        rotate_left
                        · intro w'
                          go_simp
                          with_reducible rfl
                        rotate_left
                        · simp only [Act.put, List.setIfInBounds_toArray, List.set_cons_zero, List.set_cons_succ, i64_w, i32_w]
                          rfl
                        refine pure_ (i := 11) (N := some 39) (v := ?_) (a' := ?_) #[true, true, true, true, true, true, true, true, true, true, true, true, false] rfl rfl (any_of HT_.out (by kernel_rfl)) (fun _ _ _ h => h) (Or.inl ⟨by rfl, ?_⟩) ?_ ?_
                        rotate_left
                        · intro w'
                          go_simp
                          with_reducible rfl
                        rotate_left
                        · simp only [Act.put, List.setIfInBounds_toArray, List.set_cons_zero, List.set_cons_succ, i64_w, i32_w]
                          rfl
                        refine last_ (i := 12) (N := none) #[true, true, true, true, true, true, true, true, true, true, true, true, true] rfl rfl (one_of HT_.out (by kernel_rfl)) (by decide) (fun K hK => ?_)
                        refine skip_ (w1 := ?_) (by rfl) rfl ?_ ?_
                        rotate_left
                        · go_simp
                          rfl
                        refine hK.out _ _ ?_
                        clear hK K
                        refine done_ (done_of HT_.out (by kernel_rfl)) ?_
                        try go_wp2
                        go_roundg k1
                        case measure => have := HK1.out; omega
                        case rel => exact ⟨(y296), (wrap64 (x18_1 + 1)), (by first | rfl | (simp; done) | (simp [*]; done)), H', ⟨by have := HK1.out; omega⟩, ⟨by (with_reducible repeat (first | apply Kd.R_alloc | apply Kd.R_drewN | apply Kd.R_drew)); exact Kd.R_mono (Kd.R_far (p := ⟨go21, ((ji15) : Int).toNat, none⟩) (Kd.R_types HO_3.out GG21.out (by decide)) (fun _ hk => hk.2) (.int .u8 (Go.bits .or .u8 (rd x4_1 (ji15)) ((ji20) % 256)))) (fun _ hk => trivial)⟩, ⟨by (with_reducible repeat (first | apply Kd.R_alloc | apply Kd.R_drewN | apply Kd.R_drew)); exact HQ24.out⟩, ⟨by (with_reducible repeat (first | apply Kd.R_alloc | apply Kd.R_drewN | apply Kd.R_drew)); exact Kd.R_mono (Kd.R_far (p := ⟨go21, ((ji15) : Int).toNat, none⟩) (Kd.R_types HO_16.out GG21.out (by decide)) (fun _ hk => hk.2) (.int .u8 (Go.bits .or .u8 (rd x4_1 (ji15)) ((ji20) % 256)))) (fun _ hk => trivial)⟩, ⟨by repeat (first | (with_reducible first | exact HB.out | apply below_alloc | apply pw_below_drewN | apply below_drew1 | refine below_set ?_ GB21.out) | exact HB.out)⟩⟩
                      · rw [if_neg c19] at H
                        exact absurd H (by simp)
                    · rw [if_neg c17] at H
                      exact absurd H (by simp)
                  · rw [if_neg c16] at H
                    exact absurd H (by simp)
                · rw [if_neg c14] at H
                  exact absurd H (by simp)
              · rw [if_neg c13] at H
                exact absurd H (by simp)
            · rw [if_neg c12] at H
              have c12b0 : decide (x18_1 < (y288.length : Int)) = false := decide_eq_false c12
              clear c12
              obtain rfl := Option.some.inj H
              go_wp2
              go_ret
              exact ⟨_, by first | rfl | (simp [errW_none, errW_some] <;> rfl) | (simp only [← hji3]; first | rfl | (simp [errW_none, errW_some] <;> rfl)) | (simp [*, errW_none, errW_some] <;> rfl), by (with_reducible repeat (first | apply Kd.R_alloc | apply Kd.R_drewN | apply Kd.R_drew)); exact HO_4.out, by repeat (first | (with_reducible first | exact HB.out | apply below_alloc | apply pw_below_drewN | apply below_drew1) | exact HB.out)⟩
      · rw [if_neg c5] at H
        exact absurd H (by simp)
    · rw [if_neg c4] at H
      exact absurd H (by simp)
  · rw [if_neg c2] at H
    exact absurd H (by simp)

end Go.Proofs.YtopadgohinoomaaDoor.PC
