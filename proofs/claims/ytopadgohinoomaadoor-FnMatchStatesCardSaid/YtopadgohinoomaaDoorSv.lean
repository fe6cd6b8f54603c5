/-
Walks of FnLiteralStates, FnMatchStates and FnOffsetStates: each returns true for every table whose symbols are 64-bit numbers.
-/
import Derived.Test.YtopadgohinoomaaDoorSu
namespace Go.Proofs.YtopadgohinoomaaDoor.St
open Go.RowKit Go.Proofs.YtopadgohinoomaaDoorW.PrintWords Go.Proofs.YtopadgohinoomaaDoorW.PrintLast Go.Proofs.YtopadgohinoomaaDoorW.PrintMore Go.Proofs.YtopadgohinoomaaDoor.PC
attribute [local go_sem] max2_int min2_int max_two min_two max_three min_three max_four min_four
set_option linter.unusedVariables false
set_option linter.unusedSimpArgs false
set_option maxHeartbeats 1000000 in
set_option maxRecDepth 100000 in
theorem matLaw_big (A0 : Option Addr) (c0 : Nat) (l : List S29) (w : World) (hT : matAt w) (hE : Eof w) (hr0 : Kd.C k29 w A0 l.length l) (hc0 : l.length ≤ c0) (hl : 2147483647 < (l.length : Int)) :
    Calls Tryd.prog 4 #[.slice A0 l.length c0] w fun e w' => e = .returned (.bool true) ∧ Below w.heap.size w w' := by
  go_enter Tryd.func4, Tryd.ntmps4
  go_wp2
  go_ret
  exact ⟨rfl, Below.refl _ _⟩
set_option maxHeartbeats 1000000 in
set_option maxRecDepth 100000 in
theorem matLaw_long (A0 : Option Addr) (c0 : Nat) (l : List S29) (w : World) (hT : matAt w) (hE : Eof w) (hr0 : Kd.C k29 w A0 l.length l) (hc0 : l.length ≤ c0) (hl : (l.length : Int) ≤ 2147483647) (hl2 : 1000000 < l.length) :
    Calls Tryd.prog 4 #[.slice A0 l.length c0] w fun e w' => e = .returned (.bool true) ∧ Below w.heap.size w w' := by
  have hu29 := Tryd.underlying29
  have HR0 := Aside0.mk hr0
  have HC0 := Aside0.mk hc0
  have HE := Aside0.mk hE
  have HT := Aside0.mk hT
  clear hT
  have HB := Aside0.mk (Below.refl w.heap.size w)
  clear hr0 hc0 hE
  have HF := Aside0.mk (show spec_TooLong.f 3 [(l.length : Int)] = some true by rw [tooLong1 _ (by omega), decide_eq_true hl2])
  clear hl2
  go_enter Tryd.func4, Tryd.ntmps4
  go_wp2_with (first
    | ((with_reducible refine gate_dst (N := 14) rfl ?_); refine Kd.R_lit (Kd.int .i64) _ 3 ?hg (N := 14) ?hd (xs := [(l.length : Int)]) (inner := [.int .i64 (l.length : Int)]) (ok := fun _ => True) (okp := fun _ => True) ?hr ?hp (fun _ hk => hk) trivial (Below.refl _ _) (Nat.le_refl _) (by simp) ?_; (case hd => rfl); (case hg => rfl); (case hr => first | (go_simp; done) | (go_simp; rfl)); (case hp => exact (Reps.one (show Kd.M (Kd.int .i64) _ _ _ (l.length : Int) [.int .i64 (l.length : Int)] from rfl) (Reps.none _ _))); intro v1 w1 ho1 hb1 hg_ hnew_; have HB1 := Aside0.mk hb1; obtain ⟨A1, c1, e1, hc1, hC1⟩ := Kd.R_reads ho1; have HC1 := Aside0.mk hC1; have HL1 := Aside0.mk hc1; have e1' : v1 = .slice A1 1 c1 := e1; subst e1'; clear ho1 hb1 hg_ hnew_ hc1 hC1 e1)
    | (go_at_call 9; have hq : Calls Tryd.prog 9 #[.slice A1 1 c1] w1 _ := spec_TooLong.calls 3 A1 c1 [(l.length : Int)] _ w1 HC1.out HL1.out HF.out; (with_reducible refine hq.mono ?_); clear hq; rintro e w2 ⟨rfl, hb2⟩; have HB2 := Aside0.mk (below_then HB1.out HB1.out.size (Drawn0.below hb2)); clear hb2))
  go_ret
  exact ⟨rfl, HB2.out⟩
set_option maxHeartbeats 1000000 in
set_option maxRecDepth 100000 in
theorem matLaw_no (A0 : Option Addr) (c0 : Nat) (l : List S29) (w : World) (hT : matAt w) (hE : Eof w) (hr0 : Kd.C k29 w A0 l.length l) (hc0 : l.length ≤ c0) (hl : l.length ≤ 1000000) (hx : ∀ x ∈ l, I64 x.f0) (hst : l.all isState = false) :
    Calls Tryd.prog 4 #[.slice A0 l.length c0] w fun e w' => e = .returned (.bool true) ∧ Below w.heap.size w w' := by
  have hu29 := Tryd.underlying29
  have HR0 := Aside0.mk hr0
  have HC0 := Aside0.mk hc0
  have HE := Aside0.mk hE
  have HT := Aside0.mk hT
  clear hT
  have HB := Aside0.mk (Below.refl w.heap.size w)
  clear hr0 hc0 hE
  have HF := Aside0.mk (show spec_TooLong.f 3 [(l.length : Int)] = some false by rw [tooLong1 _ (by omega), decide_eq_false (by omega)])
  have HF4 := Aside0.mk (show spec_AreStates.f (l.length + 1) l = some false by rw [areStates_f l hl, hst])
  obtain ⟨W, B, hWB⟩ : ∃ W B, spec_BasedOf.f (l.length + 31) 2 l = some (W, B) := by
    rw [basedOf_f matGood l hl hx]
    split <;> exact ⟨_, _, rfl⟩
  have HF3 := Aside0.mk hWB
  obtain ⟨okb, hokb⟩ : ∃ b, ((l.map to105).map to123).all matP = b := ⟨_, rfl⟩
  have HOK := Aside0.mk hokb
  clear hWB hokb
  clear hx hst
  go_enter Tryd.func4, Tryd.ntmps4
  go_wp2_with (first
    | ((with_reducible refine gate_dst (N := 14) rfl ?_); refine Kd.R_lit (Kd.int .i64) _ 3 ?hg (N := 14) ?hd (xs := [(l.length : Int)]) (inner := [.int .i64 (l.length : Int)]) (ok := fun _ => True) (okp := fun _ => True) ?hr ?hp (fun _ hk => hk) trivial (Below.refl _ _) (Nat.le_refl _) (by simp) ?_; (case hd => rfl); (case hg => rfl); (case hr => first | (go_simp; done) | (go_simp; rfl)); (case hp => exact (Reps.one (show Kd.M (Kd.int .i64) _ _ _ (l.length : Int) [.int .i64 (l.length : Int)] from rfl) (Reps.none _ _))); intro v1 w1 ho1 hb1 hg_ hnew_; have HB1 := Aside0.mk hb1; obtain ⟨A1, c1, e1, hc1, hC1⟩ := Kd.R_reads ho1; have HC1 := Aside0.mk hC1; have HL1 := Aside0.mk hc1; have e1' : v1 = .slice A1 1 c1 := e1; subst e1'; clear ho1 hb1 hg_ hnew_ hc1 hC1 e1)
    | (go_at_call 9; have hq : Calls Tryd.prog 9 #[.slice A1 1 c1] w1 _ := spec_TooLong.calls 3 A1 c1 [(l.length : Int)] _ w1 HC1.out HL1.out HF.out; (with_reducible refine hq.mono ?_); clear hq; rintro e w2 ⟨rfl, hb2⟩; have HB2 := Aside0.mk (below_then HB1.out HB1.out.size (Drawn0.below hb2)); clear hb2)
    | (go_at_call 10; (with_reducible refine (spec_BasedOf.calls (l.length + 31) 2 A0 c0 l _ _ w2 (Kd.C_below HR0.out HB2.out) HC0.out HF3.out).mono ?_); rintro e w3 ⟨v3, rfl, ho3, hb3⟩; have HO3 := Aside0.mk (Kd.R_lower ho3 HB2.out.size); have HB3 := Aside0.mk (below_then HB2.out HB2.out.size hb3); clear ho3 hb3)
    | (go_at_call 14; have hq : Calls Tryd.prog 14 #[.slice A5 1 c5] w5 _ := matI_any A5 c5 one29 w5 (HT.out.below HB5.out) (HE.out.below HB5.out) HC5.out HL5.out (by decide); (with_reducible refine hq.mono ?_); clear hq; rintro e w6 hp6; obtain ⟨hb6, v6, out6, ho6, hl6, rfl, hc6⟩ := postB (show ((one29.map to105).map to123).all matP = true by decide) hp6; have HB6 := Aside0.mk (below_then HB5.out HB5.out.size hb6); have HO6 := Aside0.mk (Kd.R_below HO5.out hb6); have HO46 := Aside0.mk (Kd.R_below HO45.out hb6); clear hp6 hb6 ho6 hl6 hc6)
    | (go_at_call 14; have hq := matI_any A0 c0 l w3 (HT.out.below HB3.out) (HE.out.below HB3.out) (Kd.C_below HR0.out HB3.out) HC0.out hl; (with_reducible refine hq.mono ?_); clear hq; rintro e w4 hp4; obtain ⟨hb4, v4, out4, ho4, hl4, rfl, hc4⟩ := postB HOK.out hp4; have HO4 := Aside0.mk (Kd.R_lower ho4 HB3.out.size); have HB4 := Aside0.mk (below_then HB3.out HB3.out.size hb4); have HL4 := Aside0.mk hl4; have HC4 := Aside0.mk hc4; have HO34 := Aside0.mk (Kd.R_below HO3.out hb4); clear hp4 hb4 ho4 hl4 hc4)
    | ((with_reducible refine gate_dst (N := 28) rfl ?_); refine Kd.R_lit k29 _ 29 ?hg (N := 28) ?hd (xs := one29) (inner := [.int .i64 0, .int .i64 0, .int .i64 0]) (ok := fun _ => True) (okp := fun _ => True) ?hr ?hp (fun _ hk => hk) trivial (Below.refl _ _) (Nat.le_refl _) (by decide) ?_; (case hd => rfl); (case hg => rfl); (case hr => first | (go_simp; done) | (go_simp; rfl)); (case hp => exact one29_reps _ _ _); intro v5 w5 ho5 hb5 hg_ hnew_; have HB5 := Aside0.mk (below_then HB4.out HB4.out.size hb5); have HO5 := Aside0.mk (Kd.R_below HO34.out hb5); have HO45 := Aside0.mk (Kd.R_below HO4.out hb5); obtain ⟨A5, c5, e5, hc5, hC5⟩ := Kd.R_reads ho5; have HC5 := Aside0.mk hC5; have HL5 := Aside0.mk hc5; have e5' : v5 = .slice A5 1 c5 := e5; subst e5'; clear ho5 hb5 hg_ hnew_ hc5 hC5 e5)
    | (go_at_call 12; (with_reducible refine (spec_AreStates.calls (l.length + 1) A0 c0 l _ w6 (Kd.C_below HR0.out HB6.out) HC0.out HF4.out).mono ?_); rintro e w7 ⟨rfl, hb7⟩; have HB7 := Aside0.mk (below_then HB6.out HB6.out.size hb7); have HO7 := Aside0.mk (Kd.R_below HO6.out hb7); have HO47 := Aside0.mk (Kd.R_below HO46.out hb7); clear hb7))
  go_ret
  exact ⟨rfl, HB7.out⟩
set_option maxHeartbeats 1000000 in
set_option maxRecDepth 100000 in
theorem matLaw_is (A0 : Option Addr) (c0 : Nat) (l : List S29) (w : World) (hT : matAt w) (hE : Eof w) (hr0 : Kd.C k29 w A0 l.length l) (hc0 : l.length ≤ c0) (hl : l.length ≤ 1000000) (hx : ∀ x ∈ l, I64 x.f0) (hst : l.all isState = true) (his : l.all (fun x => codeOk 52 x.f0) = true) :
    Calls Tryd.prog 4 #[.slice A0 l.length c0] w fun e w' => e = .returned (.bool true) ∧ Below w.heap.size w w' := by
  have hu29 := Tryd.underlying29
  have HR0 := Aside0.mk hr0
  have HC0 := Aside0.mk hc0
  have HE := Aside0.mk hE
  have HT := Aside0.mk hT
  clear hT
  have HB := Aside0.mk (Below.refl w.heap.size w)
  clear hr0 hc0 hE
  have HF := Aside0.mk (show spec_TooLong.f 3 [(l.length : Int)] = some false by rw [tooLong1 _ (by omega), decide_eq_false (by omega)])
  have HF4 := Aside0.mk (show spec_AreStates.f (l.length + 1) l = some true by rw [areStates_f l hl, hst])
  have HF3 := Aside0.mk (show spec_BasedOf.f (l.length + 31) 2 l = some (l.map (wantOf matG), true) by rw [basedOf_f matGood l hl hx, if_pos his])
  have HOK := Aside0.mk (show ((l.map to105).map to123).all matP = true by rw [all_ok matGood l hst, his])
  have HSB := Aside0.mk (show ∀ out : List S54, out = ((((l.map to105).map to123).map matG).map to107).map to54 → spec_SameBased.f (out.length + 1) out (l.map (wantOf matG)) = some true from fun out ho => by subst ho; rw [out_ok matGood l hst his]; exact sameBased_f _ (by rw [List.length_map]; exact hl))
  clear hx hst his
  go_enter Tryd.func4, Tryd.ntmps4
  go_wp2_with (first
    | ((with_reducible refine gate_dst (N := 14) rfl ?_); refine Kd.R_lit (Kd.int .i64) _ 3 ?hg (N := 14) ?hd (xs := [(l.length : Int)]) (inner := [.int .i64 (l.length : Int)]) (ok := fun _ => True) (okp := fun _ => True) ?hr ?hp (fun _ hk => hk) trivial (Below.refl _ _) (Nat.le_refl _) (by simp) ?_; (case hd => rfl); (case hg => rfl); (case hr => first | (go_simp; done) | (go_simp; rfl)); (case hp => exact (Reps.one (show Kd.M (Kd.int .i64) _ _ _ (l.length : Int) [.int .i64 (l.length : Int)] from rfl) (Reps.none _ _))); intro v1 w1 ho1 hb1 hg_ hnew_; have HB1 := Aside0.mk hb1; obtain ⟨A1, c1, e1, hc1, hC1⟩ := Kd.R_reads ho1; have HC1 := Aside0.mk hC1; have HL1 := Aside0.mk hc1; have e1' : v1 = .slice A1 1 c1 := e1; subst e1'; clear ho1 hb1 hg_ hnew_ hc1 hC1 e1)
    | (go_at_call 9; have hq : Calls Tryd.prog 9 #[.slice A1 1 c1] w1 _ := spec_TooLong.calls 3 A1 c1 [(l.length : Int)] _ w1 HC1.out HL1.out HF.out; (with_reducible refine hq.mono ?_); clear hq; rintro e w2 ⟨rfl, hb2⟩; have HB2 := Aside0.mk (below_then HB1.out HB1.out.size (Drawn0.below hb2)); clear hb2)
    | (go_at_call 10; (with_reducible refine (spec_BasedOf.calls (l.length + 31) 2 A0 c0 l _ _ w2 (Kd.C_below HR0.out HB2.out) HC0.out HF3.out).mono ?_); rintro e w3 ⟨v3, rfl, ho3, hb3⟩; have HO3 := Aside0.mk (Kd.R_lower ho3 HB2.out.size); have HB3 := Aside0.mk (below_then HB2.out HB2.out.size hb3); clear ho3 hb3)
    | (go_at_call 14; have hq : Calls Tryd.prog 14 #[.slice A5 1 c5] w5 _ := matI_any A5 c5 one29 w5 (HT.out.below HB5.out) (HE.out.below HB5.out) HC5.out HL5.out (by decide); (with_reducible refine hq.mono ?_); clear hq; rintro e w6 hp6; obtain ⟨hb6, v6, out6, ho6, hl6, rfl, hc6⟩ := postB (show ((one29.map to105).map to123).all matP = true by decide) hp6; have HB6 := Aside0.mk (below_then HB5.out HB5.out.size hb6); have HO6 := Aside0.mk (Kd.R_below HO5.out hb6); have HO46 := Aside0.mk (Kd.R_below HO45.out hb6); clear hp6 hb6 ho6 hl6 hc6)
    | (go_at_call 14; have hq := matI_any A0 c0 l w3 (HT.out.below HB3.out) (HE.out.below HB3.out) (Kd.C_below HR0.out HB3.out) HC0.out hl; (with_reducible refine hq.mono ?_); clear hq; rintro e w4 hp4; obtain ⟨hb4, v4, out4, ho4, hl4, rfl, hc4⟩ := postB HOK.out hp4; have HO4 := Aside0.mk (Kd.R_lower ho4 HB3.out.size); have HB4 := Aside0.mk (below_then HB3.out HB3.out.size hb4); have HL4 := Aside0.mk hl4; have HC4 := Aside0.mk hc4; have HO34 := Aside0.mk (Kd.R_below HO3.out hb4); clear hp4 hb4 ho4 hl4 hc4)
    | ((with_reducible refine gate_dst (N := 28) rfl ?_); refine Kd.R_lit k29 _ 29 ?hg (N := 28) ?hd (xs := one29) (inner := [.int .i64 0, .int .i64 0, .int .i64 0]) (ok := fun _ => True) (okp := fun _ => True) ?hr ?hp (fun _ hk => hk) trivial (Below.refl _ _) (Nat.le_refl _) (by decide) ?_; (case hd => rfl); (case hg => rfl); (case hr => first | (go_simp; done) | (go_simp; rfl)); (case hp => exact one29_reps _ _ _); intro v5 w5 ho5 hb5 hg_ hnew_; have HB5 := Aside0.mk (below_then HB4.out HB4.out.size hb5); have HO5 := Aside0.mk (Kd.R_below HO34.out hb5); have HO45 := Aside0.mk (Kd.R_below HO4.out hb5); obtain ⟨A5, c5, e5, hc5, hC5⟩ := Kd.R_reads ho5; have HC5 := Aside0.mk hC5; have HL5 := Aside0.mk hc5; have e5' : v5 = .slice A5 1 c5 := e5; subst e5'; clear ho5 hb5 hg_ hnew_ hc5 hC5 e5)
    | (go_at_call 12; (with_reducible refine (spec_AreStates.calls (l.length + 1) A0 c0 l _ w6 (Kd.C_below HR0.out HB6.out) HC0.out HF4.out).mono ?_); rintro e w7 ⟨rfl, hb7⟩; have HB7 := Aside0.mk (below_then HB6.out HB6.out.size hb7); have HO7 := Aside0.mk (Kd.R_below HO6.out hb7); have HO47 := Aside0.mk (Kd.R_below HO46.out hb7); clear hb7; obtain ⟨A3, c3, e3, hc3, hC3⟩ := Kd.R_reads HO7.out; rw [List.length_map] at e3; subst e3; obtain ⟨A4, c4, e4, hc4, hC4⟩ := Kd.R_reads HO47.out; subst e4; have HL3 := Aside0.mk hc3; have HD3 := Aside0.mk hC3; have HL4b := Aside0.mk hc4; have HD4 := Aside0.mk hC4; clear hc3 hC3 hc4 hC4)
    | (go_at_call 13; have hs := HSB.out out4 (HC4.out trivial); have hq := spec_SameBased.calls (out4.length + 1) A4 c4 out4 A3 c3 (l.map (wantOf matG)) true w7 HD4.out HL4b.out HD3.out HL3.out hs; rw [List.length_map] at hq; (with_reducible refine hq.mono ?_); clear hq hs; rintro e w8 ⟨rfl, hb8⟩; have HB8 := Aside0.mk (below_then HB7.out HB7.out.size (Drawn0.below hb8)); clear hb8))
  go_ret
  exact ⟨rfl, HB8.out⟩
set_option maxHeartbeats 1000000 in
set_option maxRecDepth 100000 in
theorem matLaw_not (A0 : Option Addr) (c0 : Nat) (l : List S29) (w : World) (hT : matAt w) (hE : Eof w) (hr0 : Kd.C k29 w A0 l.length l) (hc0 : l.length ≤ c0) (hl : l.length ≤ 1000000) (hx : ∀ x ∈ l, I64 x.f0) (hst : l.all isState = true) (his : l.all (fun x => codeOk 52 x.f0) = false) :
    Calls Tryd.prog 4 #[.slice A0 l.length c0] w fun e w' => e = .returned (.bool true) ∧ Below w.heap.size w w' := by
  have hu29 := Tryd.underlying29
  have HR0 := Aside0.mk hr0
  have HC0 := Aside0.mk hc0
  have HE := Aside0.mk hE
  have HT := Aside0.mk hT
  clear hT
  have HB := Aside0.mk (Below.refl w.heap.size w)
  clear hr0 hc0 hE
  have HF := Aside0.mk (show spec_TooLong.f 3 [(l.length : Int)] = some false by rw [tooLong1 _ (by omega), decide_eq_false (by omega)])
  have HF4 := Aside0.mk (show spec_AreStates.f (l.length + 1) l = some true by rw [areStates_f l hl, hst])
  have HF3 := Aside0.mk (show spec_BasedOf.f (l.length + 31) 2 l = some ([], false) by rw [basedOf_f matGood l hl hx, if_neg (by rw [his]; decide)])
  have HOK := Aside0.mk (show ((l.map to105).map to123).all matP = false by rw [all_ok matGood l hst, his])
  clear hx hst his
  go_enter Tryd.func4, Tryd.ntmps4
  go_wp2_with (first
    | ((with_reducible refine gate_dst (N := 14) rfl ?_); refine Kd.R_lit (Kd.int .i64) _ 3 ?hg (N := 14) ?hd (xs := [(l.length : Int)]) (inner := [.int .i64 (l.length : Int)]) (ok := fun _ => True) (okp := fun _ => True) ?hr ?hp (fun _ hk => hk) trivial (Below.refl _ _) (Nat.le_refl _) (by simp) ?_; (case hd => rfl); (case hg => rfl); (case hr => first | (go_simp; done) | (go_simp; rfl)); (case hp => exact (Reps.one (show Kd.M (Kd.int .i64) _ _ _ (l.length : Int) [.int .i64 (l.length : Int)] from rfl) (Reps.none _ _))); intro v1 w1 ho1 hb1 hg_ hnew_; have HB1 := Aside0.mk hb1; obtain ⟨A1, c1, e1, hc1, hC1⟩ := Kd.R_reads ho1; have HC1 := Aside0.mk hC1; have HL1 := Aside0.mk hc1; have e1' : v1 = .slice A1 1 c1 := e1; subst e1'; clear ho1 hb1 hg_ hnew_ hc1 hC1 e1)
    | (go_at_call 9; have hq : Calls Tryd.prog 9 #[.slice A1 1 c1] w1 _ := spec_TooLong.calls 3 A1 c1 [(l.length : Int)] _ w1 HC1.out HL1.out HF.out; (with_reducible refine hq.mono ?_); clear hq; rintro e w2 ⟨rfl, hb2⟩; have HB2 := Aside0.mk (below_then HB1.out HB1.out.size (Drawn0.below hb2)); clear hb2)
    | (go_at_call 10; (with_reducible refine (spec_BasedOf.calls (l.length + 31) 2 A0 c0 l _ _ w2 (Kd.C_below HR0.out HB2.out) HC0.out HF3.out).mono ?_); rintro e w3 ⟨v3, rfl, ho3, hb3⟩; have HO3 := Aside0.mk (Kd.R_lower ho3 HB2.out.size); have HB3 := Aside0.mk (below_then HB2.out HB2.out.size hb3); clear ho3 hb3)
    | (go_at_call 14; have hq : Calls Tryd.prog 14 #[.slice A5 1 c5] w5 _ := matI_any A5 c5 one29 w5 (HT.out.below HB5.out) (HE.out.below HB5.out) HC5.out HL5.out (by decide); (with_reducible refine hq.mono ?_); clear hq; rintro e w6 hp6; obtain ⟨hb6, v6, out6, ho6, hl6, rfl, hc6⟩ := postB (show ((one29.map to105).map to123).all matP = true by decide) hp6; have HB6 := Aside0.mk (below_then HB5.out HB5.out.size hb6); have HO6 := Aside0.mk (Kd.R_below HO5.out hb6); have HO46 := Aside0.mk (Kd.R_below HO45.out hb6); clear hp6 hb6 ho6 hl6 hc6)
    | (go_at_call 14; have hq := matI_any A0 c0 l w3 (HT.out.below HB3.out) (HE.out.below HB3.out) (Kd.C_below HR0.out HB3.out) HC0.out hl; (with_reducible refine hq.mono ?_); clear hq; rintro e w4 hp4; obtain ⟨hb4, v4, out4, ho4, hl4, rfl, hc4⟩ := postB HOK.out hp4; have HO4 := Aside0.mk (Kd.R_lower ho4 HB3.out.size); have HB4 := Aside0.mk (below_then HB3.out HB3.out.size hb4); have HL4 := Aside0.mk hl4; have HC4 := Aside0.mk hc4; have HO34 := Aside0.mk (Kd.R_below HO3.out hb4); clear hp4 hb4 ho4 hl4 hc4)
    | ((with_reducible refine gate_dst (N := 28) rfl ?_); refine Kd.R_lit k29 _ 29 ?hg (N := 28) ?hd (xs := one29) (inner := [.int .i64 0, .int .i64 0, .int .i64 0]) (ok := fun _ => True) (okp := fun _ => True) ?hr ?hp (fun _ hk => hk) trivial (Below.refl _ _) (Nat.le_refl _) (by decide) ?_; (case hd => rfl); (case hg => rfl); (case hr => first | (go_simp; done) | (go_simp; rfl)); (case hp => exact one29_reps _ _ _); intro v5 w5 ho5 hb5 hg_ hnew_; have HB5 := Aside0.mk (below_then HB4.out HB4.out.size hb5); have HO5 := Aside0.mk (Kd.R_below HO34.out hb5); have HO45 := Aside0.mk (Kd.R_below HO4.out hb5); obtain ⟨A5, c5, e5, hc5, hC5⟩ := Kd.R_reads ho5; have HC5 := Aside0.mk hC5; have HL5 := Aside0.mk hc5; have e5' : v5 = .slice A5 1 c5 := e5; subst e5'; clear ho5 hb5 hg_ hnew_ hc5 hC5 e5)
    | (go_at_call 12; (with_reducible refine (spec_AreStates.calls (l.length + 1) A0 c0 l _ w6 (Kd.C_below HR0.out HB6.out) HC0.out HF4.out).mono ?_); rintro e w7 ⟨rfl, hb7⟩; have HB7 := Aside0.mk (below_then HB6.out HB6.out.size hb7); have HO7 := Aside0.mk (Kd.R_below HO6.out hb7); have HO47 := Aside0.mk (Kd.R_below HO46.out hb7); clear hb7))
  go_ret
  exact ⟨rfl, HB7.out⟩
/-- FnMatchStates: whatever the table. -/
theorem matLaw_any (A0 : Option Addr) (c0 : Nat) (l : List S29) (w : World) (hT : matAt w) (hE : Eof w) (hr0 : Kd.C k29 w A0 l.length l) (hc0 : l.length ≤ c0) (hx : ∀ x ∈ l, I64 x.f0) :
    Calls Tryd.prog 4 #[.slice A0 l.length c0] w fun e w' => e = .returned (.bool true) ∧ Below w.heap.size w w' := by
  by_cases h1 : 2147483647 < (l.length : Int)
  · exact matLaw_big A0 c0 l w hT hE hr0 hc0 h1
  by_cases h2 : 1000000 < l.length
  · exact matLaw_long A0 c0 l w hT hE hr0 hc0 (by omega) h2
  cases h3 : l.all isState with
  | false => exact matLaw_no A0 c0 l w hT hE hr0 hc0 (by omega) hx h3
  | true =>
    cases h4 : l.all (fun x => codeOk 52 x.f0) with
    | true => exact matLaw_is A0 c0 l w hT hE hr0 hc0 (by omega) hx h3 h4
    | false => exact matLaw_not A0 c0 l w hT hE hr0 hc0 (by omega) hx h3 h4
end Go.Proofs.YtopadgohinoomaaDoor.St
