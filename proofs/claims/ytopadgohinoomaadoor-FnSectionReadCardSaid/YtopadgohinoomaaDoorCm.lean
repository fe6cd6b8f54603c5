/-
Walks of ZZReadHuff, impl.ReadCodes and coded, at the one small table that coded reads.
-/
import Derived.Test.YtopadgohinoomaaDoorCl
import Derived.Test.YtopadgohinoomaaDoorPC5
namespace Go.Proofs.YtopadgohinoomaaDoor.Cx
open Go.RowKit Go.Proofs.YtopadgohinoomaaDoorW.PrintWords Go.Proofs.YtopadgohinoomaaDoorW.PrintLast Go.Proofs.YtopadgohinoomaaDoorW.PrintMore Go.Proofs.YtopadgohinoomaaDoor.PC
attribute [local go_sem] max2_int min2_int max_two min_two max_three min_three max_four min_four
set_option linter.unusedVariables false
set_option linter.unusedSimpArgs false
def smallD : List Int := [128, 16, 0, 0, 0, 0]
theorem small_bytes : Bytes smallD := by
  intro d hd
  simp only [smallD, List.mem_cons, List.not_mem_nil, or_false] at hd
  omega
def PostS (w : World) (e : Ending) (w' : World) : Prop := ∃ A c, e = .returned (.tuple #[.slice A 2 c, .int .i64 1, .int .i64 2, .nilIface]) ∧ 2048 ≤ c ∧ Kd.C (Kd.int .u16) w' A 2 [1, 257] ∧ Below w.heap.size w w'
theorem small_take {tab : List Int} (h : Fills [1, 1] 1 2 tab) : tab.take 2 = [1, 257] := by
  obtain ⟨hl, hf⟩ := h
  have h0 := hf 0 (by decide) (by decide) 0 (by decide)
  have h1 := hf 1 (by decide) (by decide) 0 (by decide)
  have p0 : place [1, 1] 0 + 0 = 0 := by decide
  have p1 : place [1, 1] 1 + 0 = 1 := by decide
  have q0 : entry [1, 1] 1 0 = 1 := by decide
  have q1 : entry [1, 1] 1 1 = 257 := by decide
  rw [p0, q0] at h0
  rw [p1, q1] at h1
  cases tab with
  | nil => simp at hl
  | cons a t => cases t with
    | nil => simp at hl
    | cons c t =>
      have e0 : a = 1 := by simpa using h0
      have e1 : c = 257 := by simpa using h1
      subst e0 e1
      rfl
set_option maxHeartbeats 2000000 in
set_option maxRecDepth 100000 in
theorem zzSmall_any (ad : Addr) (c : Nat) (w : World) (hD : Kd.C (Kd.int .u8) w (some ad) 6 smallD) :
    Calls Tryd.prog 51 #[.slice (some ad) 6 c, .int .i64 0] w (PostS w) := by
  have hu74 := Tryd.underlying74
  have hu99 := Tryd.underlying99
  have HD := Aside0.mk hD
  have HB := Aside0.mk (Below.refl w.heap.size w)
  clear hD
  go_enter Tryd.func51, Tryd.ntmps51
  go_wp2_with (first
    | ((with_reducible refine gate_dst (N := 9) rfl ?_); refine Kd.R_make (Kd.int .u16) (w0 := w) w.heap.size 103 rfl (N := 9) rfl 74 (.const (.int .i64 2048)) (.const (.int .i64 2048)) rfl 2048 rfl rfl Tryd.underlying74 (.int .u16 0) 2 info103 rfl (by decide) (by omega) 0 (ok := fun _ => True) (okp := fun _ => False) ?m1 (fun _ hk => hk.elim) trivial (by omega) (by decide) HB.out HB.out.size ?_; (case m1 => rfl); intro v1 w1 ho hb hg hat; have HO := Aside0.mk ho; have HB1 := Aside0.mk hb; obtain ⟨gt, ct, e1, hgb, hgl⟩ := form2048 ho; subst e1; have hct : 2048 ≤ ct := (Kd.R_reads' ho).2.1; clear ho hb hg hat)
    | ((with_reducible refine gate_dst (N := 11) rfl ?_); refine box_event ?hg (N := 11) ?hd (cs := Tryd.zeroCells99) (t := 99) ?hr ?_; (case hd => rfl); (case hg => rfl); (case hr => first | (go_simp; done) | (go_simp; rfl)); intro gb hg w2 hbox hb; have HG := Aside0.mk hg; have HO2 := Aside0.mk (Kd.R_below HO.out hb); have HB2 := Aside0.mk (below_then HB1.out HB1.out.size hb); clear hg hbox hb)
    | (go_at_call 62; refine (huff_any gb gt ct w.heap.size 1 1 1 0 ad c smallD (List.replicate (2048 : Int).toNat 0) [1] w2 (Kd.C_below HD.out HB2.out) small_bytes (by decide) (rmono HO2.out (fun k hk => by have := own_eq hk; have := HG.out; omega)) rfl (by decide) (by decide) (by decide) rfl (by decide) (by decide) (by decide) (by decide) (by decide) (by decide) (by decide) (by decide) (by decide)).mono ?_; rintro e w3 ⟨rfl, tab, ho, hfl, hg⟩; have HO3 := Aside0.mk ho; have HFL := Aside0.mk hfl; have HB3 := Aside0.mk (pw_below_grown HB2.out _ HB2.out.size hg (fun k hk => by have := own_eq hk; omega)); clear ho hfl hg))
  refine bodyPost_ret (v := .tuple #[.slice (some ⟨gt, 0, none⟩) 2 ct, .int .i64 1, .int .i64 2, .nilIface]) (by simp [results, Tryd.results51, go_sem]) rfl ?_
  have hC := Kd.C_take (Kd.R_reads' HO3.out).2.2 (m := 2) (by have := (Kd.R_reads' HO3.out).1; omega)
  rw [small_take HFL.out] at hC
  exact ⟨some ⟨gt, 0, none⟩, ct, rfl, hct, hC, HB3.out⟩
theorem small_codes : impl_codesOf.f 10 [1, 257] = some [⟨0, 1⟩, ⟨1, 1⟩] := by kernel_rfl
def PostT (w : World) (e : Ending) (w' : World) : Prop := ∃ A c, e = .returned (.tuple #[.slice A 2 c, .int .i64 1, .int .i64 2, .bool true]) ∧ Below w.heap.size w w'
set_option maxHeartbeats 2000000 in
set_option maxRecDepth 100000 in
theorem readSmall_any (ad : Addr) (c : Nat) (w : World) (hD : Kd.C (Kd.int .u8) w (some ad) 6 smallD) :
    Calls Tryd.prog 33 #[.slice (some ad) 6 c, .int .i64 0] w (PostT w) := by
  have hu74 := Tryd.underlying74
  have HD := Aside0.mk hD
  have HB := Aside0.mk (Below.refl w.heap.size w)
  clear hD
  go_enter Tryd.func33, Tryd.ntmps33
  go_wp2_with (first
    | (go_at_call 51; refine (zzSmall_any ad c w HD.out).mono ?_; rintro e w1 ⟨A1, c1, rfl, hc1, hC, hb⟩; have HC := Aside0.mk hC; have HB1 := Aside0.mk hb; clear hC hb)
    | (go_at_call 52; refine (impl_codesOf.calls 10 A1 c1 [1, 257] _ _ (Kd.C_below HC.out (Below.refl _ _)) (by show 2 ≤ c1; omega) small_codes).mono ?_; rintro e w2 ⟨v2, rfl, ho, hb⟩; obtain ⟨A2, c2, ev⟩ := Kd.R_slice ho; have ev' : v2 = .slice A2 2 c2 := ev; subst ev'; have HB2 := Aside0.mk (below_then HB1.out HB1.out.size hb); clear ho hb ev))
  refine bodyPost_ret (v := .tuple #[.slice A2 2 c2, .int .i64 1, .int .i64 2, .bool true]) (by simp [results, Tryd.results33, go_sem]) rfl ?_
  exact ⟨A2, c2, rfl, HB2.out⟩
theorem litR {k : IntKind} {t : TypeId} {W : World} {base : Nat} (cs : Array Value) (xs : List Int) (hx : encs (fun x : Int => Value.int k x) xs = cs.toList) (hb : base ≤ W.heap.size) (hm : xs.length ≤ 1000) : Kd.R (Kd.int k) t (W.alloc (.cells cs t (0, 0))) base (fun _ => True) (.slice (some ⟨W.heap.size, 0, none⟩) xs.length xs.length) xs := by
  have hl : cs.size = xs.length := by rw [← Array.length_toList, ← hx]; simp [encs]
  refine Kd.R_of_own ⟨by simp [encs], .inr ⟨W.heap.size, xs.length, cs, rfl, hb, blk_new W _, Nat.le_refl _, by simp only [maxLen]; omega, by omega, ?_⟩⟩ (fun _ _ => trivial)
  rw [List.take_of_length_le (by rw [Array.length_toList]; omega)]
  exact hx.symm
theorem small_ww : spec_WriteWeights.f 10 [1] = some [128, 16] := by kernel_rfl
def laws_coded.f : Option Bool := some true
set_option maxHeartbeats 2000000 in
set_option maxRecDepth 100000 in
theorem coded_any (w : World) : Calls Tryd.prog 17 #[] w fun e w' => e = .returned (.bool true) ∧ Below w.heap.size w w' := by
  have hu32 := Tryd.underlying32
  have hu33 := Tryd.underlying33
  have HB := Aside0.mk (Below.refl w.heap.size w)
  go_enter Tryd.func17, Tryd.ntmps17
  go_wp2_with (first
    | (go_at_call 34; refine (spec_WriteWeights.calls 10 (some ⟨w.heap.size, 0, none⟩) 1 [1] _ _ (Kd.R_reads' (litR (k := .i64) (t := 3) #[.int .i64 1] [1] rfl (Nat.le_refl w.heap.size) (by decide))).2.2 (by decide) small_ww).mono ?_; rintro e w1 ⟨v1, rfl, ho, hb⟩; have HO1 := Aside0.mk (Kd.R_lower ho (below_size (by (repeat (first | (with_reducible first | exact (Aside0.out HB) | apply below_alloc | apply pw_below_drewN | apply below_drew1) | exact (Aside0.out HB)))))); have HB1 := Aside0.mk (below_then (by (repeat (first | (with_reducible first | exact (Aside0.out HB) | apply below_alloc | apply pw_below_drewN | apply below_drew1) | exact (Aside0.out HB)))) (below_size (by (repeat (first | (with_reducible first | exact (Aside0.out HB) | apply below_alloc | apply pw_below_drewN | apply below_drew1) | exact (Aside0.out HB))))) hb); clear ho hb)
    | ((with_reducible refine gate_dst (N := 9) rfl ?_); refine Kd.R_append_rows (Kd.int .u8) (Rr := fun x cs => cs = [Value.int .u8 x]) (w0 := w) w.heap.size rfl (.tmp 7) (.tmp 8) 32 5 (.int .u8 0) 1 rfl hu32 info5z rfl (by decide) (by decide) v1 [128, 16] [0, 0, 0, 0] (some ⟨w1.heap.size, 0, none⟩) 4 4 (fun _ => True) (fun _ => False) rfl rfl (Kd.R_alloc HO1.out _) (Kd.R_reads' (litR (k := .u8) (t := 5) #[.int .u8 0, .int .u8 0, .int .u8 0, .int .u8 0] [0, 0, 0, 0] rfl (Nat.le_refl w1.heap.size) (by decide))).2.2 (fun _ _ h => h) (fun _ hk => hk.elim) (fun _ _ => trivial) (below_alloc HB1.out _) (below_size (below_alloc HB1.out _)) (by decide) ?_; intro v2 w2 ho hb hg hat; obtain ⟨g2, c2, e2, -, -, -⟩ := Kd.R_form ho (by decide); have e2' : v2 = .slice (some ⟨g2, 0, none⟩) 6 c2 := e2; subst e2'; have HO2 := Aside0.mk ho; have HB2 := Aside0.mk hb; clear ho hb hg hat e2)
    | (go_at_call 33; refine (readSmall_any ⟨g2, 0, none⟩ c2 w2 (Kd.R_reads' HO2.out).2.2).mono ?_; rintro e w3 ⟨A3, c3, rfl, hb⟩; have HB3 := Aside0.mk (below_then HB2.out HB2.out.size hb); clear hb))
  go_ret
  exact ⟨rfl, HB3.out⟩
theorem laws_coded.calls (r : Bool) (w : World) (h : laws_coded.f = some r) : Calls Tryd.prog 17 #[] w fun e w' => e = .returned (.bool r) ∧ Below w.heap.size w w' := by
  injection h with h
  subst h
  exact coded_any w
end Go.Proofs.YtopadgohinoomaaDoor.Cx
