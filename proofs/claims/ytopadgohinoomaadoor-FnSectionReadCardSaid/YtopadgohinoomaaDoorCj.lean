/-
Walks of ZZFourStreams and impl.FourStreams.
-/
import Derived.Test.YtopadgohinoomaaDoorCi
import Derived.Deep.RegionLaw
namespace Go.Proofs.YtopadgohinoomaaDoor.Cx
open Go.RowKit Go.Proofs.YtopadgohinoomaaDoorW.PrintWords Go.Proofs.YtopadgohinoomaaDoorW.PrintLast Go.Proofs.YtopadgohinoomaaDoorW.PrintMore Go.Proofs.YtopadgohinoomaaDoor.PC
attribute [local go_sem] max2_int min2_int max_two min_two max_three min_three max_four min_four
set_option linter.unusedVariables false
set_option linter.unusedSimpArgs false
theorem iface57 : Tryd.prog.underlying 57 = some (.interface (Tryd.prog.methodsAt 57)) := by kernel_rfl
theorem emptyR {W : World} {base : Nat} (hb : base ≤ W.heap.size) : Kd.R (Kd.int .u8) 5 (W.alloc (.cells #[] 5 (0, 0))) base (fun _ => True) (.slice (some ⟨W.heap.size, 0, none⟩) 0 0) [] := by
  refine Kd.R_of_own ⟨rfl, .inr ⟨W.heap.size, 0, #[], rfl, hb, blk_new W _, Nat.le_refl _, by decide, rfl, rfl⟩⟩ (fun _ _ => trivial)
theorem read_up {A : Option Addr} {n : Nat} {xs : List Int} {w W : World} (h : Kd.C (Kd.int .u8) w A n xs) (hb : Below w.heap.size w W) : Kd.C (Kd.int .u8) W A n xs := Kd.C_below h hb
set_option maxHeartbeats 2000000 in
set_option maxRecDepth 100000 in
theorem zzFour_any (A TA : Option Addr) (c tc b off total N : Nat) (D T : List Int) (w : World) (h : FourOk D (padded T) b off total N)
    (hD : Kd.C (Kd.int .u8) w A D.length D) (hc : D.length ≤ c) (hT : Kd.C (Kd.int .u16) w TA T.length T) :
    Calls Tryd.prog 37 #[.slice A D.length c, .int .i64 off, .int .i64 total, .int .i64 N, .slice TA T.length tc, .int .i64 b] w (PostL (fourRes D (padded T) b off total N) w) := by
  have HD := Aside0.mk hD
  have HC := Aside0.mk hc
  have HT := Aside0.mk hT
  have HF := Aside0.mk h
  have HB := Aside0.mk (Below.refl w.heap.size w)
  clear hD hc hT h
  go_enter Tryd.func37, Tryd.ntmps37
  go_wp2_with (first
    | (go_at_call 55; (with_reducible refine (reader_any TA tc T b _ HT.out).mono ?_); rintro e w1 ⟨rb, v, rfl, hrb, hrd, hb1⟩; obtain ⟨A1, c1, ev⟩ := Kd.R_slice hrd.tab; subst ev; have HRD := Aside0.mk hrd; have HB1 := Aside0.mk hb1; clear hrb hrd hb1)
    | (go_at_call 56; refine (four_ok rb A A1 c c1 b off total N D (padded T) _ HF.out ((blk_cell HRD.out.blk 12).trans rfl) ((blk_cell HRD.out.blk 13).trans rfl) (Kd.C_below HD.out HB1.out) HC.out (Kd.R_reads' HRD.out.tab).2.2).mono ?_; rintro e w2 ⟨v2, rfl, ho, hb2⟩; have HO2 := Aside0.mk (Kd.R_lower ho HB1.out.size); have HB2 := Aside0.mk (below_then HB1.out HB1.out.size hb2); clear ho hb2))
  go_ret2
  exact ⟨v2, rfl, HO2.out, HB2.out⟩
theorem four_len {D T : List Int} {b off total N : Nat} (h : FourOk D T b off total N) : (fourRes D T b off total N).length ≤ 1000000 := by
  have h1 := h.hN
  have h2 := h.hNm
  unfold fourRes
  simp only [List.length_append, List.length_map, List.length_range]
  omega
/-- A table as the package takes it. -/
def pair (x : S68) : Int := IntKind.u16.wrap (Go.bits .or .i64 (wrap64 (x.f0 * 256)) x.f1)
theorem pairs_l0 (l : List S68) (hl : l.length ≤ 1000000) : ∀ n k : Nat, n ≤ l.length → l.length - n < k → impl_pairsOf.l0 k ((l.take n).map pair) l (l.length : Int) (n : Int) = some (l.map pair) := by
  intro n k
  induction k generalizing n with
  | zero => intro _ h; omega
  | succ k ih =>
    intro hn hk
    unfold impl_pairsOf.l0
    by_cases h : n < l.length
    · rw [if_pos (by omega), if_pos (by omega), if_pos (by omega), if_pos (by rw [List.length_map, List.length_take]; omega)]
      have hw : wrap64 ((n : Int) + 1) = ((n + 1 : Nat) : Int) := by unfold wrap64; omega
      have hx : rd_T68 l (n : Int) = l[n] := by
        unfold rd_T68
        rw [Int.toNat_natCast, List.getD_eq_getElem?_getD, List.getElem?_eq_getElem h]
        rfl
      rw [hw, hx]
      have ht : (l.take n).map pair ++ [IntKind.u16.wrap (Go.bits .or .i64 (wrap64 ((l[n]).f0 * 256)) (l[n]).f1)] = (l.take (n + 1)).map pair := by
        rw [List.take_add_one, List.getElem?_eq_getElem h, List.map_append]
        rfl
      rw [ht]
      exact ih (n + 1) (by omega) (by omega)
    · rw [if_neg (by omega), List.take_of_length_le (by omega)]
theorem pairs_f (l : List S68) (hl : l.length ≤ 1000000) : impl_pairsOf.f (l.length + 1) l = some (l.map pair) := by
  have := pairs_l0 l hl 0 (l.length + 1) (Nat.zero_le _) (by omega)
  simpa [impl_pairsOf.f] using this
open Classical in
/-- What impl.FourStreams answers where the streams hold what is asked for. -/
noncomputable def impl_FourStreams.f (l0 : List Int) (a1 a2 a3 : Int) (l4 : List S68) (a5 : Int) : Option (List Int × Bool) :=
  if l4.length ≤ 1000000 ∧ 0 ≤ a1 ∧ 0 ≤ a2 ∧ 0 ≤ a3 ∧ 0 ≤ a5 ∧ FourOk l0 (padded (l4.map pair)) a5.toNat a1.toNat a2.toNat a3.toNat then some (fourRes l0 (padded (l4.map pair)) a5.toNat a1.toNat a2.toNat a3.toNat, true) else none
set_option maxHeartbeats 2000000 in
set_option maxRecDepth 100000 in
theorem impl_FourStreams.calls (A0 : Option Addr) (c0 : Nat) (l0 : List Int) (a1 a2 a3 : Int) (A4 : Option Addr) (c4 : Nat) (l4 : List S68) (a5 : Int) (r1 : List Int) (r2 : Bool) (w : World) (hr0 : Kd.C (Kd.int .u8) w A0 l0.length l0) (hc0 : l0.length ≤ c0) (hr4 : Kd.C k68 w A4 l4.length l4) (hc4 : l4.length ≤ c4) (h : impl_FourStreams.f l0 a1 a2 a3 l4 a5 = some (r1, r2)) :
    Calls Tryd.prog 21 #[.slice A0 l0.length c0, .int .i64 a1, .int .i64 a2, .int .i64 a3, .slice A4 l4.length c4, .int .i64 a5] w fun e w' => ∃ v0_ : Value, e = .returned (.tuple #[v0_, .bool r2]) ∧ Kd.R (Kd.int .u8) 5 w' w.heap.size (fun _ => True) v0_ r1 ∧ Below w.heap.size w w' := by
  unfold impl_FourStreams.f at h
  obtain ⟨t, het⟩ : ∃ t, l4.map pair = t := ⟨_, rfl⟩
  rw [het] at h
  by_cases hp : l4.length ≤ 1000000 ∧ 0 ≤ a1 ∧ 0 ≤ a2 ∧ 0 ≤ a3 ∧ 0 ≤ a5 ∧ FourOk l0 (padded t) a5.toNat a1.toNat a2.toNat a3.toNat
  · rw [if_pos hp] at h
    injection h with h
    injection h with h1 h2
    subst h1 h2
    obtain ⟨pl, p1, p2, p3, p5, hF⟩ := hp
    have ht : impl_pairsOf.f (l4.length + 1) l4 = some t := het ▸ pairs_f l4 pl
    clear het
    obtain ⟨n1, rfl⟩ := Int.eq_ofNat_of_zero_le p1
    obtain ⟨n2, rfl⟩ := Int.eq_ofNat_of_zero_le p2
    obtain ⟨n3, rfl⟩ := Int.eq_ofNat_of_zero_le p3
    obtain ⟨n5, rfl⟩ := Int.eq_ofNat_of_zero_le p5
    simp only [Int.toNat_natCast] at hF ⊢
    obtain ⟨res, hres⟩ : ∃ r, fourRes l0 (padded t) n5 n1 n2 n3 = r := ⟨_, rfl⟩
    rw [hres]
    have HRES := Aside0.mk hres
    have HR0 := Aside0.mk hr0
    have HC0 := Aside0.mk hc0
    have HR4 := Aside0.mk hr4
    have HC4 := Aside0.mk hc4
    have HT := Aside0.mk ht
    have HF := Aside0.mk hF
    have HB := Aside0.mk (Below.refl w.heap.size w)
    have hu32 := Tryd.underlying32
    clear hr0 hc0 hr4 hc4 ht hF hres p1 p2 p3 p5
    go_enter Tryd.func21, Tryd.ntmps21
    go_wp2_with (first
      | (go_at_call 38; (with_reducible refine (impl_pairsOf.calls (l4.length + 1) A4 c4 l4 t _ HR4.out HC4.out HT.out).mono ?_); rintro e w1 ⟨v1, rfl, ho, hb1⟩; obtain ⟨A1, c1, ev⟩ := Kd.R_slice ho; subst ev; have HO1 := Aside0.mk ho; have HB1 := Aside0.mk hb1; clear ho hb1)
      | (go_at_call 37; refine (zzFour_any A0 A1 c0 c1 n5 n1 n2 n3 l0 t _ HF.out (Kd.C_below HR0.out HB1.out) HC0.out (Kd.R_reads' HO1.out).2.2).mono ?_; rintro e w2 ⟨v2, rfl, ho, hb2⟩; rw [HRES.out] at ho; obtain ⟨A2, c2, ev⟩ := Kd.R_slice ho; subst ev; have HO2 := Aside0.mk (Kd.R_lower ho HB1.out.size); have HB2 := Aside0.mk (below_then HB1.out HB1.out.size hb2); clear ho hb2))
    have heq := fun W : World => run_eql_nil_nil (P := Tryd.prog) W 57 iface57
    obtain ⟨HC2c, HL2c⟩ := And.intro (Aside0.mk (Kd.R_reads' HO2.out).2.2) (Aside0.mk (Kd.R_reads' HO2.out).2.1)
    have HR2 := Aside0.mk (Below.refl w2.heap.size w2)
    have HSM : Aside0 (res.length ≤ 1000000) := ⟨by rw [← HRES.out]; exact four_len HF.out⟩
    go_region_law ((refine Kd.R_append_rows_step (Kd.int .u8) (Rr := fun x cs => cs = [Value.int .u8 x]) (w0 := w) w.heap.size rfl (.tmp 27) (.tmp 28) 32 5 (.int .u8 0) 1 (by rfl) hu32 info5z rfl (by decide) (by decide) (.slice (some ⟨w2.heap.size, 0, none⟩) 0 0) [] res A2 res.length c2 (fun _ => True) (fun _ => False) (by rfl) (by rfl) (emptyR (below_size (by (repeat (first | (with_reducible first | exact (Aside0.out HB2) | apply below_alloc | apply pw_below_drewN | apply below_drew1) | exact (Aside0.out HB2)))))) (read_up HC2c.out (by (repeat (first | (with_reducible first | exact (Aside0.out HR2) | apply below_alloc | apply pw_below_drewN | apply below_drew1) | exact (Aside0.out HR2))))) (fun _ _ h => h) (fun _ hk => hk.elim) (fun _ _ => trivial) (by (repeat (first | (with_reducible first | exact (Aside0.out HB2) | apply below_alloc | apply pw_below_drewN | apply below_drew1) | exact (Aside0.out HB2)))) (below_size (by (repeat (first | (with_reducible first | exact (Aside0.out HB2) | apply below_alloc | apply pw_below_drewN | apply below_drew1) | exact (Aside0.out HB2))))) (by have := HL2c.out; have := HSM.out; simp only [List.length_nil]; omega) ?_; intro v3 w3 ho hbl hg hat; rw [List.nil_append] at ho; have HO3 := Aside0.mk ho; have HB3 := Aside0.mk hbl; clear ho hbl hg hat))
    all_goals (go_wp2; go_ret2; exact ⟨v3, rfl, HO3.out, HB3.out⟩)
  · rw [if_neg hp] at h; cases h
end Go.Proofs.YtopadgohinoomaaDoor.Cx
