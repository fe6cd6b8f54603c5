/-
Walks of impl.LiteralStates, impl.MatchStates and impl.OffsetStates.
-/
import Derived.Test.YtopadgohinoomaaDoorSr
import Derived.LaidEql
import Derived.Deep.RegionWith
namespace Go.Proofs.YtopadgohinoomaaDoor.St
open Go.RowKit Go.Proofs.YtopadgohinoomaaDoorW.PrintWords Go.Proofs.YtopadgohinoomaaDoorW.PrintLast Go.Proofs.YtopadgohinoomaaDoorW.PrintMore Go.Proofs.YtopadgohinoomaaDoor.PC
attribute [local go_sem] max2_int min2_int max_two min_two max_three min_three max_four min_four
set_option linter.unusedVariables false
set_option linter.unusedSimpArgs false
def to105 (x : S29) : S105 := ⟨x.f0 % 256, x.f1 % 256, IntKind.u16.wrap x.f2⟩
def to54 (x : S107) : S54 := ⟨wrap64 x.f0, wrap64 x.f1, wrap64 x.f2, wrap64 x.f3⟩
theorem iface57 : Tryd.prog.underlying 57 = some (.interface (Tryd.prog.methodsAt 57)) := by kernel_rfl
theorem isE_map (l : List S29) : ∀ x ∈ l.map to105, IsE x := by
  intro x hx
  obtain ⟨y, hy, rfl⟩ := List.mem_map.1 hx
  unfold to105 IsE
  simp only [IntKind.wrap_u16]
  omega
theorem len105 {l : List S29} (h : l.length ≤ 1000000) : (l.map to105).length ≤ 1000000 := by rw [List.length_map]; exact h
def PostI (P : S123 → Bool) (g : S123 → S125) (l : List S29) (w : World) (e : Ending) (w' : World) : Prop :=
  Below w.heap.size w w' ∧ ∃ v out, Kd.R k54 54 w' w.heap.size (fun _ => True) v out ∧ out.length ≤ 1000000 ∧ e = .returned (.tuple #[v, .bool (((l.map to105).map to123).all P)]) ∧
    (((l.map to105).map to123).all P = true → out = ((((l.map to105).map to123).map g).map to107).map to54)

set_option maxHeartbeats 4000000 in
set_option maxRecDepth 100000 in
theorem litI_any (A0 : Option Addr) (c0 : Nat) (l : List S29) (w : World) (hT : litAt w) (hE : Eof w) (hr0 : Kd.C k29 w A0 l.length l) (hc0 : l.length ≤ c0) (hlm : l.length ≤ 1000000) :
    Calls Tryd.prog 11 #[.slice A0 l.length c0] w (PostI litP litG l w) := by
  have HR0 := Aside0.mk hr0
  have HC0 := Aside0.mk hc0
  have HE := Aside0.mk hE
  have HT := Aside0.mk hT
  clear hT
  have HF := Aside0.mk (show impl_entriesOf.f (l.length + 1) l = some (l.map to105) from entries_f l hlm)
  have HB := Aside0.mk (Below.refl w.heap.size w)
  clear hr0 hc0 hE
  go_enter Tryd.func11, Tryd.ntmps11
  go_wp2_with (first
    | (go_at_call 28; (with_reducible refine (impl_entriesOf.calls (l.length + 1) A0 c0 l _ w HR0.out HC0.out HF.out).mono ?_); rintro e w1 ⟨v1, rfl, ho1, hb1⟩; have HO1 := Aside0.mk ho1; have HB1 := Aside0.mk hb1; obtain ⟨A1, c1, e1, hc1, hC1⟩ := Kd.R_reads ho1; have HC1 := Aside0.mk hC1; have HL1 := Aside0.mk hc1; rw [List.length_map] at e1; subst e1; clear ho1 hb1 hc1 hC1)
    | (go_at_call 27; have hq := litZ_any A1 c1 (l.map to105) w1 (HT.out.below HB1.out) (HE.out.below HB1.out) HC1.out HL1.out (isE_map l) (len105 hlm); rw [List.length_map] at hq; refine hq.mono ?_; clear hq; rintro e w2 ⟨hb2, v2, out, r2, ho2, rfl, hl2, hc2⟩; have HO2 := Aside0.mk ho2; have HB2 := Aside0.mk (below_then HB1.out HB1.out.size hb2); have HL2 := Aside0.mk hl2; have HC2 := Aside0.mk hc2; clear hb2 ho2 hl2 hc2))
  have HF2 := Aside0.mk (show impl_basedOf.f (out.length + 1) out = some (out.map to54) from based_f out HL2.out)
  obtain ⟨A2, c2, e2, hc2, hC2⟩ := Kd.R_reads HO2.out
  have HC2' := Aside0.mk hC2
  have HL2' := Aside0.mk hc2
  subst e2
  clear hc2 hC2
  rcases HC2.out with ⟨h1, h2, rfl⟩ | ⟨h1, p, rfl⟩
  · have H1 := Aside0.mk (And.intro h1 h2)
    clear h1 h2
    have heq := fun W : World => run_eql_nil_nil (P := Tryd.prog) W 57 iface57
    go_region_with (go_at_call 29; (refine (impl_basedOf.calls (out.length + 1) A2 c2 out _ _ (Kd.C_drewN HC2'.out _) HL2'.out HF2.out).mono ?_); rintro e w3 ⟨v3, rfl, ho3, hb3⟩)
    all_goals (go_wp2; go_ret2; exact ⟨below_then (pw_below_drewN HB2.out _) HB2.out.size hb3, v3, _, Kd.R_lower ho3 HB2.out.size, by rw [List.length_map]; exact HL2.out, by rw [H1.out.1]; rfl, fun _ => by rw [H1.out.2]⟩)
  · have H1 := Aside0.mk h1
    clear h1
    have heq := fun (W : World) (v : Value) => run_eql_held_nil (P := Tryd.prog) W 57 152 v iface57
    go_region_with (go_at_call 29; (refine (impl_basedOf.calls (out.length + 1) A2 c2 out _ _ (Kd.C_drewN HC2'.out _) HL2'.out HF2.out).mono ?_); rintro e w3 ⟨v3, rfl, ho3, hb3⟩)
    all_goals (go_wp2; go_ret2; exact ⟨below_then (pw_below_drewN HB2.out _) HB2.out.size hb3, v3, _, Kd.R_lower ho3 HB2.out.size, by rw [List.length_map]; exact HL2.out, by rw [H1.out]; rfl, fun h => by rw [H1.out] at h; cases h⟩)

set_option maxHeartbeats 4000000 in
set_option maxRecDepth 100000 in
theorem matI_any (A0 : Option Addr) (c0 : Nat) (l : List S29) (w : World) (hT : matAt w) (hE : Eof w) (hr0 : Kd.C k29 w A0 l.length l) (hc0 : l.length ≤ c0) (hlm : l.length ≤ 1000000) :
    Calls Tryd.prog 14 #[.slice A0 l.length c0] w (PostI matP matG l w) := by
  have HR0 := Aside0.mk hr0
  have HC0 := Aside0.mk hc0
  have HE := Aside0.mk hE
  have HT := Aside0.mk hT
  clear hT
  have HF := Aside0.mk (show impl_entriesOf.f (l.length + 1) l = some (l.map to105) from entries_f l hlm)
  have HB := Aside0.mk (Below.refl w.heap.size w)
  clear hr0 hc0 hE
  go_enter Tryd.func14, Tryd.ntmps14
  go_wp2_with (first
    | (go_at_call 28; (with_reducible refine (impl_entriesOf.calls (l.length + 1) A0 c0 l _ w HR0.out HC0.out HF.out).mono ?_); rintro e w1 ⟨v1, rfl, ho1, hb1⟩; have HO1 := Aside0.mk ho1; have HB1 := Aside0.mk hb1; obtain ⟨A1, c1, e1, hc1, hC1⟩ := Kd.R_reads ho1; have HC1 := Aside0.mk hC1; have HL1 := Aside0.mk hc1; rw [List.length_map] at e1; subst e1; clear ho1 hb1 hc1 hC1)
    | (go_at_call 30; have hq := matZ_any A1 c1 (l.map to105) w1 (HT.out.below HB1.out) (HE.out.below HB1.out) HC1.out HL1.out (isE_map l) (len105 hlm); rw [List.length_map] at hq; refine hq.mono ?_; clear hq; rintro e w2 ⟨hb2, v2, out, r2, ho2, rfl, hl2, hc2⟩; have HO2 := Aside0.mk ho2; have HB2 := Aside0.mk (below_then HB1.out HB1.out.size hb2); have HL2 := Aside0.mk hl2; have HC2 := Aside0.mk hc2; clear hb2 ho2 hl2 hc2))
  have HF2 := Aside0.mk (show impl_basedOf.f (out.length + 1) out = some (out.map to54) from based_f out HL2.out)
  obtain ⟨A2, c2, e2, hc2, hC2⟩ := Kd.R_reads HO2.out
  have HC2' := Aside0.mk hC2
  have HL2' := Aside0.mk hc2
  subst e2
  clear hc2 hC2
  rcases HC2.out with ⟨h1, h2, rfl⟩ | ⟨h1, p, rfl⟩
  · have H1 := Aside0.mk (And.intro h1 h2)
    clear h1 h2
    have heq := fun W : World => run_eql_nil_nil (P := Tryd.prog) W 57 iface57
    go_region_with (go_at_call 29; (refine (impl_basedOf.calls (out.length + 1) A2 c2 out _ _ (Kd.C_drewN HC2'.out _) HL2'.out HF2.out).mono ?_); rintro e w3 ⟨v3, rfl, ho3, hb3⟩)
    all_goals (go_wp2; go_ret2; exact ⟨below_then (pw_below_drewN HB2.out _) HB2.out.size hb3, v3, _, Kd.R_lower ho3 HB2.out.size, by rw [List.length_map]; exact HL2.out, by rw [H1.out.1]; rfl, fun _ => by rw [H1.out.2]⟩)
  · have H1 := Aside0.mk h1
    clear h1
    have heq := fun (W : World) (v : Value) => run_eql_held_nil (P := Tryd.prog) W 57 152 v iface57
    go_region_with (go_at_call 29; (refine (impl_basedOf.calls (out.length + 1) A2 c2 out _ _ (Kd.C_drewN HC2'.out _) HL2'.out HF2.out).mono ?_); rintro e w3 ⟨v3, rfl, ho3, hb3⟩)
    all_goals (go_wp2; go_ret2; exact ⟨below_then (pw_below_drewN HB2.out _) HB2.out.size hb3, v3, _, Kd.R_lower ho3 HB2.out.size, by rw [List.length_map]; exact HL2.out, by rw [H1.out]; rfl, fun h => by rw [H1.out] at h; cases h⟩)

set_option maxHeartbeats 4000000 in
set_option maxRecDepth 100000 in
theorem offI_any (A0 : Option Addr) (c0 : Nat) (l : List S29) (w : World) (hE : Eof w) (hr0 : Kd.C k29 w A0 l.length l) (hc0 : l.length ≤ c0) (hlm : l.length ≤ 1000000) :
    Calls Tryd.prog 15 #[.slice A0 l.length c0] w (PostI offP offG l w) := by
  have HR0 := Aside0.mk hr0
  have HC0 := Aside0.mk hc0
  have HE := Aside0.mk hE
  have HF := Aside0.mk (show impl_entriesOf.f (l.length + 1) l = some (l.map to105) from entries_f l hlm)
  have HB := Aside0.mk (Below.refl w.heap.size w)
  clear hr0 hc0 hE
  go_enter Tryd.func15, Tryd.ntmps15
  go_wp2_with (first
    | (go_at_call 28; (with_reducible refine (impl_entriesOf.calls (l.length + 1) A0 c0 l _ w HR0.out HC0.out HF.out).mono ?_); rintro e w1 ⟨v1, rfl, ho1, hb1⟩; have HO1 := Aside0.mk ho1; have HB1 := Aside0.mk hb1; obtain ⟨A1, c1, e1, hc1, hC1⟩ := Kd.R_reads ho1; have HC1 := Aside0.mk hC1; have HL1 := Aside0.mk hc1; rw [List.length_map] at e1; subst e1; clear ho1 hb1 hc1 hC1)
    | (go_at_call 31; have hq := offZ_any A1 c1 (l.map to105) w1 (HE.out.below HB1.out) HC1.out HL1.out (isE_map l) (len105 hlm); rw [List.length_map] at hq; refine hq.mono ?_; clear hq; rintro e w2 ⟨hb2, v2, out, r2, ho2, rfl, hl2, hc2⟩; have HO2 := Aside0.mk ho2; have HB2 := Aside0.mk (below_then HB1.out HB1.out.size hb2); have HL2 := Aside0.mk hl2; have HC2 := Aside0.mk hc2; clear hb2 ho2 hl2 hc2))
  have HF2 := Aside0.mk (show impl_basedOf.f (out.length + 1) out = some (out.map to54) from based_f out HL2.out)
  obtain ⟨A2, c2, e2, hc2, hC2⟩ := Kd.R_reads HO2.out
  have HC2' := Aside0.mk hC2
  have HL2' := Aside0.mk hc2
  subst e2
  clear hc2 hC2
  rcases HC2.out with ⟨h1, h2, rfl⟩ | ⟨h1, p, rfl⟩
  · have H1 := Aside0.mk (And.intro h1 h2)
    clear h1 h2
    have heq := fun W : World => run_eql_nil_nil (P := Tryd.prog) W 57 iface57
    go_region_with (go_at_call 29; (refine (impl_basedOf.calls (out.length + 1) A2 c2 out _ _ (Kd.C_drewN HC2'.out _) HL2'.out HF2.out).mono ?_); rintro e w3 ⟨v3, rfl, ho3, hb3⟩)
    all_goals (go_wp2; go_ret2; exact ⟨below_then (pw_below_drewN HB2.out _) HB2.out.size hb3, v3, _, Kd.R_lower ho3 HB2.out.size, by rw [List.length_map]; exact HL2.out, by rw [H1.out.1]; rfl, fun _ => by rw [H1.out.2]⟩)
  · have H1 := Aside0.mk h1
    clear h1
    have heq := fun (W : World) (v : Value) => run_eql_held_nil (P := Tryd.prog) W 57 152 v iface57
    go_region_with (go_at_call 29; (refine (impl_basedOf.calls (out.length + 1) A2 c2 out _ _ (Kd.C_drewN HC2'.out _) HL2'.out HF2.out).mono ?_); rintro e w3 ⟨v3, rfl, ho3, hb3⟩)
    all_goals (go_wp2; go_ret2; exact ⟨below_then (pw_below_drewN HB2.out _) HB2.out.size hb3, v3, _, Kd.R_lower ho3 HB2.out.size, by rw [List.length_map]; exact HL2.out, by rw [H1.out]; rfl, fun h => by rw [H1.out] at h; cases h⟩)
end Go.Proofs.YtopadgohinoomaaDoor.St
