/-
Walks of the three doors ZZ..Baseline and of impl's three functions over them: what they answer for any table of states.
-/
import Derived.Test.YtopadgohinoomaaDoorSq
namespace Go.Proofs.YtopadgohinoomaaDoor.St
open Go.RowKit Go.Proofs.YtopadgohinoomaaDoorW.PrintWords Go.Proofs.YtopadgohinoomaaDoorW.PrintLast Go.Proofs.YtopadgohinoomaaDoorW.PrintMore Go.Proofs.YtopadgohinoomaaDoor.PC
attribute [local go_sem] max2_int min2_int max_two min_two max_three min_three max_four min_four
set_option linter.unusedVariables false
set_option linter.unusedSimpArgs false
theorem info125 : (Tryd.prog.info? 125).map (fun i => (i.zero, i.size, i.bytes)) = some (some (.agg #[(.int .u32 0), (.int .u8 0), (.int .u8 0), (.int .u16 0)]), 4, 8) := by kernel_rfl
def readerCells : Array Value := #[.nilIface, .bool false, .bool false, .bool false, .bool false, .int .u64 0, .int .i64 0, .slice none 0 0, .int .i64 0, .int .u32 0, .int .u32 0, .int .u32 0, .slice none 0 0, .int .i64 0, .int .i64 0, .slice none 0 0, .int .i64 0, .slice none 0 0, .slice none 0 0, .slice none 0 0, .slice none 0 0, .slice none 0 0, .int .u8 0, .int .u8 0, .int .u8 0, .slice none 0 0, .slice none 0 0, .slice none 0 0, .int .u8 0, .int .u8 0, .int .u8 0, .int .u8 0, .int .u8 0, .int .u8 0, .int .u8 0, .int .u8 0, .int .u8 0, .int .u8 0, .int .u8 0, .int .u8 0, .int .u8 0, .int .u8 0, .int .u8 0, .int .u8 0, .slice none 0 0, .int .u64 0, .int .u64 0, .int .u64 0, .int .u64 0, .int .u64 0, .int .u8 0, .int .u8 0, .int .u8 0, .int .u8 0, .int .u8 0, .int .u8 0, .int .u8 0, .int .u8 0, .int .u8 0, .int .u8 0, .int .u8 0, .int .u8 0, .int .u8 0, .int .u8 0, .int .u8 0, .int .u8 0, .int .u8 0, .int .u8 0, .int .u8 0, .int .u8 0, .int .u8 0, .int .u8 0, .int .u8 0, .int .u8 0, .int .u8 0, .int .u8 0, .int .u8 0, .int .u8 0, .int .u8 0, .int .u8 0, .int .u8 0, .int .u8 0, .int .i64 0]
def to123 (x : S105) : S123 := ⟨x.f0, x.f1, x.f2⟩
def to107 (x : S125) : S107 := ⟨x.f0, x.f1, x.f2, x.f3⟩
theorem post_open {P : S123 → Bool} {g : S123 → S125} {l : List S123} {v : Value} {w0 : World} {e : Ending} {w' : World} (h : Post P g l v w0 e w') :
    ∃ r b', e = .returned r ∧ Below w0.heap.size w0 w' ∧ Kd.R k125 125 w' w0.heap.size (fun _ => True) v b' ∧ ((l.all P = true ∧ b' = l.map g ∧ r = .nilIface) ∨ (l.all P = false ∧ ∃ p, r = .iface 152 (.pointer (some p)))) := by
  obtain ⟨h1, b', h2, h3⟩ := h
  rcases h3 with ⟨h4, h5, h6⟩ | ⟨h4, p, h6⟩
  · exact ⟨_, b', h6, h1, h2, .inl ⟨h4, h5, rfl⟩⟩
  · exact ⟨_, b', h6, h1, h2, .inr ⟨h4, p, rfl⟩⟩
def IsE (x : S105) : Prop := (0 ≤ x.f0 ∧ x.f0 ≤ 255) ∧ (0 ≤ x.f1 ∧ x.f1 ≤ 255) ∧ (0 ≤ x.f2 ∧ x.f2 ≤ 65535)
def PostZ (P : S123 → Bool) (g : S123 → S125) (l : List S105) (w : World) (e : Ending) (w' : World) : Prop :=
  Below w.heap.size w w' ∧ ∃ v out r, Kd.R k107 107 w' w.heap.size (fun _ => True) v out ∧ e = .returned (.tuple #[v, r]) ∧ out.length ≤ 1000000 ∧
    (((l.map to123).all P = true ∧ out = ((l.map to123).map g).map to107 ∧ r = .nilIface) ∨ ((l.map to123).all P = false ∧ ∃ p, r = .iface 152 (.pointer (some p))))
theorem mapB {l : List S105} (h : ∀ x ∈ l, IsE x) : ∀ x ∈ l.map to123, IsB x := by
  intro x hx
  obtain ⟨y, hy, rfl⟩ := List.mem_map.1 hx
  exact h y hy
theorem len123 {w : World} {base : Nat} {A : Option Addr} {c : Nat} {l : List S105} (h : Kd.R k123 123 w base (fun _ => True) (.slice A l.length c) (l.map to123)) : Kd.R k123 123 w base (fun _ => True) (.slice A (l.map to123).length c) (l.map to123) := by rw [List.length_map]; exact h
theorem lenr (l : List S105) : (List.replicate (l.length : Int).toNat z125).length = (l.map to123).length := by rw [List.length_replicate, Int.toNat_natCast, List.length_map]
theorem len1 {l : List S105} (h : l.length ≤ 1000000) : (l.map to123).length ≤ 1000000 := by rw [List.length_map]; exact h
theorem reader_is {w : World} {g : Nat} (h : w.heap[g]? = some (.cells readerCells 99 (0, 0))) : IsReader w g := ⟨_, 0, h, rfl⟩
theorem readerIs_below {w w' : World} {rb : Nat} (h : IsReader w rb) (hb : Below w.heap.size w w') : IsReader w' rb := by
  obtain ⟨cs, bo, h1, h2⟩ := h
  exact ⟨cs, bo, blk_below h1 hb, h2⟩

set_option maxHeartbeats 4000000 in
set_option maxRecDepth 100000 in
theorem litZ_any (A0 : Option Addr) (c0 : Nat) (l : List S105) (w : World) (hT : litAt w) (hE : Eof w) (hr0 : Kd.C k105 w A0 l.length l) (hc0 : l.length ≤ c0) (hx : ∀ x ∈ l, IsE x) (hlm : l.length ≤ 1000000) :
    Calls Tryd.prog 27 #[.slice A0 l.length c0] w (PostZ litP litG l w) := by
  have hu125 := Tryd.underlying125
  have hu82 := Tryd.underlying82
  have hu99 := Tryd.underlying99
  have HR0 := Aside0.mk hr0
  have HC0 := Aside0.mk hc0
  have HX := Aside0.mk hx
  have HE := Aside0.mk hE
  have HT := Aside0.mk hT
  clear hT
  have HB := Aside0.mk (Below.refl w.heap.size w)
  have HF := Aside0.mk (show zstd_zzInFSE.f (l.length + 1) l = some (l.map to123) from inFSE_f l hlm)
  clear hr0 hc0 hx hE
  go_enter Tryd.func27, Tryd.ntmps27
  go_wp2_with (first
    | ((with_reducible refine gate_dst (N := 8) rfl ?_); refine Kd.R_make k125 (w0 := w) w.heap.size 125 rfl (N := 8) rfl 82 (.tmp 7) (.tmp 7) rfl (l.length : Int) rfl rfl Tryd.underlying82 (.agg #[(.int .u32 0), (.int .u8 0), (.int .u8 0), (.int .u16 0)]) 8 info125 rfl (by decide) (by omega) z125 (ok := fun _ => True) (okp := fun _ => False) ?m1 (fun _ hk => hk.elim) trivial (by omega) ?m2 HB.out HB.out.size ?_; (case m1 => exact k125_mkM _ _ _ z125); (case m2 => rw [Int.toNat_natCast]; omega); intro v1 w1 ho hb hg hat; have HO := Aside0.mk ho; have HB1 := Aside0.mk hb; obtain ⟨A1, c1, e1⟩ := Kd.R_slice HO.out; rw [List.length_replicate, Int.toNat_natCast] at e1; subst e1; clear ho hb hg hat)
    | ((with_reducible refine gate_dst (N := 9) rfl ?_); refine box_event ?hg (N := 9) ?hd (cs := readerCells) (t := 99) ?hr ?_; (case hd => rfl); (case hg => rfl); (case hr => first | (go_simp; done) | (go_simp; rfl)); intro gb hg w2 hbox hb; have HO2 := Aside0.mk (Kd.R_below HO.out hb); have HB2 := Aside0.mk (below_then HB1.out HB1.out.size hb); have HRD := Aside0.mk (reader_is hbox); clear hg hbox hb)
    | (go_at_call 47; (with_reducible refine (zstd_zzInFSE.calls (l.length + 1) A0 c0 l _ _ (Kd.C_below HR0.out HB2.out) HC0.out HF.out).mono ?_); rintro e w3 ⟨v3, rfl, ho3, hb3⟩; have HO3 := Aside0.mk (Kd.R_below HO2.out hb3); have HV3 := Aside0.mk (Kd.R_lower ho3 HB2.out.size); have HB3 := Aside0.mk (below_then HB2.out HB2.out.size hb3); have HRD3 := Aside0.mk (readerIs_below HRD.out hb3); obtain ⟨A3, c3, e3⟩ := Kd.R_slice HV3.out; rw [List.length_map] at e3; subst e3; clear ho3 hb3)
    | (go_at_call 46; have hq := lit_any gb A3 c3 (l.map to123) (.slice A1 l.length c1) _ w w3 HT.out HE.out HRD3.out (len123 HV3.out) HO3.out (lenr l) (mapB HX.out) (len1 hlm) HB3.out; rw [List.length_map] at hq; refine hq.mono ?_; clear hq; rintro e w4 hp4; obtain ⟨r4, b4, rfl, hb4, ho4, hc4⟩ := post_open hp4; have HO4 := Aside0.mk ho4; have HB4 := Aside0.mk hb4; have HC4 := Aside0.mk hc4; have HL4 := Aside0.mk (Kd.R_reads' ho4); have HF4 := Aside0.mk (show zstd_zzBaseline.f (b4.length + 1) b4 = some (b4.map to107) from baseline_f b4 (by have := (Kd.R_reads' ho4).1; omega)); clear hp4 hb4 ho4 hc4)
    | (go_at_call 48; have hq := zstd_zzBaseline.calls (b4.length + 1) A1 c1 b4 _ w4 HL4.out.2.2 (by have := HL4.out.1; have := HL4.out.2.1; omega) HF4.out; rw [← HL4.out.1] at hq; refine hq.mono ?_; clear hq; rintro e w5 ⟨v5, rfl, ho5, hb5⟩; have HO5 := Aside0.mk (Kd.R_lower ho5 HB4.out.size); have HB5 := Aside0.mk (below_then HB4.out HB4.out.size hb5); clear ho5 hb5))
  go_ret2
  refine ⟨HB5.out, v5, _, r4, HO5.out, rfl, ?_, ?_⟩
  · rw [List.length_map, ← HL4.out.1]; exact hlm
  · rcases HC4.out with ⟨h1, h2, h3⟩ | ⟨h1, h2⟩
    · exact .inl ⟨h1, by rw [h2], h3⟩
    · exact .inr ⟨h1, h2⟩

set_option maxHeartbeats 4000000 in
set_option maxRecDepth 100000 in
theorem matZ_any (A0 : Option Addr) (c0 : Nat) (l : List S105) (w : World) (hT : matAt w) (hE : Eof w) (hr0 : Kd.C k105 w A0 l.length l) (hc0 : l.length ≤ c0) (hx : ∀ x ∈ l, IsE x) (hlm : l.length ≤ 1000000) :
    Calls Tryd.prog 30 #[.slice A0 l.length c0] w (PostZ matP matG l w) := by
  have hu125 := Tryd.underlying125
  have hu82 := Tryd.underlying82
  have hu99 := Tryd.underlying99
  have HR0 := Aside0.mk hr0
  have HC0 := Aside0.mk hc0
  have HX := Aside0.mk hx
  have HE := Aside0.mk hE
  have HT := Aside0.mk hT
  clear hT
  have HB := Aside0.mk (Below.refl w.heap.size w)
  have HF := Aside0.mk (show zstd_zzInFSE.f (l.length + 1) l = some (l.map to123) from inFSE_f l hlm)
  clear hr0 hc0 hx hE
  go_enter Tryd.func30, Tryd.ntmps30
  go_wp2_with (first
    | ((with_reducible refine gate_dst (N := 8) rfl ?_); refine Kd.R_make k125 (w0 := w) w.heap.size 125 rfl (N := 8) rfl 82 (.tmp 7) (.tmp 7) rfl (l.length : Int) rfl rfl Tryd.underlying82 (.agg #[(.int .u32 0), (.int .u8 0), (.int .u8 0), (.int .u16 0)]) 8 info125 rfl (by decide) (by omega) z125 (ok := fun _ => True) (okp := fun _ => False) ?m1 (fun _ hk => hk.elim) trivial (by omega) ?m2 HB.out HB.out.size ?_; (case m1 => exact k125_mkM _ _ _ z125); (case m2 => rw [Int.toNat_natCast]; omega); intro v1 w1 ho hb hg hat; have HO := Aside0.mk ho; have HB1 := Aside0.mk hb; obtain ⟨A1, c1, e1⟩ := Kd.R_slice HO.out; rw [List.length_replicate, Int.toNat_natCast] at e1; subst e1; clear ho hb hg hat)
    | ((with_reducible refine gate_dst (N := 9) rfl ?_); refine box_event ?hg (N := 9) ?hd (cs := readerCells) (t := 99) ?hr ?_; (case hd => rfl); (case hg => rfl); (case hr => first | (go_simp; done) | (go_simp; rfl)); intro gb hg w2 hbox hb; have HO2 := Aside0.mk (Kd.R_below HO.out hb); have HB2 := Aside0.mk (below_then HB1.out HB1.out.size hb); have HRD := Aside0.mk (reader_is hbox); clear hg hbox hb)
    | (go_at_call 47; (with_reducible refine (zstd_zzInFSE.calls (l.length + 1) A0 c0 l _ _ (Kd.C_below HR0.out HB2.out) HC0.out HF.out).mono ?_); rintro e w3 ⟨v3, rfl, ho3, hb3⟩; have HO3 := Aside0.mk (Kd.R_below HO2.out hb3); have HV3 := Aside0.mk (Kd.R_lower ho3 HB2.out.size); have HB3 := Aside0.mk (below_then HB2.out HB2.out.size hb3); have HRD3 := Aside0.mk (readerIs_below HRD.out hb3); obtain ⟨A3, c3, e3⟩ := Kd.R_slice HV3.out; rw [List.length_map] at e3; subst e3; clear ho3 hb3)
    | (go_at_call 49; have hq := mat_any gb A3 c3 (l.map to123) (.slice A1 l.length c1) _ w w3 HT.out HE.out HRD3.out (len123 HV3.out) HO3.out (lenr l) (mapB HX.out) (len1 hlm) HB3.out; rw [List.length_map] at hq; refine hq.mono ?_; clear hq; rintro e w4 hp4; obtain ⟨r4, b4, rfl, hb4, ho4, hc4⟩ := post_open hp4; have HO4 := Aside0.mk ho4; have HB4 := Aside0.mk hb4; have HC4 := Aside0.mk hc4; have HL4 := Aside0.mk (Kd.R_reads' ho4); have HF4 := Aside0.mk (show zstd_zzBaseline.f (b4.length + 1) b4 = some (b4.map to107) from baseline_f b4 (by have := (Kd.R_reads' ho4).1; omega)); clear hp4 hb4 ho4 hc4)
    | (go_at_call 48; have hq := zstd_zzBaseline.calls (b4.length + 1) A1 c1 b4 _ w4 HL4.out.2.2 (by have := HL4.out.1; have := HL4.out.2.1; omega) HF4.out; rw [← HL4.out.1] at hq; refine hq.mono ?_; clear hq; rintro e w5 ⟨v5, rfl, ho5, hb5⟩; have HO5 := Aside0.mk (Kd.R_lower ho5 HB4.out.size); have HB5 := Aside0.mk (below_then HB4.out HB4.out.size hb5); clear ho5 hb5))
  go_ret2
  refine ⟨HB5.out, v5, _, r4, HO5.out, rfl, ?_, ?_⟩
  · rw [List.length_map, ← HL4.out.1]; exact hlm
  · rcases HC4.out with ⟨h1, h2, h3⟩ | ⟨h1, h2⟩
    · exact .inl ⟨h1, by rw [h2], h3⟩
    · exact .inr ⟨h1, h2⟩

set_option maxHeartbeats 4000000 in
set_option maxRecDepth 100000 in
theorem offZ_any (A0 : Option Addr) (c0 : Nat) (l : List S105) (w : World) (hE : Eof w) (hr0 : Kd.C k105 w A0 l.length l) (hc0 : l.length ≤ c0) (hx : ∀ x ∈ l, IsE x) (hlm : l.length ≤ 1000000) :
    Calls Tryd.prog 31 #[.slice A0 l.length c0] w (PostZ offP offG l w) := by
  have hu125 := Tryd.underlying125
  have hu82 := Tryd.underlying82
  have hu99 := Tryd.underlying99
  have HR0 := Aside0.mk hr0
  have HC0 := Aside0.mk hc0
  have HX := Aside0.mk hx
  have HE := Aside0.mk hE
  have HB := Aside0.mk (Below.refl w.heap.size w)
  have HF := Aside0.mk (show zstd_zzInFSE.f (l.length + 1) l = some (l.map to123) from inFSE_f l hlm)
  clear hr0 hc0 hx hE
  go_enter Tryd.func31, Tryd.ntmps31
  go_wp2_with (first
    | ((with_reducible refine gate_dst (N := 8) rfl ?_); refine Kd.R_make k125 (w0 := w) w.heap.size 125 rfl (N := 8) rfl 82 (.tmp 7) (.tmp 7) rfl (l.length : Int) rfl rfl Tryd.underlying82 (.agg #[(.int .u32 0), (.int .u8 0), (.int .u8 0), (.int .u16 0)]) 8 info125 rfl (by decide) (by omega) z125 (ok := fun _ => True) (okp := fun _ => False) ?m1 (fun _ hk => hk.elim) trivial (by omega) ?m2 HB.out HB.out.size ?_; (case m1 => exact k125_mkM _ _ _ z125); (case m2 => rw [Int.toNat_natCast]; omega); intro v1 w1 ho hb hg hat; have HO := Aside0.mk ho; have HB1 := Aside0.mk hb; obtain ⟨A1, c1, e1⟩ := Kd.R_slice HO.out; rw [List.length_replicate, Int.toNat_natCast] at e1; subst e1; clear ho hb hg hat)
    | ((with_reducible refine gate_dst (N := 9) rfl ?_); refine box_event ?hg (N := 9) ?hd (cs := readerCells) (t := 99) ?hr ?_; (case hd => rfl); (case hg => rfl); (case hr => first | (go_simp; done) | (go_simp; rfl)); intro gb hg w2 hbox hb; have HO2 := Aside0.mk (Kd.R_below HO.out hb); have HB2 := Aside0.mk (below_then HB1.out HB1.out.size hb); have HRD := Aside0.mk (reader_is hbox); clear hg hbox hb)
    | (go_at_call 47; (with_reducible refine (zstd_zzInFSE.calls (l.length + 1) A0 c0 l _ _ (Kd.C_below HR0.out HB2.out) HC0.out HF.out).mono ?_); rintro e w3 ⟨v3, rfl, ho3, hb3⟩; have HO3 := Aside0.mk (Kd.R_below HO2.out hb3); have HV3 := Aside0.mk (Kd.R_lower ho3 HB2.out.size); have HB3 := Aside0.mk (below_then HB2.out HB2.out.size hb3); have HRD3 := Aside0.mk (readerIs_below HRD.out hb3); obtain ⟨A3, c3, e3⟩ := Kd.R_slice HV3.out; rw [List.length_map] at e3; subst e3; clear ho3 hb3)
    | (go_at_call 50; have hq := off_any gb A3 c3 (l.map to123) (.slice A1 l.length c1) _ w w3 HE.out HRD3.out (len123 HV3.out) HO3.out (lenr l) (mapB HX.out) (len1 hlm) HB3.out; rw [List.length_map] at hq; refine hq.mono ?_; clear hq; rintro e w4 hp4; obtain ⟨r4, b4, rfl, hb4, ho4, hc4⟩ := post_open hp4; have HO4 := Aside0.mk ho4; have HB4 := Aside0.mk hb4; have HC4 := Aside0.mk hc4; have HL4 := Aside0.mk (Kd.R_reads' ho4); have HF4 := Aside0.mk (show zstd_zzBaseline.f (b4.length + 1) b4 = some (b4.map to107) from baseline_f b4 (by have := (Kd.R_reads' ho4).1; omega)); clear hp4 hb4 ho4 hc4)
    | (go_at_call 48; have hq := zstd_zzBaseline.calls (b4.length + 1) A1 c1 b4 _ w4 HL4.out.2.2 (by have := HL4.out.1; have := HL4.out.2.1; omega) HF4.out; rw [← HL4.out.1] at hq; refine hq.mono ?_; clear hq; rintro e w5 ⟨v5, rfl, ho5, hb5⟩; have HO5 := Aside0.mk (Kd.R_lower ho5 HB4.out.size); have HB5 := Aside0.mk (below_then HB4.out HB4.out.size hb5); clear ho5 hb5))
  go_ret2
  refine ⟨HB5.out, v5, _, r4, HO5.out, rfl, ?_, ?_⟩
  · rw [List.length_map, ← HL4.out.1]; exact hlm
  · rcases HC4.out with ⟨h1, h2, h3⟩ | ⟨h1, h2⟩
    · exact .inl ⟨h1, by rw [h2], h3⟩
    · exact .inr ⟨h1, h2⟩
end Go.Proofs.YtopadgohinoomaaDoor.St
