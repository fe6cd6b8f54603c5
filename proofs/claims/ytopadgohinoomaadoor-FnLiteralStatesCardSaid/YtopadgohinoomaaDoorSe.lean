/-
Walk of makeMatchBaselineFSE (function 49): the table of states of values is filled entry by entry; a symbol above 52 is an error.
-/
import Derived.Test.YtopadgohinoomaaDoorSc
namespace Go.Proofs.YtopadgohinoomaaDoor.St
open Go.RowKit Go.Proofs.YtopadgohinoomaaDoorW.PrintWords Go.Proofs.YtopadgohinoomaaDoorW.PrintLast Go.Proofs.YtopadgohinoomaaDoorW.PrintMore Go.Proofs.YtopadgohinoomaaDoor.PC
attribute [local go_sem] max2_int min2_int max_two min_two max_three min_three max_four min_four
set_option linter.unusedVariables false
set_option linter.unusedSimpArgs false
def matTab : List Int := [16777251, 16777253, 16777255, 16777257, 33554475, 33554479, 50331699, 50331707, 67108931, 67108947, 83886179, 117440643, 134217987, 150995459, 167773187, 184551427, 201330691, 218112003, 234897411, 251691011, 268500995]
def matAt (w : World) : Prop := ∃ ad c, w.cell? ⟨1, 0, none⟩ = some (.slice (some ad) 21 c) ∧ Kd.C (Kd.int .u32) w (some ad) 21 matTab
theorem matAt.below {w w' : World} (h : matAt w) (hb : Below w.heap.size w w') : matAt w' := by
  obtain ⟨ad, c, h1, h2⟩ := h
  exact ⟨ad, c, pw_cell_below hb h1, Kd.C_below h2 hb⟩
def matP (e : S123) : Bool := decide (e.f0 ≤ 52)
def matG (e : S123) : S125 := if e.f0 < 32 then ⟨e.f0 + 3, 0, e.f1, e.f2⟩ else ⟨Go.bits .and .u32 (rd matTab (e.f0 - 32)) 16777215, (rd matTab (e.f0 - 32)) / 16777216, e.f1, e.f2⟩
theorem matG1 {e : S123} (h : e.f0 < 32) : matG e = ⟨e.f0 + 3, 0, e.f1, e.f2⟩ := if_pos h
theorem matG2 {e : S123} (h : ¬ e.f0 < 32) : matG e = ⟨Go.bits .and .u32 (rd matTab (e.f0 - 32)) 16777215, (rd matTab (e.f0 - 32)) / 16777216, e.f1, e.f2⟩ := if_neg h
theorem matRange : ∀ i : Nat, i < 21 → 0 ≤ rd matTab (i : Int) ∧ rd matTab (i : Int) ≤ 4294967295 := by decide

set_option maxHeartbeats 4000000 in
set_option maxRecDepth 100000 in
theorem mat_any (rb : Nat) (A2 : Option Addr) (c2 : Nat) (l : List S123) (v3 : Value) (b : List S125) (w0 w : World) (hT : matAt w0)
    (hE : Eof w0) (hR : IsReader w rb) (h2 : Kd.R k123 123 w w0.heap.size (fun _ => True) (.slice A2 l.length c2) l) (h3 : Kd.R k125 125 w w0.heap.size (fun _ => True) v3 b) (hl : b.length = l.length)
    (hx : ∀ x ∈ l, IsB x) (hlm : l.length ≤ 1000000) (hB : Below w0.heap.size w0 w) :
    Calls Tryd.prog 49 #[.pointer (some ⟨rb, 0, none⟩), .int .i64 0, .slice A2 l.length c2, v3] w (Post matP matG l v3 w0) := by
  have hu125 := Tryd.underlying125
  have hu123 := Tryd.underlying123
  obtain ⟨A3, c3, rfl, hlc, hC3⟩ := Kd.R_reads h3
  have HN := Aside0.mk hl
  have HI := Aside0.mk (show Inv rb A2 c2 l A3 b.length c3 w0 (done matG l b 0) w from ⟨h3, h2, hB, hR⟩)
  have HX := Aside0.mk hx
  have HE := Aside0.mk hE
  have HT := Aside0.mk hT
  clear hl h2 h3 hE hR hB hx hC3 hlc hT
  go_enter Tryd.func49, Tryd.ntmps49
  go_wp2
  go_loopw [16] (fun v w' => ∃ k : Nat, k ≤ l.length ∧ v = .int .i64 k ∧ Aside0 ((l.take k).all matP = true) ∧ Aside0 (Inv rb A2 c2 l A3 b.length c3 w0 (done matG l b k) w'))
    (fun v _ => l.length - (intOf v).toNat)
  case atStart => exact ⟨0, Nat.zero_le _, rfl, ⟨rfl⟩, HI⟩
  case round =>
    clear HI
    obtain ⟨k, hk, rfl, HP, HI⟩ := hrel
    by_cases hlt : k < l.length
    · have c5b0 : decide ((k : Int) < (l.length : Int)) = true := decide_eq_true (by omega)
      have hC := Aside0.mk (Kd.R_reads' HI.out.2.1).2.2
      obtain ⟨ad, e1, hx0, hx1, hx2⟩ := at_T123 hC.out (k : Int) (by omega) (by omega)
      obtain ⟨x, he⟩ : ∃ x, rd_T123 l (k : Int) = x := ⟨_, rfl⟩
      have HK := Aside0.mk (he ▸ at_nat hlt : l[k]? = some x)
      have HM := Aside0.mk (List.mem_of_getElem? HK.out)
      have hdl : (done matG l b k).length = b.length := done_len HN.out hk
      obtain ⟨g, c3', e3, -, hgl, -⟩ := Kd.R_form (Kd.R_mono HI.out.1 (fun _ h => h)) (by have := HN.out; omega)
      have e4 : A3 = some ⟨g, 0, none⟩ := by injection e3
      clear e3
      subst e1 e4
      simp only [Int.toNat_natCast, he] at hx0 hx1 hx2
      obtain ⟨⟨s0, s1⟩, ⟨b0, b1⟩, ⟨t0, t1⟩⟩ := HX.out x HM.out
      have c6b0 : decide ((k : Int) < (b.length : Int)) = true := decide_eq_true (by have := HN.out; omega)
      have c7b0 : (k : Int) < (b.length : Int) := by have := HN.out; omega
      have HL := Aside0.mk (show k < b.length by omega)
      clear he b0 b1 t0 t1 hdl hC hgl
      by_cases hhi : x.f0 ≤ 52
      · have HS : Aside0 ((l.take (k + 1)).all matP = true) := ⟨all_step HP.out HK.out (by unfold matP; exact decide_eq_true hhi)⟩
        by_cases h2 : x.f0 < 32
        · have HG := Aside0.mk (matG1 h2)
          go_wp2_with (first | ((with_reducible refine gate_store (t := 125) (p := 58) (v := .tmp 57) rfl ?_); refine R_storeW k125 (w0 := w0) w0.heap.size rfl rfl 125 (.tmp 58) (.tmp 57) rfl 125 (g := g) (n := b.length) (cap := c3) (o' := k * 4) k (done matG l b k) (matG x) (.agg #[.int .u32 (x.f0 + 3), .int .u8 (0), .int .u8 x.f1, .int .u16 x.f2]) [.int .u32 (x.f0 + 3), .int .u8 (0), .int .u8 x.f1, .int .u16 x.f2] (fun _ => True) (fun _ => False) rfl rfl rfl rfl size125 (one4 _ _ _ _ _ _ _ _) (((HI.out.alloc _).alloc _).1) HL.out rfl ?s6 (fun _ hk => hk.elim) (((HI.out.alloc _).alloc _).2.2.1) ?_; (case s6 => rw [HG.out]; exact k125_mkM _ _ _ _); intro w1 ho hb hg; have HI1 := Aside0.mk (((HI.out.alloc _).alloc _).store ho hb hg); rw [done_step HN.out HK.out] at HI1; clear ho hb hg))
          go_roundw
          case rel => exact ⟨k + 1, by omega, by go_num, HS, HI1⟩
          case measure => simp [intOf]; omega
        · have HG := Aside0.mk (matG2 h2)
          obtain ⟨tad, tc, ht1, ht2⟩ := HT.out.below HI.out.2.2.1
          obtain ⟨m, hm⟩ : ∃ m : Nat, x.f0 = (m : Int) + 32 := ⟨(x.f0 - 32).toNat, by omega⟩
          obtain ⟨r0, r1⟩ := matRange m (by omega)
          obtain ⟨tad', e5, ht3⟩ := Kd.at_int ht2 (m : Int) (by omega) (by omega)
          cases e5
          obtain ⟨bb, hbb⟩ : ∃ bb, rd matTab (m : Int) = bb := ⟨_, rfl⟩
          have hsub : x.f0 - 32 = (m : Int) := by omega
          rw [hsub, hbb] at HG
          rw [hbb] at r0 r1 ht3
          simp only [Int.toNat_natCast] at ht3
          have hz1 := World.block_lt_of_cell? wr _ ht1
          have hz3 := World.block_lt_of_cell? wr _ ht3
          replace ht1 : ∀ o1 o2, ((wr.alloc o1).alloc o2).cell? ⟨1, 0, none⟩ = some (.slice (some tad) 21 tc) := fun o1 o2 => pw_cell_below (below_alloc (below_alloc (Below.refl wr.heap.size wr) o1) o2) ht1
          replace ht3 : ∀ o1 o2, ((wr.alloc o1).alloc o2).cell? (tad.add m) = some (.int .u32 bb) := fun o1 o2 => pw_cell_below (below_alloc (below_alloc (Below.refl wr.heap.size wr) o1) o2) ht3
          have hm0 : (m : Int) < 21 := by omega
          have HMM := Aside0.mk hm
          clear hbb ht2 hm
          have hsubw : IntKind.u8.wrap (x.f0 - 32) = (m : Int) := by rw [hsub]; simp only [IntKind.wrap_u8]; omega
          clear hsub
          go_wp2_with (first | ((with_reducible refine gate_store (t := 125) (p := 58) (v := .tmp 57) rfl ?_); refine R_storeW k125 (w0 := w0) w0.heap.size rfl rfl 125 (.tmp 58) (.tmp 57) rfl 125 (g := g) (n := b.length) (cap := c3) (o' := k * 4) k (done matG l b k) (matG x) (.agg #[.int .u32 (Go.bits .and .u32 bb 16777215), .int .u8 (bb / 16777216), .int .u8 x.f1, .int .u16 x.f2]) [.int .u32 (Go.bits .and .u32 bb 16777215), .int .u8 (bb / 16777216), .int .u8 x.f1, .int .u16 x.f2] (fun _ => True) (fun _ => False) rfl rfl rfl rfl size125 (one4 _ _ _ _ _ _ _ _) (((HI.out.alloc _).alloc _).1) HL.out rfl ?s6 (fun _ hk => hk.elim) (((HI.out.alloc _).alloc _).2.2.1) ?_; (case s6 => rw [HG.out]; exact k125_mkM _ _ _ _); intro w1 ho hb hg; have HI1 := Aside0.mk (((HI.out.alloc _).alloc _).store ho hb hg); rw [done_step HN.out HK.out] at HI1; clear ho hb hg))
          go_roundw
          case rel => exact ⟨k + 1, by omega, by go_num, HS, HI1⟩
          case measure => simp [intOf]; omega
      · have HQ : Aside0 (matP x = false) := ⟨by unfold matP; exact decide_eq_false hhi⟩
        go_wp2_with (first | (go_at_call 61; refine (makeError_any rb _ _ _ ?e1 ?e2).mono ?_; (case e1 => exact HE.out.below ((HI.out.alloc _).alloc _).2.2.1); (case e2 => exact ((HI.out.alloc _).alloc _).2.2.2); rintro e w1 ⟨p, rfl, hb1⟩; have HB1 := Aside0.mk (post_err (g := matG) ((HI.out.alloc _).alloc _) HM.out HQ.out p hb1); clear hb1))
        go_ret
        exact HB1.out
    · have c5b0 : decide ((k : Int) < (l.length : Int)) = false := decide_eq_false (by omega)
      obtain rfl : k = l.length := by omega
      go_wp2
      go_ret
      exact ⟨HI.out.2.2.1, _, HI.out.1, .inl ⟨by have := HP.out; rwa [List.take_length] at this, done_all HN.out, rfl⟩⟩
end Go.Proofs.YtopadgohinoomaaDoor.St
