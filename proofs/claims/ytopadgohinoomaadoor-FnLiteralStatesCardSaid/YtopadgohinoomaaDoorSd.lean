/-
Walk of makeLiteralBaselineFSE (function 46): the table of states of values is filled entry by entry; a symbol above 35 is an error.
-/
import Derived.Test.YtopadgohinoomaaDoorSc
namespace Go.Proofs.YtopadgohinoomaaDoor.St
open Go.RowKit Go.Proofs.YtopadgohinoomaaDoorW.PrintWords Go.Proofs.YtopadgohinoomaaDoorW.PrintLast Go.Proofs.YtopadgohinoomaaDoorW.PrintMore Go.Proofs.YtopadgohinoomaaDoor.PC
attribute [local go_sem] max2_int min2_int max_two min_two max_three min_three max_four min_four
set_option linter.unusedVariables false
set_option linter.unusedSimpArgs false
def litTab : List Int := [16777232, 16777234, 16777236, 16777238, 33554456, 33554460, 50331680, 50331688, 67108912, 100663360, 117440640, 134217984, 150995456, 167773184, 184551424, 201330688, 218112000, 234897408, 251691008, 268500992]
def litAt (w : World) : Prop := ∃ ad c, w.cell? ⟨0, 0, none⟩ = some (.slice (some ad) 20 c) ∧ Kd.C (Kd.int .u32) w (some ad) 20 litTab
theorem litAt.below {w w' : World} (h : litAt w) (hb : Below w.heap.size w w') : litAt w' := by
  obtain ⟨ad, c, h1, h2⟩ := h
  exact ⟨ad, c, pw_cell_below hb h1, Kd.C_below h2 hb⟩
def litP (e : S123) : Bool := decide (e.f0 ≤ 35)
def litG (e : S123) : S125 := if e.f0 < 16 then ⟨e.f0, 0, e.f1, e.f2⟩ else ⟨Go.bits .and .u32 (rd litTab (e.f0 - 16)) 16777215, (rd litTab (e.f0 - 16)) / 16777216, e.f1, e.f2⟩
theorem litG1 {e : S123} (h : e.f0 < 16) : litG e = ⟨e.f0, 0, e.f1, e.f2⟩ := if_pos h
theorem litG2 {e : S123} (h : ¬ e.f0 < 16) : litG e = ⟨Go.bits .and .u32 (rd litTab (e.f0 - 16)) 16777215, (rd litTab (e.f0 - 16)) / 16777216, e.f1, e.f2⟩ := if_neg h
theorem litRange : ∀ i : Nat, i < 20 → 0 ≤ rd litTab (i : Int) ∧ rd litTab (i : Int) ≤ 4294967295 := by decide

set_option maxHeartbeats 4000000 in
set_option maxRecDepth 100000 in
theorem lit_any (rb : Nat) (A2 : Option Addr) (c2 : Nat) (l : List S123) (v3 : Value) (b : List S125) (w0 w : World) (hT : litAt w0)
    (hE : Eof w0) (hR : IsReader w rb) (h2 : Kd.R k123 123 w w0.heap.size (fun _ => True) (.slice A2 l.length c2) l) (h3 : Kd.R k125 125 w w0.heap.size (fun _ => True) v3 b) (hl : b.length = l.length)
    (hx : ∀ x ∈ l, IsB x) (hlm : l.length ≤ 1000000) (hB : Below w0.heap.size w0 w) :
    Calls Tryd.prog 46 #[.pointer (some ⟨rb, 0, none⟩), .int .i64 0, .slice A2 l.length c2, v3] w (Post litP litG l v3 w0) := by
  have hu125 := Tryd.underlying125
  have hu123 := Tryd.underlying123
  obtain ⟨A3, c3, rfl, hlc, hC3⟩ := Kd.R_reads h3
  have HN := Aside0.mk hl
  have HI := Aside0.mk (show Inv rb A2 c2 l A3 b.length c3 w0 (done litG l b 0) w from ⟨h3, h2, hB, hR⟩)
  have HX := Aside0.mk hx
  have HE := Aside0.mk hE
  have HT := Aside0.mk hT
  clear hl h2 h3 hE hR hB hx hC3 hlc hT
  go_enter Tryd.func46, Tryd.ntmps46
  go_wp2
  go_loopw [16] (fun v w' => ∃ k : Nat, k ≤ l.length ∧ v = .int .i64 k ∧ Aside0 ((l.take k).all litP = true) ∧ Aside0 (Inv rb A2 c2 l A3 b.length c3 w0 (done litG l b k) w'))
    (fun v _ => l.length - (intOf v).toNat)
  case atStart => exact ⟨0, Nat.zero_le _, rfl, ⟨rfl⟩, HI⟩
  case round =>
    clear HI
    obtain ⟨k, hk, rfl, HP, HI⟩ := hrel
    by_cases hlt : k < l.length
    · have c5b0 : decide ((k : Int) < (l.length : Int)) = true := decide_eq_true (by omega)
      have hC := Aside0.mk (Kd.R_reads' HI.out.2.1).2.2
      obtain ⟨ad, e1, hx0, hx1, hx2⟩ := at_T123 hC.out (k : Int) (by omega) (by omega)
      obtain ⟨x, he⟩ : ∃ x, rd_T123 l (k : Int) = x := ⟨_, rfl⟩
      have HK := Aside0.mk (he ▸ at_nat hlt : l[k]? = some x)
      have HM := Aside0.mk (List.mem_of_getElem? HK.out)
      have hdl : (done litG l b k).length = b.length := done_len HN.out hk
      obtain ⟨g, c3', e3, -, hgl, -⟩ := Kd.R_form (Kd.R_mono HI.out.1 (fun _ h => h)) (by have := HN.out; omega)
      have e4 : A3 = some ⟨g, 0, none⟩ := by injection e3
      clear e3
      subst e1 e4
      simp only [Int.toNat_natCast, he] at hx0 hx1 hx2
      obtain ⟨⟨s0, s1⟩, ⟨b0, b1⟩, ⟨t0, t1⟩⟩ := HX.out x HM.out
      have c6b0 : decide ((k : Int) < (b.length : Int)) = true := decide_eq_true (by have := HN.out; omega)
      have c7b0 : (k : Int) < (b.length : Int) := by have := HN.out; omega
      have HL := Aside0.mk (show k < b.length by omega)
      clear he b0 b1 t0 t1 hdl hC hgl
      by_cases hhi : x.f0 ≤ 35
      · have HS : Aside0 ((l.take (k + 1)).all litP = true) := ⟨all_step HP.out HK.out (by unfold litP; exact decide_eq_true hhi)⟩
        by_cases h2 : x.f0 < 16
        · have HG := Aside0.mk (litG1 h2)
          go_wp2_with (first | ((with_reducible refine gate_store (t := 125) (p := 57) (v := .tmp 56) rfl ?_); refine R_storeW k125 (w0 := w0) w0.heap.size rfl rfl 125 (.tmp 57) (.tmp 56) rfl 125 (g := g) (n := b.length) (cap := c3) (o' := k * 4) k (done litG l b k) (litG x) (.agg #[.int .u32 (x.f0), .int .u8 (0), .int .u8 x.f1, .int .u16 x.f2]) [.int .u32 (x.f0), .int .u8 (0), .int .u8 x.f1, .int .u16 x.f2] (fun _ => True) (fun _ => False) rfl rfl rfl rfl size125 (one4 _ _ _ _ _ _ _ _) (((HI.out.alloc _).alloc _).1) HL.out rfl ?s6 (fun _ hk => hk.elim) (((HI.out.alloc _).alloc _).2.2.1) ?_; (case s6 => rw [HG.out]; exact k125_mkM _ _ _ _); intro w1 ho hb hg; have HI1 := Aside0.mk (((HI.out.alloc _).alloc _).store ho hb hg); rw [done_step HN.out HK.out] at HI1; clear ho hb hg))
          go_roundw
          case rel => exact ⟨k + 1, by omega, by go_num, HS, HI1⟩
          case measure => simp [intOf]; omega
        · have HG := Aside0.mk (litG2 h2)
          obtain ⟨tad, tc, ht1, ht2⟩ := HT.out.below HI.out.2.2.1
          obtain ⟨m, hm⟩ : ∃ m : Nat, x.f0 = (m : Int) + 16 := ⟨(x.f0 - 16).toNat, by omega⟩
          obtain ⟨r0, r1⟩ := litRange m (by omega)
          obtain ⟨tad', e5, ht3⟩ := Kd.at_int ht2 (m : Int) (by omega) (by omega)
          cases e5
          obtain ⟨bb, hbb⟩ : ∃ bb, rd litTab (m : Int) = bb := ⟨_, rfl⟩
          have hsub : x.f0 - 16 = (m : Int) := by omega
          rw [hsub, hbb] at HG
          rw [hbb] at r0 r1 ht3
          simp only [Int.toNat_natCast] at ht3
          have hz1 := World.block_lt_of_cell? wr _ ht1
          have hz3 := World.block_lt_of_cell? wr _ ht3
          replace ht1 : ∀ o1 o2, ((wr.alloc o1).alloc o2).cell? ⟨0, 0, none⟩ = some (.slice (some tad) 20 tc) := fun o1 o2 => pw_cell_below (below_alloc (below_alloc (Below.refl wr.heap.size wr) o1) o2) ht1
          replace ht3 : ∀ o1 o2, ((wr.alloc o1).alloc o2).cell? (tad.add m) = some (.int .u32 bb) := fun o1 o2 => pw_cell_below (below_alloc (below_alloc (Below.refl wr.heap.size wr) o1) o2) ht3
          have hm0 : (m : Int) < 20 := by omega
          have HMM := Aside0.mk hm
          clear hbb ht2 hm
          have hsubw : IntKind.u8.wrap (x.f0 - 16) = (m : Int) := by rw [hsub]; simp only [IntKind.wrap_u8]; omega
          clear hsub
          go_wp2_with (first | ((with_reducible refine gate_store (t := 125) (p := 57) (v := .tmp 56) rfl ?_); refine R_storeW k125 (w0 := w0) w0.heap.size rfl rfl 125 (.tmp 57) (.tmp 56) rfl 125 (g := g) (n := b.length) (cap := c3) (o' := k * 4) k (done litG l b k) (litG x) (.agg #[.int .u32 (Go.bits .and .u32 bb 16777215), .int .u8 (bb / 16777216), .int .u8 x.f1, .int .u16 x.f2]) [.int .u32 (Go.bits .and .u32 bb 16777215), .int .u8 (bb / 16777216), .int .u8 x.f1, .int .u16 x.f2] (fun _ => True) (fun _ => False) rfl rfl rfl rfl size125 (one4 _ _ _ _ _ _ _ _) (((HI.out.alloc _).alloc _).1) HL.out rfl ?s6 (fun _ hk => hk.elim) (((HI.out.alloc _).alloc _).2.2.1) ?_; (case s6 => rw [HG.out]; exact k125_mkM _ _ _ _); intro w1 ho hb hg; have HI1 := Aside0.mk (((HI.out.alloc _).alloc _).store ho hb hg); rw [done_step HN.out HK.out] at HI1; clear ho hb hg))
          go_roundw
          case rel => exact ⟨k + 1, by omega, by go_num, HS, HI1⟩
          case measure => simp [intOf]; omega
      · have HQ : Aside0 (litP x = false) := ⟨by unfold litP; exact decide_eq_false hhi⟩
        go_wp2_with (first | (go_at_call 61; refine (makeError_any rb _ _ _ ?e1 ?e2).mono ?_; (case e1 => exact HE.out.below ((HI.out.alloc _).alloc _).2.2.1); (case e2 => exact ((HI.out.alloc _).alloc _).2.2.2); rintro e w1 ⟨p, rfl, hb1⟩; have HB1 := Aside0.mk (post_err (g := litG) ((HI.out.alloc _).alloc _) HM.out HQ.out p hb1); clear hb1))
        go_ret
        exact HB1.out
    · have c5b0 : decide ((k : Int) < (l.length : Int)) = false := decide_eq_false (by omega)
      obtain rfl : k = l.length := by omega
      go_wp2
      go_ret
      exact ⟨HI.out.2.2.1, _, HI.out.1, .inl ⟨by have := HP.out; rwa [List.take_length] at this, done_all HN.out, rfl⟩⟩
end Go.Proofs.YtopadgohinoomaaDoor.St
