/-
Walk of makeOffsetBaselineFSE (function 50): the table of states of values is filled entry by entry; a symbol above 31 is an error.
-/
import Derived.Test.YtopadgohinoomaaDoorSb
namespace Go.Proofs.YtopadgohinoomaaDoor.St
open Go.RowKit Go.Proofs.YtopadgohinoomaaDoorW.PrintWords Go.Proofs.YtopadgohinoomaaDoorW.PrintLast Go.Proofs.YtopadgohinoomaaDoorW.PrintMore Go.Proofs.YtopadgohinoomaaDoor.PC
attribute [local go_sem] max2_int min2_int max_two min_two max_three min_three max_four min_four
set_option linter.unusedVariables false
set_option linter.unusedSimpArgs false
def offP (e : S123) : Bool := decide (e.f0 ≤ 31)
def offG (e : S123) : S125 := if e.f0 < 2 then ⟨2 ^ e.f0.toNat % 4294967296, e.f0, e.f1, e.f2⟩ else ⟨(2 ^ e.f0.toNat - 3) % 4294967296, e.f0, e.f1, e.f2⟩
theorem offG1 {e : S123} (h : e.f0 < 2) : offG e = ⟨2 ^ e.f0.toNat % 4294967296, e.f0, e.f1, e.f2⟩ := if_pos h
theorem offG2 {e : S123} (h : ¬ e.f0 < 2) : offG e = ⟨(2 ^ e.f0.toNat - 3) % 4294967296, e.f0, e.f1, e.f2⟩ := if_neg h

theorem size125 : (Tryd.prog.info? 125).map (·.size) = some 4 := by kernel_rfl
theorem one4 (k1 k2 k3 k4 : IntKind) (a b c d : Int) : ∀ q ∈ [Value.int k1 a, .int k2 b, .int k3 c, .int k4 d], q.oneCell' = true := by
  intro q hq
  simp only [List.mem_cons, List.not_mem_nil, or_false] at hq
  rcases hq with rfl | rfl | rfl | rfl <;> rfl

set_option maxHeartbeats 4000000 in
set_option maxRecDepth 100000 in
theorem off_any (rb : Nat) (A2 : Option Addr) (c2 : Nat) (l : List S123) (v3 : Value) (b : List S125) (w0 w : World)
    (hE : Eof w0) (hR : IsReader w rb) (h2 : Kd.R k123 123 w w0.heap.size (fun _ => True) (.slice A2 l.length c2) l) (h3 : Kd.R k125 125 w w0.heap.size (fun _ => True) v3 b) (hl : b.length = l.length)
    (hx : ∀ x ∈ l, IsB x) (hlm : l.length ≤ 1000000) (hB : Below w0.heap.size w0 w) :
    Calls Tryd.prog 50 #[.pointer (some ⟨rb, 0, none⟩), .int .i64 0, .slice A2 l.length c2, v3] w (Post offP offG l v3 w0) := by
  have hu125 := Tryd.underlying125
  have hu123 := Tryd.underlying123
  obtain ⟨A3, c3, rfl, hlc, hC3⟩ := Kd.R_reads h3
  have HN := Aside0.mk hl
  have HI := Aside0.mk (show Inv rb A2 c2 l A3 b.length c3 w0 (done offG l b 0) w from ⟨h3, h2, hB, hR⟩)
  have HX := Aside0.mk hx
  have HE := Aside0.mk hE
  clear hl h2 h3 hE hR hB hx hC3 hlc
  go_enter Tryd.func50, Tryd.ntmps50
  go_wp2
  go_loopw [14] (fun v w' => ∃ k : Nat, k ≤ l.length ∧ v = .int .i64 k ∧ Aside0 ((l.take k).all offP = true) ∧ Aside0 (Inv rb A2 c2 l A3 b.length c3 w0 (done offG l b k) w'))
    (fun v _ => l.length - (intOf v).toNat)
  case atStart => exact ⟨0, Nat.zero_le _, rfl, ⟨rfl⟩, HI⟩
  case round =>
    clear HI
    obtain ⟨k, hk, rfl, HP, HI⟩ := hrel
    by_cases hlt : k < l.length
    · have c5b0 : decide ((k : Int) < (l.length : Int)) = true := decide_eq_true (by omega)
      have hC := Aside0.mk (Kd.R_reads' HI.out.2.1).2.2
      obtain ⟨ad, e1, hx0, hx1, hx2⟩ := at_T123 hC.out (k : Int) (by omega) (by omega)
      obtain ⟨x, he⟩ : ∃ x, rd_T123 l (k : Int) = x := ⟨_, rfl⟩
      have HK := Aside0.mk (he ▸ at_nat hlt : l[k]? = some x)
      have HM := Aside0.mk (List.mem_of_getElem? HK.out)
      have hdl : (done offG l b k).length = b.length := done_len HN.out hk
      obtain ⟨g, c3', e3, -, hgl, -⟩ := Kd.R_form (Kd.R_mono HI.out.1 (fun _ h => h)) (by have := HN.out; omega)
      have e4 : A3 = some ⟨g, 0, none⟩ := by injection e3
      clear e3
      subst e1 e4
      simp only [Int.toNat_natCast, he] at hx0 hx1 hx2
      obtain ⟨⟨s0, s1⟩, ⟨b0, b1⟩, ⟨t0, t1⟩⟩ := HX.out x HM.out
      have c6b0 : decide ((k : Int) < (b.length : Int)) = true := decide_eq_true (by have := HN.out; omega)
      have c7b0 : (k : Int) < (b.length : Int) := by have := HN.out; omega
      clear he b0 b1 t0 t1 hdl hC hgl
      have HL := Aside0.mk (show k < b.length by omega)
      by_cases h31 : x.f0 ≤ 31
      · have HS : Aside0 ((l.take (k + 1)).all offP = true) := ⟨all_step HP.out HK.out (by unfold offP; exact decide_eq_true h31)⟩
        by_cases h2 : x.f0 < 2
        · have HG := Aside0.mk (offG1 h2)
          go_wp2_with (first | ((with_reducible refine gate_store (t := 125) (p := 47) (v := .tmp 46) rfl ?_); refine R_storeW k125 (w0 := w0) w0.heap.size rfl rfl 125 (.tmp 47) (.tmp 46) rfl 125 (g := g) (n := b.length) (cap := c3) (o' := k * 4) k (done offG l b k) (offG x) (.agg #[.int .u32 (2 ^ x.f0.toNat % 4294967296), .int .u8 x.f0, .int .u8 x.f1, .int .u16 x.f2]) [.int .u32 (2 ^ x.f0.toNat % 4294967296), .int .u8 x.f0, .int .u8 x.f1, .int .u16 x.f2] (fun _ => True) (fun _ => False) rfl rfl rfl rfl size125 (one4 _ _ _ _ _ _ _ _) (((HI.out.alloc _).alloc _).1) HL.out rfl ?s6 (fun _ hk => hk.elim) (((HI.out.alloc _).alloc _).2.2.1) ?_; (case s6 => rw [HG.out]; exact k125_mkM _ _ _ _); intro w1 ho hb hg; have HI1 := Aside0.mk (((HI.out.alloc _).alloc _).store ho hb hg); rw [done_step HN.out HK.out] at HI1; clear ho hb hg))
          go_roundw
          case rel => exact ⟨k + 1, by omega, by go_num, HS, HI1⟩
          case measure => simp [intOf]; omega
        · have HG := Aside0.mk (offG2 h2)
          go_wp2_with (first | ((with_reducible refine gate_store (t := 125) (p := 47) (v := .tmp 46) rfl ?_); refine R_storeW k125 (w0 := w0) w0.heap.size rfl rfl 125 (.tmp 47) (.tmp 46) rfl 125 (g := g) (n := b.length) (cap := c3) (o' := k * 4) k (done offG l b k) (offG x) (.agg #[.int .u32 ((2 ^ x.f0.toNat - 3) % 4294967296), .int .u8 x.f0, .int .u8 x.f1, .int .u16 x.f2]) [.int .u32 ((2 ^ x.f0.toNat - 3) % 4294967296), .int .u8 x.f0, .int .u8 x.f1, .int .u16 x.f2] (fun _ => True) (fun _ => False) rfl rfl rfl rfl size125 (one4 _ _ _ _ _ _ _ _) (((HI.out.alloc _).alloc _).1) HL.out rfl ?s6 (fun _ hk => hk.elim) (((HI.out.alloc _).alloc _).2.2.1) ?_; (case s6 => rw [HG.out]; exact k125_mkM _ _ _ _); intro w1 ho hb hg; have HI1 := Aside0.mk (((HI.out.alloc _).alloc _).store ho hb hg); rw [done_step HN.out HK.out] at HI1; clear ho hb hg))
          go_roundw
          case rel => exact ⟨k + 1, by omega, by go_num, HS, HI1⟩
          case measure => simp [intOf]; omega
      · have HQ : Aside0 (offP x = false) := ⟨by unfold offP; exact decide_eq_false h31⟩
        go_wp2_with (fail)
        refine (makeError_any rb _ _ _ ?e1 ?e2).mono ?_
        case e1 => exact HE.out.below ((HI.out.alloc _).alloc _).2.2.1
        case e2 => exact ((HI.out.alloc _).alloc _).2.2.2
        rintro e w1 ⟨p, rfl, hb1⟩
        have HB1 := Aside0.mk (post_err (g := offG) ((HI.out.alloc _).alloc _) HM.out HQ.out p hb1)
        clear hb1
        go_wp2
        go_ret
        exact HB1.out
    · have c5b0 : decide ((k : Int) < (l.length : Int)) = false := decide_eq_false (by omega)
      obtain rfl : k = l.length := by omega
      go_wp2
      go_ret
      exact ⟨HI.out.2.2.1, _, HI.out.1, .inl ⟨by have := HP.out; rwa [List.take_length] at this, done_all HN.out, rfl⟩⟩
end Go.Proofs.YtopadgohinoomaaDoor.St
