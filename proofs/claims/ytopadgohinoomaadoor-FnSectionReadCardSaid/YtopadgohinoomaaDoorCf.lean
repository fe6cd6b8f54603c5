/-
Walk of readLiteralsFourStreams where the four streams hold what is asked for.
-/
import Derived.Test.YtopadgohinoomaaDoorCe
import Derived.Test.YtopadgohinoomaaDoorSw
import Derived.Test.YtopadgohinoomaaDoorPC7
namespace Go.Proofs.YtopadgohinoomaaDoor.Cx
open Go.RowKit Go.Proofs.YtopadgohinoomaaDoorW.PrintWords Go.Proofs.YtopadgohinoomaaDoorW.PrintLast Go.Proofs.YtopadgohinoomaaDoorW.PrintMore Go.Proofs.YtopadgohinoomaaDoor.PC
attribute [local go_sem] max2_int min2_int max_two min_two max_three min_three max_four min_four
set_option linter.unusedVariables false
set_option linter.unusedSimpArgs false
/-- The place behind i literals. -/
def pos (D T : List Int) (b p : Nat) : Nat → Nat
  | 0 => p
  | i + 1 => pos D T b p i - (T.getD (look D (pos D T b p i) b) 0).toNat % 256
/-- The literal behind i others. -/
def sym (D T : List Int) (b p i : Nat) : Int := T.getD (look D (pos D T b p i) b) 0 / 256
def top (D : List Int) (e : Nat) : Nat := 8 * e + Nat.log2 (D.getD e 0).toNat
def Fil (D T : List Int) (b n N p1 p2 p3 p4 i : Nat) (out : List Int) : Prop := out.length = N ∧ ∀ j, j < i → out.getD j 0 = sym D T b p1 j ∧ out.getD (n + j) 0 = sym D T b p2 j ∧ out.getD (n + n + j) 0 = sym D T b p3 j ∧ (3 * n + j < N → out.getD (n + n + n + j) 0 = sym D T b p4 j)
theorem getD_set (l : List Int) (a : Nat) (y : Int) (j : Nat) : (l.set a y).getD j 0 = if a = j ∧ a < l.length then y else l.getD j 0 := by
  rw [List.getD_eq_getElem?_getD, List.getD_eq_getElem?_getD, List.getElem?_set]
  by_cases h : a = j
  · subst h
    by_cases h2 : a < l.length
    · simp [h2]
    · simp [h2]
  · simp [h]
theorem Fil.step4 {D T : List Int} {b n N p1 p2 p3 p4 i : Nat} {out : List Int} (h : Fil D T b n N p1 p2 p3 p4 i out) (hi : i < n) (h4 : 3 * n + i < N) :
    Fil D T b n N p1 p2 p3 p4 (i + 1) ((((out.set (n + n + n + i) (sym D T b p4 i)).set i (sym D T b p1 i)).set (n + i) (sym D T b p2 i)).set (n + n + i) (sym D T b p3 i)) := by
  obtain ⟨hl, hf⟩ := h
  refine ⟨by simp [hl], fun j hj => ?_⟩
  simp only [getD_set, List.length_set, hl]
  by_cases e : j = i
  · subst e
    refine ⟨?_, ?_, ?_, fun _ => ?_⟩
    · rw [if_neg (by omega), if_neg (by omega), if_pos (by omega)]
    · rw [if_neg (by omega), if_pos (by omega)]
    · rw [if_pos (by omega)]
    · rw [if_neg (by omega), if_neg (by omega), if_neg (by omega), if_pos (by omega)]
  · obtain ⟨f1, f2, f3, f4⟩ := hf j (by omega)
    refine ⟨?_, ?_, ?_, fun hq => ?_⟩
    · rw [if_neg (by omega), if_neg (by omega), if_neg (by omega), if_neg (by omega), f1]
    · rw [if_neg (by omega), if_neg (by omega), if_neg (by omega), if_neg (by omega), f2]
    · rw [if_neg (by omega), if_neg (by omega), if_neg (by omega), if_neg (by omega), f3]
    · rw [if_neg (by omega), if_neg (by omega), if_neg (by omega), if_neg (by omega), f4 hq]
theorem Fil.step3 {D T : List Int} {b n N p1 p2 p3 p4 i : Nat} {out : List Int} (h : Fil D T b n N p1 p2 p3 p4 i out) (hi : i < n) (hN : 3 * n ≤ N) (h4 : ¬ 3 * n + i < N) :
    Fil D T b n N p1 p2 p3 p4 (i + 1) (((out.set i (sym D T b p1 i)).set (n + i) (sym D T b p2 i)).set (n + n + i) (sym D T b p3 i)) := by
  obtain ⟨hl, hf⟩ := h
  refine ⟨by simp [hl], fun j hj => ?_⟩
  simp only [getD_set, List.length_set, hl]
  by_cases e : j = i
  · subst e
    refine ⟨?_, ?_, ?_, fun hq => absurd hq h4⟩
    · rw [if_neg (by omega), if_neg (by omega), if_pos (by omega)]
    · rw [if_neg (by omega), if_pos (by omega)]
    · rw [if_pos (by omega)]
  · obtain ⟨f1, f2, f3, f4⟩ := hf j (by omega)
    refine ⟨?_, ?_, ?_, fun hq => ?_⟩
    · rw [if_neg (by omega), if_neg (by omega), if_neg (by omega), f1]
    · rw [if_neg (by omega), if_neg (by omega), if_neg (by omega), f2]
    · rw [if_neg (by omega), if_neg (by omega), if_neg (by omega), f3]
    · rw [if_neg (by omega), if_neg (by omega), if_neg (by omega), f4 hq]
theorem mask_eq {b : Nat} (hb : b ≤ 11) : ((2 : Int) ^ b - 1) % 4294967296 = ((2 ^ b - 1 : Nat) : Int) := by
  have h3 : 2 ^ b ≤ 2 ^ 11 := Nat.pow_le_pow_right (by decide) hb
  have h4 := Nat.two_pow_pos b
  have h5 : ((2 ^ b : Nat) : Int) = (2 : Int) ^ b := by rw [Int.natCast_pow]; rfl
  rw [← h5]
  omega
theorem start_top {D : List Int} {x v k : Nat} (hB : Bytes D) (hx : x < D.length) (hn : D.getD x 0 ≠ 0) (hv : (D.getD x 0).toNat = v) (hk : Nat.log2 v = k) : RdOk D x v k (top D x) ∧ k ≤ 7 := by
  subst hv hk
  have h := hB.get x
  have h7 : Nat.log2 (D.getD x 0).toNat ≤ 7 := log8 (by omega) (by omega)
  exact ⟨start_ok hB hx _ h7, h7⟩
theorem addr_lt {k : IntKind} {w : World} {a : Addr} {D : List Int} (hD : Kd.C (Kd.int k) w (some a) D.length D) (h : 0 < D.length) : a.block < w.heap.size := by
  obtain ⟨ad, e, hc⟩ := Kd.at_int hD 0 (by omega) (by omega)
  cases e
  have := World.block_lt_of_cell? w _ hc
  rwa [add_block] at this
theorem mrbr_any' (rb : Nat) (A : Option Addr) (c off st v k : Nat) (o s : Int) (D : List Int) (eo : o = off) (es : s = st) (hv : (D.getD off 0).toNat = v) (hk : Nat.log2 v = k) (w : World)
    (hD : Kd.C (Kd.int .u8) w A D.length D) (hB : Bytes D) (ho : off < D.length) (hne : D.getD off 0 ≠ 0) (hl : D.length ≤ 2000000) (hst : st ≤ 2000000) :
    Calls Tryd.prog 65 #[.pointer (some ⟨rb, 0, none⟩), .slice A D.length c, .int .i64 o, .int .i64 s] w fun e w' =>
      e = .returned (.tuple #[.agg #[.pointer (some ⟨rb, 0, none⟩), .slice A D.length c, .int .u32 off, .int .u32 st, .int .u32 v, .int .u32 k], .nilIface]) ∧ Below w.heap.size w w' := by
  subst eo es hv hk; exact mrbr_any rb A c off st D w hD hB ho hne hl hst
theorem info5m : (Tryd.prog.info? 5).map (·.size) = some 1 := by kernel_rfl
theorem info5 : ∃ i, Tryd.prog.info? 5 = some i ∧ i.size = 1 := Option.map_eq_some_iff.1 info5m
theorem info5z : (Tryd.prog.info? 5).map (fun i => (i.zero, i.size, i.bytes)) = some (some (.int .u8 0), 1, 1) := by kernel_rfl
theorem size5 : (Tryd.prog.info? 5).map (·.size) = some 1 := by kernel_rfl
theorem one1 {u : Value} (h : u.oneCell' = true := by rfl) : ∀ q ∈ [u], q.oneCell' = true := by intro q hq; rw [List.mem_singleton.1 hq]; exact h
theorem and255 (y : Nat) (h : y ≤ 65535) : Go.bits BinOp.and IntKind.u16 (y : Int) 255 = (y : Int) % 256 := by
  have e := u16_and_nat y 255 (by omega) (by omega)
  rw [show (255 : Nat) = 2 ^ 8 - 1 from rfl, Nat.and_two_pow_sub_one_eq_mod] at e
  rw [show ((255 : Int)) = ((2 ^ 8 - 1 : Nat) : Int) from rfl, e]
  omega
theorem pos_step {D T : List Int} {b p i y : Nat} (e : T.getD (look D (pos D T b p i) b) 0 = (y : Int)) : pos D T b p i - y % 256 = pos D T b p (i + 1) := by
  show _ = pos D T b p i - (T.getD (look D (pos D T b p i) b) 0).toNat % 256
  rw [e, Int.toNat_natCast]
theorem sym_step {D T : List Int} {b p i y : Nat} (e : T.getD (look D (pos D T b p i) b) 0 = (y : Int)) : sym D T b p i = (y : Int) / 256 := by
  unfold sym
  rw [e]
theorem zeroM (w : World) (base : Nat) : (Kd.int .u8).M w base (fun _ => False) 0 (Value.int .u8 0).cells.toList := rfl
theorem le16_any {off : Nat} (ad a' : Addr) (ha : ad.add off = a') (c s n : Nat) (D : List Int) (w : World) (hD : Kd.C (Kd.int .u8) w (some ad) D.length D) (ho : off < D.length) (hc : D.length ≤ c) (h : zstd_le16.f (D.drop off) = some (s : Int)) (hn : n = D.length - off) :
    Calls Tryd.prog 64 #[.slice (some a') n (c - off)] w fun e w' => e = .returned (.int .u16 s) ∧ Drawn0 w w' := by
  subst hn ha
  have h1 := Kd.C_drop hD (m := off) (by omega) hc
  rw [if_neg (by omega)] at h1
  have h2 := zstd_le16.calls _ (c - off) (D.drop off) s w h1 (by rw [List.length_drop]; omega) h
  simpa [Kd.int, Kd.scalar] using h2
set_option maxHeartbeats 8000000 in
set_option maxRecDepth 100000 in
theorem four_any (rb : Nat) (ad : Addr) (TA : Option Addr) (c tc b off total N n s1 s2 s3 s4 : Nat) (D T : List Int) (w : World)
    (hr12 : w.cell? ⟨rb, 12, none⟩ = some (.slice TA T.length tc)) (hr13 : w.cell? ⟨rb, 13, none⟩ = some (.int .i64 b))
    (hD : Kd.C (Kd.int .u8) w (some ad) D.length D) (hc : D.length ≤ c) (hT : Kd.C (Kd.int .u16) w TA T.length T) (hB : Bytes D)
    (h1 : zstd_le16.f (D.drop off) = some (s1 : Int)) (h2 : zstd_le16.f (D.drop (off + 2)) = some (s2 : Int)) (h3 : zstd_le16.f (D.drop (off + 4)) = some (s3 : Int))
    (hs1 : s1 ≤ 65535) (hs2 : s2 ≤ 65535) (hs3 : s3 ≤ 65535) (ht : total = 6 + s1 + s2 + s3 + s4) (hp1 : 0 < s1) (hp2 : 0 < s2) (hp3 : 0 < s3) (hp4 : 0 < s4)
    (hn : (N + 3) / 4 = n) (hN : 3 * n ≤ N) (hNm : N ≤ 200000)
    (hnp : 0 < n) (hb : b ≤ 11) (tab : ∀ i, i < 2 ^ b → 0 ≤ T.getD i 0 ∧ T.getD i 0 ≤ 65535 ∧ (T.getD i 0).toNat % 256 ≤ b) (hl : D.length ≤ 2000000) (hTl : 2 ^ b ≤ T.length) (hTm : T.length ≤ 2000000) (hol : off + total ≤ D.length)
    (x1 x2 x3 x4 : Nat) (hx1 : x1 = off + 5 + s1) (hx2 : x2 = x1 + s2) (hx3 : x3 = x2 + s3) (hx4 : x4 = x3 + s4) (d1 : D.getD x1 0 ≠ 0) (d2 : D.getD x2 0 ≠ 0) (d3 : D.getD x3 0 ≠ 0) (d4 : D.getD x4 0 ≠ 0)
    (P1 : ∀ i, i < n → 8 * (off + 4) + b ≤ pos D T b (top D x1) i) (P2 : ∀ i, i < n → 8 * (x1 - 1) + b ≤ pos D T b (top D x2) i) (P3 : ∀ i, i < n → 8 * (x2 - 1) + b ≤ pos D T b (top D x3) i) (P4 : ∀ i, 3 * n + i < N → 8 * (x3 - 1) + b ≤ pos D T b (top D x4) i) :
    Calls Tryd.prog 56 #[.pointer (some ⟨rb, 0, none⟩), .slice (some ad) D.length c, .int .i64 off, .int .i64 total, .int .i64 N, .slice none 0 0] w fun e w' => ∃ v0 out, e = .returned (.tuple #[v0, .nilIface]) ∧ Kd.R (Kd.int .u8) 5 w' w.heap.size (fun _ => True) v0 out ∧ Below w.heap.size w w' ∧ Fil D T b n N (top D x1) (top D x2) (top D x3) (top D x4) n out := by
  have hu := Tryd.underlying134
  have hu130 := Tryd.underlying130
  have hu32 := Tryd.underlying32
  have TAB := Aside0.mk tab
  have HP1 := Aside0.mk P1
  have HP2 := Aside0.mk P2
  have HP3 := Aside0.mk P3
  have HP4 := Aside0.mk P4
  clear tab P1 P2 P3 P4
  have HD := Aside0.mk hD
  have HC := Aside0.mk hc
  have HT := Aside0.mk hT
  have HB := Aside0.mk hB
  have H1 := Aside0.mk h1
  have H2 := Aside0.mk h2
  have H3 := Aside0.mk h3
  have D1 := Aside0.mk d1
  have D2 := Aside0.mk d2
  have D3 := Aside0.mk d3
  have D4 := Aside0.mk d4
  have HN := Aside0.mk hn
  have HBL := Aside0.mk (Below.refl w.heap.size w)
  have HR12 := Aside0.mk hr12
  have HR13 := Aside0.mk hr13
  obtain ⟨i5, hi5, hs5⟩ := info5
  have k1 := cut_from (P := Tryd.prog) 130 5 .i64 hu130 hi5 1 hs5 (some ad) D.length c (off : Int) (by omega) (by omega)
  have k2 := cut_from (P := Tryd.prog) 130 5 .i64 hu130 hi5 1 hs5 (some ad) D.length c ((off : Int) + 2) (by omega) (by omega)
  have k3 := cut_from (P := Tryd.prog) 130 5 .i64 hu130 hi5 1 hs5 (some ad) D.length c ((off : Int) + 4) (by omega) (by omega)
  rw [if_neg (by omega)] at k1 k2 k3
  simp only [Option.map_some, Int.toNat_natCast, Nat.mul_one, show ((off : Int) + 2).toNat = off + 2 by omega, show ((off : Int) + 4).toNat = off + 4 by omega] at k1 k2 k3
  clear hi5 hs5
  obtain ⟨t1, ht1⟩ : ∃ x, x = off + 4 := ⟨_, rfl⟩
  obtain ⟨t2, ht2⟩ : ∃ x, x + 1 = x1 := ⟨x1 - 1, by omega⟩
  obtain ⟨t3, ht3⟩ : ∃ x, x + 1 = x2 := ⟨x2 - 1, by omega⟩
  obtain ⟨t4, ht4⟩ : ∃ x, x + 1 = x3 := ⟨x3 - 1, by omega⟩
  obtain ⟨v1, hv1⟩ : ∃ x, (D.getD x1 0).toNat = x := ⟨_, rfl⟩
  obtain ⟨v2, hv2⟩ : ∃ x, (D.getD x2 0).toNat = x := ⟨_, rfl⟩
  obtain ⟨v3, hv3⟩ : ∃ x, (D.getD x3 0).toNat = x := ⟨_, rfl⟩
  obtain ⟨v4, hv4⟩ : ∃ x, (D.getD x4 0).toNat = x := ⟨_, rfl⟩
  obtain ⟨c1, hc1⟩ : ∃ x, Nat.log2 v1 = x := ⟨_, rfl⟩
  obtain ⟨c2, hc2⟩ : ∃ x, Nat.log2 v2 = x := ⟨_, rfl⟩
  obtain ⟨c3, hc3⟩ : ∃ x, Nat.log2 v3 = x := ⟨_, rfl⟩
  obtain ⟨c4, hc4⟩ : ∃ x, Nat.log2 v4 = x := ⟨_, rfl⟩
  have X1 := Aside0.mk hx1
  have X2 := Aside0.mk hx2
  have X3 := Aside0.mk hx3
  have X4 := Aside0.mk hx4
  have T1 := Aside0.mk ht1
  have T2 := Aside0.mk ht2
  have T3 := Aside0.mk ht3
  have T4 := Aside0.mk ht4
  have V1 := Aside0.mk hv1
  have V2 := Aside0.mk hv2
  have V3 := Aside0.mk hv3
  have V4 := Aside0.mk hv4
  have C1 := Aside0.mk hc1
  have C2 := Aside0.mk hc2
  have C3 := Aside0.mk hc3
  have C4 := Aside0.mk hc4
  clear hx1 hx2 hx3 hx4 ht1 ht2 ht3 ht4 hv1 hv2 hv3 hv4 hc1 hc2 hc3 hc4
  obtain ⟨a1, ha1⟩ : ∃ a, ad.add off = a := ⟨_, rfl⟩
  obtain ⟨a2, ha2⟩ : ∃ a, ad.add (off + 2) = a := ⟨_, rfl⟩
  obtain ⟨a3, ha3⟩ : ∃ a, ad.add (off + 4) = a := ⟨_, rfl⟩
  rw [ha1] at k1
  rw [ha2] at k2
  rw [ha3] at k3
  have HA1 := Aside0.mk ha1
  have HA2 := Aside0.mk ha2
  have HA3 := Aside0.mk ha3
  clear ha1 ha2 ha3
  subst ht
  have hNi : ((N : Int) + 3) / 4 = (n : Int) := by omega
  have hn1 : 4 * n ≤ N + 3 := by omega
  have hn2 : N ≤ 4 * n := by omega
  clear hD hc hT hB h1 h2 h3 d1 d2 d3 d4 hn hr12 hr13
  go_enter Tryd.func56, Tryd.ntmps56
  go_wp2_with (first
   | ((with_reducible refine gate_dst (N := 202) rfl ?_); refine Kd.R_append_zeros (Kd.int .u8) (w0 := (w4.alloc (Obj.cells #[.pointer (some ⟨rb, 0, none⟩), .slice (some ad) D.length c, .int .u32 x4, .int .u32 t4, .int .u32 v4, .int .u32 c4] 134))) (w4.alloc (Obj.cells #[.pointer (some ⟨rb, 0, none⟩), .slice (some ad) D.length c, .int .u32 x4, .int .u32 t4, .int .u32 v4, .int .u32 c4] 134)).heap.size rfl (.tmp 200) (.tmp 201) 32 3 5 (.int .u8 0) 1 rfl hu32 Tryd.underlying3 info5z rfl (by decide) (by decide) (.slice none 0 0) [] 0 (N : Int) (fun _ => True) rfl rfl ?m1 (fun _ _ => trivial) (Kd.R_nil _ _ _ _ _) (by omega) (Below.refl _ _) (Nat.le_refl _) ?m2 ?_; (case m1 => exact zeroM _ _); (case m2 => (simp only [List.length_nil, Int.toNat_natCast]; omega)); intro o5 w5 ho hb hg hat; rw [List.nil_append, Int.toNat_natCast] at ho; have HO5 := Aside0.mk ho; have HB5 := Aside0.mk (below_then (below_alloc HB4.out _) (below_size (below_alloc HB4.out _)) hb); have I1_5 := Aside0.mk (blk_below I1_4.out hb); have I2_5 := Aside0.mk (blk_below I2_4.out hb); have I3_5 := Aside0.mk (blk_below I3_4.out hb); have I4_5 := Aside0.mk (blk_below I4_4.out hb); have hs5 : w4.heap.size < w5.heap.size := Nat.lt_of_lt_of_le (blk_lt I4_4.out) hb.size; have q12 := pw_cell_below HB5.out HR12.out; have q13 : ∀ o, (w5.alloc o).cell? ⟨rb, 13, none⟩ = some (.int .i64 b) := fun o => pw_cell_below (below_alloc HB5.out o) HR13.out; clear ho hb hg hat I1_4 I2_4 I3_4 I4_4)
   | (go_at_call 64; (with_reducible refine (le16_any ad a1 HA1.out c s1 _ D _ (Kd.C_below HD.out (by (repeat (first | (with_reducible first | exact (Aside0.out HBL) | apply below_alloc | apply pw_below_drewN | apply below_drew1) | exact (Aside0.out HBL))))) (by omega) HC.out H1.out rfl).mono ?_); rintro e w1 ⟨rfl, ⟨n1, rfl⟩⟩)
   | (go_at_call 64; (with_reducible refine (le16_any ad a2 HA2.out c s2 _ D _ (Kd.C_below HD.out (by (repeat (first | (with_reducible first | exact (Aside0.out HBL) | apply below_alloc | apply pw_below_drewN | apply below_drew1) | exact (Aside0.out HBL))))) (by omega) HC.out H2.out rfl).mono ?_); rintro e w1 ⟨rfl, ⟨n2, rfl⟩⟩)
   | (go_at_call 64; (with_reducible refine (le16_any ad a3 HA3.out c s3 _ D _ (Kd.C_below HD.out (by (repeat (first | (with_reducible first | exact (Aside0.out HBL) | apply below_alloc | apply pw_below_drewN | apply below_drew1) | exact (Aside0.out HBL))))) (by omega) HC.out H3.out rfl).mono ?_); rintro e w1 ⟨rfl, ⟨n3, rfl⟩⟩)
   | (go_at_call 65; refine (mrbr_any' rb (some ad) c x1 t1 v1 c1 _ _ D (by have := X1.out; have := X2.out; have := X3.out; have := X4.out; have := T1.out; have := T2.out; have := T3.out; have := T4.out; omega) (by have := X1.out; have := X2.out; have := X3.out; have := X4.out; have := T1.out; have := T2.out; have := T3.out; have := T4.out; omega) V1.out C1.out _ (Kd.C_below HD.out (by (repeat (first | (with_reducible first | exact (Aside0.out HBL) | apply below_alloc | apply pw_below_drewN | apply below_drew1) | exact (Aside0.out HBL))))) HB.out (by have := X1.out; have := X2.out; have := X3.out; have := X4.out; have := T1.out; have := T2.out; have := T3.out; have := T4.out; omega) D1.out hl (by have := X1.out; have := X2.out; have := X3.out; have := X4.out; have := T1.out; have := T2.out; have := T3.out; have := T4.out; omega)).mono ?_; rintro e w1 ⟨rfl, hb⟩; have HB1 := Aside0.mk (below_then (by (repeat (first | (with_reducible first | exact (Aside0.out HBL) | apply below_alloc | apply pw_below_drewN | apply below_drew1) | exact (Aside0.out HBL)))) (below_size (by (repeat (first | (with_reducible first | exact (Aside0.out HBL) | apply below_alloc | apply pw_below_drewN | apply below_drew1) | exact (Aside0.out HBL))))) hb); have I1_1 := Aside0.mk (show IsRbr (w1.alloc (Obj.cells #[.pointer (some ⟨rb, 0, none⟩), .slice (some ad) D.length c, .int .u32 x1, .int .u32 t1, .int .u32 v1, .int .u32 c1] 134)) w1.heap.size (.pointer (some ⟨rb, 0, none⟩)) (some ad) D.length c x1 t1 v1 c1 from blk_new w1 _); clear hb)
   | (go_at_call 65; refine (mrbr_any' rb (some ad) c x2 t2 v2 c2 _ _ D (by have := X1.out; have := X2.out; have := X3.out; have := X4.out; have := T1.out; have := T2.out; have := T3.out; have := T4.out; omega) (by have := X1.out; have := X2.out; have := X3.out; have := X4.out; have := T1.out; have := T2.out; have := T3.out; have := T4.out; omega) V2.out C2.out _ (Kd.C_below HD.out (by (repeat (first | (with_reducible first | exact (Aside0.out HB1) | apply below_alloc | apply pw_below_drewN | apply below_drew1) | exact (Aside0.out HB1))))) HB.out (by have := X1.out; have := X2.out; have := X3.out; have := X4.out; have := T1.out; have := T2.out; have := T3.out; have := T4.out; omega) D2.out hl (by have := X1.out; have := X2.out; have := X3.out; have := X4.out; have := T1.out; have := T2.out; have := T3.out; have := T4.out; omega)).mono ?_; rintro e w2 ⟨rfl, hb⟩; have hs2 : w1.heap.size < w2.heap.size := Nat.lt_of_lt_of_le (blk_lt I1_1.out) hb.size; have HB2 := Aside0.mk (below_then (by (repeat (first | (with_reducible first | exact (Aside0.out HB1) | apply below_alloc | apply pw_below_drewN | apply below_drew1) | exact (Aside0.out HB1)))) (below_size (by (repeat (first | (with_reducible first | exact (Aside0.out HB1) | apply below_alloc | apply pw_below_drewN | apply below_drew1) | exact (Aside0.out HB1))))) hb); have I1_2 := Aside0.mk (show IsRbr (w2.alloc (Obj.cells #[.pointer (some ⟨rb, 0, none⟩), .slice (some ad) D.length c, .int .u32 x2, .int .u32 t2, .int .u32 v2, .int .u32 c2] 134)) w1.heap.size (.pointer (some ⟨rb, 0, none⟩)) (some ad) D.length c x1 t1 v1 c1 from blk_alloc (blk_below I1_1.out hb) (Obj.cells #[.pointer (some ⟨rb, 0, none⟩), .slice (some ad) D.length c, .int .u32 x2, .int .u32 t2, .int .u32 v2, .int .u32 c2] 134)); clear I1_1; have I2_2 := Aside0.mk (show IsRbr (w2.alloc (Obj.cells #[.pointer (some ⟨rb, 0, none⟩), .slice (some ad) D.length c, .int .u32 x2, .int .u32 t2, .int .u32 v2, .int .u32 c2] 134)) w2.heap.size (.pointer (some ⟨rb, 0, none⟩)) (some ad) D.length c x2 t2 v2 c2 from blk_new w2 _); clear hb)
   | (go_at_call 65; refine (mrbr_any' rb (some ad) c x3 t3 v3 c3 _ _ D (by have := X1.out; have := X2.out; have := X3.out; have := X4.out; have := T1.out; have := T2.out; have := T3.out; have := T4.out; omega) (by have := X1.out; have := X2.out; have := X3.out; have := X4.out; have := T1.out; have := T2.out; have := T3.out; have := T4.out; omega) V3.out C3.out _ (Kd.C_below HD.out (by (repeat (first | (with_reducible first | exact (Aside0.out HB2) | apply below_alloc | apply pw_below_drewN | apply below_drew1) | exact (Aside0.out HB2))))) HB.out (by have := X1.out; have := X2.out; have := X3.out; have := X4.out; have := T1.out; have := T2.out; have := T3.out; have := T4.out; omega) D3.out hl (by have := X1.out; have := X2.out; have := X3.out; have := X4.out; have := T1.out; have := T2.out; have := T3.out; have := T4.out; omega)).mono ?_; rintro e w3 ⟨rfl, hb⟩; have hs3 : w2.heap.size < w3.heap.size := Nat.lt_of_lt_of_le (blk_lt I2_2.out) hb.size; have HB3 := Aside0.mk (below_then (by (repeat (first | (with_reducible first | exact (Aside0.out HB2) | apply below_alloc | apply pw_below_drewN | apply below_drew1) | exact (Aside0.out HB2)))) (below_size (by (repeat (first | (with_reducible first | exact (Aside0.out HB2) | apply below_alloc | apply pw_below_drewN | apply below_drew1) | exact (Aside0.out HB2))))) hb); have I1_3 := Aside0.mk (show IsRbr (w3.alloc (Obj.cells #[.pointer (some ⟨rb, 0, none⟩), .slice (some ad) D.length c, .int .u32 x3, .int .u32 t3, .int .u32 v3, .int .u32 c3] 134)) w1.heap.size (.pointer (some ⟨rb, 0, none⟩)) (some ad) D.length c x1 t1 v1 c1 from blk_alloc (blk_below I1_2.out hb) (Obj.cells #[.pointer (some ⟨rb, 0, none⟩), .slice (some ad) D.length c, .int .u32 x3, .int .u32 t3, .int .u32 v3, .int .u32 c3] 134)); clear I1_2; have I2_3 := Aside0.mk (show IsRbr (w3.alloc (Obj.cells #[.pointer (some ⟨rb, 0, none⟩), .slice (some ad) D.length c, .int .u32 x3, .int .u32 t3, .int .u32 v3, .int .u32 c3] 134)) w2.heap.size (.pointer (some ⟨rb, 0, none⟩)) (some ad) D.length c x2 t2 v2 c2 from blk_alloc (blk_below I2_2.out hb) (Obj.cells #[.pointer (some ⟨rb, 0, none⟩), .slice (some ad) D.length c, .int .u32 x3, .int .u32 t3, .int .u32 v3, .int .u32 c3] 134)); clear I2_2; have I3_3 := Aside0.mk (show IsRbr (w3.alloc (Obj.cells #[.pointer (some ⟨rb, 0, none⟩), .slice (some ad) D.length c, .int .u32 x3, .int .u32 t3, .int .u32 v3, .int .u32 c3] 134)) w3.heap.size (.pointer (some ⟨rb, 0, none⟩)) (some ad) D.length c x3 t3 v3 c3 from blk_new w3 _); clear hb)
   | (go_at_call 65; refine (mrbr_any' rb (some ad) c x4 t4 v4 c4 _ _ D (by have := X1.out; have := X2.out; have := X3.out; have := X4.out; have := T1.out; have := T2.out; have := T3.out; have := T4.out; omega) (by have := X1.out; have := X2.out; have := X3.out; have := X4.out; have := T1.out; have := T2.out; have := T3.out; have := T4.out; omega) V4.out C4.out _ (Kd.C_below HD.out (by (repeat (first | (with_reducible first | exact (Aside0.out HB3) | apply below_alloc | apply pw_below_drewN | apply below_drew1) | exact (Aside0.out HB3))))) HB.out (by have := X1.out; have := X2.out; have := X3.out; have := X4.out; have := T1.out; have := T2.out; have := T3.out; have := T4.out; omega) D4.out hl (by have := X1.out; have := X2.out; have := X3.out; have := X4.out; have := T1.out; have := T2.out; have := T3.out; have := T4.out; omega)).mono ?_; rintro e w4 ⟨rfl, hb⟩; have hs4 : w3.heap.size < w4.heap.size := Nat.lt_of_lt_of_le (blk_lt I3_3.out) hb.size; have HB4 := Aside0.mk (below_then (by (repeat (first | (with_reducible first | exact (Aside0.out HB3) | apply below_alloc | apply pw_below_drewN | apply below_drew1) | exact (Aside0.out HB3)))) (below_size (by (repeat (first | (with_reducible first | exact (Aside0.out HB3) | apply below_alloc | apply pw_below_drewN | apply below_drew1) | exact (Aside0.out HB3))))) hb); have I1_4 := Aside0.mk (show IsRbr (w4.alloc (Obj.cells #[.pointer (some ⟨rb, 0, none⟩), .slice (some ad) D.length c, .int .u32 x4, .int .u32 t4, .int .u32 v4, .int .u32 c4] 134)) w1.heap.size (.pointer (some ⟨rb, 0, none⟩)) (some ad) D.length c x1 t1 v1 c1 from blk_alloc (blk_below I1_3.out hb) (Obj.cells #[.pointer (some ⟨rb, 0, none⟩), .slice (some ad) D.length c, .int .u32 x4, .int .u32 t4, .int .u32 v4, .int .u32 c4] 134)); clear I1_3; have I2_4 := Aside0.mk (show IsRbr (w4.alloc (Obj.cells #[.pointer (some ⟨rb, 0, none⟩), .slice (some ad) D.length c, .int .u32 x4, .int .u32 t4, .int .u32 v4, .int .u32 c4] 134)) w2.heap.size (.pointer (some ⟨rb, 0, none⟩)) (some ad) D.length c x2 t2 v2 c2 from blk_alloc (blk_below I2_3.out hb) (Obj.cells #[.pointer (some ⟨rb, 0, none⟩), .slice (some ad) D.length c, .int .u32 x4, .int .u32 t4, .int .u32 v4, .int .u32 c4] 134)); clear I2_3; have I3_4 := Aside0.mk (show IsRbr (w4.alloc (Obj.cells #[.pointer (some ⟨rb, 0, none⟩), .slice (some ad) D.length c, .int .u32 x4, .int .u32 t4, .int .u32 v4, .int .u32 c4] 134)) w3.heap.size (.pointer (some ⟨rb, 0, none⟩)) (some ad) D.length c x3 t3 v3 c3 from blk_alloc (blk_below I3_3.out hb) (Obj.cells #[.pointer (some ⟨rb, 0, none⟩), .slice (some ad) D.length c, .int .u32 x4, .int .u32 t4, .int .u32 v4, .int .u32 c4] 134)); clear I3_3; have I4_4 := Aside0.mk (show IsRbr (w4.alloc (Obj.cells #[.pointer (some ⟨rb, 0, none⟩), .slice (some ad) D.length c, .int .u32 x4, .int .u32 t4, .int .u32 v4, .int .u32 c4] 134)) w4.heap.size (.pointer (some ⟨rb, 0, none⟩)) (some ad) D.length c x4 t4 v4 c4 from blk_new w4 _); clear hb))
  obtain ⟨go, co, e5, hgb, hgl, cl5, hgc⟩ := Kd.R_form HO5.out (by rw [List.length_replicate]; omega)
  rw [List.length_replicate] at e5
  subst e5
  have FX : Aside0 (Fx b w1.heap.size w2.heap.size w3.heap.size w4.heap.size (w5.heap.size + 1) (w5.heap.size + 1 + 1) w5.heap.size go ad TA D T w) := by
    refine ⟨HD.out, HT.out, HB.out, hb, hl, hTl, hTm, TAB.out, addr_lt HD.out (by omega), ?_, HB1.out.size, hs2, hs3, hs4, ?_, hgl, by omega, by omega⟩
    · rintro a rfl
      exact addr_lt HT.out (by have := Nat.two_pow_pos b; omega)
    · have : (w4.alloc (Obj.cells #[Value.pointer (some ⟨rb, 0, none⟩), Value.slice (some ad) D.length c, Value.int IntKind.u32 ↑x4, Value.int IntKind.u32 ↑t4, Value.int IntKind.u32 ↑v4, Value.int IntKind.u32 ↑c4] 134)).heap.size = w4.heap.size + 1 := by simp
      omega
  have WD : Aside0 (Wd rb c tc b w1.heap.size w2.heap.size w3.heap.size w4.heap.size (w5.heap.size + 1) (w5.heap.size + 1 + 1) w5.heap.size go co N w.heap.size t1 t2 t3 t4 ad TA D T w (top D x1) (top D x2) (top D x3) (top D x4) 0 0 0 0 (List.replicate N 0)
      (((w5.alloc (Obj.cells #[Value.slice TA T.length tc] 74)).alloc (Obj.cells #[Value.int IntKind.u32 ↑b] 87)).alloc (Obj.cells #[Value.int IntKind.u32 ((2 ^ b - 1) % 4294967296)] 87))) := by
    have z1 := start_top HB.out (x := x1) (by have := X1.out; have := X2.out; have := X3.out; have := X4.out; have := T1.out; have := T2.out; have := T3.out; have := T4.out; omega) D1.out V1.out C1.out
    have z2 := start_top HB.out (x := x2) (by have := X1.out; have := X2.out; have := X3.out; have := X4.out; have := T1.out; have := T2.out; have := T3.out; have := T4.out; omega) D2.out V2.out C2.out
    have z3 := start_top HB.out (x := x3) (by have := X1.out; have := X2.out; have := X3.out; have := X4.out; have := T1.out; have := T2.out; have := T3.out; have := T4.out; omega) D3.out V3.out C3.out
    have z4 := start_top HB.out (x := x4) (by have := X1.out; have := X2.out; have := X3.out; have := X4.out; have := T1.out; have := T2.out; have := T3.out; have := T4.out; omega) D4.out V4.out C4.out
    refine ⟨by (repeat (first | (with_reducible first | exact (Aside0.out HB5) | apply below_alloc | apply pw_below_drewN | apply below_drew1) | exact (Aside0.out HB5))), ⟨x1, v1, c1, blk_alloc (blk_alloc (blk_alloc I1_5.out _) _) _, z1.1, Nat.zero_le _, by omega⟩, ⟨x2, v2, c2, blk_alloc (blk_alloc (blk_alloc I2_5.out _) _) _, z2.1, Nat.zero_le _, by omega⟩, ⟨x3, v3, c3, blk_alloc (blk_alloc (blk_alloc I3_5.out _) _) _, z3.1, Nat.zero_le _, by omega⟩, ⟨x4, v4, c4, blk_alloc (blk_alloc (blk_alloc I4_5.out _) _) _, z4.1, Nat.zero_le _, by omega⟩, ?_, ?_, ?_, ?_⟩
    · have := blk_alloc (blk_new (w5.alloc (Obj.cells #[Value.slice TA T.length tc] 74)) (Obj.cells #[Value.int IntKind.u32 ↑b] 87)) (Obj.cells #[Value.int IntKind.u32 ((2 ^ b - 1) % 4294967296)] 87)
      simpa using this
    · have := blk_new ((w5.alloc (Obj.cells #[Value.slice TA T.length tc] 74)).alloc (Obj.cells #[Value.int IntKind.u32 ↑b] 87)) (Obj.cells #[Value.int IntKind.u32 ((2 ^ b - 1) % 4294967296)] 87)
      rw [mask_eq hb] at this ⊢
      simpa using this
    · exact blk_alloc (blk_alloc (blk_new w5 _) _) _
    · exact Kd.R_lower (Kd.R_alloc (Kd.R_alloc (Kd.R_alloc HO5.out _) _) _) (below_size (below_alloc HB4.out _))
  clear HO5 I1_5 I2_5 I3_5 I4_5 q12 q13 hgb hgl hgc HB1 HB2 HB3 HB4 HB5 hs2 hs3 hs4 hs5
  generalize (((w5.alloc (Obj.cells #[Value.slice TA T.length tc] 74)).alloc (Obj.cells #[Value.int IntKind.u32 ↑b] 87)).alloc (Obj.cells #[Value.int IntKind.u32 ((2 ^ b - 1) % 4294967296)] 87)) = wl at WD ⊢
  generalize w5.heap.size + 1 + 1 = h2 at WD FX ⊢
  generalize w5.heap.size + 1 = h1 at WD FX ⊢
  generalize w5.heap.size = h3 at WD FX ⊢
  generalize w4.heap.size = g4 at WD FX ⊢
  generalize w3.heap.size = g3 at WD FX ⊢
  generalize w2.heap.size = g2 at WD FX ⊢
  generalize w1.heap.size = g1 at WD FX ⊢
  generalize (((2 : Int) ^ b % 4294967296 - 1) % 4294967296) = vm
  go_loopg [33, 34, 35, 36, 41] n (fun kq a1 a2 a3 a4 a5 w' => ∃ i j2 j3 j4 : Nat, a1 = .int .i64 i ∧ a2 = .int .i64 j2 ∧ a3 = .int .i64 j3 ∧ a4 = .int .i64 j4 ∧ a5 = .int .i64 i ∧ i + kq = n ∧ Aside0 (j2 = n + i ∧ j3 = n + n + i ∧ j4 = n + n + n + min i (N - 3 * n)) ∧
    ∃ out, Aside0 (Fil D T b n N (top D x1) (top D x2) (top D x3) (top D x4) i out) ∧ Aside0 (Wd rb c tc b g1 g2 g3 g4 h1 h2 h3 go co N w.heap.size t1 t2 t3 t4 ad TA D T w (pos D T b (top D x1) i) (pos D T b (top D x2) i) (pos D T b (top D x3) i) (pos D T b (top D x4) (min i (N - 3 * n))) 0 0 0 0 out w'))
  case atStart => exact ⟨0, n, n + n, n + n + n, rfl, rfl, by go_num, by go_num, rfl, by omega, ⟨rfl, rfl, by simp⟩, List.replicate N 0, ⟨⟨by simp, fun j hj => by omega⟩⟩, by simpa [pos] using WD⟩
  case round =>
    clear WD
    obtain ⟨i, j2, j3, j4, rfl, rfl, rfl, rfl, rfl, hik, HJ, out, HFL, WD⟩ := hrel
    have m4 : min i (N - 3 * n) ≤ i ∧ min i (N - 3 * n) ≤ N - 3 * n := by omega
    by_cases hin : i < n
    · have c1 : ((i : Int) < (n : Int)) := by omega
      obtain ⟨hj2, hj3, hj4⟩ := HJ.out
      have b2 : j2 < N := by omega
      have b3 : j3 < N := by omega
      have b1 : i < N := by omega
      have z1 : (i : Int) < (N : Int) := by omega
      have z2 : (j2 : Int) < (N : Int) := by omega
      have z3 : (j3 : Int) < (N : Int) := by omega
      have z4 : j4 ≤ 800000 := by omega
      clear hj2 hj3 hj4
      by_cases hu4 : 3 * n + i < N
      · have c2 : ((i : Int) < (N : Int) - (n : Int) * 3) := by omega
        have b4 : j4 < N := by obtain ⟨hj2, hj3, hj4⟩ := HJ.out; omega
        have z5 : (j4 : Int) < (N : Int) := by omega
        go_wp2_with (first
          | (go_at_call 66; (with_reducible refine (WD.out.call1 FX.out (by have := HP1.out i hin; have := T1.out; omega)).mono ?_); rintro e w1 ⟨y1, rfl, e1, W1⟩; have E1 := Aside0.mk e1; have WD1 := Aside0.mk W1; have hy1 : y1 ≤ 65535 := e1.2.1; clear e1 W1)
          | (go_at_call 66; (with_reducible refine (WD1.out.call2 FX.out (by have := HP2.out i hin; have := T2.out; omega)).mono ?_); rintro e w2 ⟨y2, rfl, e2, W2⟩; have E2 := Aside0.mk e2; have WD2 := Aside0.mk W2; have hy2 : y2 ≤ 65535 := e2.2.1; clear e2 W2)
          | (go_at_call 66; (with_reducible refine (WD2.out.call3 FX.out (by have := HP3.out i hin; have := T3.out; omega)).mono ?_); rintro e w3 ⟨y3, rfl, e3, W3⟩; have E3 := Aside0.mk e3; have WD3 := Aside0.mk W3; have hy3 : y3 ≤ 65535 := e3.2.1; clear e3 W3)
          | (go_at_call 66; (with_reducible refine (WD3.out.call4 FX.out (by have := HP4.out i hu4; have := T4.out; rw [show min i (N - 3 * n) = i by omega]; omega)).mono ?_); rintro e w4 ⟨y4, rfl, e4, W4⟩; have E4 := Aside0.mk e4; have WD4 := Aside0.mk W4; have hy4 : y4 ≤ 65535 := e4.2.1; clear e4 W4)
          | ((with_reducible refine gate_store (t := 5) (p := 262) (v := .tmp 261) rfl ?_); refine St.R_storeW (Kd.int .u8) (w0 := w) w.heap.size rfl rfl 5 (.tmp 262) (.tmp 261) rfl 5 (g := go) (n := N) (cap := co) (o' := j4) j4 (out) ((y4 : Int) / 256) (.int .u8 ((y4 : Int) / 256)) [.int .u8 ((y4 : Int) / 256)] (fun _ => True) (fun _ => False) rfl (Nat.mul_one _).symm rfl rfl size5 one1 (WD4.out).o b4 rfl rfl (fun _ hk => hk.elim) (WD4.out).below ?_; intro w5 ho hbl hg; have V4 := Aside0.mk ((WD4.out).sto FX.out ho hg); clear ho hbl hg; obtain ⟨k4, qa4, qb4, qc4, qd4, qe⟩ := V4.out.dec4 FX.out; have DD4 := Aside0.mk qe; clear qe; have qf4 : (y4 : Int) % 256 ≤ (k4 : Int) := by have := E4.out.2.2; omega); have qg4 := and255 y4 hy4
          | ((with_reducible refine gate_store (t := 5) (p := 277) (v := .tmp 276) rfl ?_); refine St.R_storeW (Kd.int .u8) (w0 := w) w.heap.size rfl rfl 5 (.tmp 277) (.tmp 276) rfl 5 (g := go) (n := N) (cap := co) (o' := i) i (out.set j4 ((y4 : Int) / 256)) ((y1 : Int) / 256) (.int .u8 ((y1 : Int) / 256)) [.int .u8 ((y1 : Int) / 256)] (fun _ => True) (fun _ => False) rfl (Nat.mul_one _).symm rfl rfl size5 one1 (DD4.out (y4 % 256) ((y4 : Int) % 256) E4.out.2.2 (by omega)).o b1 rfl rfl (fun _ hk => hk.elim) (DD4.out (y4 % 256) ((y4 : Int) % 256) E4.out.2.2 (by omega)).below ?_; intro w6 ho hbl hg; have V1 := Aside0.mk ((DD4.out (y4 % 256) ((y4 : Int) % 256) E4.out.2.2 (by omega)).sto FX.out ho hg); clear ho hbl hg; obtain ⟨k1, qa1, qb1, qc1, qd1, qe⟩ := V1.out.dec1 FX.out; have DD1 := Aside0.mk qe; clear qe; have qf1 : (y1 : Int) % 256 ≤ (k1 : Int) := by have := E1.out.2.2; omega); have qg1 := and255 y1 hy1
          | ((with_reducible refine gate_store (t := 5) (p := 292) (v := .tmp 291) rfl ?_); refine St.R_storeW (Kd.int .u8) (w0 := w) w.heap.size rfl rfl 5 (.tmp 292) (.tmp 291) rfl 5 (g := go) (n := N) (cap := co) (o' := j2) j2 ((out.set j4 ((y4 : Int) / 256)).set i ((y1 : Int) / 256)) ((y2 : Int) / 256) (.int .u8 ((y2 : Int) / 256)) [.int .u8 ((y2 : Int) / 256)] (fun _ => True) (fun _ => False) rfl (Nat.mul_one _).symm rfl rfl size5 one1 (DD1.out (y1 % 256) ((y1 : Int) % 256) E1.out.2.2 (by omega)).o b2 rfl rfl (fun _ hk => hk.elim) (DD1.out (y1 % 256) ((y1 : Int) % 256) E1.out.2.2 (by omega)).below ?_; intro w7 ho hbl hg; have V2 := Aside0.mk ((DD1.out (y1 % 256) ((y1 : Int) % 256) E1.out.2.2 (by omega)).sto FX.out ho hg); clear ho hbl hg; obtain ⟨k2, qa2, qb2, qc2, qd2, qe⟩ := V2.out.dec2 FX.out; have DD2 := Aside0.mk qe; clear qe; have qf2 : (y2 : Int) % 256 ≤ (k2 : Int) := by have := E2.out.2.2; omega); have qg2 := and255 y2 hy2
          | ((with_reducible refine gate_store (t := 5) (p := 307) (v := .tmp 306) rfl ?_); refine St.R_storeW (Kd.int .u8) (w0 := w) w.heap.size rfl rfl 5 (.tmp 307) (.tmp 306) rfl 5 (g := go) (n := N) (cap := co) (o' := j3) j3 (((out.set j4 ((y4 : Int) / 256)).set i ((y1 : Int) / 256)).set j2 ((y2 : Int) / 256)) ((y3 : Int) / 256) (.int .u8 ((y3 : Int) / 256)) [.int .u8 ((y3 : Int) / 256)] (fun _ => True) (fun _ => False) rfl (Nat.mul_one _).symm rfl rfl size5 one1 (DD2.out (y2 % 256) ((y2 : Int) % 256) E2.out.2.2 (by omega)).o b3 rfl rfl (fun _ hk => hk.elim) (DD2.out (y2 % 256) ((y2 : Int) % 256) E2.out.2.2 (by omega)).below ?_; intro w8 ho hbl hg; have V3 := Aside0.mk ((DD2.out (y2 % 256) ((y2 : Int) % 256) E2.out.2.2 (by omega)).sto FX.out ho hg); clear ho hbl hg; obtain ⟨k3, qa3, qb3, qc3, qd3, qe⟩ := V3.out.dec3 FX.out; have DD3 := Aside0.mk qe; clear qe; have qf3 : (y3 : Int) % 256 ≤ (k3 : Int) := by have := E3.out.2.2; omega); have qg3 := and255 y3 hy3)
        obtain ⟨m, rfl⟩ : ∃ m, gk = m + 1 := ⟨gk - 1, by omega⟩
        go_roundg m
        case rel =>
          have hF := HFL.out.step4 hin hu4
          have hW := DD3.out (y3 % 256) ((y3 : Int) % 256) E3.out.2.2 (by omega)
          obtain ⟨hj2, hj3, hj4⟩ := HJ.out
          have hm0 : min i (N - 3 * n) = i := by omega
          have hm1 : min (i + 1) (N - 3 * n) = i + 1 := by omega
          have e4 := E4.out.1
          rw [hm0] at hj4 hW e4
          rw [sym_step E1.out.1, sym_step E2.out.1, sym_step E3.out.1, sym_step e4, ← hj2, ← hj3, ← hj4] at hF
          rw [pos_step E1.out.1, pos_step E2.out.1, pos_step E3.out.1, pos_step e4] at hW
          refine ⟨i + 1, j2 + 1, j3 + 1, j4 + 1, by go_num, by go_num, by go_num, by go_num, by go_num, by omega, ⟨by omega, by omega, by omega⟩, _, ⟨hF⟩, ?_⟩
          rw [hm1]
          exact ⟨hW⟩
        case measure => omega
      · have c2 : ¬ ((i : Int) < (N : Int) - (n : Int) * 3) := by omega
        go_wp2_with (first
          | (go_at_call 66; (with_reducible refine (WD.out.call1 FX.out (by have := HP1.out i hin; have := T1.out; omega)).mono ?_); rintro e w1 ⟨y1, rfl, e1, W1⟩; have E1 := Aside0.mk e1; have WD1 := Aside0.mk W1; have hy1 : y1 ≤ 65535 := e1.2.1; clear e1 W1)
          | (go_at_call 66; (with_reducible refine (WD1.out.call2 FX.out (by have := HP2.out i hin; have := T2.out; omega)).mono ?_); rintro e w2 ⟨y2, rfl, e2, W2⟩; have E2 := Aside0.mk e2; have WD2 := Aside0.mk W2; have hy2 : y2 ≤ 65535 := e2.2.1; clear e2 W2)
          | (go_at_call 66; (with_reducible refine (WD2.out.call3 FX.out (by have := HP3.out i hin; have := T3.out; omega)).mono ?_); rintro e w3 ⟨y3, rfl, e3, W3⟩; have E3 := Aside0.mk e3; have WD3 := Aside0.mk W3; have hy3 : y3 ≤ 65535 := e3.2.1; clear e3 W3)
          | ((with_reducible refine gate_store (t := 5) (p := 277) (v := .tmp 276) rfl ?_); refine St.R_storeW (Kd.int .u8) (w0 := w) w.heap.size rfl rfl 5 (.tmp 277) (.tmp 276) rfl 5 (g := go) (n := N) (cap := co) (o' := i) i (out) ((y1 : Int) / 256) (.int .u8 ((y1 : Int) / 256)) [.int .u8 ((y1 : Int) / 256)] (fun _ => True) (fun _ => False) rfl (Nat.mul_one _).symm rfl rfl size5 one1 (WD3.out).o b1 rfl rfl (fun _ hk => hk.elim) (WD3.out).below ?_; intro w6 ho hbl hg; have V1 := Aside0.mk ((WD3.out).sto FX.out ho hg); clear ho hbl hg; obtain ⟨k1, qa1, qb1, qc1, qd1, qe⟩ := V1.out.dec1 FX.out; have DD1 := Aside0.mk qe; clear qe; have qf1 : (y1 : Int) % 256 ≤ (k1 : Int) := by have := E1.out.2.2; omega); have qg1 := and255 y1 hy1
          | ((with_reducible refine gate_store (t := 5) (p := 292) (v := .tmp 291) rfl ?_); refine St.R_storeW (Kd.int .u8) (w0 := w) w.heap.size rfl rfl 5 (.tmp 292) (.tmp 291) rfl 5 (g := go) (n := N) (cap := co) (o' := j2) j2 ((out).set i ((y1 : Int) / 256)) ((y2 : Int) / 256) (.int .u8 ((y2 : Int) / 256)) [.int .u8 ((y2 : Int) / 256)] (fun _ => True) (fun _ => False) rfl (Nat.mul_one _).symm rfl rfl size5 one1 (DD1.out (y1 % 256) ((y1 : Int) % 256) E1.out.2.2 (by omega)).o b2 rfl rfl (fun _ hk => hk.elim) (DD1.out (y1 % 256) ((y1 : Int) % 256) E1.out.2.2 (by omega)).below ?_; intro w7 ho hbl hg; have V2 := Aside0.mk ((DD1.out (y1 % 256) ((y1 : Int) % 256) E1.out.2.2 (by omega)).sto FX.out ho hg); clear ho hbl hg; obtain ⟨k2, qa2, qb2, qc2, qd2, qe⟩ := V2.out.dec2 FX.out; have DD2 := Aside0.mk qe; clear qe; have qf2 : (y2 : Int) % 256 ≤ (k2 : Int) := by have := E2.out.2.2; omega); have qg2 := and255 y2 hy2
          | ((with_reducible refine gate_store (t := 5) (p := 307) (v := .tmp 306) rfl ?_); refine St.R_storeW (Kd.int .u8) (w0 := w) w.heap.size rfl rfl 5 (.tmp 307) (.tmp 306) rfl 5 (g := go) (n := N) (cap := co) (o' := j3) j3 (((out).set i ((y1 : Int) / 256)).set j2 ((y2 : Int) / 256)) ((y3 : Int) / 256) (.int .u8 ((y3 : Int) / 256)) [.int .u8 ((y3 : Int) / 256)] (fun _ => True) (fun _ => False) rfl (Nat.mul_one _).symm rfl rfl size5 one1 (DD2.out (y2 % 256) ((y2 : Int) % 256) E2.out.2.2 (by omega)).o b3 rfl rfl (fun _ hk => hk.elim) (DD2.out (y2 % 256) ((y2 : Int) % 256) E2.out.2.2 (by omega)).below ?_; intro w8 ho hbl hg; have V3 := Aside0.mk ((DD2.out (y2 % 256) ((y2 : Int) % 256) E2.out.2.2 (by omega)).sto FX.out ho hg); clear ho hbl hg; obtain ⟨k3, qa3, qb3, qc3, qd3, qe⟩ := V3.out.dec3 FX.out; have DD3 := Aside0.mk qe; clear qe; have qf3 : (y3 : Int) % 256 ≤ (k3 : Int) := by have := E3.out.2.2; omega); have qg3 := and255 y3 hy3)
        obtain ⟨m, rfl⟩ : ∃ m, gk = m + 1 := ⟨gk - 1, by omega⟩
        go_roundg m
        case rel =>
          have hF := HFL.out.step3 hin hN hu4
          have hW := DD3.out (y3 % 256) ((y3 : Int) % 256) E3.out.2.2 (by omega)
          obtain ⟨hj2, hj3, hj4⟩ := HJ.out
          have hm0 : min i (N - 3 * n) = N - 3 * n := by omega
          have hm1 : min (i + 1) (N - 3 * n) = N - 3 * n := by omega
          rw [hm0] at hj4 hW
          rw [sym_step E1.out.1, sym_step E2.out.1, sym_step E3.out.1, ← hj2, ← hj3] at hF
          rw [pos_step E1.out.1, pos_step E2.out.1, pos_step E3.out.1] at hW
          refine ⟨i + 1, j2 + 1, j3 + 1, j4, by go_num, by go_num, by go_num, by go_num, by go_num, by omega, ⟨by omega, by omega, by omega⟩, _, ⟨hF⟩, ?_⟩
          rw [hm1]
          exact ⟨hW⟩
        case measure => omega
    · have c1 : ¬ ((i : Int) < (n : Int)) := by omega
      obtain rfl : i = n := by omega
      go_wp2_with (fail)
      go_ret2
      exact ⟨_, rfl, out, WD.out.o, WD.out.below, HFL.out⟩
end Go.Proofs.YtopadgohinoomaaDoor.Cx
