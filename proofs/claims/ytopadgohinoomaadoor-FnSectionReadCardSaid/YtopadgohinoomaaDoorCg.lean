/-
Walk of readLiteralsOneStream where the stream holds what is asked for.
-/
import Derived.Test.YtopadgohinoomaaDoorCf
namespace Go.Proofs.YtopadgohinoomaaDoor.Cx
open Go.RowKit Go.Proofs.YtopadgohinoomaaDoorW.PrintWords Go.Proofs.YtopadgohinoomaaDoorW.PrintLast Go.Proofs.YtopadgohinoomaaDoorW.PrintMore Go.Proofs.YtopadgohinoomaaDoor.PC
attribute [local go_sem] max2_int min2_int max_two min_two max_three min_three max_four min_four
set_option linter.unusedVariables false
set_option linter.unusedSimpArgs false
theorem Rdr.grown' {rp : Value} {A : Option Addr} {c : Nat} {D : List Int} {g t q m : Nat} {w w' : World} {row : Option Nat} (h : Rdr rp A c D g t q m w) (hg : w.grownBy w' row) (hne : some g ≠ row) : Rdr rp A c D g t q m w' := by
  obtain ⟨x, v, k, h1, h2⟩ := h
  exact ⟨x, v, k, blk_grown h1 hg hne, h2⟩
theorem mask_eq2 {b : Nat} (hb : b ≤ 11) : ((2 : Int) ^ b % 4294967296 - 1) % 4294967296 = ((2 ^ b - 1 : Nat) : Int) := by
  have h3 : 2 ^ b ≤ 2 ^ 11 := Nat.pow_le_pow_right (by decide) hb
  have h4 := Nat.two_pow_pos b
  have h5 : ((2 ^ b : Nat) : Int) = (2 : Int) ^ b := by rw [Int.natCast_pow]; rfl
  rw [← h5]
  omega
structure Od (rb g t c tc b N : Nat) (ad : Addr) (TA : Option Addr) (D T : List Int) (w0 : World) (q m : Nat) (v : Value) (out : List Int) (w : World) : Prop where
  below : Below w0.heap.size w0 w
  r : Rdr (.pointer (some ⟨rb, 0, none⟩)) (some ad) c D g t q m w
  o : Kd.R (Kd.int .u8) 5 w (g + 1) (fun _ => True) v out
def PostO (D T : List Int) (b N p : Nat) (w : World) (e : Ending) (w' : World) : Prop := ∃ v0, e = .returned (.tuple #[v0, .nilIface]) ∧ Kd.R (Kd.int .u8) 5 w' w.heap.size (fun _ => True) v0 ((List.range N).map (sym D T b p)) ∧ Below w.heap.size w w'
theorem Od.put {rb g t c tc b N : Nat} {ad : Addr} {TA : Option Addr} {D T : List Int} {w0 : World} {q m : Nat} {v v1 : Value} {out out1 : List Int} {w w1 : World} (h : Od rb g t c tc b N ad TA D T w0 q m v out w) (h0 : w0.heap.size ≤ g)
    (ho : Kd.R (Kd.int .u8) 5 w1 (g + 1) (fun _ => True) v1 out1) (hg : w.grownBy w1 v.ownBlock) : Od rb g t c tc b N ad TA D T w0 q m v1 out1 w1 :=
  ⟨pw_below_grown h.below _ h.below.size hg (fun k hk => by have := Kd.R_base h.o k hk; omega), h.r.grown' hg (fun e => by have := Kd.R_base h.o g e.symm; omega), ho⟩
theorem Od.fetch {rb g t c tc b N : Nat} {ad : Addr} {TA : Option Addr} {D T : List Int} {w0 : World} {q m : Nat} {v : Value} {out : List Int} {w : World} (h : Od rb g t c tc b N ad TA D T w0 q m v out w) (h0 : w0.heap.size ≤ g)
    (hD : Kd.C (Kd.int .u8) w0 (some ad) D.length D) (hT : Kd.C (Kd.int .u16) w0 TA T.length T) (hB : Bytes D) (hb : b ≤ 11) (hl : D.length ≤ 2000000) (hTl : 2 ^ b ≤ T.length)
    (tab : ∀ i, i < 2 ^ b → 0 ≤ T.getD i 0 ∧ T.getD i 0 ≤ 65535 ∧ (T.getD i 0).toNat % 256 ≤ b) (hp : 8 * t + b ≤ q) (hlD : 0 < D.length) :
    Calls Tryd.prog 67 #[.pointer (some ⟨g, 0, none⟩), .int .u8 b] w fun e w' => e = .returned (.bool true) ∧ ∃ x k y i : Nat, ∃ ta : Addr, TA = some ta ∧ look D q b = i ∧ i < T.length ∧ T.getD i 0 = (y : Int) ∧ y ≤ 65535 ∧ y % 256 ≤ b ∧ b ≤ k ∧ k ≤ 24 ∧
      Go.bits BinOp.and IntKind.u32 ((x : Int) / 2 ^ (k - b)) ((2 ^ b - 1 : Nat) : Int) = (i : Int) ∧ w'.cell? ⟨g, 4, none⟩ = some (.int .u32 x) ∧ w'.cell? ⟨g, 5, none⟩ = some (.int .u32 k) ∧ w'.cell? (ta.add i) = some (.int .u16 y) ∧
      Od rb g t c tc b N ad TA D T w0 q b v out w' := by
  obtain ⟨x, u, n, hI, hR, hm, hn⟩ := h.r
  have hDw := Kd.C_below hD h.below
  have hTw := Kd.C_below hT h.below
  have had := addr_lt hD hlD
  have hlk := look_lt D q b
  have hpw := Nat.two_pow_pos b
  have hft : ∀ a, TA = some a → a.block ≠ g := by
    rintro a rfl
    have := addr_lt hT (by omega)
    omega
  refine (fetch_any g (.pointer (some ⟨rb, 0, none⟩)) (some ad) c t b q x u n D w hI hDw (fun a ha => by cases ha; omega) hB hR (by omega) hn hp hl).mono ?_
  rintro e w' ⟨rfl, x1, u1, n1, hI1, hR1, hb1, hn1, hg⟩
  obtain ⟨ta, e1, hlt', hat⟩ := at_data hTw hft (look D q b) (by omega)
  have ht := tab _ hlk
  refine ⟨rfl, u1, n1, (T.getD (look D q b) 0).toNat, look D q b, ta, e1, rfl, by omega, by rw [Int.toNat_of_nonneg ht.1], by omega, ht.2.2, hb1, hn1, idx_eq hB hR1 hb1 hb, blk_cell hI1 4, blk_cell hI1 5, ?_, ?_⟩
  · rw [Int.toNat_of_nonneg ht.1]
    exact hat _ hg
  · exact ⟨pw_below_grown h.below (some g) h.below.size hg (fun k hk => by cases hk; omega), ⟨x1, u1, n1, hI1, hR1, hb1, hn1⟩, Kd.R_grown1 h.o rfl hg (fun e => by have := Kd.R_base h.o g e.symm; omega)⟩
theorem Od.dec {rb g t c tc b N : Nat} {ad : Addr} {TA : Option Addr} {D T : List Int} {w0 : World} {q : Nat} {v : Value} {out : List Int} {w : World} (h : Od rb g t c tc b N ad TA D T w0 q b v out w) (h0 : w0.heap.size ≤ g) :
    ∃ n : Nat, w.cell? ⟨g, 5, none⟩ = some (.int .u32 n) ∧ w.frozen? ⟨g, 5, none⟩ = false ∧ b ≤ n ∧ n ≤ 24 ∧ ∀ (d : Nat) (z : Int), d ≤ b → z = (d : Int) → Od rb g t c tc b N ad TA D T w0 (q - d) 0 v out (w.setCell ⟨g, 5, none⟩ (.int .u32 ((n : Int) - z))) := by
  obtain ⟨x, u, n, hI, hR, hm, hn⟩ := h.r
  refine ⟨n, blk_cell hI 5, blk_frozen hI 5, hm, hn, fun d z hd hz => ?_⟩
  subst hz
  have hg : w.grownBy (w.setCell ⟨g, 5, none⟩ (.int .u32 ((n : Int) - (d : Int)))) (some g) := grown_one w ⟨g, 5, none⟩ (.int .u32 ((n : Int) - (d : Int)))
  have hI1 : IsRbr (w.setCell ⟨g, 5, none⟩ (.int .u32 ((n : Int) - (d : Int)))) g (.pointer (some ⟨rb, 0, none⟩)) (some ad) D.length c x t u (n - d) := by
    unfold IsRbr
    rw [show ((n - d : Nat) : Int) = (n : Int) - (d : Int) by omega]
    exact blk_set hI 5 _
  exact ⟨pw_below_grown h.below (some g) h.below.size hg (fun k hk => by cases hk; omega), ⟨x, u, n - d, hI1, hR.take d (by omega), Nat.zero_le _, by omega⟩, Kd.R_grown1 h.o rfl hg (fun e => by have := Kd.R_base h.o g e.symm; omega)⟩
theorem range_step (f : Nat → Int) (i : Nat) : (List.range i).map f ++ [f i] = (List.range (i + 1)).map f := by
  rw [List.range_succ, List.map_append]; rfl
theorem oneM (w : World) (base : Nat) (x : Int) : (Kd.int .u8).M w base (fun _ => False) x [Value.int .u8 x] := rfl

set_option maxHeartbeats 8000000 in
set_option maxRecDepth 100000 in
theorem one_any (rb : Nat) (ad : Addr) (TA : Option Addr) (c tc b off total N x1 : Nat) (D T : List Int) (w : World)
    (hr12 : w.cell? ⟨rb, 12, none⟩ = some (.slice TA T.length tc)) (hr13 : w.cell? ⟨rb, 13, none⟩ = some (.int .i64 b))
    (hD : Kd.C (Kd.int .u8) w (some ad) D.length D) (hT : Kd.C (Kd.int .u16) w TA T.length T) (hB : Bytes D)
    (h2 : 2 ≤ off) (hx : x1 + 1 = off + total) (hNm : N ≤ 200000) (hb : b ≤ 11) (tab : ∀ i, i < 2 ^ b → 0 ≤ T.getD i 0 ∧ T.getD i 0 ≤ 65535 ∧ (T.getD i 0).toNat % 256 ≤ b) (hl : D.length ≤ 2000000) (hTl : 2 ^ b ≤ T.length) (hTm : T.length ≤ 2000000) (hol : off + total ≤ D.length)
    (d1 : D.getD x1 0 ≠ 0) (P1 : ∀ i, i < N → 8 * (off - 2) + b ≤ pos D T b (top D x1) i) :
    Calls Tryd.prog 77 #[.pointer (some ⟨rb, 0, none⟩), .slice (some ad) D.length c, .int .i64 off, .int .i64 total, .int .i64 N, .slice none 0 0] w (PostO D T b N (top D x1) w) := by
  have hu := Tryd.underlying134
  have hu32 := Tryd.underlying32
  obtain ⟨t1, ht1⟩ : ∃ x, x + 2 = off := ⟨off - 2, by omega⟩
  obtain ⟨v1, hv1⟩ : ∃ x, (D.getD x1 0).toNat = x := ⟨_, rfl⟩
  obtain ⟨c1, hc1⟩ : ∃ x, Nat.log2 v1 = x := ⟨_, rfl⟩
  have T1 := Aside0.mk ht1
  have X1 := Aside0.mk hx
  have V1 := Aside0.mk hv1
  have C1 := Aside0.mk hc1
  have D1 := Aside0.mk d1
  have TAB := Aside0.mk tab
  have HP1 := Aside0.mk P1
  have HD := Aside0.mk hD
  have HT := Aside0.mk hT
  have HB := Aside0.mk hB
  have HBL := Aside0.mk (Below.refl w.heap.size w)
  have HR12 := Aside0.mk hr12
  have HR13 := Aside0.mk hr13
  clear ht1 hx hv1 hc1 d1 tab P1 hD hT hB hr12 hr13
  go_enter Tryd.func77, Tryd.ntmps77
  go_wp2_with (first
   | (go_at_call 65; refine (mrbr_any' rb (some ad) c x1 t1 v1 c1 _ _ D (by have := X1.out; omega) (by have := T1.out; omega) V1.out C1.out _ (Kd.C_below HD.out (by (repeat (first | (with_reducible first | exact (Aside0.out HBL) | apply below_alloc | apply pw_below_drewN | apply below_drew1) | exact (Aside0.out HBL))))) HB.out (by have := X1.out; omega) D1.out hl (by have := T1.out; omega)).mono ?_; rintro e w1 ⟨rfl, hb1⟩; have HB1 := Aside0.mk (below_then (by (repeat (first | (with_reducible first | exact (Aside0.out HBL) | apply below_alloc | apply pw_below_drewN | apply below_drew1) | exact (Aside0.out HBL)))) (below_size (by (repeat (first | (with_reducible first | exact (Aside0.out HBL) | apply below_alloc | apply pw_below_drewN | apply below_drew1) | exact (Aside0.out HBL))))) hb1); have I1 := Aside0.mk (show IsRbr (w1.alloc (Obj.cells #[.pointer (some ⟨rb, 0, none⟩), .slice (some ad) D.length c, .int .u32 x1, .int .u32 t1, .int .u32 v1, .int .u32 c1] 134)) w1.heap.size (.pointer (some ⟨rb, 0, none⟩)) (some ad) D.length c x1 t1 v1 c1 from blk_new w1 _); have q12 : ∀ o, (w1.alloc o).cell? ⟨rb, 12, none⟩ = some (.slice TA T.length tc) := fun o => pw_cell_below (below_alloc HB1.out o) HR12.out; have q13 : ∀ o, (w1.alloc o).cell? ⟨rb, 13, none⟩ = some (.int .i64 b) := fun o => pw_cell_below (below_alloc HB1.out o) HR13.out; clear hb1))
  rw [mask_eq2 hb]
  have OD : Aside0 (Od rb w1.heap.size t1 c tc b N ad TA D T w (top D x1) 0 (.slice none 0 0) ((List.range 0).map (sym D T b (top D x1))) (w1.alloc (Obj.cells #[.pointer (some ⟨rb, 0, none⟩), .slice (some ad) D.length c, .int .u32 x1, .int .u32 t1, .int .u32 v1, .int .u32 c1] 134))) := by
    have z1 := start_top HB.out (x := x1) (by have := X1.out; omega) D1.out V1.out C1.out
    exact ⟨⟨below_alloc HB1.out _, ⟨x1, v1, c1, I1.out, z1.1, Nat.zero_le _, by omega⟩, Kd.R_nil _ _ _ _ _⟩⟩
  have hg0 : w.heap.size ≤ w1.heap.size := HB1.out.size
  clear I1 q12 q13 HB1
  generalize (w1.alloc (Obj.cells #[.pointer (some ⟨rb, 0, none⟩), .slice (some ad) D.length c, .int .u32 x1, .int .u32 t1, .int .u32 v1, .int .u32 c1] 134)) = wl at OD ⊢
  generalize w1.heap.size = g1 at OD hg0 ⊢
  obtain ⟨vm, hvm⟩ : ∃ vm : Int, ((2 ^ b - 1 : Nat) : Int) = vm := ⟨_, rfl⟩
  rw [hvm]
  have VM := Aside0.mk hvm
  clear hvm
  go_loopg [5, 19] N (fun kq a1 a2 w' => ∃ i : Nat, a2 = .int .i64 i ∧ i + kq = N ∧ Aside0 (Od rb g1 t1 c tc b N ad TA D T w (pos D T b (top D x1) i) 0 a1 ((List.range i).map (sym D T b (top D x1))) w'))
  case atStart => exact ⟨0, rfl, by omega, OD⟩
  case round =>
    clear OD
    obtain ⟨i, rfl, hik, OD⟩ := hrel
    by_cases hin : i < N
    · have c1 : ((i : Int) < (N : Int)) := by omega
      go_wp2_with (first
        | (go_at_call 67; refine (OD.out.fetch hg0 HD.out HT.out HB.out hb hl hTl TAB.out (by have := HP1.out i hin; have := T1.out; omega) (by omega)).mono ?_; rintro e w2 ⟨rfl, x, k, y, j, ta, hta, hj, hjl, hy, hyl, hyb, hbk, hk24, hix, q4, q5, qt, od2⟩; have hjl2 : (j : Int) < (T.length : Int) := (by omega); have YJ := Aside0.mk (show T.getD (look D (pos D T b (top D x1) i) b) 0 = (y : Int) by rw [hj]; exact hy); have OD2 := Aside0.mk od2; subst hta; rw [VM.out] at hix; have qa := and255 y hyl; have YB := Aside0.mk hyb; clear hj hy od2 hyb)
        | ((with_reducible refine gate_dst (N := 77) rfl ?_); refine Kd.R_append (Kd.int .u8) (w0 := w2) (g1 + 1) rfl (.tmp 72) (.tmp 76) 32 5 (.int .u8 0) 1 rfl hu32 info5z rfl (by decide) (by decide) _ _ ((y : Int) / 256) [.int .u8 ((y : Int) / 256)] (fun _ => True) (fun _ => False) rfl rfl (oneM _ _ _) (fun _ hk => hk.elim) (fun _ _ => trivial) OD2.out.o (Below.refl _ _) (Nat.succ_le_of_lt OD2.out.r.lt) ?m3 ?_; (case m3 => (rw [List.length_map, List.length_range]; omega)); intro v3 w3 ho hbl hg hat; have OD3 := Aside0.mk (OD2.out.put hg0 ho hg); obtain ⟨k3, qa3, qb3, qc3, qd3, qe⟩ := OD3.out.dec hg0; have DD := Aside0.mk qe; have qf : (y : Int) % 256 ≤ (k3 : Int) := (by have := YB.out; omega); clear ho hbl hg hat qe))
      obtain ⟨m, rfl⟩ : ∃ m, gk = m + 1 := ⟨gk - 1, by omega⟩
      go_roundg m
      case rel =>
        have hW := DD.out (y % 256) ((y : Int) % 256) YB.out (by omega)
        rw [pos_step YJ.out] at hW
        rw [← sym_step YJ.out, range_step] at hW
        exact ⟨i + 1, by go_num, by omega, ⟨hW⟩⟩
      case measure => omega
    · have c1 : ¬ ((i : Int) < (N : Int)) := by omega
      obtain rfl : i = N := by omega
      go_wp2_with (fail)
      go_ret2
      exact ⟨_, rfl, Kd.R_lower OD.out.o (by omega), OD.out.below⟩
end Go.Proofs.YtopadgohinoomaaDoor.Cx
