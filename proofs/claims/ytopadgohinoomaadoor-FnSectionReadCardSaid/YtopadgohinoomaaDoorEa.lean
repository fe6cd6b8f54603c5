/-
Walk of readHuffLiterals.
Walks of readLiterals, ZZLiterals and impl.Literals; the literals that are refused for want of a table.
Walk of impl.Literals, in the form of a printed contract.
-/
import Derived.Test.YtopadgohinoomaaDoorCm
import Derived.IntWalk
import Derived.Test.YtopadgohinoomaaDoorCj
import Derived.Test.YtopadgohinoomaaDoorSa
namespace Go.Proofs.YtopadgohinoomaaDoor.Cx
open Go.RowKit Go.Proofs.YtopadgohinoomaaDoorW.PrintWords Go.Proofs.YtopadgohinoomaaDoorW.PrintLast Go.Proofs.YtopadgohinoomaaDoorW.PrintMore Go.Proofs.YtopadgohinoomaaDoor.PC
attribute [local go_sem] max2_int min2_int max_two min_two max_three min_three max_four min_four
set_option linter.unusedVariables false
set_option linter.unusedSimpArgs false
theorem or_add (a b k : Nat) (ha : a < 2 ^ k) (hb : a + b * 2 ^ k < 4611686018427387904) : Go.bits BinOp.or IntKind.i64 (a : Int) ((b * 2 ^ k : Nat) : Int) = ((a + b * 2 ^ k : Nat) : Int) := by
  have h1 : a ||| b * 2 ^ k = a + b * 2 ^ k := by
    rw [Nat.or_comm, ← Nat.shiftLeft_eq, ← Nat.shiftLeft_add_eq_or_of_lt ha, Nat.add_comm]
  have key : (BitVec.ofInt 64 (a : Int) ||| BitVec.ofInt 64 ((b * 2 ^ k : Nat) : Int)).toNat = a ||| b * 2 ^ k := by
    rw [BitVec.toNat_or, BitVec.toNat_ofInt, BitVec.toNat_ofInt]
    generalize b * 2 ^ k = y at hb
    congr 1 <;> omega
  show IntKind.i64.wrap ((BitVec.ofInt 64 (a : Int) ||| BitVec.ofInt 64 ((b * 2 ^ k : Nat) : Int)).toNat : Nat) = _
  rw [key, h1, IntKind.wrap_i64]
  generalize b * 2 ^ k = y at hb
  omega
theorem and_mask (x k : Nat) (h : x < 4611686018427387904) (m : Int) (hm : (BitVec.ofInt 64 m).toNat = 2 ^ k - 1) (hk : 2 ^ k ≤ 4611686018427387904) : Go.bits BinOp.and IntKind.i64 (x : Int) m = ((x % 2 ^ k : Nat) : Int) := by
  have key : (BitVec.ofInt 64 (x : Int) &&& BitVec.ofInt 64 m).toNat = ((x : Int) % ((2 ^ 64 : Nat) : Int)).toNat % 2 ^ k := by
    rw [BitVec.toNat_and, BitVec.toNat_ofInt, hm, Nat.and_two_pow_sub_one_eq_mod]
  show IntKind.i64.wrap ((BitVec.ofInt 64 (x : Int) &&& BitVec.ofInt 64 m).toNat : Nat) = _
  rw [key, IntKind.wrap_i64, show ((x : Int) % ((2 ^ 64 : Nat) : Int)).toNat = x by omega]
  have := Nat.mod_lt x (Nat.two_pow_pos k)
  generalize x % 2 ^ k = y at this
  omega
theorem and_u8_3 : ∀ x : Nat, x < 256 → Go.bits BinOp.and IntKind.u8 (x : Int) 3 = ((x % 4 : Nat) : Int) := by decide +kernel
/-- What the header of literals with codes tells: how many literals, how many bytes, the place behind, the streams. -/
def formN (f h d0 d1 : Nat) : Nat := if f ≤ 1 then h / 16 + d0 % 64 * 16 else if f = 2 then h / 16 + d0 * 16 + d1 % 4 * 4096 else h / 16 + d0 * 16 + d1 % 64 * 4096
def formC (f d0 d1 d2 d3 : Nat) : Nat := if f ≤ 1 then d0 / 64 + d1 * 4 else if f = 2 then d1 / 4 + d2 * 64 else d1 / 64 + d2 * 4 + d3 * 1024
def formO (f o : Nat) : Nat := if f ≤ 1 then o + 2 else if f = 2 then o + 3 else o + 4
def formS (f : Nat) : Nat := if f = 0 then 1 else 4
/-- All that one_any asks. -/
structure OneOk (D T : List Int) (b off total N : Nat) : Prop where
  hB : Bytes D
  hl : D.length ≤ 2000000
  hb : b ≤ 11
  tab : Tab T b
  hTl : 2 ^ b ≤ T.length
  hTm : T.length ≤ 2000000
  h2 : 2 ≤ off
  hp : 1 ≤ total
  hNm : N ≤ 200000
  hol : off + total ≤ D.length
  d1 : D.getD (off + total - 1) 0 ≠ 0
  P1 : ∀ i, i < N → 8 * (off - 2) + b ≤ pos D T b (top D (off + total - 1)) i
/-- One stream or four, and the literals that they hold. -/
def StrOk (D T : List Int) (b off total N st : Nat) (res : List Int) : Prop :=
  (st = 1 ∧ OneOk D T b off total N ∧ res = (List.range N).map (sym D T b (top D (off + total - 1)))) ∨ (st = 4 ∧ FourOk D T b off total N ∧ res = fourRes D T b off total N)
theorem StrOk.one {D T : List Int} {b off total N : Nat} {res : List Int} (h : StrOk D T b off total N 1 res) : OneOk D T b off total N ∧ res = (List.range N).map (sym D T b (top D (off + total - 1))) := by
  rcases h with ⟨_, h1, h2⟩ | ⟨e, _, _⟩
  · exact ⟨h1, h2⟩
  · omega
theorem StrOk.four {D T : List Int} {b off total N : Nat} {res : List Int} (h : StrOk D T b off total N 4 res) : FourOk D T b off total N ∧ res = fourRes D T b off total N := by
  rcases h with ⟨e, _, _⟩ | ⟨_, h1, h2⟩
  · omega
  · exact ⟨h1, h2⟩
def PostHL (res : List Int) (roff : Nat) (w0 : World) (e : Ending) (w' : World) : Prop := ∃ v0, e = .returned (.tuple #[.int .i64 roff, v0, .nilIface]) ∧ Kd.R (Kd.int .u8) 5 w' w0.heap.size (fun _ => True) v0 res ∧ Below w0.heap.size w0 w'
/-- The literals with the table of the block ahead. -/
def Again (D T : List Int) (h b o2 C N st : Nat) (res : List Int) : Prop := h % 4 = 3 ∧ 0 < b ∧ StrOk D T b o2 C N st res
/-- The literals with their own table ahead: m weights of four bits, and the last one. -/
structure Told (D : List Int) (h b o2 C N st m last : Nat) (res : List Int) (L : List Nat) : Prop where
  kind : h % 4 = 2
  hB : Bytes D
  h0 : D.getD o2 0 = ((127 + m : Nat) : Int)
  hm : 0 < m
  hm2 : m ≤ 128
  hlen : L.length = m
  hnib : ∀ j, j < m → nib D o2 j = (L.getD j 0 : Nat)
  h11 : ∀ j, j < m → L.getD j 0 ≤ 11
  hb : b ≤ 11
  hb0 : 0 < b
  hlast : 0 < last
  hsum : wsum L + 2 ^ (last - 1) = 2 ^ b
  hlow : 2 ^ (b - 1) ≤ wsum L
  heven : (L ++ [last]).count 1 % 2 = 0
  h2 : 2 ≤ (L ++ [last]).count 1
  room : o2 + 1 + (m + 1) / 2 < D.length
  le : 1 + (m + 1) / 2 ≤ C
  str : ∀ tab, Fills (L ++ [last]) b (L ++ [last]).length tab → StrOk D tab b (o2 + 1 + (m + 1) / 2) (C - (1 + (m + 1) / 2)) N st res
theorem one_ok (rb : Nat) (ad : Addr) (TA : Option Addr) (c tc b off total N : Nat) (D T : List Int) (w : World) (h : OneOk D T b off total N)
    (hr12 : w.cell? ⟨rb, 12, none⟩ = some (.slice TA T.length tc)) (hr13 : w.cell? ⟨rb, 13, none⟩ = some (.int .i64 b))
    (hD : Kd.C (Kd.int .u8) w (some ad) D.length D) (hT : Kd.C (Kd.int .u16) w TA T.length T) :
    Calls Tryd.prog 77 #[.pointer (some ⟨rb, 0, none⟩), .slice (some ad) D.length c, .int .i64 off, .int .i64 total, .int .i64 N, .slice none 0 0] w (PostO D T b N (top D (off + total - 1)) w) := by
  obtain ⟨hB, hl, hb, tab, hTl, hTm, h2, hp, hNm, hol, d1, P1⟩ := h
  exact one_any rb ad TA c tc b off total N (off + total - 1) D T w hr12 hr13 hD hT hB h2 (by omega) hNm hb tab hl hTl hTm hol d1 P1
set_option maxHeartbeats 2000000 in
set_option maxRecDepth 100000 in
theorem huffLit_any (rb gt ct : Nat) (ad : Addr) (c b b' o h d0 d1 d2 d3 N C o2 st f m last : Nat) (L : List Nat) (D T res : List Int) (w0 w : World) (hD : Kd.C (Kd.int .u8) w0 (some ad) D.length D) (hb : Below w0.heap.size w0 w) (hr : IsRd rb (.slice (some ⟨gt, 0, none⟩) 2048 ct) b w0.heap.size T w) (hrb0 : w0.heap.size ≤ rb) (hl : D.length ≤ 2000000) (ho : o + 3 < D.length) (hh : h < 256)
   (hd0 : D.getD o 0 = (d0 : Int)) (hd1 : D.getD (o + 1) 0 = (d1 : Int)) (hd2 : D.getD (o + 2) 0 = (d2 : Int)) (hd3 : D.getD (o + 3) 0 = (d3 : Int)) (b0 : d0 ≤ 255) (b1 : d1 ≤ 255) (b2 : d2 ≤ 255) (b3 : d3 ≤ 255)
   (hf : h / 4 % 4 = f) (eN : formN f h d0 d1 = N) (eC : formC f d0 d1 d2 d3 = C) (eO : formO f o = o2) (eS : formS f = st) (hN : N ≤ 131072) (hC : o2 + C ≤ D.length) (hc : D.length ≤ c) (hK : Again D T h b o2 C N st res ∨ Told D h b' o2 C N st m last res L) :
    Calls Tryd.prog 70 #[.pointer (some ⟨rb, 0, none⟩), .slice (some ad) D.length c, .int .i64 o, .int .u8 h, .slice none 0 0] w (PostHL res (o2 + C) w0) := by
  have hDw := fun n => Kd.C_below hD (pw_below_drewN hb n)
  have hc0 : ∀ j (x : Nat), j < D.length → D.getD j 0 = (x : Int) → ∀ n, (w.drewN n).cell? (ad.add j) = some (.int .u8 x) := fun j x hj e n => by
    have := data_at hD j hj (pw_below_drewN hb n)
    rw [e] at this
    exact this
  have q0 := hc0 o d0 (by omega) hd0
  have q1 := hc0 (o + 1) d1 (by omega) hd1
  have q2 := hc0 (o + 2) d2 (by omega) hd2
  have q3 := hc0 (o + 3) d3 (by omega) hd3
  have Q := Aside0.mk (And.intro q0 (And.intro q1 (And.intro q2 q3)))
  have HD := Aside0.mk hD
  have HF := Aside0.mk hf
  have HC := Aside0.mk hc
  have HB := Aside0.mk hb
  have HR := Aside0.mk hr
  have EE := Aside0.mk (And.intro eN (And.intro eC (And.intro eO eS)))
  have HK := Aside0.mk hK
  have hf3 : f ≤ 3 := by omega
  clear hc q0 q1 q2 q3 hd0 hd1 hd2 hd3 hD hf hc0 hDw hb hr eN eC eO eS hK
  go_enter Tryd.func70, Tryd.ntmps70
  go_upto_block 0 with (fail)
  go_cut [13, 14, 15, 2] (fun v13 v14 v15 v2 wc => v13 = .int .i64 (formN f h d0 d1 : Nat) ∧ v14 = .int .i64 (formC f d0 d1 d2 d3 : Nat) ∧ v15 = .int .i64 (formS f : Nat) ∧ v2 = .int .i64 (formO f o : Nat) ∧ ∃ n, wc = w.drewN n)
  case first =>
    obtain ⟨q0, q1, q2, q3⟩ := Q.out
    have q0' : w.cell? (ad.add o) = some (.int .u8 d0) := q0 0
    have q1' : w.cell? { block := ad.block, off := ad.off + (o + 1) } = some (.int .u8 d1) := q1 0
    have q2' : w.cell? { block := ad.block, off := ad.off + (o + 2) } = some (.int .u8 d2) := q2 0
    have q3' : w.cell? { block := ad.block, off := ad.off + (o + 3) } = some (.int .u8 d3) := q3 0
    have u1 : IntKind.i64.wrap ((o : Int) + 1) = (o : Int) + 1 := IntWalk.i64_in _ (by omega)
    have u2 : IntKind.i64.wrap ((o : Int) + 2) = (o : Int) + 2 := IntWalk.i64_in _ (by omega)
    have u3 : IntKind.i64.wrap ((o : Int) + 3) = (o : Int) + 3 := IntWalk.i64_in _ (by omega)
    have t1 : ((o : Int) + 1).toNat = o + 1 := by omega
    have t2 : ((o : Int) + 2).toNat = o + 2 := by omega
    have t3 : ((o : Int) + 3).toNat = o + 3 := by omega
    have g0 : (o : Int) < (D.length : Int) := by omega
    have g1 : (o : Int) + 1 < (D.length : Int) := by omega
    have g2 : (o : Int) + 2 < (D.length : Int) := by omega
    have g3 : (o : Int) + 3 < (D.length : Int) := by omega
    have p1 : 0 ≤ (o : Int) + 1 := by omega
    have p2 : 0 ≤ (o : Int) + 2 := by omega
    have p3 : 0 ≤ (o : Int) + 3 := by omega
    have qf : Go.bits BinOp.and IntKind.u8 ((h : Int) / 4) 3 = (f : Int) := by
      have := and_u8_3 (h / 4) (by omega)
      rw [HF.out] at this
      exact this
    have a1 : Go.bits BinOp.and IntKind.i64 (d0 : Int) 63 = (d0 : Int) % 64 := (and_mask d0 6 (by omega) 63 (by decide) (by decide)).trans (by omega)
    have a2 : Go.bits BinOp.and IntKind.i64 (d1 : Int) 63 = (d1 : Int) % 64 := (and_mask d1 6 (by omega) 63 (by decide) (by decide)).trans (by omega)
    have a3 : Go.bits BinOp.and IntKind.i64 (d1 : Int) 3 = (d1 : Int) % 4 := (and_mask d1 2 (by omega) 3 (by decide) (by decide)).trans (by omega)
    rcases (show f = 0 ∨ f = 1 ∨ f = 2 ∨ f = 3 by omega) with rfl | rfl | rfl | rfl
    · have r1 : Go.bits BinOp.or IntKind.i64 ((h : Int) / 16) ((d0 : Int) % 64 * 16) = ((h / 16 + d0 % 64 * 16 : Nat) : Int) := or_add (h / 16) (d0 % 64) 4 (by omega) (by omega)
      have r2 : Go.bits BinOp.or IntKind.i64 ((d0 : Int) / 64) ((d1 : Int) * 4) = ((d0 / 64 + d1 * 4 : Nat) : Int) := or_add (d0 / 64) d1 2 (by omega) (by omega)
      have qf' : Go.bits BinOp.and IntKind.u8 ((h : Int) / 4) 3 = 0 := qf
      go_wp2_with (fail)
      go_quiet (fail)
      go_wp2_with (fail)
      go_meet
      case rel => exact ⟨by simp [formN], by simp [formC], by simp [formS], by simp [formO], _, rfl⟩
    · have r1 : Go.bits BinOp.or IntKind.i64 ((h : Int) / 16) ((d0 : Int) % 64 * 16) = ((h / 16 + d0 % 64 * 16 : Nat) : Int) := or_add (h / 16) (d0 % 64) 4 (by omega) (by omega)
      have r2 : Go.bits BinOp.or IntKind.i64 ((d0 : Int) / 64) ((d1 : Int) * 4) = ((d0 / 64 + d1 * 4 : Nat) : Int) := or_add (d0 / 64) d1 2 (by omega) (by omega)
      have qf' : Go.bits BinOp.and IntKind.u8 ((h : Int) / 4) 3 = 1 := qf
      go_wp2_with (fail)
      go_quiet (fail)
      go_wp2_with (fail)
      go_meet
      case rel => exact ⟨by simp [formN], by simp [formC], by simp [formS], by simp [formO], _, rfl⟩
    · have r1 : Go.bits BinOp.or IntKind.i64 ((h : Int) / 16) ((d0 : Int) * 16) = (h : Int) / 16 + (d0 : Int) * 16 := or_add (h / 16) d0 4 (by omega) (by omega)
      have r3 : Go.bits BinOp.or IntKind.i64 ((h : Int) / 16 + (d0 : Int) * 16) ((d1 : Int) % 4 * 4096) = (h : Int) / 16 + (d0 : Int) * 16 + (d1 : Int) % 4 * 4096 := or_add (h / 16 + d0 * 16) (d1 % 4) 12 (by omega) (by omega)
      have r2 : Go.bits BinOp.or IntKind.i64 ((d1 : Int) / 4) ((d2 : Int) * 64) = (d1 : Int) / 4 + (d2 : Int) * 64 := or_add (d1 / 4) d2 6 (by omega) (by omega)
      have qf' : Go.bits BinOp.and IntKind.u8 ((h : Int) / 4) 3 = 2 := qf
      go_wp2_with (fail)
      go_quiet (fail)
      go_wp2_with (fail)
      go_quiet (fail)
      go_wp2_with (fail)
      go_meet
      case rel => exact ⟨by simp [formN], by simp [formC], by simp [formS], by simp [formO], _, rfl⟩
    · have r1 : Go.bits BinOp.or IntKind.i64 ((h : Int) / 16) ((d0 : Int) * 16) = (h : Int) / 16 + (d0 : Int) * 16 := or_add (h / 16) d0 4 (by omega) (by omega)
      have r3 : Go.bits BinOp.or IntKind.i64 ((h : Int) / 16 + (d0 : Int) * 16) ((d1 : Int) % 64 * 4096) = (h : Int) / 16 + (d0 : Int) * 16 + (d1 : Int) % 64 * 4096 := or_add (h / 16 + d0 * 16) (d1 % 64) 12 (by omega) (by omega)
      have r2 : Go.bits BinOp.or IntKind.i64 ((d1 : Int) / 64) ((d2 : Int) * 4) = (d1 : Int) / 64 + (d2 : Int) * 4 := or_add (d1 / 64) d2 2 (by omega) (by omega)
      have r4 : Go.bits BinOp.or IntKind.i64 ((d1 : Int) / 64 + (d2 : Int) * 4) ((d3 : Int) * 1024) = (d1 : Int) / 64 + (d2 : Int) * 4 + (d3 : Int) * 1024 := or_add (d1 / 64 + d2 * 4) d3 10 (by omega) (by omega)
      have qf' : Go.bits BinOp.and IntKind.u8 ((h : Int) / 4) 3 = 3 := qf
      go_wp2_with (fail)
      go_quiet (fail)
      go_wp2_with (fail)
      go_quiet (fail)
      go_wp2_with (fail)
      go_meet
      case rel => exact ⟨by simp [formN], by simp [formC], by simp [formS], by simp [formO], _, rfl⟩
  case rest =>
    obtain ⟨rfl, rfl, rfl, rfl, n, rfl⟩ := hcut
    rw [EE.out.1, EE.out.2.1, EE.out.2.2.1, EE.out.2.2.2]
    have HBx := Aside0.mk (pw_below_drewN HB.out n)
    have HRx := Aside0.mk (IsRd.mk (blk_drewN HR.out.blk n) (Kd.R_drewN HR.out.tab n))
    generalize w.drewN n = wx at HBx HRx ⊢
    clear HB HR Q
    have c1 : ¬ ((131072 : Int) < (N : Int)) := by omega
    have c2 : ¬ ((D.length : Int) < (o2 : Int) + (C : Int)) := by omega
    have c3 : ¬ ((o2 : Int) + (C : Int) < 0) := by omega
    have HT := Aside0.mk (Kd.R_reads' HRx.out.tab)
    have r13 : wx.cell? ⟨rb, 13, none⟩ = some (.int .i64 b) := (blk_cell HRx.out.blk 13).trans rfl
    have tb : w0.heap.size ≤ wx.heap.size := HBx.out.size
    have tl : T.length = 2048 := HT.out.1.symm
    have r12 : wx.cell? ⟨rb, 12, none⟩ = some (.slice (some ⟨gt, 0, none⟩) T.length ct) := (blk_cell HRx.out.blk 12).trans (by rw [tl]; rfl)
    have R12 := Aside0.mk r12
    have R13 := Aside0.mk r13
    have TB := Aside0.mk tb
    clear tl r12 tb
    rcases HK.out with hg | hg
    · have HG := Aside0.mk hg
      clear hg
      have qh : Go.bits BinOp.and IntKind.u8 (h : Int) 3 = 3 := (and_u8_3 h hh).trans (by have := HG.out.1; omega)
      have hbn : ((b : Int) == 0) = false := by have := HG.out.2.1; simp; omega
      rcases HG.out.2.2 with ⟨rfl, h1, rfl⟩ | ⟨rfl, h4, rfl⟩
      · have H1 := Aside0.mk h1
        clear h1
        go_wp2_with (first
          | (go_at_call 77; refine (one_ok rb ad (some ⟨gt, 0, none⟩) c ct b o2 C N D T wx H1.out R12.out R13.out (Kd.C_below HD.out HBx.out) HT.out.2.2).mono ?_; rintro e w2 ⟨v2, rfl, ho2, hb2⟩; have HO2 := Aside0.mk (Kd.R_lower ho2 TB.out); have HB2 := Aside0.mk (below_then HBx.out TB.out hb2); clear ho2 hb2))
        refine bodyPost_ret (v := .tuple #[.int .i64 ((o2 + C : Nat) : Int), v2, .nilIface]) (by simp [results, Tryd.results70, go_sem]) rfl ?_
        exact ⟨v2, rfl, HO2.out, HB2.out⟩
      · have H4 := Aside0.mk h4
        clear h4
        go_wp2_with (first
          | (go_at_call 56; refine (four_ok rb (some ad) (some ⟨gt, 0, none⟩) c ct b o2 C N D T wx H4.out R12.out R13.out (Kd.C_below HD.out HBx.out) HC.out HT.out.2.2).mono ?_; rintro e w2 ⟨v2, rfl, ho2, hb2⟩; have HO2 := Aside0.mk (Kd.R_lower ho2 TB.out); have HB2 := Aside0.mk (below_then HBx.out TB.out hb2); clear ho2 hb2))
        refine bodyPost_ret (v := .tuple #[.int .i64 ((o2 + C : Nat) : Int), v2, .nilIface]) (by simp [results, Tryd.results70, go_sem]) rfl ?_
        exact ⟨v2, rfl, HO2.out, HB2.out⟩
    · have HG := Aside0.mk hg
      clear hg
      obtain ⟨hf, hhf⟩ : ∃ hf, o2 + 1 + (m + 1) / 2 = hf := ⟨_, rfl⟩
      have HHF := Aside0.mk hhf
      have qh : Go.bits BinOp.and IntKind.u8 (h : Int) 3 = 2 := (and_u8_3 h hh).trans (by have := HG.out.kind; omega)
      have hf1 : o2 ≤ hf := by omega
      have hf2 : hf - o2 ≤ C := by have := HG.out.le; omega
      have hf3' : hf ≤ 2000000 := by have := HG.out.room; omega
      have hrb : rb ≠ gt := by
        intro e
        exact HRx.out.tab.1 gt rfl e.symm
      have r12 : wx.cell? ⟨rb, 12, none⟩ = some (.slice (some ⟨gt, 0, none⟩) 2048 ct) := (blk_cell HRx.out.blk 12).trans rfl
      have hbd := HG.out.hb
      have hst : st = 1 ∨ st = 4 := by
        have := EE.out.2.2.2
        unfold formS at this
        by_cases e : f = 0
        · rw [if_pos e] at this; omega
        · rw [if_neg e] at this; omega
      have STR := Aside0.mk (show ∀ tab, Fills (L ++ [last]) b' (L ++ [last]).length tab → StrOk D tab b' hf (C - (hf - o2)) N st res by
        intro tab ht
        have := HG.out.str tab ht
        rw [show o2 + 1 + (m + 1) / 2 = hf from hhf, show 1 + (m + 1) / 2 = hf - o2 by omega] at this
        exact this)
      have HRB := Aside0.mk hrb
      have HX := Aside0.mk (show (C : Int) - ((hf : Int) - (o2 : Int)) = ((C - (hf - o2) : Nat) : Int) by omega)
      clear hhf
      rcases hst with rfl | rfl
      · go_wp2_with (first
          | (go_at_call 62; refine (huff_any rb gt ct w0.heap.size m b' last o2 ad c D T L wx (Kd.C_below HD.out HBx.out) HG.out.hB hl HRx.out.tab HG.out.h0 HG.out.hm HG.out.hm2 HG.out.room HG.out.hlen HG.out.hnib HG.out.h11 HG.out.hb HG.out.hb0 HG.out.hlast HG.out.hsum HG.out.hlow HG.out.heven HG.out.h2).mono ?_; rintro e w2 ⟨rfl, tab, ht2, hfl, hg2⟩; rw [HHF.out]; have hbk2 := blk_grown HRx.out.blk hg2 (fun e => HRB.out (Option.some.inj e)); have s13 : w2.cell? ⟨rb, 13, none⟩ = some (.int .i64 b) := (blk_cell hbk2 13).trans rfl; have f13 : w2.frozen? ⟨rb, 13, none⟩ = false := blk_frozen hbk2 13; have HR3 := Aside0.mk (IsRd.mk (blk_put hbk2 13 (.int .i64 (b' : Int)) rfl) (Kd.R_far ht2 (p := ⟨rb, 13, none⟩) (fun k hk => hk) (.int .i64 (b' : Int)))); have HB3 := Aside0.mk ((pw_below_grown HBx.out (some gt) TB.out hg2 (fun k hk => by have := Kd.R_base HRx.out.tab k hk; exact this)).setCell (p := ⟨rb, 13, none⟩) hrb0 (.int .i64 (b' : Int))); have HS := Aside0.mk (STR.out tab hfl); clear hbk2 ht2 hfl hg2)
          | (go_at_call 77; rw [HX.out]; obtain ⟨tl, tc, tC⟩ := Kd.R_reads' HR3.out.tab; have h1 := HS.out.one; refine (one_ok rb ad (some ⟨gt, 0, none⟩) c ct b' hf (C - (hf - o2)) N D tab _ h1.1 ((blk_cell HR3.out.blk 12).trans (by rw [← tl]; rfl)) ((blk_cell HR3.out.blk 13).trans rfl) (Kd.C_below HD.out HB3.out) tC).mono ?_; rintro e w4 ⟨v4, rfl, ho4, hb4⟩; have HO4 := Aside0.mk (Kd.R_lower ho4 HB3.out.size); have HB4 := Aside0.mk (below_then HB3.out HB3.out.size hb4); have HE := Aside0.mk h1.2; clear ho4 hb4 h1 tl tc tC))
        refine bodyPost_ret (v := .tuple #[.int .i64 ((o2 + C : Nat) : Int), v4, .nilIface]) (by simp [results, Tryd.results70, go_sem]) rfl ?_
        exact ⟨v4, rfl, by rw [HE.out]; exact HO4.out, HB4.out⟩
      · go_wp2_with (first
          | (go_at_call 62; refine (huff_any rb gt ct w0.heap.size m b' last o2 ad c D T L wx (Kd.C_below HD.out HBx.out) HG.out.hB hl HRx.out.tab HG.out.h0 HG.out.hm HG.out.hm2 HG.out.room HG.out.hlen HG.out.hnib HG.out.h11 HG.out.hb HG.out.hb0 HG.out.hlast HG.out.hsum HG.out.hlow HG.out.heven HG.out.h2).mono ?_; rintro e w2 ⟨rfl, tab, ht2, hfl, hg2⟩; rw [HHF.out]; have hbk2 := blk_grown HRx.out.blk hg2 (fun e => HRB.out (Option.some.inj e)); have s13 : w2.cell? ⟨rb, 13, none⟩ = some (.int .i64 b) := (blk_cell hbk2 13).trans rfl; have f13 : w2.frozen? ⟨rb, 13, none⟩ = false := blk_frozen hbk2 13; have HR3 := Aside0.mk (IsRd.mk (blk_put hbk2 13 (.int .i64 (b' : Int)) rfl) (Kd.R_far ht2 (p := ⟨rb, 13, none⟩) (fun k hk => hk) (.int .i64 (b' : Int)))); have HB3 := Aside0.mk ((pw_below_grown HBx.out (some gt) TB.out hg2 (fun k hk => by have := Kd.R_base HRx.out.tab k hk; exact this)).setCell (p := ⟨rb, 13, none⟩) hrb0 (.int .i64 (b' : Int))); have HS := Aside0.mk (STR.out tab hfl); clear hbk2 ht2 hfl hg2)
          | (go_at_call 56; rw [HX.out]; obtain ⟨tl, tc, tC⟩ := Kd.R_reads' HR3.out.tab; have h1 := HS.out.four; refine (four_ok rb (some ad) (some ⟨gt, 0, none⟩) c ct b' hf (C - (hf - o2)) N D tab _ h1.1 ((blk_cell HR3.out.blk 12).trans (by rw [← tl]; rfl)) ((blk_cell HR3.out.blk 13).trans rfl) (Kd.C_below HD.out HB3.out) HC.out tC).mono ?_; rintro e w4 ⟨v4, rfl, ho4, hb4⟩; have HO4 := Aside0.mk (Kd.R_lower ho4 HB3.out.size); have HB4 := Aside0.mk (below_then HB3.out HB3.out.size hb4); have HE := Aside0.mk h1.2; clear ho4 hb4 h1 tl tc tC))
        refine bodyPost_ret (v := .tuple #[.int .i64 ((o2 + C : Nat) : Int), v4, .nilIface]) (by simp [results, Tryd.results70, go_sem]) rfl ?_
        exact ⟨v4, rfl, by rw [HE.out]; exact HO4.out, HB4.out⟩
end Go.Proofs.YtopadgohinoomaaDoor.Cx
namespace Go.Proofs.YtopadgohinoomaaDoor.Cx
open Go.RowKit Go.Proofs.YtopadgohinoomaaDoorW.PrintWords Go.Proofs.YtopadgohinoomaaDoorW.PrintLast Go.Proofs.YtopadgohinoomaaDoorW.PrintMore Go.Proofs.YtopadgohinoomaaDoor.PC Go.Proofs.YtopadgohinoomaaDoor.St
attribute [local go_sem] max2_int min2_int max_two min_two max_three min_three max_four min_four
set_option linter.unusedVariables false
set_option linter.unusedSimpArgs false
def PostNo (w0 : World) (e : Ending) (w' : World) : Prop := ∃ p, e = .returned (.tuple #[.int .i64 0, .slice none 0 0, .iface 152 (.pointer (some p))]) ∧ Below w0.heap.size w0 w'
set_option maxHeartbeats 2000000 in
set_option maxRecDepth 100000 in
theorem huffNone_any (rb : Nat) (v : Value) (ad : Addr) (c o h d0 d1 d2 d3 N C o2 f : Nat) (D T : List Int) (w0 w : World) (hE : Eof w0) (hD : Kd.C (Kd.int .u8) w0 (some ad) D.length D) (hb : Below w0.heap.size w0 w) (hr : IsRd rb v 0 w0.heap.size T w) (hl : D.length ≤ 2000000) (ho : o + 3 < D.length) (hh : h < 256)
   (hd0 : D.getD o 0 = (d0 : Int)) (hd1 : D.getD (o + 1) 0 = (d1 : Int)) (hd2 : D.getD (o + 2) 0 = (d2 : Int)) (hd3 : D.getD (o + 3) 0 = (d3 : Int)) (b0 : d0 ≤ 255) (b1 : d1 ≤ 255) (b2 : d2 ≤ 255) (b3 : d3 ≤ 255)
   (hf : h / 4 % 4 = f) (eN : formN f h d0 d1 = N) (eC : formC f d0 d1 d2 d3 = C) (eO : formO f o = o2) (hN : N ≤ 131072) (hC : o2 + C ≤ D.length) (hk : h % 4 = 3) :
    Calls Tryd.prog 70 #[.pointer (some ⟨rb, 0, none⟩), .slice (some ad) D.length c, .int .i64 o, .int .u8 h, .slice none 0 0] w (PostNo w0) := by
  have hDw := fun n => Kd.C_below hD (pw_below_drewN hb n)
  have hc0 : ∀ j (x : Nat), j < D.length → D.getD j 0 = (x : Int) → ∀ n, (w.drewN n).cell? (ad.add j) = some (.int .u8 x) := fun j x hj e n => by
    have := data_at hD j hj (pw_below_drewN hb n)
    rw [e] at this
    exact this
  have q0 := hc0 o d0 (by omega) hd0
  have q1 := hc0 (o + 1) d1 (by omega) hd1
  have q2 := hc0 (o + 2) d2 (by omega) hd2
  have q3 := hc0 (o + 3) d3 (by omega) hd3
  have Q := Aside0.mk (And.intro q0 (And.intro q1 (And.intro q2 q3)))
  have HD := Aside0.mk hD
  have HF := Aside0.mk hf
  have HB := Aside0.mk hb
  have HR := Aside0.mk hr
  have EE := Aside0.mk (And.intro eN (And.intro eC eO))
  have HE := Aside0.mk hE
  have hf3 : f ≤ 3 := by omega
  clear hE q0 q1 q2 q3 hd0 hd1 hd2 hd3 hD hf hc0 hDw hb hr eN eC eO
  go_enter Tryd.func70, Tryd.ntmps70
  go_upto_block 0 with (fail)
  go_cut [13, 14, 15, 2] (fun v13 v14 v15 v2 wc => v13 = .int .i64 (formN f h d0 d1 : Nat) ∧ v14 = .int .i64 (formC f d0 d1 d2 d3 : Nat) ∧ v15 = .int .i64 (formS f : Nat) ∧ v2 = .int .i64 (formO f o : Nat) ∧ ∃ n, wc = w.drewN n)
  case first =>
    obtain ⟨q0, q1, q2, q3⟩ := Q.out
    have q0' : w.cell? (ad.add o) = some (.int .u8 d0) := q0 0
    have q1' : w.cell? { block := ad.block, off := ad.off + (o + 1) } = some (.int .u8 d1) := q1 0
    have q2' : w.cell? { block := ad.block, off := ad.off + (o + 2) } = some (.int .u8 d2) := q2 0
    have q3' : w.cell? { block := ad.block, off := ad.off + (o + 3) } = some (.int .u8 d3) := q3 0
    have u1 : IntKind.i64.wrap ((o : Int) + 1) = (o : Int) + 1 := IntWalk.i64_in _ (by omega)
    have u2 : IntKind.i64.wrap ((o : Int) + 2) = (o : Int) + 2 := IntWalk.i64_in _ (by omega)
    have u3 : IntKind.i64.wrap ((o : Int) + 3) = (o : Int) + 3 := IntWalk.i64_in _ (by omega)
    have t1 : ((o : Int) + 1).toNat = o + 1 := by omega
    have t2 : ((o : Int) + 2).toNat = o + 2 := by omega
    have t3 : ((o : Int) + 3).toNat = o + 3 := by omega
    have g0 : (o : Int) < (D.length : Int) := by omega
    have g1 : (o : Int) + 1 < (D.length : Int) := by omega
    have g2 : (o : Int) + 2 < (D.length : Int) := by omega
    have g3 : (o : Int) + 3 < (D.length : Int) := by omega
    have p1 : 0 ≤ (o : Int) + 1 := by omega
    have p2 : 0 ≤ (o : Int) + 2 := by omega
    have p3 : 0 ≤ (o : Int) + 3 := by omega
    have qf : Go.bits BinOp.and IntKind.u8 ((h : Int) / 4) 3 = (f : Int) := by
      have := and_u8_3 (h / 4) (by omega)
      rw [HF.out] at this
      exact this
    have a1 : Go.bits BinOp.and IntKind.i64 (d0 : Int) 63 = (d0 : Int) % 64 := (and_mask d0 6 (by omega) 63 (by decide) (by decide)).trans (by omega)
    have a2 : Go.bits BinOp.and IntKind.i64 (d1 : Int) 63 = (d1 : Int) % 64 := (and_mask d1 6 (by omega) 63 (by decide) (by decide)).trans (by omega)
    have a3 : Go.bits BinOp.and IntKind.i64 (d1 : Int) 3 = (d1 : Int) % 4 := (and_mask d1 2 (by omega) 3 (by decide) (by decide)).trans (by omega)
    rcases (show f = 0 ∨ f = 1 ∨ f = 2 ∨ f = 3 by omega) with rfl | rfl | rfl | rfl
    · have r1 : Go.bits BinOp.or IntKind.i64 ((h : Int) / 16) ((d0 : Int) % 64 * 16) = ((h / 16 + d0 % 64 * 16 : Nat) : Int) := or_add (h / 16) (d0 % 64) 4 (by omega) (by omega)
      have r2 : Go.bits BinOp.or IntKind.i64 ((d0 : Int) / 64) ((d1 : Int) * 4) = ((d0 / 64 + d1 * 4 : Nat) : Int) := or_add (d0 / 64) d1 2 (by omega) (by omega)
      have qf' : Go.bits BinOp.and IntKind.u8 ((h : Int) / 4) 3 = 0 := qf
      go_wp2_with (fail)
      go_quiet (fail)
      go_wp2_with (fail)
      go_meet
      case rel => exact ⟨by simp [formN], by simp [formC], by simp [formS], by simp [formO], _, rfl⟩
    · have r1 : Go.bits BinOp.or IntKind.i64 ((h : Int) / 16) ((d0 : Int) % 64 * 16) = ((h / 16 + d0 % 64 * 16 : Nat) : Int) := or_add (h / 16) (d0 % 64) 4 (by omega) (by omega)
      have r2 : Go.bits BinOp.or IntKind.i64 ((d0 : Int) / 64) ((d1 : Int) * 4) = ((d0 / 64 + d1 * 4 : Nat) : Int) := or_add (d0 / 64) d1 2 (by omega) (by omega)
      have qf' : Go.bits BinOp.and IntKind.u8 ((h : Int) / 4) 3 = 1 := qf
      go_wp2_with (fail)
      go_quiet (fail)
      go_wp2_with (fail)
      go_meet
      case rel => exact ⟨by simp [formN], by simp [formC], by simp [formS], by simp [formO], _, rfl⟩
    · have r1 : Go.bits BinOp.or IntKind.i64 ((h : Int) / 16) ((d0 : Int) * 16) = (h : Int) / 16 + (d0 : Int) * 16 := or_add (h / 16) d0 4 (by omega) (by omega)
      have r3 : Go.bits BinOp.or IntKind.i64 ((h : Int) / 16 + (d0 : Int) * 16) ((d1 : Int) % 4 * 4096) = (h : Int) / 16 + (d0 : Int) * 16 + (d1 : Int) % 4 * 4096 := or_add (h / 16 + d0 * 16) (d1 % 4) 12 (by omega) (by omega)
      have r2 : Go.bits BinOp.or IntKind.i64 ((d1 : Int) / 4) ((d2 : Int) * 64) = (d1 : Int) / 4 + (d2 : Int) * 64 := or_add (d1 / 4) d2 6 (by omega) (by omega)
      have qf' : Go.bits BinOp.and IntKind.u8 ((h : Int) / 4) 3 = 2 := qf
      go_wp2_with (fail)
      go_quiet (fail)
      go_wp2_with (fail)
      go_quiet (fail)
      go_wp2_with (fail)
      go_meet
      case rel => exact ⟨by simp [formN], by simp [formC], by simp [formS], by simp [formO], _, rfl⟩
    · have r1 : Go.bits BinOp.or IntKind.i64 ((h : Int) / 16) ((d0 : Int) * 16) = (h : Int) / 16 + (d0 : Int) * 16 := or_add (h / 16) d0 4 (by omega) (by omega)
      have r3 : Go.bits BinOp.or IntKind.i64 ((h : Int) / 16 + (d0 : Int) * 16) ((d1 : Int) % 64 * 4096) = (h : Int) / 16 + (d0 : Int) * 16 + (d1 : Int) % 64 * 4096 := or_add (h / 16 + d0 * 16) (d1 % 64) 12 (by omega) (by omega)
      have r2 : Go.bits BinOp.or IntKind.i64 ((d1 : Int) / 64) ((d2 : Int) * 4) = (d1 : Int) / 64 + (d2 : Int) * 4 := or_add (d1 / 64) d2 2 (by omega) (by omega)
      have r4 : Go.bits BinOp.or IntKind.i64 ((d1 : Int) / 64 + (d2 : Int) * 4) ((d3 : Int) * 1024) = (d1 : Int) / 64 + (d2 : Int) * 4 + (d3 : Int) * 1024 := or_add (d1 / 64 + d2 * 4) d3 10 (by omega) (by omega)
      have qf' : Go.bits BinOp.and IntKind.u8 ((h : Int) / 4) 3 = 3 := qf
      go_wp2_with (fail)
      go_quiet (fail)
      go_wp2_with (fail)
      go_quiet (fail)
      go_wp2_with (fail)
      go_meet
      case rel => exact ⟨by simp [formN], by simp [formC], by simp [formS], by simp [formO], _, rfl⟩
  case rest =>
    obtain ⟨rfl, rfl, rfl, rfl, n, rfl⟩ := hcut
    rw [EE.out.1, EE.out.2.1, EE.out.2.2]
    have HBx := Aside0.mk (pw_below_drewN HB.out n)
    have HRx := Aside0.mk (IsRd.mk (blk_drewN HR.out.blk n) (Kd.R_drewN HR.out.tab n))
    generalize w.drewN n = wx at HBx HRx ⊢
    clear HB HR Q
    have c1 : ¬ ((131072 : Int) < (N : Int)) := by omega
    have c2 : ¬ ((D.length : Int) < (o2 : Int) + (C : Int)) := by omega
    have c3 : ¬ ((o2 : Int) + (C : Int) < 0) := by omega
    have r13 : wx.cell? ⟨rb, 13, none⟩ = some (.int .i64 0) := (blk_cell HRx.out.blk 13).trans rfl
    have qh : Go.bits BinOp.and IntKind.u8 (h : Int) 3 = 3 := (and_u8_3 h hh).trans (by omega)
    have HI := Aside0.mk (show IsReader wx rb from ⟨_, 0, HRx.out.blk, rfl⟩)
    have HEx := Aside0.mk (HE.out.below HBx.out)
    go_wp2_with (first
      | (go_at_call 61; refine (makeError_any rb _ _ _ HEx.out HI.out).mono ?_; rintro e w2 ⟨p, rfl, hb2⟩; have HB2 := Aside0.mk (below_then HBx.out HBx.out.size hb2); clear hb2))
    refine bodyPost_ret (v := .tuple #[.int .i64 0, .slice none 0 0, .iface 152 (.pointer (some p))]) (by simp [results, Tryd.results70, go_sem]) rfl ?_
    exact ⟨p, rfl, HB2.out⟩
/-- A byte as a natural number. -/
def dN (D : List Int) (i : Nat) : Nat := (D.getD i 0).toNat
theorem dN_get {D : List Int} (hB : Bytes D) (i : Nat) : D.getD i 0 = (dN D i : Int) ∧ dN D i ≤ 255 := by
  have := hB.get i
  unfold dN
  omega
/-- The header of literals with codes at a place: how many literals, how many bytes, the place behind it, the streams. -/
structure Hdr (D : List Int) (off N C o2 st : Nat) : Prop where
  hB : Bytes D
  hl : D.length ≤ 2000000
  ho : off + 4 < D.length
  eN : formN (dN D off / 4 % 4) (dN D off) (dN D (off + 1)) (dN D (off + 1 + 1)) = N
  eC : formC (dN D off / 4 % 4) (dN D (off + 1)) (dN D (off + 1 + 1)) (dN D (off + 1 + 2)) (dN D (off + 1 + 3)) = C
  eO : formO (dN D off / 4 % 4) (off + 1) = o2
  eS : formS (dN D off / 4 % 4) = st
  hN : N ≤ 131072
  hC : o2 + C ≤ D.length
set_option maxHeartbeats 2000000 in
set_option maxRecDepth 100000 in
theorem readLit_any (rb gt ct : Nat) (ad : Addr) (c off b b' N C o2 st m last : Nat) (L : List Nat) (D T res : List Int) (w0 w : World) (hH : Hdr D off N C o2 st) (hD : Kd.C (Kd.int .u8) w0 (some ad) D.length D) (hb : Below w0.heap.size w0 w) (hr : IsRd rb (.slice (some ⟨gt, 0, none⟩) 2048 ct) b w0.heap.size T w) (hrb0 : w0.heap.size ≤ rb) (hc : D.length ≤ c)
    (hK : Again D T (dN D off) b o2 C N st res ∨ Told D (dN D off) b' o2 C N st m last res L) :
    Calls Tryd.prog 58 #[.pointer (some ⟨rb, 0, none⟩), .slice (some ad) D.length c, .int .i64 off, .slice none 0 0] w (PostHL res (o2 + C) w0) := by
  obtain ⟨hB, hl, ho, eN, eC, eO, eS, hN, hC⟩ := hH
  obtain ⟨e0, k0⟩ := dN_get hB off
  obtain ⟨e1, k1⟩ := dN_get hB (off + 1)
  obtain ⟨e2, k2⟩ := dN_get hB (off + 1 + 1)
  obtain ⟨e3, k3⟩ := dN_get hB (off + 1 + 2)
  obtain ⟨e4, k4⟩ := dN_get hB (off + 1 + 3)
  have hcall := fun n => huffLit_any rb gt ct ad c b b' (off + 1) (dN D off) (dN D (off + 1)) (dN D (off + 1 + 1)) (dN D (off + 1 + 2)) (dN D (off + 1 + 3)) N C o2 st _ m last L D T res w0 (w.drewN n) hD (pw_below_drewN hb n) (IsRd.mk (blk_drewN hr.blk n) (Kd.R_drewN hr.tab n)) hrb0 hl (by omega) (by omega) e1 e2 e3 e4 k1 k2 k3 k4 rfl eN eC eO eS hN hC hc hK
  have hq := data_at hD off (by omega) hb
  rw [e0] at hq
  obtain ⟨h, hh⟩ : ∃ h, dN D off = h := ⟨_, rfl⟩
  rw [hh] at hq hcall k0
  have hkind : h % 4 = 2 ∨ h % 4 = 3 := by
    rcases hK with g | g
    · exact Or.inr (hh ▸ g.1)
    · exact Or.inl (hh ▸ g.kind)
  have HC := Aside0.mk hcall
  have g0 : (off : Int) < (D.length : Int) := by omega
  have g1 : off ≤ 2000000 := by omega
  clear hcall hK hD hb hr e0 e1 e2 e3 e4 eN eC eO eS hB hC
  rcases hkind with hk | hk
  · have qh : Go.bits BinOp.and IntKind.u8 (h : Int) 3 = 2 := (and_u8_3 h (by omega)).trans (by omega)
    go_enter Tryd.func58, Tryd.ntmps58
    go_wp2_with (first
      | (go_at_call 70; refine (HC.out 0).mono ?_; rintro e w2 ⟨v2, rfl, ho2, hb2⟩; have HO := Aside0.mk ho2; have HB := Aside0.mk hb2; clear ho2 hb2))
    refine bodyPost_ret (v := .tuple #[.int .i64 ((o2 + C : Nat) : Int), v2, .nilIface]) (by simp [results, Tryd.results58, go_sem]) rfl ?_
    exact ⟨v2, rfl, HO.out, HB.out⟩
  · have qh : Go.bits BinOp.and IntKind.u8 (h : Int) 3 = 3 := (and_u8_3 h (by omega)).trans (by omega)
    go_enter Tryd.func58, Tryd.ntmps58
    go_wp2_with (first
      | (go_at_call 70; refine (HC.out 0).mono ?_; rintro e w2 ⟨v2, rfl, ho2, hb2⟩; have HO := Aside0.mk ho2; have HB := Aside0.mk hb2; clear ho2 hb2))
    refine bodyPost_ret (v := .tuple #[.int .i64 ((o2 + C : Nat) : Int), v2, .nilIface]) (by simp [results, Tryd.results58, go_sem]) rfl ?_
    exact ⟨v2, rfl, HO.out, HB.out⟩
set_option maxHeartbeats 2000000 in
set_option maxRecDepth 100000 in
theorem readNone_any (rb : Nat) (v : Value) (ad : Addr) (c off N C o2 st : Nat) (D T : List Int) (w0 w : World) (hE : Eof w0) (hH : Hdr D off N C o2 st) (hD : Kd.C (Kd.int .u8) w0 (some ad) D.length D) (hb : Below w0.heap.size w0 w) (hr : IsRd rb v 0 w0.heap.size T w)
    (hk : dN D off % 4 = 3) :
    Calls Tryd.prog 58 #[.pointer (some ⟨rb, 0, none⟩), .slice (some ad) D.length c, .int .i64 off, .slice none 0 0] w (PostNo w0) := by
  obtain ⟨hB, hl, ho, eN, eC, eO, eS, hN, hC⟩ := hH
  obtain ⟨e0, k0⟩ := dN_get hB off
  obtain ⟨e1, k1⟩ := dN_get hB (off + 1)
  obtain ⟨e2, k2⟩ := dN_get hB (off + 1 + 1)
  obtain ⟨e3, k3⟩ := dN_get hB (off + 1 + 2)
  obtain ⟨e4, k4⟩ := dN_get hB (off + 1 + 3)
  have hcall := fun n => huffNone_any rb v ad c (off + 1) (dN D off) (dN D (off + 1)) (dN D (off + 1 + 1)) (dN D (off + 1 + 2)) (dN D (off + 1 + 3)) N C o2 _ D T w0 (w.drewN n) hE hD (pw_below_drewN hb n) (IsRd.mk (blk_drewN hr.blk n) (Kd.R_drewN hr.tab n)) hl (by omega) (by omega) e1 e2 e3 e4 k1 k2 k3 k4 rfl eN eC eO hN hC hk
  have hq := data_at hD off (by omega) hb
  rw [e0] at hq
  obtain ⟨h, hh⟩ : ∃ h, dN D off = h := ⟨_, rfl⟩
  rw [hh] at hq hcall k0 hk
  have HC := Aside0.mk hcall
  have g0 : (off : Int) < (D.length : Int) := by omega
  have g1 : off ≤ 2000000 := by omega
  clear hcall hD hb hr e0 e1 e2 e3 e4 eN eC eO eS hB hC hE
  have qh : Go.bits BinOp.and IntKind.u8 (h : Int) 3 = 3 := (and_u8_3 h (by omega)).trans (by omega)
  go_enter Tryd.func58, Tryd.ntmps58
  go_wp2_with (first
    | (go_at_call 70; refine (HC.out 0).mono ?_; rintro e w2 ⟨p, rfl, hb2⟩; have HB := Aside0.mk hb2; clear hb2))
  refine bodyPost_ret (v := .tuple #[.int .i64 0, .slice none 0 0, .iface 152 (.pointer (some p))]) (by simp [results, Tryd.results58, go_sem]) rfl ?_
  exact ⟨p, rfl, HB.out⟩
theorem form2048' {w : World} {base : Nat} {ok : Nat → Prop} {v : Value} {xs : List Int} (h : Kd.R (Kd.int .u16) 103 w base ok v xs) (hl : xs.length = 2048) : ∃ g c, v = .slice (some ⟨g, 0, none⟩) 2048 c ∧ base ≤ g ∧ g < w.heap.size := by
  obtain ⟨g, c, e, h1, h2, -⟩ := Kd.R_form h (by omega)
  rw [hl] at e
  exact ⟨g, c, e, h1, h2⟩
def PostZL (res : List Int) (roff : Nat) (w0 : World) (e : Ending) (w' : World) : Prop := ∃ v0, e = .returned (.tuple #[v0, .int .i64 roff, .nilIface]) ∧ Kd.R (Kd.int .u8) 5 w' w0.heap.size (fun _ => True) v0 res ∧ Below w0.heap.size w0 w'
def PostZN (w0 : World) (e : Ending) (w' : World) : Prop := ∃ p, e = .returned (.tuple #[.slice none 0 0, .int .i64 0, .iface 152 (.pointer (some p))]) ∧ Below w0.heap.size w0 w'
theorem pad_len (T : List Int) (N : Nat) : (T.take (min T.length N) ++ (List.replicate N (0 : Int)).drop (min T.length N)).length = N := by
  rw [List.length_append, List.length_take, List.length_drop, List.length_replicate]
  omega
theorem padded_len (T : List Int) : (padded T).length = 2048 := pad_len T 2048
set_option maxHeartbeats 2000000 in
set_option maxRecDepth 100000 in
theorem zzLit_any (A TA : Option Addr) (c tc off b b' N C o2 st m last : Nat) (L : List Nat) (D T res : List Int) (w : World) (hH : Hdr D off N C o2 st) (hD : Kd.C (Kd.int .u8) w A D.length D) (hc : D.length ≤ c) (hT : Kd.C (Kd.int .u16) w TA T.length T)
    (hK : Again D (padded T) (dN D off) b o2 C N st res ∨ Told D (dN D off) b' o2 C N st m last res L) :
    Calls Tryd.prog 42 #[.slice A D.length c, .int .i64 off, .slice TA T.length tc, .int .i64 b] w (PostZL res (o2 + C) w) := by
  have HH := Aside0.mk hH
  have HK := Aside0.mk hK
  obtain ⟨ad, rfl, -⟩ := Kd.at_int hD 0 (by omega) (by have := hH.ho; omega)
  have HD := Aside0.mk hD
  have HC := Aside0.mk hc
  have HT := Aside0.mk hT
  clear hH hD hc hT hK
  go_enter Tryd.func42, Tryd.ntmps42
  go_wp2_with (first
    | (go_at_call 55; (with_reducible refine (reader_any TA tc T b _ HT.out).mono ?_); rintro e w1 ⟨rb, v, rfl, hrb, hrd, hb1⟩; obtain ⟨gt, ct, ev, -, -⟩ := form2048' hrd.tab (padded_len T); subst ev; have HRD := Aside0.mk hrd; have HB1 := Aside0.mk hb1; have HRB := Aside0.mk hrb; clear hrb hrd hb1)
    | (go_at_call 58; refine (readLit_any rb gt ct ad c off b b' N C o2 st m last L D (padded T) res w w1 HH.out HD.out HB1.out HRD.out HRB.out HC.out HK.out).mono ?_; rintro e w2 ⟨v2, rfl, ho2, hb2⟩; have HO := Aside0.mk ho2; have HB := Aside0.mk hb2; clear ho2 hb2))
  refine bodyPost_ret (v := .tuple #[v2, .int .i64 ((o2 + C : Nat) : Int), .nilIface]) (by simp [results, Tryd.results42, go_sem]) rfl ?_
  exact ⟨v2, rfl, HO.out, HB.out⟩
set_option maxHeartbeats 2000000 in
set_option maxRecDepth 100000 in
theorem zzNone_any (A TA : Option Addr) (c tc off N C o2 st : Nat) (D T : List Int) (w : World) (hE : Eof w) (hH : Hdr D off N C o2 st) (hD : Kd.C (Kd.int .u8) w A D.length D) (hT : Kd.C (Kd.int .u16) w TA T.length T) (hk : dN D off % 4 = 3) :
    Calls Tryd.prog 42 #[.slice A D.length c, .int .i64 off, .slice TA T.length tc, .int .i64 0] w (PostZN w) := by
  have HH := Aside0.mk hH
  have HK := Aside0.mk hk
  have HE := Aside0.mk hE
  obtain ⟨ad, rfl, -⟩ := Kd.at_int hD 0 (by omega) (by have := hH.ho; omega)
  have HD := Aside0.mk hD
  have HT := Aside0.mk hT
  clear hH hD hT hk hE
  go_enter Tryd.func42, Tryd.ntmps42
  go_wp2_with (first
    | (go_at_call 55; (with_reducible refine (reader_any TA tc T 0 _ HT.out).mono ?_); rintro e w1 ⟨rb, v, rfl, hrb, hrd, hb1⟩; have HRD := Aside0.mk hrd; have HB1 := Aside0.mk hb1; clear hrb hrd hb1)
    | (go_at_call 58; refine (readNone_any rb v ad c off N C o2 st D (padded T) w w1 HE.out HH.out HD.out HB1.out HRD.out HK.out).mono ?_; rintro e w2 ⟨p, rfl, hb2⟩; have HB := Aside0.mk hb2; clear hb2))
  refine bodyPost_ret (v := .tuple #[.slice none 0 0, .int .i64 0, .iface 152 (.pointer (some p))]) (by simp [results, Tryd.results42, go_sem]) rfl ?_
  exact ⟨p, rfl, HB.out⟩
end Go.Proofs.YtopadgohinoomaaDoor.Cx
namespace Go.Proofs.YtopadgohinoomaaDoor.Cx
open Go.RowKit Go.Proofs.YtopadgohinoomaaDoorW.PrintWords Go.Proofs.YtopadgohinoomaaDoorW.PrintLast Go.Proofs.YtopadgohinoomaaDoorW.PrintMore Go.Proofs.YtopadgohinoomaaDoor.PC Go.Proofs.YtopadgohinoomaaDoor.St
attribute [local go_sem] max2_int min2_int max_two min_two max_three min_three max_four min_four
set_option linter.unusedVariables false
set_option linter.unusedSimpArgs false
/-- Literals with codes stand at a place, and these are they, and the place behind them. -/
def LitOk (D T : List Int) (off b : Nat) (p : List Int × Nat) : Prop := p.1.length ≤ 1000000 ∧ ∃ (N C o2 st b' m last : Nat) (L : List Nat), Hdr D off N C o2 st ∧ p.2 = o2 + C ∧ (Again D T (dN D off) b o2 C N st p.1 ∨ Told D (dN D off) b' o2 C N st m last p.1 L)
/-- Literals without a table of their own. -/
def LitNone (D : List Int) (off : Nat) : Prop := dN D off % 4 = 3 ∧ ∃ N C o2 st, Hdr D off N C o2 st
open Classical in
/-- What impl.Literals answers where literals with codes stand there. -/
noncomputable def impl_Literals.f (l0 : List Int) (a1 : Int) (l2 : List S68) (a3 : Int) : Option (List Int × Int × Bool) :=
  if l2.length ≤ 1000000 ∧ 0 ≤ a1 ∧ 0 ≤ a3 then
    (if h : ∃ p, LitOk l0 (padded (l2.map pair)) a1.toNat a3.toNat p then some ((Classical.choose h).1, ((Classical.choose h).2 : Int), true)
    else if a3 = 0 ∧ LitNone l0 a1.toNat then some ([], 0, false) else none)
  else none
set_option maxHeartbeats 2000000 in
set_option maxRecDepth 100000 in
theorem litOk_calls (A0 : Option Addr) (c0 : Nat) (l0 : List Int) (n1 n3 : Nat) (A2 : Option Addr) (c2 : Nat) (l2 : List S68) (res : List Int) (roff : Nat) (w : World) (hr0 : Kd.C (Kd.int .u8) w A0 l0.length l0) (hc0 : l0.length ≤ c0) (hr2 : Kd.C k68 w A2 l2.length l2) (hc2 : l2.length ≤ c2) (pl : l2.length ≤ 1000000) (hp : LitOk l0 (padded (l2.map pair)) n1 n3 (res, roff)) :
    Calls Tryd.prog 24 #[.slice A0 l0.length c0, .int .i64 n1, .slice A2 l2.length c2, .int .i64 n3] w fun e w' => ∃ v0_ : Value, e = .returned (.tuple #[v0_, .int .i64 roff, .bool true]) ∧ Kd.R (Kd.int .u8) 5 w' w.heap.size (fun _ => True) v0_ res ∧ Below w.heap.size w w' := by
  obtain ⟨t, het⟩ : ∃ t, l2.map pair = t := ⟨_, rfl⟩
  rw [het] at hp
  have ht : impl_pairsOf.f (l2.length + 1) l2 = some t := het ▸ pairs_f l2 pl
  clear het
  obtain ⟨hsm, N, C, o2, st, b', m, last, L, hH, e1, hK⟩ := hp
  dsimp only at hsm e1 hK
  subst e1
  have HR0 := Aside0.mk hr0
  have HC0 := Aside0.mk hc0
  have HR2 := Aside0.mk hr2
  have HC2 := Aside0.mk hc2
  have HT := Aside0.mk ht
  have HH := Aside0.mk hH
  have HK := Aside0.mk hK
  have HSM := Aside0.mk hsm
  have HB := Aside0.mk (Below.refl w.heap.size w)
  have hu32 := Tryd.underlying32
  clear hr0 hc0 hr2 hc2 ht hH hK hsm
  go_enter Tryd.func24, Tryd.ntmps24
  go_wp2_with (first
    | (go_at_call 38; (with_reducible refine (impl_pairsOf.calls (l2.length + 1) A2 c2 l2 t _ HR2.out HC2.out HT.out).mono ?_); rintro e w1 ⟨v1, rfl, ho, hb1⟩; obtain ⟨A1, c1, ev⟩ := Kd.R_slice ho; subst ev; have HO1 := Aside0.mk ho; have HB1 := Aside0.mk hb1; clear ho hb1)
    | (go_at_call 42; refine (zzLit_any A0 A1 c0 c1 n1 n3 b' N C o2 st m last L l0 t res _ HH.out (Kd.C_below HR0.out HB1.out) HC0.out (Kd.R_reads' HO1.out).2.2 HK.out).mono ?_; rintro e w2 ⟨v2, rfl, ho, hb2⟩; obtain ⟨A3, c3, ev⟩ := Kd.R_slice ho; subst ev; have HO2 := Aside0.mk (Kd.R_lower ho HB1.out.size); have HB2 := Aside0.mk (below_then HB1.out HB1.out.size hb2); clear ho hb2))
  have heq := fun W : World => run_eql_nil_nil (P := Tryd.prog) W 57 iface57
  obtain ⟨HC2c, HL2c⟩ := And.intro (Aside0.mk (Kd.R_reads' HO2.out).2.2) (Aside0.mk (Kd.R_reads' HO2.out).2.1)
  have HR2' := Aside0.mk (Below.refl w2.heap.size w2)
  go_region_law ((refine Kd.R_append_rows_step (Kd.int .u8) (Rr := fun x cs => cs = [Value.int .u8 x]) (w0 := w) w.heap.size rfl (.tmp 24) (.tmp 25) 32 5 (.int .u8 0) 1 (by rfl) hu32 info5z rfl (by decide) (by decide) (.slice (some ⟨w2.heap.size, 0, none⟩) 0 0) [] res A3 res.length c3 (fun _ => True) (fun _ => False) (by rfl) (by rfl) (emptyR (below_size (by (repeat (first | (with_reducible first | exact (Aside0.out HB2) | apply below_alloc | apply pw_below_drewN | apply below_drew1) | exact (Aside0.out HB2)))))) (read_up HC2c.out (by (repeat (first | (with_reducible first | exact (Aside0.out HR2') | apply below_alloc | apply pw_below_drewN | apply below_drew1) | exact (Aside0.out HR2'))))) (fun _ _ h => h) (fun _ hk => hk.elim) (fun _ _ => trivial) (by (repeat (first | (with_reducible first | exact (Aside0.out HB2) | apply below_alloc | apply pw_below_drewN | apply below_drew1) | exact (Aside0.out HB2)))) (below_size (by (repeat (first | (with_reducible first | exact (Aside0.out HB2) | apply below_alloc | apply pw_below_drewN | apply below_drew1) | exact (Aside0.out HB2))))) (by have := HL2c.out; have := HSM.out; simp only [List.length_nil]; omega) ?_; intro v3 w3 ho hbl hg hat; rw [List.nil_append] at ho; have HO3 := Aside0.mk ho; have HB3 := Aside0.mk hbl; clear ho hbl hg hat))
  all_goals (go_wp2; refine bodyPost_ret (v := .tuple #[v3, .int .i64 (((o2 + C : Nat) : Int)), .bool true]) (by simp [results, Tryd.results24, go_sem]) rfl ?_; exact ⟨v3, rfl, HO3.out, HB3.out⟩)
set_option maxHeartbeats 2000000 in
set_option maxRecDepth 100000 in
theorem litNone_calls (A0 : Option Addr) (c0 : Nat) (l0 : List Int) (n1 : Nat) (A2 : Option Addr) (c2 : Nat) (l2 : List S68) (w : World) (hE : Eof w) (hr0 : Kd.C (Kd.int .u8) w A0 l0.length l0) (hr2 : Kd.C k68 w A2 l2.length l2) (hc2 : l2.length ≤ c2) (pl : l2.length ≤ 1000000) (hp : LitNone l0 n1) :
    Calls Tryd.prog 24 #[.slice A0 l0.length c0, .int .i64 n1, .slice A2 l2.length c2, .int .i64 0] w fun e w' => ∃ v0_ : Value, e = .returned (.tuple #[v0_, .int .i64 0, .bool false]) ∧ Kd.R (Kd.int .u8) 5 w' w.heap.size (fun _ => True) v0_ [] ∧ Below w.heap.size w w' := by
  obtain ⟨t, het⟩ : ∃ t, l2.map pair = t := ⟨_, rfl⟩
  have ht : impl_pairsOf.f (l2.length + 1) l2 = some t := het ▸ pairs_f l2 pl
  clear het
  obtain ⟨hk, N, C, o2, st, hH⟩ := hp
  have HE := Aside0.mk hE
  have HR0 := Aside0.mk hr0
  have HR2 := Aside0.mk hr2
  have HC2 := Aside0.mk hc2
  have HT := Aside0.mk ht
  have HH := Aside0.mk hH
  have HK := Aside0.mk hk
  have HB := Aside0.mk (Below.refl w.heap.size w)
  have hu32 := Tryd.underlying32
  clear hr0 hr2 hc2 ht hH hk hE
  go_enter Tryd.func24, Tryd.ntmps24
  go_wp2_with (first
    | (go_at_call 38; (with_reducible refine (impl_pairsOf.calls (l2.length + 1) A2 c2 l2 t _ HR2.out HC2.out HT.out).mono ?_); rintro e w1 ⟨v1, rfl, ho, hb1⟩; obtain ⟨A1, c1, ev⟩ := Kd.R_slice ho; subst ev; have HO1 := Aside0.mk ho; have HB1 := Aside0.mk hb1; clear ho hb1)
    | (go_at_call 42; refine (zzNone_any A0 A1 c0 c1 n1 N C o2 st l0 t _ (HE.out.below HB1.out) HH.out (Kd.C_below HR0.out HB1.out) (Kd.R_reads' HO1.out).2.2 HK.out).mono ?_; rintro e w2 ⟨p, rfl, hb2⟩; have HB2 := Aside0.mk (below_then HB1.out HB1.out.size hb2); clear hb2))
  have heq := fun W : World => run_eql_held_nil (P := Tryd.prog) W 57 152 (.pointer (some p)) iface57
  go_region_law ((refine Kd.R_append_rows_step (Kd.int .u8) (Rr := fun x cs => cs = [Value.int .u8 x]) (w0 := w) w.heap.size rfl (.tmp 24) (.tmp 25) 32 5 (.int .u8 0) 1 (by rfl) hu32 info5z rfl (by decide) (by decide) (.slice (some ⟨w2.heap.size, 0, none⟩) 0 0) [] ([] : List Int) none ([] : List Int).length 0 (fun _ => True) (fun _ => False) (by rfl) (by rfl) (emptyR (below_size (by (repeat (first | (with_reducible first | exact (Aside0.out HB2) | apply below_alloc | apply pw_below_drewN | apply below_drew1) | exact (Aside0.out HB2)))))) (Kd.C_nil _ _) (fun _ _ h => h) (fun _ hk => hk.elim) (fun _ _ => trivial) (by (repeat (first | (with_reducible first | exact (Aside0.out HB2) | apply below_alloc | apply pw_below_drewN | apply below_drew1) | exact (Aside0.out HB2)))) (below_size (by (repeat (first | (with_reducible first | exact (Aside0.out HB2) | apply below_alloc | apply pw_below_drewN | apply below_drew1) | exact (Aside0.out HB2))))) (by simp only [List.length_nil]; omega) ?_; intro v3 w3 ho hbl hg hat; rw [List.nil_append] at ho; have HO3 := Aside0.mk ho; have HB3 := Aside0.mk hbl; clear ho hbl hg hat))
  all_goals (go_wp2; refine bodyPost_ret (v := .tuple #[v3, .int .i64 (0), .bool false]) (by simp [results, Tryd.results24, go_sem]) rfl ?_; exact ⟨v3, rfl, HO3.out, HB3.out⟩)
theorem impl_Literals.calls (A0 : Option Addr) (c0 : Nat) (l0 : List Int) (a1 : Int) (A2 : Option Addr) (c2 : Nat) (l2 : List S68) (a3 : Int) (r1 : List Int) (r2 : Int) (r3 : Bool) (w : World) (hE : Eof w) (hr0 : Kd.C (Kd.int .u8) w A0 l0.length l0) (hc0 : l0.length ≤ c0) (hr2 : Kd.C k68 w A2 l2.length l2) (hc2 : l2.length ≤ c2) (h : impl_Literals.f l0 a1 l2 a3 = some (r1, r2, r3)) :
    Calls Tryd.prog 24 #[.slice A0 l0.length c0, .int .i64 a1, .slice A2 l2.length c2, .int .i64 a3] w fun e w' => ∃ v0_ : Value, e = .returned (.tuple #[v0_, .int .i64 r2, .bool r3]) ∧ Kd.R (Kd.int .u8) 5 w' w.heap.size (fun _ => True) v0_ r1 ∧ Below w.heap.size w w' := by
  unfold impl_Literals.f at h
  by_cases hp : l2.length ≤ 1000000 ∧ 0 ≤ a1 ∧ 0 ≤ a3
  · rw [if_pos hp] at h
    obtain ⟨pl, p1, p3⟩ := hp
    obtain ⟨n1, rfl⟩ := Int.eq_ofNat_of_zero_le p1
    obtain ⟨n3, rfl⟩ := Int.eq_ofNat_of_zero_le p3
    simp only [Int.toNat_natCast] at h
    by_cases hx : ∃ p, LitOk l0 (padded (l2.map pair)) n1 n3 p
    · rw [dif_pos hx] at h
      injection h with h
      injection h with h1 h2
      injection h2 with h2 h3
      subst h1 h2 h3
      exact litOk_calls A0 c0 l0 n1 n3 A2 c2 l2 _ _ w hr0 hc0 hr2 hc2 pl (Classical.choose_spec hx)
    · rw [dif_neg hx] at h
      by_cases hy : (n3 : Int) = 0 ∧ LitNone l0 n1
      · rw [if_pos hy] at h
        injection h with h
        injection h with h1 h2
        injection h2 with h2 h3
        subst h1 h2 h3
        rw [hy.1]
        exact litNone_calls A0 c0 l0 n1 A2 c2 l2 w hE hr0 hr2 hc2 pl hy.2
      · rw [if_neg hy] at h; cases h
  · rw [if_neg hp] at h; cases h
end Go.Proofs.YtopadgohinoomaaDoor.Cx
