/-
Four readers, the table and the row that is written: one state of the memory, and what the loop's steps do to it.
-/
import Derived.Test.YtopadgohinoomaaDoorCd
namespace Go.Proofs.YtopadgohinoomaaDoor.Cx
open Go.RowKit Go.Proofs.YtopadgohinoomaaDoorW.PrintWords Go.Proofs.YtopadgohinoomaaDoorW.PrintLast Go.Proofs.YtopadgohinoomaaDoorW.PrintMore Go.Proofs.YtopadgohinoomaaDoor.PC
set_option linter.unusedVariables false
def Rdr (rp : Value) (A : Option Addr) (c : Nat) (D : List Int) (g t q m : Nat) (w : World) : Prop := ∃ x v k : Nat, IsRbr w g rp A D.length c x t v k ∧ RdOk D x v k q ∧ m ≤ k ∧ k ≤ 24
theorem Rdr.grown {rp : Value} {A : Option Addr} {c : Nat} {D : List Int} {g t q m : Nat} {w w' : World} {row : Nat} (h : Rdr rp A c D g t q m w) (hg : w.grownBy w' (some row)) (hne : g ≠ row) : Rdr rp A c D g t q m w' := by
  obtain ⟨x, v, k, h1, h2⟩ := h
  exact ⟨x, v, k, blk_grown h1 hg (by simpa using hne), h2⟩
theorem Rdr.lt {rp : Value} {A : Option Addr} {c : Nat} {D : List Int} {g t q m : Nat} {w : World} (h : Rdr rp A c D g t q m w) : g < w.heap.size := by
  obtain ⟨x, v, k, h1, h2⟩ := h
  exact blk_lt h1
theorem grown_one (w : World) (a : Addr) (u : Value) : w.grownBy (w.setCell a u) (some a.block) :=
  ⟨rfl, rfl, rfl, by simp [World.setCell], fun k hk hne => Below.heap_setCell w a u k (by rintro rfl; exact hne rfl)⟩
section
variable (rb c tc b g1 g2 g3 g4 h1 h2 h3 go co N base t1 t2 t3 t4 : Nat) (ad : Addr) (TA : Option Addr) (D T : List Int) (w0 : World)
/-- What does not change: the data, the table, and that the blocks are apart. -/
structure Fx : Prop where
  hD : Kd.C (Kd.int .u8) w0 (some ad) D.length D
  hT : Kd.C (Kd.int .u16) w0 TA T.length T
  hB : Bytes D
  hb : b ≤ 11
  hl : D.length ≤ 2000000
  hTl : 2 ^ b ≤ T.length
  hTm : T.length ≤ 2000000
  tab : ∀ i, i < 2 ^ b → 0 ≤ T.getD i 0 ∧ T.getD i 0 ≤ 65535 ∧ (T.getD i 0).toNat % 256 ≤ b
  had : ad.block < w0.heap.size
  hta : ∀ a, TA = some a → a.block < w0.heap.size
  o1 : w0.heap.size ≤ g1
  o2 : g1 < g2
  o3 : g2 < g3
  o4 : g3 < g4
  o5 : g4 < go
  o6 : go < h3
  o7 : h3 < h1
  o8 : h1 < h2
structure Wd (q1 q2 q3 q4 m1 m2 m3 m4 : Nat) (out : List Int) (w : World) : Prop where
  below : Below w0.heap.size w0 w
  r1 : Rdr (.pointer (some ⟨rb, 0, none⟩)) (some ad) c D g1 t1 q1 m1 w
  r2 : Rdr (.pointer (some ⟨rb, 0, none⟩)) (some ad) c D g2 t2 q2 m2 w
  r3 : Rdr (.pointer (some ⟨rb, 0, none⟩)) (some ad) c D g3 t3 q3 m3 w
  r4 : Rdr (.pointer (some ⟨rb, 0, none⟩)) (some ad) c D g4 t4 q4 m4 w
  k1 : w.heap[h1]? = some (.cells #[.int .u32 b] 87 (0, 0))
  k2 : w.heap[h2]? = some (.cells #[.int .u32 (2 ^ b - 1 : Nat)] 87 (0, 0))
  k3 : w.heap[h3]? = some (.cells #[.slice TA T.length tc] 74 (0, 0))
  o : Kd.R (Kd.int .u8) 5 w base (fun _ => True) (.slice (some ⟨go, 0, none⟩) N co) out
end
section
variable {rb c tc b g1 g2 g3 g4 h1 h2 h3 go co N base t1 t2 t3 t4 : Nat} {ad : Addr} {TA : Option Addr} {D T : List Int} {w0 : World} {q1 q2 q3 q4 m1 m2 m3 m4 : Nat} {out : List Int} {w : World}
theorem Fx.hDw (F : Fx b g1 g2 g3 g4 h1 h2 h3 go ad TA D T w0) (hb : Below w0.heap.size w0 w) : Kd.C (Kd.int .u8) w (some ad) D.length D := Kd.C_below F.hD hb
theorem R_apart {w' : World} {k : Nat} {out : List Int} (h : Kd.R (Kd.int .u8) 5 w base (fun _ => True) (.slice (some ⟨go, 0, none⟩) N co) out) (hg : w.grownBy w' (some k)) (hne : k ≠ go) : Kd.R (Kd.int .u8) 5 w' base (fun _ => True) (.slice (some ⟨go, 0, none⟩) N co) out :=
  Kd.R_grown1 h rfl hg (by simpa [Value.ownBlock] using hne)
theorem Wd.sto (F : Fx b g1 g2 g3 g4 h1 h2 h3 go ad TA D T w0) (W : Wd rb c tc b g1 g2 g3 g4 h1 h2 h3 go co N base t1 t2 t3 t4 ad TA D T w0 q1 q2 q3 q4 m1 m2 m3 m4 out w) {w1 : World} {out' : List Int} (hR : Kd.R (Kd.int .u8) 5 w1 base (fun _ => True) (.slice (some ⟨go, 0, none⟩) N co) out') (hg : w.grownBy w1 (some go)) : Wd rb c tc b g1 g2 g3 g4 h1 h2 h3 go co N base t1 t2 t3 t4 ad TA D T w0 q1 q2 q3 q4 m1 m2 m3 m4 out' w1 := by
  have := F.o1; have := F.o2; have := F.o3; have := F.o4; have := F.o5; have := F.o6; have := F.o7; have := F.o8
  exact ⟨pw_below_grown W.below (some go) W.below.size hg (fun k hk => by cases hk; omega), W.r1.grown hg (by omega), W.r2.grown hg (by omega), W.r3.grown hg (by omega), W.r4.grown hg (by omega), blk_grown W.k1 hg (by simp; omega), blk_grown W.k2 hg (by simp; omega), blk_grown W.k3 hg (by simp; omega), hR⟩
theorem Wd.call1 (F : Fx b g1 g2 g3 g4 h1 h2 h3 go ad TA D T w0) (W : Wd rb c tc b g1 g2 g3 g4 h1 h2 h3 go co N base t1 t2 t3 t4 ad TA D T w0 q1 q2 q3 q4 m1 m2 m3 m4 out w) (hp : 8 * t1 + b ≤ q1) :
    Calls Tryd.prog 66 #[.pointer (some ⟨g1, 0, none⟩), .pointer (some ⟨h1, 0, none⟩), .pointer (some ⟨h2, 0, none⟩), .pointer (some ⟨h3, 0, none⟩)] w fun e w' =>
      ∃ tv : Nat, e = .returned (.tuple #[.int .u16 tv, .nilIface]) ∧ (T.getD (look D q1 b) 0 = tv ∧ tv ≤ 65535 ∧ tv % 256 ≤ b) ∧ Wd rb c tc b g1 g2 g3 g4 h1 h2 h3 go co N base t1 t2 t3 t4 ad TA D T w0 q1 q2 q3 q4 b m2 m3 m4 out w' := by
  have := F.o1; have := F.o2; have := F.o3; have := F.o4; have := F.o5; have := F.o6; have := F.o7; have := F.o8
  obtain ⟨x, v, n, hI, hR, hm, hn⟩ := W.r1
  refine (look_any g1 h1 h2 h3 (.pointer (some ⟨rb, 0, none⟩)) (some ad) TA c tc t1 b q1 x v n D T w hI W.k1 W.k2 W.k3 (Kd.C_below F.hD W.below) (fun a ha => by cases ha; have := F.had; omega) (Kd.C_below F.hT W.below) (fun a ha => by have := F.hta a ha; omega) F.hB hR F.hb hn hp F.hl F.hTl F.hTm).mono ?_
  rintro e w' ⟨rfl, off1, bits1, cnt1, hI1, hR1, hb1, hc1, hg⟩
  have ht := F.tab _ (look_lt D q1 b)
  refine ⟨(T.getD (look D q1 b) 0).toNat, by rw [Int.toNat_of_nonneg ht.1], ⟨by omega, by omega, ht.2.2⟩, ?_⟩
  exact ⟨pw_below_grown W.below (some g1) W.below.size hg (fun k hk => by cases hk; omega), ⟨off1, bits1, cnt1, hI1, hR1, hb1, hc1⟩, W.r2.grown hg (by omega), W.r3.grown hg (by omega), W.r4.grown hg (by omega), blk_grown W.k1 hg (by simp; omega), blk_grown W.k2 hg (by simp; omega), blk_grown W.k3 hg (by simp; omega), R_apart W.o hg (by omega)⟩
theorem Wd.dec1 (F : Fx b g1 g2 g3 g4 h1 h2 h3 go ad TA D T w0) (W : Wd rb c tc b g1 g2 g3 g4 h1 h2 h3 go co N base t1 t2 t3 t4 ad TA D T w0 q1 q2 q3 q4 b m2 m3 m4 out w) :
    ∃ n : Nat, w.cell? ⟨g1, 5, none⟩ = some (.int .u32 n) ∧ w.frozen? ⟨g1, 5, none⟩ = false ∧ b ≤ n ∧ n ≤ 24 ∧ ∀ (d : Nat) (z : Int), d ≤ b → z = (d : Int) → Wd rb c tc b g1 g2 g3 g4 h1 h2 h3 go co N base t1 t2 t3 t4 ad TA D T w0 (q1 - d) q2 q3 q4 0 m2 m3 m4 out (w.setCell ⟨g1, 5, none⟩ (.int .u32 ((n : Int) - z))) := by
  have := F.o1; have := F.o2; have := F.o3; have := F.o4; have := F.o5; have := F.o6; have := F.o7; have := F.o8
  obtain ⟨x, v, n, hI, hR, hm, hn⟩ := W.r1
  refine ⟨n, blk_cell hI 5, blk_frozen hI 5, hm, hn, fun d z hd hz => ?_⟩
  subst hz
  have hg : w.grownBy (w.setCell ⟨g1, 5, none⟩ (.int .u32 ((n : Int) - (d : Int)))) (some g1) := grown_one w ⟨g1, 5, none⟩ (.int .u32 ((n : Int) - (d : Int)))
  have hI1 : IsRbr (w.setCell ⟨g1, 5, none⟩ (.int .u32 ((n : Int) - (d : Int)))) g1 (.pointer (some ⟨rb, 0, none⟩)) (some ad) D.length c x t1 v (n - d) := by
    unfold IsRbr
    rw [show ((n - d : Nat) : Int) = (n : Int) - (d : Int) by omega]
    exact blk_set hI 5 _
  exact ⟨pw_below_grown W.below (some g1) W.below.size hg (fun k hk => by cases hk; omega), ⟨x, v, n - d, hI1, hR.take d (by omega), Nat.zero_le _, by omega⟩, W.r2.grown hg (by omega), W.r3.grown hg (by omega), W.r4.grown hg (by omega), blk_grown W.k1 hg (by simp; omega), blk_grown W.k2 hg (by simp; omega), blk_grown W.k3 hg (by simp; omega), R_apart W.o hg (by show g1 ≠ go; omega)⟩
theorem Wd.call2 (F : Fx b g1 g2 g3 g4 h1 h2 h3 go ad TA D T w0) (W : Wd rb c tc b g1 g2 g3 g4 h1 h2 h3 go co N base t1 t2 t3 t4 ad TA D T w0 q1 q2 q3 q4 m1 m2 m3 m4 out w) (hp : 8 * t2 + b ≤ q2) :
    Calls Tryd.prog 66 #[.pointer (some ⟨g2, 0, none⟩), .pointer (some ⟨h1, 0, none⟩), .pointer (some ⟨h2, 0, none⟩), .pointer (some ⟨h3, 0, none⟩)] w fun e w' =>
      ∃ tv : Nat, e = .returned (.tuple #[.int .u16 tv, .nilIface]) ∧ (T.getD (look D q2 b) 0 = tv ∧ tv ≤ 65535 ∧ tv % 256 ≤ b) ∧ Wd rb c tc b g1 g2 g3 g4 h1 h2 h3 go co N base t1 t2 t3 t4 ad TA D T w0 q1 q2 q3 q4 m1 b m3 m4 out w' := by
  have := F.o1; have := F.o2; have := F.o3; have := F.o4; have := F.o5; have := F.o6; have := F.o7; have := F.o8
  obtain ⟨x, v, n, hI, hR, hm, hn⟩ := W.r2
  refine (look_any g2 h1 h2 h3 (.pointer (some ⟨rb, 0, none⟩)) (some ad) TA c tc t2 b q2 x v n D T w hI W.k1 W.k2 W.k3 (Kd.C_below F.hD W.below) (fun a ha => by cases ha; have := F.had; omega) (Kd.C_below F.hT W.below) (fun a ha => by have := F.hta a ha; omega) F.hB hR F.hb hn hp F.hl F.hTl F.hTm).mono ?_
  rintro e w' ⟨rfl, off1, bits1, cnt1, hI1, hR1, hb1, hc1, hg⟩
  have ht := F.tab _ (look_lt D q2 b)
  refine ⟨(T.getD (look D q2 b) 0).toNat, by rw [Int.toNat_of_nonneg ht.1], ⟨by omega, by omega, ht.2.2⟩, ?_⟩
  exact ⟨pw_below_grown W.below (some g2) W.below.size hg (fun k hk => by cases hk; omega), W.r1.grown hg (by omega), ⟨off1, bits1, cnt1, hI1, hR1, hb1, hc1⟩, W.r3.grown hg (by omega), W.r4.grown hg (by omega), blk_grown W.k1 hg (by simp; omega), blk_grown W.k2 hg (by simp; omega), blk_grown W.k3 hg (by simp; omega), R_apart W.o hg (by omega)⟩
theorem Wd.dec2 (F : Fx b g1 g2 g3 g4 h1 h2 h3 go ad TA D T w0) (W : Wd rb c tc b g1 g2 g3 g4 h1 h2 h3 go co N base t1 t2 t3 t4 ad TA D T w0 q1 q2 q3 q4 m1 b m3 m4 out w) :
    ∃ n : Nat, w.cell? ⟨g2, 5, none⟩ = some (.int .u32 n) ∧ w.frozen? ⟨g2, 5, none⟩ = false ∧ b ≤ n ∧ n ≤ 24 ∧ ∀ (d : Nat) (z : Int), d ≤ b → z = (d : Int) → Wd rb c tc b g1 g2 g3 g4 h1 h2 h3 go co N base t1 t2 t3 t4 ad TA D T w0 q1 (q2 - d) q3 q4 m1 0 m3 m4 out (w.setCell ⟨g2, 5, none⟩ (.int .u32 ((n : Int) - z))) := by
  have := F.o1; have := F.o2; have := F.o3; have := F.o4; have := F.o5; have := F.o6; have := F.o7; have := F.o8
  obtain ⟨x, v, n, hI, hR, hm, hn⟩ := W.r2
  refine ⟨n, blk_cell hI 5, blk_frozen hI 5, hm, hn, fun d z hd hz => ?_⟩
  subst hz
  have hg : w.grownBy (w.setCell ⟨g2, 5, none⟩ (.int .u32 ((n : Int) - (d : Int)))) (some g2) := grown_one w ⟨g2, 5, none⟩ (.int .u32 ((n : Int) - (d : Int)))
  have hI1 : IsRbr (w.setCell ⟨g2, 5, none⟩ (.int .u32 ((n : Int) - (d : Int)))) g2 (.pointer (some ⟨rb, 0, none⟩)) (some ad) D.length c x t2 v (n - d) := by
    unfold IsRbr
    rw [show ((n - d : Nat) : Int) = (n : Int) - (d : Int) by omega]
    exact blk_set hI 5 _
  exact ⟨pw_below_grown W.below (some g2) W.below.size hg (fun k hk => by cases hk; omega), W.r1.grown hg (by omega), ⟨x, v, n - d, hI1, hR.take d (by omega), Nat.zero_le _, by omega⟩, W.r3.grown hg (by omega), W.r4.grown hg (by omega), blk_grown W.k1 hg (by simp; omega), blk_grown W.k2 hg (by simp; omega), blk_grown W.k3 hg (by simp; omega), R_apart W.o hg (by show g2 ≠ go; omega)⟩
theorem Wd.call3 (F : Fx b g1 g2 g3 g4 h1 h2 h3 go ad TA D T w0) (W : Wd rb c tc b g1 g2 g3 g4 h1 h2 h3 go co N base t1 t2 t3 t4 ad TA D T w0 q1 q2 q3 q4 m1 m2 m3 m4 out w) (hp : 8 * t3 + b ≤ q3) :
    Calls Tryd.prog 66 #[.pointer (some ⟨g3, 0, none⟩), .pointer (some ⟨h1, 0, none⟩), .pointer (some ⟨h2, 0, none⟩), .pointer (some ⟨h3, 0, none⟩)] w fun e w' =>
      ∃ tv : Nat, e = .returned (.tuple #[.int .u16 tv, .nilIface]) ∧ (T.getD (look D q3 b) 0 = tv ∧ tv ≤ 65535 ∧ tv % 256 ≤ b) ∧ Wd rb c tc b g1 g2 g3 g4 h1 h2 h3 go co N base t1 t2 t3 t4 ad TA D T w0 q1 q2 q3 q4 m1 m2 b m4 out w' := by
  have := F.o1; have := F.o2; have := F.o3; have := F.o4; have := F.o5; have := F.o6; have := F.o7; have := F.o8
  obtain ⟨x, v, n, hI, hR, hm, hn⟩ := W.r3
  refine (look_any g3 h1 h2 h3 (.pointer (some ⟨rb, 0, none⟩)) (some ad) TA c tc t3 b q3 x v n D T w hI W.k1 W.k2 W.k3 (Kd.C_below F.hD W.below) (fun a ha => by cases ha; have := F.had; omega) (Kd.C_below F.hT W.below) (fun a ha => by have := F.hta a ha; omega) F.hB hR F.hb hn hp F.hl F.hTl F.hTm).mono ?_
  rintro e w' ⟨rfl, off1, bits1, cnt1, hI1, hR1, hb1, hc1, hg⟩
  have ht := F.tab _ (look_lt D q3 b)
  refine ⟨(T.getD (look D q3 b) 0).toNat, by rw [Int.toNat_of_nonneg ht.1], ⟨by omega, by omega, ht.2.2⟩, ?_⟩
  exact ⟨pw_below_grown W.below (some g3) W.below.size hg (fun k hk => by cases hk; omega), W.r1.grown hg (by omega), W.r2.grown hg (by omega), ⟨off1, bits1, cnt1, hI1, hR1, hb1, hc1⟩, W.r4.grown hg (by omega), blk_grown W.k1 hg (by simp; omega), blk_grown W.k2 hg (by simp; omega), blk_grown W.k3 hg (by simp; omega), R_apart W.o hg (by omega)⟩
theorem Wd.dec3 (F : Fx b g1 g2 g3 g4 h1 h2 h3 go ad TA D T w0) (W : Wd rb c tc b g1 g2 g3 g4 h1 h2 h3 go co N base t1 t2 t3 t4 ad TA D T w0 q1 q2 q3 q4 m1 m2 b m4 out w) :
    ∃ n : Nat, w.cell? ⟨g3, 5, none⟩ = some (.int .u32 n) ∧ w.frozen? ⟨g3, 5, none⟩ = false ∧ b ≤ n ∧ n ≤ 24 ∧ ∀ (d : Nat) (z : Int), d ≤ b → z = (d : Int) → Wd rb c tc b g1 g2 g3 g4 h1 h2 h3 go co N base t1 t2 t3 t4 ad TA D T w0 q1 q2 (q3 - d) q4 m1 m2 0 m4 out (w.setCell ⟨g3, 5, none⟩ (.int .u32 ((n : Int) - z))) := by
  have := F.o1; have := F.o2; have := F.o3; have := F.o4; have := F.o5; have := F.o6; have := F.o7; have := F.o8
  obtain ⟨x, v, n, hI, hR, hm, hn⟩ := W.r3
  refine ⟨n, blk_cell hI 5, blk_frozen hI 5, hm, hn, fun d z hd hz => ?_⟩
  subst hz
  have hg : w.grownBy (w.setCell ⟨g3, 5, none⟩ (.int .u32 ((n : Int) - (d : Int)))) (some g3) := grown_one w ⟨g3, 5, none⟩ (.int .u32 ((n : Int) - (d : Int)))
  have hI1 : IsRbr (w.setCell ⟨g3, 5, none⟩ (.int .u32 ((n : Int) - (d : Int)))) g3 (.pointer (some ⟨rb, 0, none⟩)) (some ad) D.length c x t3 v (n - d) := by
    unfold IsRbr
    rw [show ((n - d : Nat) : Int) = (n : Int) - (d : Int) by omega]
    exact blk_set hI 5 _
  exact ⟨pw_below_grown W.below (some g3) W.below.size hg (fun k hk => by cases hk; omega), W.r1.grown hg (by omega), W.r2.grown hg (by omega), ⟨x, v, n - d, hI1, hR.take d (by omega), Nat.zero_le _, by omega⟩, W.r4.grown hg (by omega), blk_grown W.k1 hg (by simp; omega), blk_grown W.k2 hg (by simp; omega), blk_grown W.k3 hg (by simp; omega), R_apart W.o hg (by show g3 ≠ go; omega)⟩
theorem Wd.call4 (F : Fx b g1 g2 g3 g4 h1 h2 h3 go ad TA D T w0) (W : Wd rb c tc b g1 g2 g3 g4 h1 h2 h3 go co N base t1 t2 t3 t4 ad TA D T w0 q1 q2 q3 q4 m1 m2 m3 m4 out w) (hp : 8 * t4 + b ≤ q4) :
    Calls Tryd.prog 66 #[.pointer (some ⟨g4, 0, none⟩), .pointer (some ⟨h1, 0, none⟩), .pointer (some ⟨h2, 0, none⟩), .pointer (some ⟨h3, 0, none⟩)] w fun e w' =>
      ∃ tv : Nat, e = .returned (.tuple #[.int .u16 tv, .nilIface]) ∧ (T.getD (look D q4 b) 0 = tv ∧ tv ≤ 65535 ∧ tv % 256 ≤ b) ∧ Wd rb c tc b g1 g2 g3 g4 h1 h2 h3 go co N base t1 t2 t3 t4 ad TA D T w0 q1 q2 q3 q4 m1 m2 m3 b out w' := by
  have := F.o1; have := F.o2; have := F.o3; have := F.o4; have := F.o5; have := F.o6; have := F.o7; have := F.o8
  obtain ⟨x, v, n, hI, hR, hm, hn⟩ := W.r4
  refine (look_any g4 h1 h2 h3 (.pointer (some ⟨rb, 0, none⟩)) (some ad) TA c tc t4 b q4 x v n D T w hI W.k1 W.k2 W.k3 (Kd.C_below F.hD W.below) (fun a ha => by cases ha; have := F.had; omega) (Kd.C_below F.hT W.below) (fun a ha => by have := F.hta a ha; omega) F.hB hR F.hb hn hp F.hl F.hTl F.hTm).mono ?_
  rintro e w' ⟨rfl, off1, bits1, cnt1, hI1, hR1, hb1, hc1, hg⟩
  have ht := F.tab _ (look_lt D q4 b)
  refine ⟨(T.getD (look D q4 b) 0).toNat, by rw [Int.toNat_of_nonneg ht.1], ⟨by omega, by omega, ht.2.2⟩, ?_⟩
  exact ⟨pw_below_grown W.below (some g4) W.below.size hg (fun k hk => by cases hk; omega), W.r1.grown hg (by omega), W.r2.grown hg (by omega), W.r3.grown hg (by omega), ⟨off1, bits1, cnt1, hI1, hR1, hb1, hc1⟩, blk_grown W.k1 hg (by simp; omega), blk_grown W.k2 hg (by simp; omega), blk_grown W.k3 hg (by simp; omega), R_apart W.o hg (by omega)⟩
theorem Wd.dec4 (F : Fx b g1 g2 g3 g4 h1 h2 h3 go ad TA D T w0) (W : Wd rb c tc b g1 g2 g3 g4 h1 h2 h3 go co N base t1 t2 t3 t4 ad TA D T w0 q1 q2 q3 q4 m1 m2 m3 b out w) :
    ∃ n : Nat, w.cell? ⟨g4, 5, none⟩ = some (.int .u32 n) ∧ w.frozen? ⟨g4, 5, none⟩ = false ∧ b ≤ n ∧ n ≤ 24 ∧ ∀ (d : Nat) (z : Int), d ≤ b → z = (d : Int) → Wd rb c tc b g1 g2 g3 g4 h1 h2 h3 go co N base t1 t2 t3 t4 ad TA D T w0 q1 q2 q3 (q4 - d) m1 m2 m3 0 out (w.setCell ⟨g4, 5, none⟩ (.int .u32 ((n : Int) - z))) := by
  have := F.o1; have := F.o2; have := F.o3; have := F.o4; have := F.o5; have := F.o6; have := F.o7; have := F.o8
  obtain ⟨x, v, n, hI, hR, hm, hn⟩ := W.r4
  refine ⟨n, blk_cell hI 5, blk_frozen hI 5, hm, hn, fun d z hd hz => ?_⟩
  subst hz
  have hg : w.grownBy (w.setCell ⟨g4, 5, none⟩ (.int .u32 ((n : Int) - (d : Int)))) (some g4) := grown_one w ⟨g4, 5, none⟩ (.int .u32 ((n : Int) - (d : Int)))
  have hI1 : IsRbr (w.setCell ⟨g4, 5, none⟩ (.int .u32 ((n : Int) - (d : Int)))) g4 (.pointer (some ⟨rb, 0, none⟩)) (some ad) D.length c x t4 v (n - d) := by
    unfold IsRbr
    rw [show ((n - d : Nat) : Int) = (n : Int) - (d : Int) by omega]
    exact blk_set hI 5 _
  exact ⟨pw_below_grown W.below (some g4) W.below.size hg (fun k hk => by cases hk; omega), W.r1.grown hg (by omega), W.r2.grown hg (by omega), W.r3.grown hg (by omega), ⟨x, v, n - d, hI1, hR.take d (by omega), Nat.zero_le _, by omega⟩, blk_grown W.k1 hg (by simp; omega), blk_grown W.k2 hg (by simp; omega), blk_grown W.k3 hg (by simp; omega), R_apart W.o hg (by show g4 ≠ go; omega)⟩
end
end Go.Proofs.YtopadgohinoomaaDoor.Cx
