/-
Walk of the closure that looks up the next code of one of four readers.
-/
import Derived.Test.YtopadgohinoomaaDoorCc
namespace Go.Proofs.YtopadgohinoomaaDoor.Cx
open Go.RowKit Go.Proofs.YtopadgohinoomaaDoorW.PrintWords Go.Proofs.YtopadgohinoomaaDoorW.PrintLast Go.Proofs.YtopadgohinoomaaDoorW.PrintMore Go.Proofs.YtopadgohinoomaaDoor.PC
attribute [local go_sem] max2_int min2_int max_two min_two max_three min_three max_four min_four
set_option linter.unusedVariables false
set_option linter.unusedSimpArgs false
theorem idx_eq {D : List Int} {off bits cnt p b : Nat} (hB : Bytes D) (h : RdOk D off bits cnt p) (hc : b ≤ cnt) (hb : b ≤ 11) :
    Go.bits BinOp.and IntKind.u32 ((bits : Int) / 2 ^ (cnt - b)) ((2 ^ b - 1 : Nat) : Int) = (look D p b : Int) := by
  have h1 : ((bits : Int) / 2 ^ (cnt - b)) = ((bits / 2 ^ (cnt - b) : Nat) : Int) := by
    rw [Int.natCast_ediv, Int.natCast_pow]; rfl
  have h2 : bits / 2 ^ (cnt - b) < 4294967296 := Nat.lt_of_le_of_lt (Nat.div_le_self _ _) h.2.2.1
  have h3 : 2 ^ b ≤ 2 ^ 11 := Nat.pow_le_pow_right (by decide) hb
  rw [h1, u32_and_nat _ _ h2 (by omega), Nat.and_two_pow_sub_one_eq_mod, h.look hB b hc]
def PostK (gb : Nat) (rp : Value) (A : Option Addr) (c st b p : Nat) (D T : List Int) (w : World) (e : Ending) (w' : World) : Prop :=
  e = .returned (.tuple #[.int .u16 (T.getD (look D p b) 0), .nilIface]) ∧ ∃ off bits cnt, IsRbr w' gb rp A D.length c off st bits cnt ∧ RdOk D off bits cnt p ∧ b ≤ cnt ∧ cnt ≤ 24 ∧ w.grownBy w' (some gb)
set_option maxHeartbeats 400000 in
set_option maxRecDepth 100000 in
theorem look_any (gb g1 g2 g3 : Nat) (rp : Value) (A TA : Option Addr) (c tc st b p off bits cnt : Nat) (D T : List Int) (w : World) (hI : IsRbr w gb rp A D.length c off st bits cnt)
    (h1 : w.heap[g1]? = some (.cells #[.int .u32 b] 87 (0, 0))) (h2 : w.heap[g2]? = some (.cells #[.int .u32 (2 ^ b - 1 : Nat)] 87 (0, 0))) (h3 : w.heap[g3]? = some (.cells #[.slice TA T.length tc] 74 (0, 0)))
    (hD : Kd.C (Kd.int .u8) w A D.length D) (hf : ∀ ad, A = some ad → ad.block ≠ gb) (hT : Kd.C (Kd.int .u16) w TA T.length T) (hft : ∀ ad, TA = some ad → ad.block ≠ gb)
    (hB : Bytes D) (hrd : RdOk D off bits cnt p) (hb : b ≤ 11) (hc : cnt ≤ 24) (hp : 8 * st + b ≤ p) (hl : D.length ≤ 2000000) (hTl : 2 ^ b ≤ T.length) (hTm : T.length ≤ 2000000) :
    Calls Tryd.prog 66 #[.pointer (some ⟨gb, 0, none⟩), .pointer (some ⟨g1, 0, none⟩), .pointer (some ⟨g2, 0, none⟩), .pointer (some ⟨g3, 0, none⟩)] w (PostK gb rp A c st b p D T w) := by
  have hu := Tryd.underlying134
  have n1 : g1 ≠ gb := by rintro rfl; have := h1.symm.trans hI; simp at this
  have n2 : g2 ≠ gb := by rintro rfl; have := h2.symm.trans hI; simp at this
  have n3 : g3 ≠ gb := by rintro rfl; have := h3.symm.trans hI; simp at this
  have HI := Aside0.mk hI
  have HD := Aside0.mk hD
  have HF := Aside0.mk hf
  have HT := Aside0.mk hT
  have HFT := Aside0.mk hft
  have HB := Aside0.mk hB
  have HRD := Aside0.mk hrd
  have r1 := blk_cell h1 0
  have r2 := blk_cell h2 0
  have r3 := blk_cell h3 0
  simp only [List.getElem?_toArray, List.getElem?_cons_zero, List.getElem?_cons_succ] at r1 r2 r3
  have H1 := Aside0.mk h1
  have H2 := Aside0.mk h2
  have H3 := Aside0.mk h3
  clear hI hD hf hT hft hB hrd h1 h2 h3
  go_enter Tryd.func66, Tryd.ntmps66
  go_wp2_with (first | (go_at_call 67; refine (fetch_any gb rp A c st b p off bits cnt D _ HI.out HD.out HF.out HB.out HRD.out (by omega) hc hp hl).mono ?_; rintro e w1 ⟨rfl, off1, bits1, cnt1, hI1, hR1, hb1, hc1, hg1⟩; have HG := Aside0.mk hg1; have HI1 := Aside0.mk hI1; have HR1 := Aside0.mk hR1; have s1 := blk_cell (blk_grown H1.out hg1 (by simpa using n1)) 0; have s2 := blk_cell (blk_grown H2.out hg1 (by simpa using n2)) 0; have s3 := blk_cell (blk_grown H3.out hg1 (by simpa using n3)) 0; have q4 := blk_cell hI1 4; have q5 := blk_cell hI1 5; simp only [List.getElem?_toArray, List.getElem?_cons_zero, List.getElem?_cons_succ] at s1 s2 s3 q4 q5; clear hg1 hI1 hR1))
  go_quiet (fail)
  rw [idx_eq HB.out HR1.out hb1 hb]
  have hkl := look_lt D p b
  obtain ⟨i, hi⟩ : ∃ i, look D p b = i := ⟨_, rfl⟩
  rw [hi] at hkl
  rw [hi]
  have HK := Aside0.mk hi
  clear hi
  obtain ⟨ad, e1, hlt', hat⟩ := at_data HT.out HFT.out i (by omega)
  subst e1
  have hd0 : ∀ n1, (w1.drewN n1).cell? (ad.add i) = some (.int .u16 (T.getD i 0)) := fun n1 => hat _ (grown_drewN HG.out n1)
  have hil : (i : Int) < (T.length : Int) := by omega
  clear hat hlt'
  go_wp2_with (fail)
  go_ret2
  refine ⟨?_, off1, bits1, cnt1, ?_, HR1.out, hb1, hc1, grown_drewN HG.out _⟩
  · rw [HK.out]; rfl
  · exact HI1.out
end Go.Proofs.YtopadgohinoomaaDoor.Cx
