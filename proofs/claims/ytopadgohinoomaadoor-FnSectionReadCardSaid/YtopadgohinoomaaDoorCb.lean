/-
Walk of fetch: where enough bits are left the reader has them ready, and stands where it stood.
-/
import Derived.Test.YtopadgohinoomaaDoorCa
import Derived.Test.YtopadgohinoomaaDoorPC0
import Derived.Laws.BitsAllLaws
namespace Go.Proofs.YtopadgohinoomaaDoor.Cx
open Go.RowKit Go.Proofs.YtopadgohinoomaaDoorW.PrintWords Go.Proofs.YtopadgohinoomaaDoorW.PrintLast Go.Proofs.YtopadgohinoomaaDoorW.PrintMore Go.Proofs.YtopadgohinoomaaDoor.PC
attribute [local go_sem] max2_int min2_int max_two min_two max_three min_three max_four min_four
set_option linter.unusedVariables false
set_option linter.unusedSimpArgs false
/-- A backward reader in block gb, over the bytes of a slice. -/
def IsRbr (w : World) (gb : Nat) (rp : Value) (A : Option Addr) (n c off st bits cnt : Nat) : Prop :=
  w.heap[gb]? = some (.cells #[rp, .slice A n c, .int .u32 off, .int .u32 st, .int .u32 bits, .int .u32 cnt] 134 (0, 0))
theorem grown_set {a w : World} {g : Nat} (h : a.grownBy w (some g)) (i : Nat) (u : Value) : a.grownBy (w.setCell ⟨g, i, none⟩ u) (some g) :=
  ⟨h.os, h.tape, h.output, by simpa [World.setCell] using h.size, fun k hk hne => (Below.heap_setCell w ⟨g, i, none⟩ u k (by rintro rfl; exact hne rfl)).trans (h.block k hk hne)⟩
theorem grown_drewN {a w : World} {row : Option Nat} (h : a.grownBy w row) (n : Nat) : a.grownBy (w.drewN n) row := ⟨h.os, h.tape, h.output, h.size, h.block⟩
theorem at_data {w : World} {A : Option Addr} {D : List Int} {gb : Nat} {k : IntKind} (hD : Kd.C (Kd.int k) w A D.length D) (hf : ∀ ad, A = some ad → ad.block ≠ gb) (i : Nat) (hi : i < D.length) :
    ∃ ad, A = some ad ∧ ad.block < w.heap.size ∧ ∀ w', w.grownBy w' (some gb) → w'.cell? (ad.add i) = some (.int k (D.getD i 0)) := by
  obtain ⟨ad, rfl, hc⟩ := Kd.at_int hD (i : Int) (by omega) (by omega)
  simp only [Int.toNat_natCast] at hc
  have hlt := World.block_lt_of_cell? w _ hc
  rw [add_block] at hlt
  refine ⟨ad, rfl, hlt, fun w' hg => ?_⟩
  have h1 := World.cell?_of_block (a := ad.add i) (show w'.heap[(ad.add i).block]? = w.heap[(ad.add i).block]? by rw [add_block]; exact hg.block ad.block hlt (fun e => hf ad rfl (Option.some.inj e)))
  rw [h1, hc]
  rfl
def PostF (gb : Nat) (rp : Value) (A : Option Addr) (c st b p : Nat) (D : List Int) (w : World) (e : Ending) (w' : World) : Prop :=
  e = .returned (.bool true) ∧ ∃ off bits cnt, IsRbr w' gb rp A D.length c off st bits cnt ∧ RdOk D off bits cnt p ∧ b ≤ cnt ∧ cnt ≤ 24 ∧ w.grownBy w' (some gb)

set_option maxHeartbeats 1000000 in
set_option maxRecDepth 100000 in
theorem fetch_any (gb : Nat) (rp : Value) (A : Option Addr) (c st b p off bits cnt : Nat) (D : List Int) (w : World) (hI : IsRbr w gb rp A D.length c off st bits cnt)
    (hD : Kd.C (Kd.int .u8) w A D.length D) (hf : ∀ ad, A = some ad → ad.block ≠ gb) (hB : Bytes D) (hrd : RdOk D off bits cnt p) (hb : b ≤ 16) (hc : cnt ≤ 24) (hp : 8 * st + b ≤ p) (hl : D.length ≤ 2000000) :
    Calls Tryd.prog 67 #[.pointer (some ⟨gb, 0, none⟩), .int .u8 b] w (PostF gb rp A c st b p D w) := by
  have hu := Tryd.underlying134
  have HI := Aside0.mk hI
  have HD := Aside0.mk hD
  have HF := Aside0.mk hf
  have HB := Aside0.mk hB
  have HRD := Aside0.mk hrd
  clear hI hD hf hB hrd
  go_enter Tryd.func67, Tryd.ntmps67
  go_wp2
  go_loopg [] off (fun kq w' => ∃ bits cnt : Nat, Aside0 (IsRbr w' gb rp A D.length c kq st bits cnt) ∧ Aside0 (RdOk D kq bits cnt p) ∧ cnt ≤ 24 ∧ Aside0 (w.grownBy w' (some gb)))
  case atStart => exact ⟨bits, cnt, HI, HRD, hc, ⟨World.grownBy.refl w _⟩⟩
  case round =>
    clear HI HRD hc
    obtain ⟨bits, cnt, HI, HRD, hc, HG⟩ := hrel
    have r0 := blk_cell HI.out 0
    have r1 := blk_cell HI.out 1
    have r2 := blk_cell HI.out 2
    have r3 := blk_cell HI.out 3
    have r4 := blk_cell HI.out 4
    have r5 := blk_cell HI.out 5
    simp only [List.getElem?_toArray, List.getElem?_cons_zero, List.getElem?_cons_succ] at r0 r1 r2 r3 r4 r5
    have f2 := blk_frozen HI.out 2
    have f4 := blk_frozen HI.out 4
    have f5 := blk_frozen HI.out 5
    have hp1 : p ≤ 8 * gk + cnt := by have := HRD.out.1; omega
    have hp2 : gk ≤ D.length := HRD.out.2.1
    by_cases hlt : cnt < b
    · have hgk : 8 * st < 8 * gk := by omega
      have c1 : ((cnt : Int) < (b : Int)) := by omega
      have c2 : ¬ ((gk : Int) ≤ (st : Int)) := by omega
      obtain ⟨m, rfl⟩ : ∃ m, gk = m + 1 := ⟨gk - 1, by omega⟩
      obtain ⟨ad, e1, hlt', hat⟩ := at_data HD.out HF.out m (by omega)
      subst e1
      have hd0 : ∀ (n1 : Nat) (u1 : Value) , ((wr.drewN n1).setCell ⟨gb, 2, none⟩ u1).cell? (ad.add m) = some (.int .u8 (D.getD m 0)) := fun n1 u1 => hat _ (grown_set (grown_drewN HG.out n1) 2 u1)
      obtain ⟨x0, x1⟩ := HB.out.get m
      obtain ⟨d, hd⟩ : ∃ d : Int, D.getD m 0 = d := ⟨_, rfl⟩
      rw [hd] at x0 x1
      simp only [hd] at hd0
      have HDD := Aside0.mk hd
      have hml : (m : Int) < (D.length : Int) := by omega
      clear hd hat hlt'
      go_wp2_with (fail)
      go_quiet (fail)
      go_wp2_with (fail)
      go_quiet (fail)
      go_wp2_with (fail)
      go_roundg m
      case rel =>
        have hdn : ((d.toNat : Nat) : Int) = d := by omega
        have e := u32_or_nat (bits * 256 % 4294967296) d.toNat (by omega) (by omega)
        rw [hdn, Int.natCast_emod, Int.natCast_mul] at e
        have hs := HRD.out.step HB.out (by omega) hc
        rw [Nat.add_sub_cancel, HDD.out] at hs
        refine ⟨(bits * 256 % 4294967296) ||| d.toNat, cnt + 8, ⟨?_⟩, ⟨hs⟩, by omega, ⟨grown_set (grown_set (grown_set (grown_drewN (grown_set (grown_drewN HG.out _) 2 _) _) 4 _) 4 _) 5 _⟩⟩
        unfold IsRbr
        rw [show Go.bits .or .u32 ((bits : Int) * 256 % 4294967296) d = _ from e]
        exact blk_set (blk_set (blk_set (blk_drewN (blk_set (blk_drewN HI.out _) 2 (.int .u32 (m : Int))) _) 4 (.int .u32 (↑bits * 256 % 4294967296))) 4 (.int .u32 (((bits * 256 % 4294967296) ||| d.toNat : Nat) : Int))) 5 (.int .u32 ((cnt : Int) + 8))
      case measure => omega
    · have c1 : ¬ ((cnt : Int) < (b : Int)) := by omega
      go_wp2
      go_ret
      exact ⟨rfl, gk, bits, cnt, HI.out, HRD.out, by omega, hc, HG.out⟩
end Go.Proofs.YtopadgohinoomaaDoor.Cx
