/-
Walk of makeReverseBitReader where the last byte is not 0: the reader stands below the highest bit of that byte.
-/
import Derived.Test.YtopadgohinoomaaDoorCb
import Derived.Test.YtopadgohinoomaaDoorPC4
import Derived.Outline
import Derived.Deep.DeepMust
namespace Go.Proofs.YtopadgohinoomaaDoor.Cx
open Go.RowKit Go.Proofs.YtopadgohinoomaaDoorW.PrintWords Go.Proofs.YtopadgohinoomaaDoorW.PrintLast Go.Proofs.YtopadgohinoomaaDoorW.PrintMore Go.Proofs.YtopadgohinoomaaDoor.PC
attribute [local go_sem] max2_int min2_int max_two min_two max_three min_three max_four min_four
set_option linter.unusedVariables false
set_option linter.unusedSimpArgs false
theorem info134 : (Tryd.prog.info? 134).map (·.size) = some 6 := by kernel_rfl
theorem lz8 : ∀ i : Nat, i < 256 → i ≠ 0 → bits_LeadingZeros8.f (i : Int) = some (7 - (Nat.log2 i : Int)) := by decide +kernel
theorem log8 {i : Nat} (h : i < 256) (h0 : i ≠ 0) : Nat.log2 i ≤ 7 := by
  have := (Nat.log2_lt h0 (k := 8)).2 (by omega)
  omega
theorem start_ok {D : List Int} {off : Nat} (hB : Bytes D) (ho : off < D.length) (k : Nat) (hk : k ≤ 7) : RdOk D off (D.getD off 0).toNat k (8 * off + k) := by
  have h1 := hB.get off
  refine ⟨rfl, by omega, by omega, ?_⟩
  rw [num_drop D off ho]
  have h8 : (256 : Nat) = 2 ^ k * 2 ^ (8 - k) := by rw [← Nat.pow_add, show k + (8 - k) = 8 by omega]
  rw [h8, Nat.mul_assoc, Nat.add_mul_mod_self_left]

set_option maxHeartbeats 1000000 in
set_option maxRecDepth 100000 in
theorem mrbr_any (rb : Nat) (A : Option Addr) (c off st : Nat) (D : List Int) (w : World)
    (hD : Kd.C (Kd.int .u8) w A D.length D) (hB : Bytes D) (ho : off < D.length) (hne : D.getD off 0 ≠ 0) (hl : D.length ≤ 2000000) (hst : st ≤ 2000000) :
    Calls Tryd.prog 65 #[.pointer (some ⟨rb, 0, none⟩), .slice A D.length c, .int .i64 off, .int .i64 st] w fun e w' =>
      e = .returned (.tuple #[.agg #[.pointer (some ⟨rb, 0, none⟩), .slice A D.length c, .int .u32 off, .int .u32 st, .int .u32 ((D.getD off 0).toNat : Int), .int .u32 (Nat.log2 (D.getD off 0).toNat : Int)], .nilIface]) ∧ Below w.heap.size w w' := by
  have hu := Tryd.underlying134
  obtain ⟨ad, e1, hc⟩ := Kd.at_int hD (off : Int) (by omega) (by omega)
  simp only [Int.toNat_natCast] at hc
  have hr := hB.get off
  obtain ⟨d, hd⟩ : ∃ d : Nat, D.getD off 0 = (d : Int) := ⟨(D.getD off 0).toNat, by omega⟩
  have hc' : w.cell? (ad.add off) = some (.int .u8 (d : Int)) := by rw [hc, ← hd]; rfl
  rw [hd, Int.toNat_natCast]
  rw [hd] at hr hne
  have HL := Aside0.mk (lz8 d (by omega) (by omega))
  have hlg := log8 (i := d) (by omega) (by omega)
  have hoi : (off : Int) < (D.length : Int) := by omega
  have hne' : ((d : Int) == 0) = false := by simpa using hne
  have hlt := World.block_lt_of_cell? w _ hc'
  subst e1
  clear hc hd hD hB ho hne
  obtain ⟨k, hk⟩ : ∃ k, Nat.log2 d = k := ⟨_, rfl⟩
  rw [hk] at HL hlg ⊢
  clear hk
  have hcc : ∀ o1, (w.alloc o1).cell? (ad.add off) = some (.int .u8 (d : Int)) := fun o1 => pw_cell_below (below_alloc (Below.refl w.heap.size w) o1) hc'
  have HB := Aside0.mk (Below.refl w.heap.size w)
  go_enter Tryd.func65, Tryd.ntmps65
  go_wp2_with (first | (go_at_call 76; (with_reducible refine (bits_LeadingZeros8.calls (d : Int) _ _ HL.out).mono ?_); rintro e w1 ⟨rfl, ⟨n1, rfl⟩⟩))
  have hz : (7 : Int) - (7 - (k : Int)) = (k : Int) := by omega
  rw [hz]
  have hb1 := blk_alloc (blk_set (blk_set (blk_set (blk_set (blk_set (blk_set (blk_drewN (blk_new w (Obj.cells #[Value.pointer none, Value.slice none 0 0, Value.int IntKind.u32 0, Value.int IntKind.u32 0, Value.int IntKind.u32 0, Value.int IntKind.u32 0] 134)) n1) 0 (Value.pointer (some ⟨rb, 0, none⟩))) 1 (Value.slice (some ad) D.length c)) 2 (Value.int IntKind.u32 ↑off)) 3 (Value.int IntKind.u32 ↑st)) 4 (Value.int IntKind.u32 ↑d)) 5 (Value.int IntKind.u32 (k : Int))) (Obj.cells #[Value.pointer (some ⟨rb, 0, none⟩), Value.slice (some ad) D.length c, Value.int IntKind.u32 ↑off, Value.int IntKind.u32 ↑st, Value.int IntKind.u32 ↑d, Value.int IntKind.u32 (k : Int)] 134)
  refine bodyPost_ret (results_ct rfl _ _ w.heap.size 134 _ (0, 0) _ rfl hb1 hu rfl info134) rfl ⟨rfl, ?_⟩
  exact below_alloc (((((((pw_below_drewN (below_alloc HB.out _) n1).setCell (Nat.le_refl _) _).setCell (Nat.le_refl _) _).setCell (Nat.le_refl _) _).setCell (Nat.le_refl _) _).setCell (Nat.le_refl _) _).setCell (Nat.le_refl _) _) _
end Go.Proofs.YtopadgohinoomaaDoor.Cx
