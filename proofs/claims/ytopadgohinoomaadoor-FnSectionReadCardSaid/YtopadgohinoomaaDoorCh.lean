/-
Walk of zzReader: a reader with a table, and that table's own copy.
-/
import Derived.Test.YtopadgohinoomaaDoorCg
import Derived.Test.YtopadgohinoomaaDoorSa
namespace Go.Proofs.YtopadgohinoomaaDoor.Cx
open Go.RowKit Go.Proofs.YtopadgohinoomaaDoorW.PrintWords Go.Proofs.YtopadgohinoomaaDoorW.PrintLast Go.Proofs.YtopadgohinoomaaDoorW.PrintMore Go.Proofs.YtopadgohinoomaaDoor.PC
attribute [local go_sem] max2_int min2_int max_two min_two max_three min_three max_four min_four
set_option linter.unusedVariables false
set_option linter.unusedSimpArgs false
def rcells (v : Value) (b : Int) : Array Value := #[.nilIface, .bool false, .bool false, .bool false, .bool false, .int .u64 0, .int .i64 0, .slice none 0 0, .int .i64 0, .int .u32 0, .int .u32 0, .int .u32 0, v, .int .i64 b, .int .i64 0, .slice none 0 0, .int .i64 0, .slice none 0 0, .slice none 0 0, .slice none 0 0, .slice none 0 0, .slice none 0 0, .int .u8 0, .int .u8 0, .int .u8 0, .slice none 0 0, .slice none 0 0, .slice none 0 0, .int .u8 0, .int .u8 0, .int .u8 0, .int .u8 0, .int .u8 0, .int .u8 0, .int .u8 0, .int .u8 0, .int .u8 0, .int .u8 0, .int .u8 0, .int .u8 0, .int .u8 0, .int .u8 0, .int .u8 0, .int .u8 0, .slice none 0 0, .int .u64 0, .int .u64 0, .int .u64 0, .int .u64 0, .int .u64 0, .int .u8 0, .int .u8 0, .int .u8 0, .int .u8 0, .int .u8 0, .int .u8 0, .int .u8 0, .int .u8 0, .int .u8 0, .int .u8 0, .int .u8 0, .int .u8 0, .int .u8 0, .int .u8 0, .int .u8 0, .int .u8 0, .int .u8 0, .int .u8 0, .int .u8 0, .int .u8 0, .int .u8 0, .int .u8 0, .int .u8 0, .int .u8 0, .int .u8 0, .int .u8 0, .int .u8 0, .int .u8 0, .int .u8 0, .int .u8 0, .int .u8 0, .int .u8 0, .int .i64 0]
theorem info103 : (Tryd.prog.info? 103).map (fun i => (i.zero, i.size, i.bytes)) = some (some (.int .u16 0), 1, 2) := by kernel_rfl
theorem size103 : (Tryd.prog.info? 103).map (·.size) = some 1 := by kernel_rfl
/-- The table with noughts behind. -/
def padded (T : List Int) : List Int := T.take (min T.length 2048) ++ (List.replicate 2048 0).drop (min T.length 2048)
structure IsRd (rb : Nat) (v : Value) (b : Int) (base : Nat) (T : List Int) (w : World) : Prop where
  blk : w.heap[rb]? = some (.cells (rcells v b) 99 (0, 0))
  tab : Kd.R (Kd.int .u16) 103 w base (fun k => k ≠ rb) v T
def PostD (T : List Int) (b : Int) (w : World) (e : Ending) (w' : World) : Prop := ∃ rb v, e = .returned (.pointer (some ⟨rb, 0, none⟩)) ∧ w.heap.size ≤ rb ∧ IsRd rb v b w.heap.size T w' ∧ Below w.heap.size w w'
theorem rmono {w : World} {base rb : Nat} {v : Value} {T : List Int} (h : Kd.R (Kd.int .u16) 103 w base (fun _ => True) v T) (hk : ∀ k, v.ownBlock = some k → k ≠ rb) : Kd.R (Kd.int .u16) 103 w base (fun k => k ≠ rb) v T := Kd.R_of_own (Kd.own_of_R h) hk
theorem own_eq {g k n c : Nat} (h : (Value.slice (some ⟨g, 0, none⟩) n c).ownBlock = some k) : g = k := by simpa [Value.ownBlock] using h
theorem form2048 {w : World} {base : Nat} {v : Value} (h : Kd.R (Kd.int .u16) 103 w base (fun _ => True) v (List.replicate (2048 : Int).toNat 0)) : ∃ g c, v = .slice (some ⟨g, 0, none⟩) 2048 c ∧ base ≤ g ∧ g < w.heap.size := by
  obtain ⟨g, c, e, h1, h2, -⟩ := Kd.R_form h (by rw [List.length_replicate]; decide)
  rw [List.length_replicate] at e
  exact ⟨g, c, e, h1, h2⟩
set_option maxHeartbeats 4000000 in
set_option maxRecDepth 100000 in
theorem reader_any (TA : Option Addr) (tc : Nat) (T : List Int) (b : Int) (w : World) (hT : Kd.C (Kd.int .u16) w TA T.length T) :
    Calls Tryd.prog 55 #[.slice TA T.length tc, .int .i64 b] w (PostD (padded T) b w) := by
  have hu74 := Tryd.underlying74
  have hu99 := Tryd.underlying99
  have HT := Aside0.mk hT
  have HB := Aside0.mk (Below.refl w.heap.size w)
  clear hT
  go_enter Tryd.func55, Tryd.ntmps55
  go_wp2_with (first
    | ((with_reducible refine gate_dst (N := 6) rfl ?_); refine Kd.R_make (Kd.int .u16) (w0 := w) w.heap.size 103 rfl (N := 6) rfl 74 (.const (.int .i64 2048)) (.const (.int .i64 2048)) rfl 2048 rfl rfl Tryd.underlying74 (.int .u16 0) 2 info103 rfl (by decide) (by omega) 0 (ok := fun _ => True) (okp := fun _ => False) ?m1 (fun _ hk => hk.elim) trivial (by omega) (by decide) HB.out HB.out.size ?_; (case m1 => rfl); intro v1 w1 ho hb hg hat; have HO := Aside0.mk ho; have HB1 := Aside0.mk hb; obtain ⟨gt, ct, e1, hgb, hgl⟩ := form2048 ho; subst e1; clear ho hb hg hat)
    | ((with_reducible refine gate_dst (N := 9) rfl ?_); refine box_event ?hg (N := 9) ?hd (cs := rcells (.slice (some ⟨gt, 0, none⟩) 2048 ct) b) (t := 99) ?hr ?_; (case hd => rfl); (case hg => rfl); (case hr => first | (go_simp; done) | (go_simp; rfl)); intro gb hg w2 hbox hb; have HG := Aside0.mk hg; have HO2 := Aside0.mk (Kd.R_below HO.out hb); have HB2 := Aside0.mk (below_then HB1.out HB1.out.size hb); have HX := Aside0.mk hbox; have q12 : w2.cell? ⟨gb, 12, none⟩ = some (.slice (some ⟨gt, 0, none⟩) 2048 ct) := (blk_cell hbox 12).trans rfl; clear hg hbox hb)
    | ((with_reducible refine gate_dst (N := 15) rfl ?_); refine Kd.R_copy 0 (w0 := w) w.heap.size rfl (.tmp 13) (.tmp 14) 74 74 103 rfl Tryd.underlying74 size103 (.slice (some ⟨gt, 0, none⟩) 2048 ct) (List.replicate (2048 : Int).toNat 0) T TA T.length tc (fun _ => True) rfl rfl HO2.out (Kd.C_below HT.out HB2.out) HB2.out HB2.out.size ?_; intro w3 ho hb hg; have HO3 := Aside0.mk ho; have HB3 := Aside0.mk hb; have HX3 := Aside0.mk (blk_grown HX.out hg (by simp [Value.ownBlock]; have := HG.out; omega)); clear ho hb hg))
  go_ret
  exact ⟨gb, .slice (some ⟨gt, 0, none⟩) 2048 ct, rfl, HG.out ▸ HB1.out.size, ⟨HX3.out, rmono HO3.out (fun k hk => by have := own_eq hk; have := HG.out; omega)⟩, HB3.out⟩
end Go.Proofs.YtopadgohinoomaaDoor.Cx
