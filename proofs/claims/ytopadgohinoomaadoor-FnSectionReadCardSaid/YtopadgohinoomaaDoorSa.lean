/-
Errors: errors.New, wrapError and makeError answer an error that is not nil, where io.EOF holds another pointer.
-/
import Derived.Test.YtopadgohinoomaaDoorPC0
import Derived.LaidEqlPtr
import Derived.WalkSpells

namespace Go.Proofs.YtopadgohinoomaaDoor.St
open Go.RowKit Go.Proofs.YtopadgohinoomaaDoorW.PrintWords Go.Proofs.YtopadgohinoomaaDoorW.PrintLast Go.Proofs.YtopadgohinoomaaDoorW.PrintMore
attribute [local go_sem] max2_int min2_int max_two min_two max_three min_three max_four min_four
set_option linter.unusedVariables false
set_option linter.unusedSimpArgs false

theorem new_any (s : ByteArray) (w : World) :
    Calls Tryd.prog 72 #[.string s] w fun e w' => e = .returned (.iface 155 (.pointer (some ⟨w.heap.size, 0, none⟩))) ∧ w.alloc (.cells #[.string s] 157) = w' := by
  have hu := Tryd.underlying157
  go_enter Tryd.func72, Tryd.ntmps72
  go_wp2
  go_ret
  exact ⟨rfl, rfl⟩

/-- io.EOF holds a pointer to an errorString in a row that no one has frozen. -/
def Eof (w : World) : Prop := ∃ a c t, w.cell? ⟨3, 0, none⟩ = some (.iface 155 (.pointer (some a))) ∧ w.heap[a.block]? = some (.cells c t (0, 0))
theorem Eof.below {w w' : World} (h : Eof w) (hb : Below w.heap.size w w') : Eof w' := by
  obtain ⟨a, c, t, h1, h2⟩ := h
  exact ⟨a, c, t, pw_cell_below hb h1, blk_below h2 hb⟩
/-- A reader of the call's own: its block. -/
def IsReader (w : World) (rb : Nat) : Prop := ∃ cs bo, w.heap[rb]? = some (.cells cs 99 (0, 0)) ∧ cs[6]? = some (.int .i64 bo)

def SomeErr (w : World) (e : Ending) (w' : World) : Prop := ∃ b, e = .returned (.iface 152 (.pointer (some b))) ∧ Below w.heap.size w w'

theorem i155 : (Tryd.prog.info? 155).map (·.comparable) = some true := by kernel_rfl
theorem i157 : (Tryd.prog.info? 157).map (·.size) = some 1 := by kernel_rfl

set_option maxRecDepth 100000 in
theorem wrap_any (rb : Nat) (off bo : Int) (cs : Array Value) (s : ByteArray) (w : World) (p a : Addr) (hpa : p ≠ a) (c c' : Array Value) (t t' : TypeId)
    (hE : w.cell? ⟨3, 0, none⟩ = some (.iface 155 (.pointer (some a)))) (ha : w.heap[a.block]? = some (.cells c t (0, 0))) (hp : w.heap[p.block]? = some (.cells c' t' (0, 0)))
    (hb : w.cell? ⟨rb, 6, none⟩ = some (.int .i64 bo)) :
    Calls Tryd.prog 71 #[.pointer (some ⟨rb, 0, none⟩), .int .i64 off, .iface 155 (.pointer (some p))] w (SomeErr w) := by
  obtain ⟨i, hi, hcomp⟩ := Option.map_eq_some_iff.1 i155
  obtain ⟨j, hj, hsz⟩ := Option.map_eq_some_iff.1 i157
  have heq := run_eql_iface_ptr_other (P := Tryd.prog) w Tryd.underlying57 Tryd.underlying155 hi hcomp hj (by rw [hsz]; decide) hpa hp ha
  have hu := Tryd.underlying154
  have hu2 := Tryd.underlying99
  clear ha hp hi hj hcomp hsz
  go_enter Tryd.func71, Tryd.ntmps71
  go_wp2
  go_ret
  exact ⟨_, rfl, below_alloc (Below.refl _ _) _⟩

theorem isReader_cell {w : World} {rb : Nat} (h : IsReader w rb) : ∃ bo, w.cell? ⟨rb, 6, none⟩ = some (.int .i64 bo) := by
  obtain ⟨cs, bo, h1, h2⟩ := h
  exact ⟨bo, (blk_cell h1 6).trans h2⟩

set_option maxRecDepth 100000 in
theorem makeError_any (rb : Nat) (off : Int) (s : ByteArray) (w : World) (hE : Eof w) (hR : IsReader w rb) :
    Calls Tryd.prog 61 #[.pointer (some ⟨rb, 0, none⟩), .int .i64 off, .string s] w (SomeErr w) := by
  obtain ⟨a, c, t, he, ha⟩ := hE
  obtain ⟨bo, hb⟩ := isReader_cell hR
  have HE := Aside0.mk he
  have HA := Aside0.mk ha
  have HB := Aside0.mk hb
  clear he ha hb hR
  go_enter Tryd.func61, Tryd.ntmps61
  go_wp2_with (first | (go_at_call 72; refine (new_any s _).mono ?_; rintro e w1 ⟨rfl, hw1⟩; have HB1 := Aside0.mk (hw1 ▸ below_alloc (Below.refl w.heap.size w) _ : Below w.heap.size w w1); have HP := Aside0.mk (hw1 ▸ blk_new w _ : w1.heap[w.heap.size]? = some (.cells #[.string s] 157)); clear hw1) | (go_at_call 71; refine (wrap_any rb _ _ #[] s w1 _ a ?_ _ _ _ _ (pw_cell_below HB1.out HE.out) (blk_below HA.out HB1.out) HP.out (pw_cell_below HB1.out HB.out)).mono ?_; (rintro rfl; exact absurd (blk_lt HA.out) (Nat.lt_irrefl _)); rintro e w2 ⟨b, rfl, hb2⟩; have HB2 := Aside0.mk hb2; clear hb2))
  go_ret
  exact ⟨_, rfl, below_then HB1.out HB1.out.size HB2.out⟩
end Go.Proofs.YtopadgohinoomaaDoor.St
