/-
The loop over a table of states: what it leaves behind k rounds; what its end says.
-/
import Derived.Test.YtopadgohinoomaaDoorSa
import Derived.Test.YtopadgohinoomaaDoorSw
import Derived.Test.YtopadgohinoomaaDoorPC0
namespace Go.Proofs.YtopadgohinoomaaDoor.St
open Go.RowKit Go.Proofs.YtopadgohinoomaaDoorW.PrintWords Go.Proofs.YtopadgohinoomaaDoorW.PrintLast Go.Proofs.YtopadgohinoomaaDoorW.PrintMore Go.Proofs.YtopadgohinoomaaDoor.PC
attribute [local go_sem] max2_int min2_int max_two min_two max_three min_three max_four min_four
set_option linter.unusedVariables false
set_option linter.unusedSimpArgs false

/-- What a loop over states leaves, k rounds done. -/
def done (g : S123 → S125) (l : List S123) (b : List S125) (k : Nat) : List S125 := (l.take k).map g ++ b.drop k
theorem done_len {g : S123 → S125} {l : List S123} {b : List S125} {k : Nat} (hl : b.length = l.length) (hk : k ≤ l.length) : (done g l b k).length = b.length := by
  unfold done
  rw [List.length_append, List.length_map, List.length_take, List.length_drop]
  omega
theorem done_all {g : S123 → S125} {l : List S123} {b : List S125} (hl : b.length = l.length) : done g l b l.length = l.map g := by
  unfold done
  rw [List.take_length, List.drop_of_length_le (by omega), List.append_nil]
theorem done_step {g : S123 → S125} {l : List S123} {b : List S125} {k : Nat} {x : S123} (hl : b.length = l.length) (hk : l[k]? = some x) : (done g l b k).set k (g x) = done g l b (k + 1) := by
  have hlt : k < l.length := (List.getElem?_eq_some_iff.1 hk).1
  unfold done
  have h1 : ((l.take k).map g).length = k := by rw [List.length_map, List.length_take]; omega
  rw [List.set_append_right _ _ (by omega), h1, Nat.sub_self, List.drop_eq_getElem_cons (show k < b.length by omega), List.set_cons_zero]
  rw [List.take_add_one, hk]
  simp
def IsB (x : S123) : Prop := (0 ≤ x.f0 ∧ x.f0 ≤ 255) ∧ (0 ≤ x.f1 ∧ x.f1 ≤ 255) ∧ (0 ≤ x.f2 ∧ x.f2 ≤ 65535)

def Inv (rb : Nat) (A2 : Option Addr) (c2 : Nat) (l : List S123) (A3 : Option Addr) (n3 c3 : Nat) (w0 : World) (b' : List S125) (w' : World) : Prop :=
  Kd.R k125 125 w' w0.heap.size (fun _ => True) (.slice A3 n3 c3) b' ∧ Kd.R k123 123 w' w0.heap.size (fun _ => True) (.slice A2 l.length c2) l ∧ Below w0.heap.size w0 w' ∧ IsReader w' rb
theorem IsReader.grown {w w' : World} {rb : Nat} (h : IsReader w rb) {row : Option Nat} (hg : w.grownBy w' row) (hne : some rb ≠ row) : IsReader w' rb := by
  obtain ⟨cs, bo, h1, h2⟩ := h
  exact ⟨cs, bo, blk_grown h1 hg hne, h2⟩
theorem IsReader.alloc {w : World} {rb : Nat} (h : IsReader w rb) (o : Obj) : IsReader (w.alloc o) rb := by
  obtain ⟨cs, bo, h1, h2⟩ := h
  exact ⟨cs, bo, blk_alloc h1 o, h2⟩
section
variable {rb : Nat} {A2 : Option Addr} {c2 : Nat} {l : List S123} {A3 : Option Addr} {n3 c3 : Nat} {w0 w' w1 : World} {b' b1 : List S125}
theorem Inv.alloc (h : Inv rb A2 c2 l A3 n3 c3 w0 b' w') (o : Obj) : Inv rb A2 c2 l A3 n3 c3 w0 b' (w'.alloc o) :=
  ⟨Kd.R_alloc h.1 o, Kd.R_alloc h.2.1 o, below_alloc h.2.2.1 o, h.2.2.2.alloc o⟩
theorem Inv.store {g : Nat} (h : Inv rb A2 c2 l (some ⟨g, 0, none⟩) n3 c3 w0 b' w') (h1 : Kd.R k125 125 w1 w0.heap.size (fun _ => True) (.slice (some ⟨g, 0, none⟩) n3 c3) b1) (hB : Below w0.heap.size w0 w1) (hg : w'.grownBy w1 (some g)) :
    Inv rb A2 c2 l (some ⟨g, 0, none⟩) n3 c3 w0 b1 w1 := by
  refine ⟨h1, Kd.R_over h.2.1 h.1 (by decide) hg, hB, ?_⟩
  obtain ⟨cs, bo, h3, h4⟩ := h.2.2.2
  have := Kd.R_ne h.1 h3 (by decide)
  exact ⟨cs, bo, blk_grown h3 hg (by simpa [Value.ownBlock] using this), h4⟩
end

def Post (P : S123 → Bool) (g : S123 → S125) (l : List S123) (v : Value) (w0 : World) (e : Ending) (w' : World) : Prop :=
  Below w0.heap.size w0 w' ∧ ∃ b', Kd.R k125 125 w' w0.heap.size (fun _ => True) v b' ∧
    ((l.all P = true ∧ b' = l.map g ∧ e = .returned .nilIface) ∨ (l.all P = false ∧ ∃ p, e = .returned (.iface 152 (.pointer (some p)))))
theorem all_false {P : S123 → Bool} {l : List S123} {x : S123} (hx : x ∈ l) (hp : P x = false) : l.all P = false := by
  rw [← Bool.not_eq_true, List.all_eq_true]
  intro h
  rw [h x hx] at hp
  cases hp
theorem post_err {P : S123 → Bool} {g : S123 → S125} {rb : Nat} {A2 : Option Addr} {c2 : Nat} {l : List S123} {A3 : Option Addr} {n3 c3 : Nat} {w0 w' w1 : World} {b' : List S125} {x : S123} (h : Inv rb A2 c2 l A3 n3 c3 w0 b' w') (hx : x ∈ l) (hp : P x = false) (p : Addr) (hb : Below w'.heap.size w' w1) :
    Post P g l (.slice A3 n3 c3) w0 (.returned (.iface 152 (.pointer (some p)))) w1 :=
  ⟨below_then h.2.2.1 h.2.2.1.size hb, b', Kd.R_below h.1 hb, .inr ⟨all_false hx hp, p, rfl⟩⟩
theorem all_step {P : S123 → Bool} {l : List S123} {k : Nat} {x : S123} (h : (l.take k).all P = true) (hk : l[k]? = some x) (hx : P x = true) : (l.take (k + 1)).all P = true := by
  rw [List.take_add_one, hk]; simp only [Option.toList, List.all_append, h, List.all_cons, hx, List.all_nil]; rfl
theorem at_nat {l : List S123} {k : Nat} (h : k < l.length) : l[k]? = some (rd_T123 l (k : Int)) := by
  unfold rd_T123
  rw [Int.toNat_natCast, List.getD_eq_getElem?_getD, List.getElem?_eq_getElem h]
  rfl
end Go.Proofs.YtopadgohinoomaaDoor.St
