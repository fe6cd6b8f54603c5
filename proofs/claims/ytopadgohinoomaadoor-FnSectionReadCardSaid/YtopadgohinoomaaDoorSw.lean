/-
A whole element of a row of the call is written.
-/
import Derived.Test.YtopadgohinoomaaDoorPC0
namespace Go.Proofs.YtopadgohinoomaaDoor.St
open Go.RowKit Go.Proofs.YtopadgohinoomaaDoorW.PrintWords Go.Proofs.YtopadgohinoomaaDoorW.PrintLast Go.Proofs.YtopadgohinoomaaDoorW.PrintMore
set_option linter.unusedVariables false
section
variable {P : Program} {ops : Array Oper} {rest : List Oper} {o : Oper} {a : Act} {Q : Exit → Act → World → Prop} {α : Type}
theorem R_cells_at {d : Kd α} {e base g n cap : Nat} {W : World} {ok : Nat → Prop} {xs : List α} (HO : d.R e W base ok (.slice (some ⟨g, 0, none⟩) n cap) xs) (i : Nat) (hi : i < n) :
    ∃ c : List Value, c.length = d.sz ∧ ∀ j u, c[j]? = some u → W.cell? ⟨g, i * d.sz + j, none⟩ = some u := by
  obtain ⟨h0, inner, hown, hr⟩ := HO
  have hn : xs.length = n := by
    have := hown.2
    rcases this with ⟨h, _⟩ | ⟨g', cap', cur, hv, _⟩
    · cases h
    · injection hv with _ h2 _; exact h2.symm
  have hl : inner.length = n * d.sz := by rw [← hn]; exact hr.1
  have hfit : i * d.sz + d.sz ≤ n * d.sz := by rw [← Nat.succ_mul]; exact Nat.mul_le_mul_right _ hi
  refine ⟨(inner.drop (i * d.sz)).take d.sz, by rw [List.length_take, List.length_drop]; omega, fun j u hu => ?_⟩
  have hj : j < d.sz := by
    rcases Nat.lt_or_ge j d.sz with h | h
    · exact h
    · rw [List.getElem?_eq_none (by rw [List.length_take]; omega)] at hu; cases hu
  rw [List.getElem?_take, if_pos hj, List.getElem?_drop] at hu
  have := hown.cells (g := g) rfl (i * d.sz + j) u hu
  rwa [add_plain] at this

/-- out[i] = T{..}: the whole element is written. -/
theorem R_storeW (d : Kd α) {w0 W : World} (base : Nat) (hN : o.dst = none) (hgd : o.guard = none) (t : TypeId) (p x : Operand) (ho : o.op = .store t p x) (e : TypeId) {g n cap o' : Nat} (i : Nat) (xs : List α) (x' : α) (u : Value) (seg : List Value) (ok okp : Nat → Prop)
    (haddr : a.eval p = .pointer (some ⟨g, o', none⟩)) (hoff : o' = i * d.sz) (hx : a.eval x = u) (hu : u.cells.toList = seg) (ht : (P.info? t).map (·.size) = some seg.length) (h1 : ∀ q ∈ seg, q.oneCell' = true)
    (HO : d.R e W base ok (.slice (some ⟨g, 0, none⟩) n cap) xs) (hi : i < n)
    (hj : seg.length = d.sz) (hM : d.M W base okp x' seg) (hokp : ∀ k, okp k → ok k ∧ k ≠ g) (HB : Below base w0 W)
    (h : ∀ w1, d.R e w1 base ok (.slice (some ⟨g, 0, none⟩) n cap) (xs.set i x') → Below base w0 w1 → W.grownBy w1 (some g) → wpList P ops Q rest a w1) : wpList P ops Q (o :: rest) a W := by
  obtain ⟨c, hc, hcc⟩ := R_cells_at HO i hi
  refine Kd.R_store d base hN hgd t p x ho e (g := g) (n := n) (cap := cap) (o' := o') (i : Int) 0 xs x' u seg c ok okp haddr (by rw [hoff]; simp) hx hu ht h1 HO (by omega) (by omega) hc (fun j u hj => by simpa using hcc j u hj) (by omega) ?_ hokp HB ?_
  · rw [List.take_zero, List.nil_append, List.drop_of_length_le (by omega), List.append_nil]; exact hM
  · intro w1 h1 h2 h3
    exact h w1 (by simpa using h1) h2 h3
end
end Go.Proofs.YtopadgohinoomaaDoor.St
