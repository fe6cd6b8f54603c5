/-
Rows of one kind in a block, as a function; and the numbers of readHuff.
-/
import Derived.Test.YtopadgohinoomaaDoorCh
import Derived.Test.YtopadgohinoomaaDoorPC5
namespace Go.Proofs.YtopadgohinoomaaDoor.Cx
open Go.RowKit Go.Proofs.YtopadgohinoomaaDoorW.PrintWords Go.Proofs.YtopadgohinoomaaDoorW.PrintLast Go.Proofs.YtopadgohinoomaaDoorW.PrintMore Go.Proofs.YtopadgohinoomaaDoor.PC
set_option linter.unusedVariables false
def RowF (w : World) (g : Nat) (t : TypeId) (n : Nat) (f : Nat → Value) : Prop := ∃ cs : Array Value, w.heap[g]? = some (.cells cs t (0, 0)) ∧ cs.size = n ∧ ∀ i, i < n → cs[i]? = some (f i)
section
variable {w w' : World} {g n : Nat} {t : TypeId} {f f' : Nat → Value}
theorem RowF.cell (h : RowF w g t n f) (i : Nat) (hi : i < n) : w.cell? ⟨g, i, none⟩ = some (f i) := by
  obtain ⟨cs, h1, h2, h3⟩ := h
  exact (blk_cell h1 i).trans (h3 i hi)
theorem RowF.frozen (h : RowF w g t n f) (i : Nat) : w.frozen? ⟨g, i, none⟩ = false := by
  obtain ⟨cs, h1, h2, h3⟩ := h
  exact blk_frozen h1 i
theorem RowF.set (h : RowF w g t n f) (i : Nat) (u : Value) : RowF (w.setCell ⟨g, i, none⟩ u) g t n (fun j => if j = i then u else f j) := by
  obtain ⟨cs, h1, h2, h3⟩ := h
  refine ⟨_, blk_set h1 i u, by simpa using h2, fun j hj => ?_⟩
  rw [Array.getElem?_setIfInBounds]
  by_cases e : i = j
  · subst e; simp; omega
  · have e' : ¬ j = i := fun h => e h.symm
    simp only [e, e', if_false]
    exact h3 j hj
theorem RowF.congr (h : RowF w g t n f) (he : ∀ i, i < n → f i = f' i) : RowF w g t n f' := by
  obtain ⟨cs, h1, h2, h3⟩ := h
  exact ⟨cs, h1, h2, fun i hi => by rw [h3 i hi, he i hi]⟩
theorem RowF.far (h : RowF w g t n f) {p : Addr} (hp : g ≠ p.block) (u : Value) : RowF (w.setCell p u) g t n f := by
  obtain ⟨cs, h1, h2, h3⟩ := h
  exact ⟨cs, blk_far h1 hp u, h2, h3⟩
theorem RowF.grown (h : RowF w g t n f) {row : Option Nat} (hg : w.grownBy w' row) (hne : some g ≠ row) : RowF w' g t n f := by
  obtain ⟨cs, h1, h2, h3⟩ := h
  exact ⟨cs, blk_grown h1 hg hne, h2, h3⟩
theorem RowF.below (h : RowF w g t n f) (hb : Below w.heap.size w w') : RowF w' g t n f := by
  obtain ⟨cs, h1, h2, h3⟩ := h
  exact ⟨cs, blk_below h1 hb, h2, h3⟩
theorem RowF.lt (h : RowF w g t n f) : g < w.heap.size := by
  obtain ⟨cs, h1, h2, h3⟩ := h
  exact blk_lt h1
end
theorem rowF_new {w : World} {g n : Nat} {t : TypeId} {z : Value} (h : w.heap[g]? = some (.cells (Array.replicate n z) t (0, 0))) : RowF w g t n (fun _ => z) :=
  ⟨_, h, by simp, fun i hi => by simp [hi]⟩
/-- A weight of four bits. -/
def nib (D : List Int) (off j : Nat) : Int := if j % 2 = 0 then D.getD (off + 1 + j / 2) 0 / 16 else D.getD (off + 1 + j / 2) 0 % 16
def wsum : List Nat → Nat
  | [] => 0
  | x :: r => (if x = 0 then 0 else 2 ^ (x - 1)) + wsum r
theorem wsum_append (a b : List Nat) : wsum (a ++ b) = wsum a + wsum b := by
  induction a with
  | nil => simp [wsum]
  | cons x a ih => simp only [List.cons_append, wsum, ih]; omega
theorem take_step {l : List Nat} {i : Nat} (h : i < l.length) : l.take (i + 1) = l.take i ++ [l.getD i 0] := by
  rw [List.take_add_one, List.getElem?_eq_getElem h, List.getD_eq_getElem?_getD, List.getElem?_eq_getElem h]
  rfl
theorem wsum_take {l : List Nat} {i : Nat} (h : i < l.length) : wsum (l.take (i + 1)) = wsum (l.take i) + (if l.getD i 0 = 0 then 0 else 2 ^ (l.getD i 0 - 1)) := by
  rw [take_step h, wsum_append]
  simp [wsum]
theorem wsum_take_le (l : List Nat) (i : Nat) : wsum (l.take i) ≤ wsum l := by
  conv => rhs; rw [← List.take_append_drop i l, wsum_append]
  omega
theorem count_take {l : List Nat} {i : Nat} (h : i < l.length) (x : Nat) : (l.take (i + 1)).count x = (l.take i).count x + (if x = l.getD i 0 then 1 else 0) := by
  rw [take_step h, List.count_append, List.count_singleton]
  congr 1
  by_cases e : x = l.getD i 0
  · rw [if_pos e]; simp [e]
  · rw [if_neg e, if_neg (by simpa using fun h => e h.symm)]
/-- Where the entries of weight w + 1 begin. -/
def bas (l : List Nat) : Nat → Nat
  | 0 => 0
  | w + 1 => bas l w + l.count (w + 1) * 2 ^ w
/-- Where the entries of a symbol begin. -/
def place (l : List Nat) (i : Nat) : Nat := bas l (l.getD i 0 - 1) + (l.take i).count (l.getD i 0) * 2 ^ (l.getD i 0 - 1)
def entry (l : List Nat) (b i : Nat) : Int := ((i * 256 + (b + 1 - l.getD i 0) : Nat) : Int)
/-- The table's entries of the first i symbols stand. -/
def Fills (l : List Nat) (b i : Nat) (tab : List Int) : Prop := tab.length = 2048 ∧ ∀ s, s < i → 0 < l.getD s 0 → ∀ j, j < 2 ^ (l.getD s 0 - 1) → tab.getD (place l s + j) 0 = entry l b s
theorem lz32 : ∀ i : Nat, i < 2049 → i ≠ 0 → bits_LeadingZeros32.f (i : Int) = some (31 - (Nat.log2 i : Int)) := by decide +kernel
end Go.Proofs.YtopadgohinoomaaDoor.Cx
