/-
What the rows need besides the walks: a table of states read as a list; what the listed variables give.
-/
import Derived.Test.YtopadgohinoomaaDoorSc
import Derived.Test.YtopadgohinoomaaDoorSq
import Derived.Test.YtopadgohinoomaaDoorRows
import Derived.ProofKit
import Derived.LaidMore
import Derived.LaidLaws
import Derived.OpenShut
import Derived.Deep.Slices
import Derived.Deep.Fields
import Derived.ChangeSame
import Derived.MakeChecks
import Derived.Stop.Joined
import Derived.Stop.LaidErr
import Derived.WalkSmall
namespace Go.Proofs.YtopadgohinoomaaDoor.St
open Go.ChangeShapes Go.WideShapes Go.ChangeAt Go.RowKit Go.Deep Go.Proofs.YtopadgohinoomaaDoorW.PrintWords Go.Proofs.YtopadgohinoomaaDoor.PC
set_option linter.unusedVariables false
section
variable {H : Type} {enc : TypeId × Value → H} {P : Program} {w : World} {base : Nat} {spare : Nat → Bool} {held : Bool}
theorem open_slice_fields {t e : TypeId} {fs : Array Field} {fuel : Nat} {cs : List Value} {x : DataW H × List MemPlace} (ht : P.underlying t = some (.slice e)) (he : P.underlying e = some (.struct fs))
    (hone : oneCellFields P fs = true) (hC : P.cellsOf e = fs.size) (h : DataW.trod enc P w base spare held fuel t cs = some x) :
    (cs = [.slice none 0 0] ∧ x = (.nil, [])) ∨
    ∃ (a : Addr) (len cap m : Nat) (D : Nat → DataW H) (Pl : Nat → List MemPlace), cs = [.slice (some a) len cap] ∧ base ≤ a.block ∧ len ≤ cap ∧ cap ≤ maxLen ∧ m = (if spare a.block then cap else len) ∧
      x = (.slice ((List.range len).map D) ((List.range (m - len)).map fun j => D (len + j)), MemPlace.row a (m * fs.size) ++ (List.range m).flatMap Pl) ∧
      ∀ i, i < m → ∃ (ys : List (DataW H × List MemPlace)) (n : Nat), D i = .agg (ys.map (·.1)) ∧ Pl i = ys.flatMap (·.2) ∧ ys.length = fs.size ∧
        ∀ (j : Nat) (f : Field), fs[j]? = some f → ∃ (v : Value) (y : DataW H × List MemPlace), w.cell? (a.add (i * fs.size + j)) = some v ∧ ys[j]? = some y ∧ DataW.trod enc P w base spare held n f.type [v] = some y := by
  rcases open_slice ht h with h0 | ⟨a, len, cap, m, n, D, Pl, hcs, hb, hl, hm, hmm, hx, hi⟩
  · exact .inl h0
  · refine .inr ⟨a, len, cap, m, D, Pl, hcs, hb, hl, hm, hmm, by rw [hC] at hx; exact hx, fun i him => ?_⟩
    obtain ⟨cs', hc, ht'⟩ := hi i him
    rw [hC] at hc
    obtain ⟨ys, n', hn', hy, hlen, hyl, hf⟩ := DataW.trod_struct he ht'
    obtain ⟨_, hcl, hat⟩ := World.cells?_some hc
    simp only [Prod.mk.injEq] at hy
    refine ⟨ys, n', hy.1, hy.2, hyl, fun j f hj => ?_⟩
    obtain ⟨ho, hk⟩ := hone_of hone j f hj
    have hjl : j < fs.size := (Array.getElem?_eq_some_iff.1 hj).1
    have hcell := hat j hjl
    have hv : cs'[j]? = some (cs'[j]'(by omega)) := List.getElem?_eq_getElem (by omega)
    have h1 := hf j f hj
    rw [ho, hk] at h1
    have hone' : (cs'.drop j).take 1 = [cs'[j]'(by omega)] := by
      rw [List.drop_eq_getElem_cons (by omega)]
      rfl
    rw [hone'] at h1
    have hys : ys[j]? = some (ys[j]'(by omega)) := List.getElem?_eq_getElem (by omega)
    refine ⟨_, _, ?_, hys, h1.trans hys⟩
    rw [← Go.Deep.add_add, hcell, hv]
end
/-- A table of states that came in, read as a list. -/
theorem open29 {H : Type} {enc : TypeId × Value → H} {w : World} {A : Option Addr} {len cap : Nat} {d : DataW H} {p : List MemPlace}
    (h : DataW.Trod enc Tryd.prog w 0 (fun _ => true) true 22 (.slice A len cap) d p) : ∃ l : List S29, l.length = len ∧ len ≤ cap ∧ Kd.C k29 w A l.length l ∧ ∀ x ∈ l, I64 x.f0 := by
  obtain ⟨fuel, hf⟩ := h
  rcases open_slice_fields Tryd.underlying22 Tryd.underlying29 (by kernel_rfl) (by kernel_rfl) hf with ⟨hcs, _⟩ | ⟨a, l', c', m, D, Pl, hcs, _, hl, hm, hmm, hx, hi⟩
  · simp [Value.cells] at hcs
    obtain ⟨rfl, rfl, rfl⟩ := hcs
    exact ⟨[], rfl, Nat.le_refl _, Kd.C_nil _ _, fun x hx => by cases hx⟩
  · simp [Value.cells] at hcs
    obtain ⟨rfl, rfl, rfl⟩ := hcs
    have hm' : m = cap := by rw [hmm]; simp
    subst hm'
    have hall : ∀ i, i < m → ∃ s : S29, (w.cell? (a.add (i * 3)) = some (.int .i64 s.f0) ∧ w.cell? (a.add (i * 3 + 1)) = some (.int .i64 s.f1) ∧ w.cell? (a.add (i * 3 + 2)) = some (.int .i64 s.f2)) ∧ I64 s.f0 := by
      intro i him
      obtain ⟨ys, n, _, _, _, hj⟩ := hi i him
      obtain ⟨v0, y0, c0, _, t0⟩ := hj 0 _ rfl
      obtain ⟨v1, y1, c1, _, t1⟩ := hj 1 _ rfl
      obtain ⟨v2, y2, c2, _, t2⟩ := hj 2 _ rfl
      obtain ⟨n0, e0, _, w0⟩ := DataW.trod_int Tryd.underlying3 t0
      obtain ⟨n1, e1, _, w1⟩ := DataW.trod_int Tryd.underlying3 t1
      obtain ⟨n2, e2, _, w2⟩ := DataW.trod_int Tryd.underlying3 t2
      simp only [List.cons.injEq, and_true] at e0 e1 e2
      subst e0 e1 e2
      refine ⟨⟨n0, n1, n2⟩, ⟨c0, c1, c2⟩, ?_⟩
      exact bounds_i64 w0
    obtain ⟨F, hF⟩ : ∃ F : Nat → S29, ∀ i, i < m → (w.cell? (a.add (i * 3)) = some (.int .i64 (F i).f0) ∧ w.cell? (a.add (i * 3 + 1)) = some (.int .i64 (F i).f1) ∧ w.cell? (a.add (i * 3 + 2)) = some (.int .i64 (F i).f2)) ∧ I64 (F i).f0 :=
      ⟨fun i => if h : i < m then Classical.choose (hall i h) else z29, fun i h => by dsimp only; rw [dif_pos h]; exact Classical.choose_spec (hall i h)⟩
    have hlen : ((List.range len).map F).length = len := by rw [List.length_map, List.length_range]
    refine ⟨(List.range len).map F, hlen, hl, ⟨rfl, by rw [hlen]; unfold maxLen at hm; omega, fun hp => ⟨a, rfl, fun j p hj => ?_⟩⟩, fun x hx => ?_⟩
    · have hjl : j < len := by have := (List.getElem?_eq_some_iff.1 hj).1; rw [hlen] at this; exact this
      have hp' : p = F j := by
        rw [List.getElem?_map, List.getElem?_range hjl] at hj
        simpa using hj.symm
      subst hp'
      obtain ⟨⟨e0, e1, e2⟩, _⟩ := hF j (by omega)
      refine ⟨[.int .i64 (F j).f0, .int .i64 (F j).f1, .int .i64 (F j).f2], rfl, k29_mk w (F j), fun i u hu => ?_⟩
      match i, hu with
      | 0, hu => simp at hu; subst hu; exact e0
      | 1, hu => simp at hu; subst hu; exact e1
      | 2, hu => simp at hu; subst hu; exact e2
    · obtain ⟨j, hj, rfl⟩ := List.mem_map.1 hx
      exact (hF j (by have := List.mem_range.1 hj; omega)).2

theorem gEOF : Tryd.prog.globalNamed "io.EOF" = some 3 := by kernel_rfl
theorem tEOF : (Tryd.prog.globals[3]?).map (·.type) = some 57 := by kernel_rfl
theorem name155 : Tryd.prog.typeName? 3 155 = some "*errors.errorString" := by kernel_rfl
theorem star155 : "*" ++ "errors.errorString" = "*errors.errorString" := by decide
theorem row155 : ∀ u, Tryd.prog.typeName? 3 u = some "*errors.errorString" → u = 155 := fun u h =>
  typeName_ptr_named (nm := "errors.errorString") (by rw [star155]; kernel_rfl) (by kernel_rfl) (by decide) u (by rw [star155]; exact h)
set_option maxRecDepth 100000 in
/-- What the listed io.EOF gives: 'Eof'. -/
theorem eof_of_laid {W : World} {l : List (String × DataW Unit)} (h : laidMet Tryd.prog (("io.EOF", Rows.laid_io_EOF) :: l) W) : Eof W := by
  obtain ⟨ps, ⟨g0, t0, cs0, f0, p0, q0, hg0, ht0, hv0, hd0, _, e0⟩, _, hrows⟩ := h
  obtain rfl := Option.some.inj (gEOF.symm.trans hg0)
  obtain rfl := Option.some.inj (tEOF.symm.trans ht0)
  subst e0
  obtain ⟨l0⟩ := cs0
  have ok0 : ∀ u v, l0 = [.iface u v] → Value.okWide Tryd.prog W .any 0 u v := fun u v e => by
    subst e
    exact (hrows 3 0 (by simp [MemPlace.row])).2 u v (by simpa using World.var?_cell hg0 hv0 0)
  obtain ⟨a, s, rfl, hc, _, _, rfl⟩ := errorString_of_trod Tryd.underlying57 row155 Tryd.underlying155 Tryd.underlying157 rfl rfl Tryd.underlying9 (by kernel_rfl) (by kernel_rfl) hd0 ok0
  obtain ⟨c, t, hb⟩ := (hrows a.block a.off (by simp [MemPlace.row])).1
  exact ⟨a, c, t, by simpa using World.var?_cell hg0 hv0 0, hb⟩
end Go.Proofs.YtopadgohinoomaaDoor.St
