/-
What the rows of the coded laws need besides the walks: lists of bytes and of numbers that came in.
-/
import Derived.Test.YtopadgohinoomaaDoorRows
import Derived.Test.YtopadgohinoomaaDoorPC0
import Derived.ChangeSlices
import Derived.ProofKit
import Derived.LaidMore
import Derived.LaidLaws
import Derived.OpenShut
import Derived.Deep.Slices
import Derived.Deep.Fields
import Derived.ChangeSame
import Derived.MakeChecks
import Derived.Stop.Joined
import Derived.Stop.LaidErr
import Derived.WalkSmall
import Derived.Test.YtopadgohinoomaaDoorCa
import Derived.Test.YtopadgohinoomaaDoorSa
namespace Go.Proofs.YtopadgohinoomaaDoor.Cx
open Go.ChangeShapes Go.WideShapes Go.ChangeAt Go.RowKit Go.Deep Go.Proofs.YtopadgohinoomaaDoorW.PrintWords Go.Proofs.YtopadgohinoomaaDoor.PC
set_option linter.unusedVariables false
theorem open_list {H : Type} {enc : TypeId × Value → H} {w : World} {A : Option Addr} {len cap : Nat} {d : DataW H} {p : List MemPlace} {t e : TypeId} {k : IntKind} (ht : Tryd.prog.underlying t = some (.slice e)) (he : Tryd.prog.underlying e = some (.int k)) (hc : Tryd.prog.cellsOf e = 1)
    (h : DataW.Trod enc Tryd.prog w 0 (fun _ => true) true t (.slice A len cap) d p) : ∃ l : List Int, l.length = len ∧ len ≤ cap ∧ Kd.C (Kd.int k) w A l.length l ∧ ∀ x ∈ l, (Lit.int k x).wf = true := by
  obtain ⟨fuel, hf⟩ := h
  rcases open_ints ht he hc hf with ⟨hcs, _⟩ | ⟨a, l', c', zs, hcs, _, hl, hm, hz, hx, hcell, hwf⟩
  · simp [Value.cells] at hcs
    obtain ⟨rfl, rfl, rfl⟩ := hcs
    exact ⟨[], rfl, Nat.le_refl _, Kd.C_nil _ _, fun x hx => by cases hx⟩
  · simp [Value.cells] at hcs
    obtain ⟨rfl, rfl, rfl⟩ := hcs
    simp only [if_true] at hz
    have hlen : (zs.take len).length = len := by rw [List.length_take]; omega
    refine ⟨zs.take len, hlen, hl, Kd.C_of_reads (d := (0 : Int)) ⟨rfl, by rw [hlen]; unfold maxLen at hm; omega, fun _ => ⟨a, rfl, fun j hj => ?_⟩⟩, fun x hx => hwf x (List.mem_of_mem_take hx)⟩
    rw [hlen] at hj
    have := hcell j (by omega)
    rw [this, List.getD_eq_getElem?_getD, List.getD_eq_getElem?_getD, List.getElem?_take_of_lt hj]
theorem open32 {H : Type} {enc : TypeId × Value → H} {w : World} {A : Option Addr} {len cap : Nat} {d : DataW H} {p : List MemPlace}
    (h : DataW.Trod enc Tryd.prog w 0 (fun _ => true) true 32 (.slice A len cap) d p) : ∃ l : List Int, l.length = len ∧ len ≤ cap ∧ Kd.C (Kd.int .u8) w A l.length l ∧ Bytes l := by
  obtain ⟨l, h1, h2, h3, h4⟩ := open_list Tryd.underlying32 Tryd.underlying5 (by kernel_rfl) h
  exact ⟨l, h1, h2, h3, fun x hx => bounds_u8 (h4 x hx)⟩
theorem open33 {H : Type} {enc : TypeId × Value → H} {w : World} {A : Option Addr} {len cap : Nat} {d : DataW H} {p : List MemPlace}
    (h : DataW.Trod enc Tryd.prog w 0 (fun _ => true) true 33 (.slice A len cap) d p) : ∃ l : List Int, l.length = len ∧ len ≤ cap ∧ Kd.C (Kd.int .i64) w A l.length l ∧ ∀ x ∈ l, -9223372036854775808 ≤ x ∧ x ≤ 9223372036854775807 := by
  obtain ⟨l, h1, h2, h3, h4⟩ := open_list Tryd.underlying33 Tryd.underlying3 (by kernel_rfl) h
  exact ⟨l, h1, h2, h3, fun x hx => bounds_i64 (h4 x hx)⟩
theorem gEOF : Tryd.prog.globalNamed "io.EOF" = some 3 := by kernel_rfl
theorem tEOF : (Tryd.prog.globals[3]?).map (·.type) = some 57 := by kernel_rfl
theorem name155 : Tryd.prog.typeName? 3 155 = some "*errors.errorString" := by kernel_rfl
theorem star155 : "*" ++ "errors.errorString" = "*errors.errorString" := by decide
theorem row155 : ∀ u, Tryd.prog.typeName? 3 u = some "*errors.errorString" → u = 155 := fun u h =>
  typeName_ptr_named (nm := "errors.errorString") (by rw [star155]; kernel_rfl) (by kernel_rfl) (by decide) u (by rw [star155]; exact h)
set_option maxRecDepth 100000 in
/-- What the listed io.EOF gives: 'Eof'. -/
theorem eof_of_laid {W : World} {l : List (String × DataW Unit)} (h : laidMet Tryd.prog (("io.EOF", Rows.laid_io_EOF) :: l) W) : St.Eof W := by
  obtain ⟨ps, ⟨g0, t0, cs0, f0, p0, q0, hg0, ht0, hv0, hd0, _, e0⟩, _, hrows⟩ := h
  obtain rfl := Option.some.inj (gEOF.symm.trans hg0)
  obtain rfl := Option.some.inj (tEOF.symm.trans ht0)
  subst e0
  obtain ⟨l0⟩ := cs0
  have ok0 : ∀ u v, l0 = [.iface u v] → Value.okWide Tryd.prog W .any 0 u v := fun u v e => by
    subst e
    exact (hrows 3 0 (by simp [MemPlace.row])).2 u v (by simpa using World.var?_cell hg0 hv0 0)
  obtain ⟨a, s, rfl, hc, _, _, rfl⟩ := errorString_of_trod Tryd.underlying57 row155 Tryd.underlying155 Tryd.underlying157 rfl rfl Tryd.underlying9 (by kernel_rfl) (by kernel_rfl) hd0 ok0
  obtain ⟨c, t, hb⟩ := (hrows a.block a.off (by simp [MemPlace.row])).1
  exact ⟨a, c, t, by simpa using World.var?_cell hg0 hv0 0, hb⟩
end Go.Proofs.YtopadgohinoomaaDoor.Cx
