/-
FnSectionAgain as a plain law: it answers true.
-/
import Derived.Test.YtopadgohinoomaaDoorFa
import Derived.Test.YtopadgohinoomaaDoorEg
namespace Go.Proofs.YtopadgohinoomaaDoor.Cx
open Go.RowKit Go.Proofs.YtopadgohinoomaaDoorW.PrintWords Go.Proofs.YtopadgohinoomaaDoorW.PrintMore Go.Proofs.YtopadgohinoomaaDoor.PC
set_option linter.unusedVariables false
theorem again_j0 {l0 l1 l4 : List Int} {four : Bool} {form : Int} : Ev (fun k => laws_FnSectionAgain.j0 k l0 l1 four form l4 true) true := by
  refine (Ev.some _).step (fun k => ?_)
  rw [laws_FnSectionAgain.j0, if_pos rfl]
theorem again_j1 {l1 l4 s L : List Int} {b : Int} : Ev (fun k => laws_FnSectionAgain.j1 k l1 l4 s L b true) true := by
  refine (Ev.some _).step (fun k => ?_)
  rw [laws_FnSectionAgain.j1, if_pos rfl]
  rfl
theorem again_main {P : List Nat → List Int → Prop} {l0 l1 l4 : List Int} {four : Bool} {L W : List Nat} {v b f : Nat} {pre S s : List Int} (h : SecIs P l0 l1 false four L W v b f pre S) (h1 : Bytes l1) (h4 : Bytes l4) (hl : l4.length ≤ 1000000) (hl4 : 4 ≤ l4.length)
    (hs : s = byt (4 + 2 * fbits f) (hdrV 3 f l1.length (pre ++ S).length) ++ (pre ++ S)) : Ev (fun k => laws_FnSectionAgain.j1 k l1 l4 s (ints L) (b : Int) false) true := by
  have hw := h.wts
  have hct := codeTable_f hw.b11 (by rw [hw.bas]; exact hw.pow) (by have := hw.len; omega : L.length ≤ 1000000)
  obtain ⟨hok, hno⟩ := again_lit h (A := []) (B := l4) (D := s ++ l4) (fun x hx => by cases hx) h4 h1 (by simpa using hl) hl4 (by rw [hs]; rfl)
  have hlit := lit_f (by rw [hw.tab_length]; have := hw.pow; omega) hok (fun q hq => litOk_again hno.1 hq hok)
  have hnone := lit_none hno
  have hlb := hlen_byt h.f3 (hdrV 3 f l1.length (pre ++ S).length)
  have hsl : s.length = hlen f + (pre ++ S).length := by rw [hs, List.length_append, hlb]
  have hsb : s.length ≤ 1000000 := by
    have h2 := (h.body.facts h.XN).2.2
    have h3 := h.preL
    have h5 := hlen_b f
    rw [hsl, List.length_append]
    omega
  have hXN := h.XN
  have hlit' : impl_Literals.f (s ++ l4) 0 (tabW L b b) (b : Int) = some (l1, (s.length : Int), true) := by
    have e : (([] : List Int).length + hlen f + (pre ++ S).length : Nat) = s.length := by rw [hsl]; simp
    rw [e] at hlit
    exact hlit
  have hnone' : impl_Literals.f (s ++ l4) 0 [] 0 = some ([], 0, false) := hnone
  clear hlit hnone hok hno
  obtain ⟨K1, hK1⟩ := hct
  obtain ⟨K2, hK2⟩ := same_f l1 (by omega)
  refine Ev.step (g' := fun k => ((some (([] : List Int) : List Int)).bind fun y310 => (if y310.length + s.length < 140737488355328 then ((some (y310 ++ s : List Int)).bind fun y313 => (if y313.length + l4.length < 140737488355328 then ((some (y313 ++ l4 : List Int)).bind fun y316 => ((spec_CodeTable.f k (ints L) (b : Int)).bind fun t319 => ((impl_Literals.f y316 0 t319 (b : Int)).bind fun bt322 => ((impl_Literals.f y316 0 ([] : List (S68)) 0).bind fun bt327 => (if bt322.2.2 = true then (if bt322.2.1 = (s.length : Int) then ((spec_SameBytes.f k bt322.1 l1).bind fun t332 => (if t332 = true then (some (!bt327.2.2)) else (some false))) else (some false)) else (some false)))))) else (none))) else (none)))) ⟨max K1 K2, fun k hk => ?_⟩ (fun k => ?_)
  · have hk1 : spec_CodeTable.f k (ints L) (b : Int) = some (tabW L b b) := hK1 k (by omega)
    have hk2 : spec_SameBytes.f k l1 l1 = some true := hK2 k (by omega)
    dsimp only
    rw [Option.bind_some, if_pos (by simp only [List.length_nil]; omega), Option.bind_some, List.nil_append, if_pos (by omega), Option.bind_some, hk1, Option.bind_some, hlit', Option.bind_some, hnone', Option.bind_some, if_pos rfl, if_pos rfl, hk2, Option.bind_some, if_pos rfl]
    rfl
  · rw [laws_FnSectionAgain.j1, if_neg (by decide)]
theorem again_true (l0 l1 l4 : List Int) (four : Bool) (form : Int) (h1 : Bytes l1) (h4 : Bytes l4) (hform : -9223372036854775808 ≤ form ∧ form ≤ 9223372036854775807) : Ev (fun k => laws_FnSectionAgain.f k l0 l1 four form l4) true := by
  by_cases c0 : (l0.length : Int) > 2147483647
  · exact again_j0.elim (fun K hK => ⟨K, fun k hk => by dsimp only; unfold laws_FnSectionAgain.f; rw [if_pos c0]; exact hK k hk⟩)
  by_cases c1 : (l1.length : Int) > 2147483647
  · exact again_j0.elim (fun K hK => ⟨K, fun k hk => by dsimp only; unfold laws_FnSectionAgain.f; rw [if_neg c0, if_pos c1]; exact hK k hk⟩)
  by_cases c2 : (l4.length : Int) > 2147483647
  · exact again_j0.elim (fun K hK => ⟨K, fun k hk => by dsimp only; unfold laws_FnSectionAgain.f; rw [if_neg c0, if_neg c1, decide_eq_true c2]; exact hK k hk⟩)
  have key : Ev (fun k => laws_FnSectionAgain.j0 k l0 l1 four form l4 false) true := by
    refine Ev.step (g' := fun k => ((spec_TooLong.f k (([(l0.length : Int), (l1.length : Int), (l4.length : Int)] : List Int))).bind fun t299 => (if t299 = true then (some true) else ((spec_Section.f k l0 l1 false four form).bind fun bt300 => ((spec_Whole.f k l0).bind fun bt304 => (if bt300.2 = true then (if bt304.2.2 = true then (laws_FnSectionAgain.j1 k l1 l4 bt300.1 bt304.1 bt304.2.1 (decide ((l4.length : Int) < 4))) else (laws_FnSectionAgain.j1 k l1 l4 bt300.1 bt304.1 bt304.2.1 true)) else (laws_FnSectionAgain.j1 k l1 l4 bt300.1 bt304.1 bt304.2.1 true))))))) ?_ (fun k => by rw [laws_FnSectionAgain.j0, if_neg (by decide)])
    rcases tooLong_f [(l0.length : Int), (l1.length : Int), (l4.length : Int)] (fun x hx => by
      simp only [List.mem_cons, List.not_mem_nil, or_false] at hx
      omega) (by simp) with ht | ⟨ht, hsum⟩
    · refine Ev.bind (f := fun k t299 => (if t299 = true then (some true) else ((spec_Section.f k l0 l1 false four form).bind fun bt300 => ((spec_Whole.f k l0).bind fun bt304 => (if bt300.2 = true then (if bt304.2.2 = true then (laws_FnSectionAgain.j1 k l1 l4 bt300.1 bt304.1 bt304.2.1 (decide ((l4.length : Int) < 4))) else (laws_FnSectionAgain.j1 k l1 l4 bt300.1 bt304.1 bt304.2.1 true)) else (laws_FnSectionAgain.j1 k l1 l4 bt300.1 bt304.1 bt304.2.1 true)))))) ht ?_
      simp only [if_true]
      exact Ev.some true
    · simp only [List.sum_cons, List.sum_nil] at hsum
      refine Ev.bind (f := fun k t299 => (if t299 = true then (some true) else ((spec_Section.f k l0 l1 false four form).bind fun bt300 => ((spec_Whole.f k l0).bind fun bt304 => (if bt300.2 = true then (if bt304.2.2 = true then (laws_FnSectionAgain.j1 k l1 l4 bt300.1 bt304.1 bt304.2.1 (decide ((l4.length : Int) < 4))) else (laws_FnSectionAgain.j1 k l1 l4 bt300.1 bt304.1 bt304.2.1 true)) else (laws_FnSectionAgain.j1 k l1 l4 bt300.1 bt304.1 bt304.2.1 true)))))) ht ?_
      simp only [Bool.false_eq_true, if_false]
      have hS2 : ∀ {t : List Int × Bool} {u : List Int × Int × Bool}, Ev (fun k => spec_Section.f k l0 l1 false four form) t → Ev (fun k => spec_Whole.f k l0) u → Ev (fun k => (if t.2 = true then (if u.2.2 = true then (laws_FnSectionAgain.j1 k l1 l4 t.1 u.1 u.2.1 (decide ((l4.length : Int) < 4))) else (laws_FnSectionAgain.j1 k l1 l4 t.1 u.1 u.2.1 true)) else (laws_FnSectionAgain.j1 k l1 l4 t.1 u.1 u.2.1 true))) true → Ev (fun k => ((spec_Section.f k l0 l1 false four form).bind fun bt300 => ((spec_Whole.f k l0).bind fun bt304 => (if bt300.2 = true then (if bt304.2.2 = true then (laws_FnSectionAgain.j1 k l1 l4 bt300.1 bt304.1 bt304.2.1 (decide ((l4.length : Int) < 4))) else (laws_FnSectionAgain.j1 k l1 l4 bt300.1 bt304.1 bt304.2.1 true)) else (laws_FnSectionAgain.j1 k l1 l4 bt300.1 bt304.1 bt304.2.1 true))))) true := by
        intro t u e1 e2 e3
        exact Ev.bind e1 (Ev.bind e2 e3)
      rcases section_f (fun _ _ => True) l0 l1 false four form (by omega) h1 (by omega) hform (fun h => by cases h) with hs | ⟨L, W, v, b, f, pre, S, hI, hs⟩
      · rcases whole_f l0 (by omega) with hw | ⟨L, b, hw, -⟩
        · refine hS2 hs hw ?_
          simp only [Bool.false_eq_true, if_false]
          exact again_j1
        · refine hS2 hs hw ?_
          simp only [Bool.false_eq_true, if_false]
          exact again_j1
      · refine hS2 hs hI.whole ?_
        simp only [if_true]
        by_cases d : (l4.length : Int) < 4
        · rw [decide_eq_true d]; exact again_j1
        · rw [decide_eq_false d]
          exact again_main hI h1 h4 (by omega) (by omega) rfl
  exact key.elim (fun K hK => ⟨K, fun k hk => by dsimp only; unfold laws_FnSectionAgain.f; rw [if_neg c0, if_neg c1, decide_eq_false c2]; exact hK k hk⟩)
end Go.Proofs.YtopadgohinoomaaDoor.Cx
