/-
Plain laws: spec.CodeTable's list, and where its entries stand.
Plain laws: spec.CodeTable's list is tabW; what codeOf finds in it.
Plain laws: the codes of literals by CodeTable's list, and that the padded table tells them.
Plain laws: Width, Whole, Has, TooLong, SameBytes of the reference.
Plain laws: Has, TooLong, SameBytes of the reference.
Plain laws: what spec.WriteFour writes is four streams that are read as the literals.
-/
import Derived.Test.YtopadgohinoomaaDoorDa
import Derived.Test.YtopadgohinoomaaDoorCk
import Derived.Test.YtopadgohinoomaaDoorPC5
import Derived.Test.YtopadgohinoomaaDoorCl
import Derived.Test.YtopadgohinoomaaDoorCj
import Derived.Test.YtopadgohinoomaaDoorPt
import Derived.Test.YtopadgohinoomaaDoorPC4
import Derived.Test.YtopadgohinoomaaDoorPC6
import Derived.Test.YtopadgohinoomaaDoorCi
import Derived.Test.YtopadgohinoomaaDoorPC7
namespace Go.Proofs.YtopadgohinoomaaDoor.Cx
open Go.RowKit Go.Proofs.YtopadgohinoomaaDoorW.PrintWords Go.Proofs.YtopadgohinoomaaDoorW.PrintMore Go.Proofs.YtopadgohinoomaaDoor.PC
set_option linter.unusedVariables false
def code (b w s : Nat) : S68 := ⟨(s : Int), ((b + 1 - w : Nat) : Int)⟩
/-- The entries of weight w of the first n symbols. -/
def rowW (L : List Nat) (b w : Nat) : Nat → List S68
  | 0 => []
  | s + 1 => rowW L b w s ++ (if L.getD s 0 = w then List.replicate (2 ^ (w - 1)) (code b w s) else [])
/-- The entries of the weights up to w. -/
def tabW (L : List Nat) (b : Nat) : Nat → List S68
  | 0 => []
  | w + 1 => tabW L b w ++ rowW L b (w + 1) L.length
theorem rowW_length (L : List Nat) (b w s : Nat) (h : s ≤ L.length) : (rowW L b w s).length = (L.take s).count w * 2 ^ (w - 1) := by
  induction s with
  | zero => simp [rowW]
  | succ s ih =>
    rw [rowW, List.length_append, ih (by omega), count_take (by omega) w]
    by_cases e : L.getD s 0 = w
    · rw [if_pos e, if_pos e.symm, List.length_replicate, Nat.add_mul, Nat.one_mul]
    · rw [if_neg e, if_neg (fun h => e h.symm), Nat.add_zero]; rfl
theorem tabW_length (L : List Nat) (b w : Nat) : (tabW L b w).length = bas L w := by
  induction w with
  | zero => rfl
  | succ w ih => rw [tabW, List.length_append, ih, rowW_length _ _ _ _ (Nat.le_refl _), List.take_length, bas, Nat.add_sub_cancel]
theorem l2_loop (L : List Int) (b : Nat) (w s : Nat) (hw : 1 ≤ w ∧ w ≤ b) (hb : b ≤ 11) (X : List Int) (xl : Int) (n : Nat) : ∀ (j k : Nat) (acc : List S68), j + n = 2 ^ (w - 1) → acc.length + n ≤ 1000000 →
    spec_CodeTable.l2 (k + n + 1) L (b : Int) acc (w : Int) (s : Int) (w : Int) X xl (s : Int) (((2 ^ (w - 1) : Nat) : Int)) (j : Int) = spec_CodeTable.l1 k L (b : Int) (acc ++ List.replicate n (code b w s)) (w : Int) X xl (wrap64 ((s : Int) + 1)) := by
  have hp : 2 ^ (w - 1) ≤ 2 ^ 10 := Nat.pow_le_pow_right (by decide) (by omega)
  induction n with
  | zero =>
    intro j k acc h1 h2
    rw [spec_CodeTable.l2, if_neg (by omega), List.replicate_zero, List.append_nil]
  | succ n ih =>
    intro j k acc h1 h2
    have e1 : code b w s = ⟨(s : Int), wrap64 (wrap64 ((b : Int) + 1) - (w : Int))⟩ := by
      rw [wrap_small ((b : Int) + 1) (by omega) (by omega), wrap_small _ (by omega) (by omega)]
      unfold code
      congr 1
      omega
    rw [spec_CodeTable.l2, if_pos (by omega), if_pos (by omega), ← e1, wrap_small ((j : Int) + 1) (by omega) (by omega), show k + (n + 1) = k + n + 1 by omega, show (j : Int) + 1 = ((j + 1 : Nat) : Int) from rfl]
    rw [ih (j + 1) k (acc ++ [code b w s]) (by omega) (by rw [List.length_append, List.length_singleton]; omega), List.append_assoc]
    rfl
end Go.Proofs.YtopadgohinoomaaDoor.Cx
namespace Go.Proofs.YtopadgohinoomaaDoor.Cx
open Go.RowKit Go.Proofs.YtopadgohinoomaaDoorW.PrintWords Go.Proofs.YtopadgohinoomaaDoorW.PrintMore Go.Proofs.YtopadgohinoomaaDoor.PC
set_option linter.unusedVariables false
/-- Given enough rounds, the answer is r. -/
def Ev {α : Type} (g : Nat → Option α) (r : α) : Prop := ∃ K, ∀ k, K ≤ k → g k = some r
theorem Ev.step {α : Type} {g g' : Nat → Option α} {r : α} (h : Ev g' r) (e : ∀ k, g (k + 1) = g' k) : Ev g r := by
  obtain ⟨K, hK⟩ := h
  refine ⟨K + 1, fun k hk => ?_⟩
  obtain ⟨j, rfl⟩ : ∃ j, k = j + 1 := ⟨k - 1, by omega⟩
  rw [e, hK j (by omega)]
theorem Ev.steps {α : Type} {g g' : Nat → Option α} {r : α} (h : Ev g' r) (n : Nat) (e : ∀ k, g (k + n) = g' k) : Ev g r := by
  obtain ⟨K, hK⟩ := h
  refine ⟨K + n, fun k hk => ?_⟩
  obtain ⟨j, rfl⟩ : ∃ j, k = j + n := ⟨k - n, by omega⟩
  rw [e, hK j (by omega)]
theorem Ev.some {α : Type} (r : α) : Ev (fun _ => some r) r := ⟨0, fun _ _ => rfl⟩
theorem Ev.bind {α β : Type} {g : Nat → Option α} {f : Nat → α → Option β} {t : α} {r : β} (h : Ev g t) (k : Ev (fun n => f n t) r) : Ev (fun n => (g n).bind (f n)) r := by
  obtain ⟨K1, h1⟩ := h
  obtain ⟨K2, h2⟩ := k
  refine ⟨max K1 K2, fun n hn => ?_⟩
  show (g n).bind (f n) = Option.some r
  rw [h1 n (by omega)]
  exact h2 n (by omega)
theorem Ev.get {α : Type} {g : Nat → Option α} {r : α} (h : Ev g r) : ∃ k, g k = Option.some r := by
  obtain ⟨K, hK⟩ := h
  exact ⟨K, hK K (Nat.le_refl _)⟩
theorem rowW_pre (L : List Nat) (b w : Nat) {s n : Nat} (h : s ≤ n) : ∃ R, rowW L b w n = rowW L b w s ++ R := by
  induction n with
  | zero => obtain rfl : s = 0 := by omega
            exact ⟨[], by simp⟩
  | succ n ih =>
    by_cases e : s = n + 1
    · subst e; exact ⟨[], by simp⟩
    · obtain ⟨R, hR⟩ := ih (by omega)
      rw [rowW, hR, List.append_assoc]
      exact ⟨_, rfl⟩
theorem tabW_pre (L : List Nat) (b : Nat) {s n : Nat} (h : s ≤ n) : ∃ R, tabW L b n = tabW L b s ++ R := by
  induction n with
  | zero => obtain rfl : s = 0 := by omega
            exact ⟨[], by simp⟩
  | succ n ih =>
    by_cases e : s = n + 1
    · subst e; exact ⟨[], by simp⟩
    · obtain ⟨R, hR⟩ := ih (by omega)
      rw [tabW, hR, List.append_assoc]
      exact ⟨_, rfl⟩
theorem rowW_mem {L : List Nat} {b w n : Nat} {c : S68} (h : c ∈ rowW L b w n) : ∃ s, s < n ∧ L.getD s 0 = w ∧ c = code b w s := by
  induction n with
  | zero => cases h
  | succ n ih =>
    rw [rowW, List.mem_append] at h
    rcases h with h | h
    · obtain ⟨s, h1, h2⟩ := ih h
      exact ⟨s, by omega, h2⟩
    · by_cases e : L.getD n 0 = w
      · rw [if_pos e] at h
        exact ⟨n, by omega, e, List.eq_of_mem_replicate h⟩
      · rw [if_neg e] at h; cases h
theorem tabW_mem {L : List Nat} {b n : Nat} {c : S68} (h : c ∈ tabW L b n) : ∃ s w, s < L.length ∧ L.getD s 0 = w ∧ 1 ≤ w ∧ w ≤ n ∧ c = code b w s := by
  induction n with
  | zero => cases h
  | succ n ih =>
    rw [tabW, List.mem_append] at h
    rcases h with h | h
    · obtain ⟨s, w, h1, h2, h3, h4, h5⟩ := ih h
      exact ⟨s, w, h1, h2, h3, by omega, h5⟩
    · obtain ⟨s, h1, h2, h3⟩ := rowW_mem h
      exact ⟨s, n + 1, h1, h2, by omega, by omega, h3⟩
/-- The list before a symbol's entries, its entries, and the rest. -/
theorem tab_split {L : List Nat} {b x w : Nat} (hx : x < L.length) (hw : L.getD x 0 = w) (h1 : 1 ≤ w) (h2 : w ≤ b) :
    ∃ P R, tabW L b b = P ++ (List.replicate (2 ^ (w - 1)) (code b w x) ++ R) ∧ P.length = place L x ∧ ∀ c ∈ P, c.f0 ≠ (x : Int) := by
  obtain ⟨v, rfl⟩ : ∃ v, w = v + 1 := ⟨w - 1, by omega⟩
  obtain ⟨R1, e1⟩ := tabW_pre L b h2
  obtain ⟨R2, e2⟩ := rowW_pre L b (v + 1) (show x + 1 ≤ L.length by omega)
  rw [rowW, if_pos hw] at e2
  refine ⟨tabW L b v ++ rowW L b (v + 1) x, R2 ++ R1, ?_, ?_, ?_⟩
  · rw [e1, tabW, e2]
    simp only [List.append_assoc]
  · rw [List.length_append, tabW_length, rowW_length _ _ _ _ (by omega)]
    unfold place
    rw [hw]
    rfl
  · intro c hc
    rw [List.mem_append] at hc
    rcases hc with hc | hc
    · obtain ⟨s, u, g1, g2, g3, g4, g5⟩ := tabW_mem hc
      subst g5
      intro e
      have e' : (s : Int) = (x : Int) := e
      have : s = x := by omega
      subst this
      omega
    · obtain ⟨s, g1, g2, g3⟩ := rowW_mem hc
      subst g3
      intro e
      have e' : (s : Int) = (x : Int) := e
      omega
theorem bas_dvd {L : List Nat} {b : Nat} (hS : bas L b = 2 ^ b) (n : Nat) : ∀ m, m + n = b → bas L m % 2 ^ m = 0 := by
  induction n with
  | zero => intro m h
            obtain rfl : m = b := by omega
            rw [hS, Nat.mod_self]
  | succ n ih =>
    intro m h
    have h1 := ih (m + 1) (by omega)
    rw [bas] at h1
    have d1 : 2 ^ m ∣ bas L m + L.count (m + 1) * 2 ^ m := Nat.dvd_trans ⟨2, by rw [Nat.pow_succ]⟩ (Nat.dvd_of_mod_eq_zero h1)
    have d2 : 2 ^ m ∣ L.count (m + 1) * 2 ^ m := ⟨_, Nat.mul_comm _ _⟩
    exact Nat.mod_eq_zero_of_dvd ((Nat.dvd_add_iff_left d2).mpr d1)
theorem bas_all {L : List Nat} {b : Nat} (h : ∀ w ∈ L, w ≤ b) : bas L b = wsum L := by
  induction L with
  | nil =>
    induction b with
    | zero => rfl
    | succ b ih => rw [bas, ih (by simp)]; simp
  | cons x L ih =>
    rw [bas_cons, ih (fun w hw => h w (List.mem_cons_of_mem _ hw)), wsum]
    have := h x List.mem_cons_self
    by_cases e : x = 0
    · rw [if_neg (by omega), if_pos e]; omega
    · rw [if_pos (by omega), if_neg e]; omega
theorem l1_loop {L : List Nat} {b : Nat} (hb : b ≤ 11) (hS : bas L b ≤ 2048) (hL : L.length ≤ 1000000) {w : Nat} (hw : 1 ≤ w ∧ w ≤ b) (r : List S68)
    (h : Ev (fun k => spec_CodeTable.l0 k (ints L) (b : Int) (tabW L b w) ((w + 1 : Nat) : Int)) r) (n : Nat) : ∀ s, s + n = L.length →
    Ev (fun k => spec_CodeTable.l1 k (ints L) (b : Int) (tabW L b (w - 1) ++ rowW L b w s) (w : Int) (ints L) ((ints L).length : Int) (s : Int)) r := by
  obtain ⟨v, rfl⟩ : ∃ v, w = v + 1 := ⟨w - 1, by omega⟩
  rw [Nat.add_sub_cancel]
  induction n with
  | zero =>
    intro s hs
    obtain rfl : s = L.length := by omega
    refine h.step (fun k => ?_)
    rw [spec_CodeTable.l1, if_neg (by rw [ints_length]; omega), wrap_small _ (by omega) (by omega)]
    rfl
  | succ n ih =>
    intro s hs
    have hs' : s < L.length := by omega
    have e1 : wrap64 ((s : Int) + 1) = ((s + 1 : Nat) : Int) := by rw [wrap_small _ (by omega) (by omega)]; rfl
    by_cases e : L.getD s 0 = v + 1
    · have hlen : (tabW L b v ++ rowW L b (v + 1) s).length + 2 ^ v ≤ 2048 := by
        rw [List.length_append, tabW_length, rowW_length _ _ _ _ (by omega), Nat.add_sub_cancel]
        have h1 := count_get hs' e
        have h2 := bas_mono L hw.2
        rw [bas] at h2
        have h3 := Nat.mul_le_mul_right (2 ^ v) h1
        rw [Nat.add_mul, Nat.one_mul] at h3
        omega
      have h1 := ih (s + 1) (by omega)
      have e3 : tabW L b v ++ rowW L b (v + 1) (s + 1) = (tabW L b v ++ rowW L b (v + 1) s) ++ List.replicate (2 ^ v) (code b (v + 1) s) := by
        rw [rowW, if_pos e, List.append_assoc]; rfl
      rw [e3] at h1
      refine (h1.steps (2 ^ v + 1) (g := fun k => spec_CodeTable.l2 k (ints L) (b : Int) (tabW L b v ++ rowW L b (v + 1) s) ((v + 1 : Nat) : Int) (s : Int) ((v + 1 : Nat) : Int) (ints L) ((ints L).length : Int) (s : Int) (((2 ^ v : Nat) : Int)) ((0 : Nat) : Int)) (fun k => ?_)).step (fun k => ?_)
      · have := l2_loop (ints L) b (v + 1) s hw hb (ints L) ((ints L).length : Int) (2 ^ v) 0 k (tabW L b v ++ rowW L b (v + 1) s) (by rw [Nat.add_sub_cancel, Nat.zero_add]) (by omega)
        rw [Nat.add_sub_cancel] at this
        rw [← e1]
        exact this
      · rw [spec_CodeTable.l1, if_pos (by rw [ints_length]; omega), if_pos (by omega), if_pos (by rw [ints_length]; omega), rd_ints, e, if_pos rfl]
        have e4 : wrap64 (((v + 1 : Nat) : Int) - 1) = (v : Int) := by rw [wrap_small _ (by omega) (by omega)]; omega
        have e5 : shl .i64 1 (v : Int) = ((2 ^ v : Nat) : Int) := by
          have := shl_nat (x := 1) (c := v) (by omega) (by omega)
          rw [Nat.one_mul] at this
          exact this
        rw [e4, if_pos (by omega), e5]
        rfl
    · have h1 := ih (s + 1) (by omega)
      have e3 : rowW L b (v + 1) (s + 1) = rowW L b (v + 1) s := by rw [rowW, if_neg e, List.append_nil]
      rw [e3] at h1
      refine h1.step (fun k => ?_)
      rw [spec_CodeTable.l1, if_pos (by rw [ints_length]; omega), if_pos (by omega), if_pos (by rw [ints_length]; omega), rd_ints, if_neg (by omega), e1]
/-- spec.CodeTable. -/
theorem codeTable_f {L : List Nat} {b : Nat} (hb : b ≤ 11) (hS : bas L b ≤ 2048) (hL : L.length ≤ 1000000) : Ev (fun k => spec_CodeTable.f k (ints L) (b : Int)) (tabW L b b) := by
  have key : ∀ n w, w + n = b → Ev (fun k => spec_CodeTable.l0 k (ints L) (b : Int) (tabW L b w) ((w + 1 : Nat) : Int)) (tabW L b b) := by
    intro n
    induction n with
    | zero =>
      intro w hw
      obtain rfl : w = b := by omega
      refine (Ev.some _).step (fun k => ?_)
      rw [spec_CodeTable.l0, if_neg (by omega)]
    | succ n ih =>
      intro w hw
      have h1 := l1_loop hb hS hL (w := w + 1) (by omega) _ (ih (w + 1) (by omega)) L.length 0 (by omega)
      refine h1.step (fun k => ?_)
      rw [spec_CodeTable.l0, if_pos (by omega)]
      rw [rowW, List.append_nil]
      rfl
  have := key b 0 (by omega)
  exact this
end Go.Proofs.YtopadgohinoomaaDoor.Cx
namespace Go.Proofs.YtopadgohinoomaaDoor.Cx
open Go.RowKit Go.Proofs.YtopadgohinoomaaDoorW.PrintWords Go.Proofs.YtopadgohinoomaaDoorW.PrintMore Go.Proofs.YtopadgohinoomaaDoor.PC
set_option linter.unusedVariables false
/-- Weights (the last one among them) of codes of at most b bits. -/
structure Wts (L : List Nat) (b : Nat) : Prop where
  b1 : 1 ≤ b
  b11 : b ≤ 11
  le : ∀ w ∈ L, w ≤ b
  sum : wsum L = 2 ^ b
  len : L.length ≤ 256
theorem Wts.getD {L : List Nat} {b : Nat} (h : Wts L b) (s : Nat) : L.getD s 0 ≤ b := by
  rcases Nat.lt_or_ge s L.length with g | g
  · rw [List.getD_eq_getElem?_getD, List.getElem?_eq_getElem g]
    exact h.le _ (List.getElem_mem g)
  · rw [List.getD_eq_getElem?_getD, List.getElem?_eq_none g]
    exact Nat.zero_le _
theorem Wts.bas {L : List Nat} {b : Nat} (h : Wts L b) : Cx.bas L b = 2 ^ b := by rw [bas_all h.le, h.sum]
theorem Wts.pow {L : List Nat} {b : Nat} (h : Wts L b) : 2 ^ b ≤ 2048 := by
  have := Nat.pow_le_pow_right (show 0 < 2 by decide) h.b11
  exact this
theorem Wts.tab_length {L : List Nat} {b : Nat} (h : Wts L b) : (tabW L b b).length = 2 ^ b := by rw [tabW_length, h.bas]
/-- The literal is a symbol with a code. -/
def Sym (L : List Nat) (x : Int) : Prop := 0 ≤ x ∧ x.toNat < L.length ∧ 1 ≤ L.getD x.toNat 0
def codeOf (L : List Nat) (b : Nat) (x : Int) : Nat × Nat := (place L x.toNat / 2 ^ (L.getD x.toNat 0 - 1), b + 1 - L.getD x.toNat 0)
def csOf (L : List Nat) (b : Nat) (X : List Int) : List (Nat × Nat) := X.map (codeOf L b)
theorem Wts.place_le {L : List Nat} {b : Nat} (h : Wts L b) {s : Nat} (hs : s < L.length) (h1 : 1 ≤ L.getD s 0) : place L s + 2 ^ (L.getD s 0 - 1) ≤ 2 ^ b :=
  Cx.place_le h.sum hs (by omega)
theorem Wts.place_mod {L : List Nat} {b : Nat} (h : Wts L b) {s : Nat} (h1 : 1 ≤ L.getD s 0) : place L s / 2 ^ (L.getD s 0 - 1) * 2 ^ (L.getD s 0 - 1) = place L s := by
  have hg := h.getD s
  have h2 := bas_dvd h.bas (b - (L.getD s 0 - 1)) (L.getD s 0 - 1) (by omega)
  have h3 : place L s % 2 ^ (L.getD s 0 - 1) = 0 := by
    unfold place
    rw [Nat.add_mul_mod_self_right, h2]
  have := Nat.div_add_mod (place L s) (2 ^ (L.getD s 0 - 1))
  rw [h3, Nat.mul_comm] at this
  omega
theorem codeOf_fit {L : List Nat} {b : Nat} (h : Wts L b) {x : Int} (hx : Sym L x) : (codeOf L b x).1 < 2 ^ (codeOf L b x).2 := by
  obtain ⟨h0, h1, h2⟩ := hx
  have hg := h.getD x.toNat
  have h3 := h.place_le h1 h2
  have h4 := h.place_mod h2
  unfold codeOf
  have e : 2 ^ b = 2 ^ (b + 1 - L.getD x.toNat 0) * 2 ^ (L.getD x.toNat 0 - 1) := by rw [← Nat.pow_add]; congr 1; omega
  rw [e, ← h4] at h3
  have hp := Nat.two_pow_pos (L.getD x.toNat 0 - 1)
  dsimp only
  rcases Nat.lt_or_ge (place L x.toNat / 2 ^ (L.getD x.toNat 0 - 1)) (2 ^ (b + 1 - L.getD x.toNat 0)) with g | g
  · exact g
  · have := Nat.mul_le_mul_right (2 ^ (L.getD x.toNat 0 - 1)) g
    omega
theorem rd68 {T : List S68} {i : Nat} (h : i < T.length) : rd_T68 T (i : Int) = T[i] := by
  unfold rd_T68
  rw [Int.toNat_natCast, List.getD_eq_getElem?_getD, List.getElem?_eq_getElem h]
  rfl
/-- spec.codeOf finds the first entry of a symbol. -/
theorem codeOf_l0 (P R : List S68) (b x : Int) (c : S68) (hc : c.f0 = x) (hP : ∀ d ∈ P, d.f0 ≠ x) (hl : P.length ≤ 1000000) (hb : 0 ≤ b - c.f1 ∧ b - c.f1 ≤ 1000) (n : Nat) : ∀ i k, i + n = P.length → n + 1 ≤ k →
    spec_codeOf.l0 k b x (P ++ c :: R) ((P ++ c :: R).length : Int) (i : Int) = some (shr .i64 (P.length : Int) (b - c.f1), c.f1) := by
  induction n with
  | zero =>
    intro i k hi hk
    obtain ⟨k, rfl⟩ : ∃ j, k = j + 1 := ⟨k - 1, by omega⟩
    obtain rfl : i = P.length := by omega
    have hlt : P.length < (P ++ c :: R).length := by rw [List.length_append, List.length_cons]; omega
    have e1 : (P ++ c :: R)[P.length] = c := by simp
    rw [spec_codeOf.l0, if_pos (by omega), if_pos (by omega), if_pos (by omega), rd68 hlt, e1, if_pos hc, wrap_small _ hb.1 (by omega), if_pos hb.1]
  | succ n ih =>
    intro i k hi hk
    obtain ⟨k, rfl⟩ : ∃ j, k = j + 1 := ⟨k - 1, by omega⟩
    have hlt : i < (P ++ c :: R).length := by rw [List.length_append, List.length_cons]; omega
    have e1 : (P ++ c :: R)[i] = P[i] := List.getElem_append_left (by omega)
    rw [spec_codeOf.l0, if_pos (by omega), if_pos (by omega), if_pos (by omega), rd68 hlt, e1, if_neg (hP _ (List.getElem_mem _)), wrap_small _ (by omega) (by omega)]
    exact ih (i + 1) k (by omega) (by omega)
theorem codeOf_f {L : List Nat} {b : Nat} (h : Wts L b) {x : Int} (hx : Sym L x) (k : Nat) (hk : 2 ^ b + 1 ≤ k) :
    spec_codeOf.f k (tabW L b b) (b : Int) x = some (((codeOf L b x).1 : Int), ((codeOf L b x).2 : Int)) := by
  obtain ⟨h0, h1, h2⟩ := hx
  obtain ⟨s, rfl⟩ : ∃ s : Nat, x = (s : Int) := ⟨x.toNat, by omega⟩
  rw [Int.toNat_natCast] at h1 h2
  have hg := h.getD s
  have h3 := h.place_le h1 h2
  have hp := h.pow
  have h11 := h.b11
  obtain ⟨P, R, e1, e2, e3⟩ := tab_split h1 rfl h2 hg
  obtain ⟨v, hv⟩ : ∃ v, L.getD s 0 = v + 1 := ⟨L.getD s 0 - 1, by omega⟩
  obtain ⟨q, hq⟩ : ∃ q, 2 ^ (L.getD s 0 - 1) = q + 1 := ⟨2 ^ (L.getD s 0 - 1) - 1, by have := Nat.two_pow_pos (L.getD s 0 - 1); omega⟩
  rw [hq, List.replicate_succ, List.cons_append] at e1
  have hf : (code b (L.getD s 0) s).f1 = ((b + 1 - L.getD s 0 : Nat) : Int) := rfl
  have := codeOf_l0 P (List.replicate q (code b (L.getD s 0) s) ++ R) (b : Int) (s : Int) (code b (L.getD s 0) s) rfl e3 (by omega) (by rw [hf]; omega) P.length 0 k (by omega) (by omega)
  rw [← e1] at this
  unfold spec_codeOf.f codeOf
  rw [Int.toNat_natCast]
  refine this.trans ?_
  rw [hf, e2]
  have e4 : (b : Int) - ((b + 1 - L.getD s 0 : Nat) : Int) = ((L.getD s 0 - 1 : Nat) : Int) := by omega
  rw [e4, shr_nat (by omega)]
theorem codesOf_csOf {L : List Nat} {b : Nat} (h : Wts L b) {X : List Int} (hX : ∀ x ∈ X, Sym L x) : CodesOf (tabW L b b) (b : Int) (2 ^ b + 1) X (csOf L b X) := by
  refine ⟨by simp [csOf], fun i hi => ?_⟩
  have hi' : i < X.length := by simpa [csOf] using hi
  have e1 : (csOf L b X)[i] = codeOf L b X[i] := by simp [csOf]
  have e2 : X.getD i 0 = X[i] := by rw [List.getD_eq_getElem?_getD, List.getElem?_eq_getElem hi']; rfl
  have hx := hX _ (List.getElem_mem hi')
  have hg := h.getD (X[i]).toNat
  have h11 := h.b11
  rw [e1, e2]
  obtain ⟨h0, h1, h2⟩ := hx
  refine ⟨?_, ?_, codeOf_fit h ⟨h0, h1, h2⟩, fun k hk => codeOf_f h ⟨h0, h1, h2⟩ k hk⟩
  · show 1 ≤ b + 1 - _; omega
  · show b + 1 - _ ≤ 11; omega
theorem or_nat' (x d : Nat) (hx : x < 256) (hd : d < 256) : Go.bits BinOp.or IntKind.i64 ((x * 256 : Nat) : Int) (d : Int) = ((x * 256 + d : Nat) : Int) := by
  have key : (BitVec.ofInt 64 ((x * 256 : Nat) : Int) ||| BitVec.ofInt 64 (d : Int)).toNat = (x * 256) ||| d := by
    rw [BitVec.toNat_or, BitVec.toNat_ofInt, BitVec.toNat_ofInt]
    congr 1 <;> omega
  show IntKind.i64.wrap ((BitVec.ofInt 64 ((x * 256 : Nat) : Int) ||| BitVec.ofInt 64 (d : Int)).toNat : Nat) = _
  rw [key, or_byte x d hd, IntKind.wrap_i64]
  omega
theorem pair_code {b w s : Nat} (hs : s < 256) (hb : b ≤ 11) : pair (code b w s) = ((s * 256 + (b + 1 - w) : Nat) : Int) := by
  unfold pair code
  dsimp only
  rw [wrap_small _ (by omega) (by omega), show (s : Int) * 256 = ((s * 256 : Nat) : Int) by omega, or_nat' s _ hs (by omega), IntKind.wrap_u16]
  omega
theorem pad_get {T : List Int} {i N : Nat} (h : i < T.length) (h2 : T.length ≤ N) : (T.take (min T.length N) ++ (List.replicate N 0).drop (min T.length N)).getD i 0 = T.getD i 0 := by
  rw [Nat.min_eq_left h2, List.take_length]
  simp only [List.getD_eq_getElem?_getD]
  rw [List.getElem?_append_left h]
theorem pad_length (T : List Int) (N : Nat) : (T.take (min T.length N) ++ (List.replicate N (0 : Int)).drop (min T.length N)).length = N := by
  rw [List.length_append, List.length_take, List.length_drop, List.length_replicate]
  omega
theorem padded_get {T : List Int} {i : Nat} (h : i < T.length) (h2 : T.length ≤ 2048) : (padded T).getD i 0 = T.getD i 0 := pad_get h h2
theorem padded_length (T : List Int) : (padded T).length = 2048 := pad_length T 2048
theorem mid_get {P R : List S68} (f : S68 → Int) (c : S68) {q y n : Nat} (hy : y < q) (hP : P.length = n) : ((P ++ (List.replicate q c ++ R)).map f).getD (n + y) 0 = f c := by
  simp only [List.getD_eq_getElem?_getD, List.map_append, List.map_replicate]
  rw [List.getElem?_append_right (by rw [List.length_map]; omega), List.length_map, hP, Nat.add_sub_cancel_left, List.getElem?_append_left (by rw [List.length_replicate]; exact hy), List.getElem?_replicate_of_lt hy]
  rfl
theorem tab_get {L : List Nat} {b : Nat} (h : Wts L b) {s : Nat} (h1 : s < L.length) (h2 : 1 ≤ L.getD s 0) {y : Nat} (hy : y < 2 ^ (L.getD s 0 - 1)) :
    (padded ((tabW L b b).map pair)).getD (place L s + y) 0 = ((s * 256 + (b + 1 - L.getD s 0) : Nat) : Int) := by
  have hg := h.getD s
  have h3 := h.place_le h1 h2
  have hp := h.pow
  have hlen := h.len
  obtain ⟨P, R, e1, e2, e3⟩ := tab_split h1 rfl h2 hg
  have hm := mid_get (R := R) pair (code b (L.getD s 0) s) hy e2
  rw [← e1] at hm
  have hl : ((tabW L b b).map pair).length = 2 ^ b := by rw [List.length_map, h.tab_length]
  exact (padded_get (by rw [hl]; omega) (by rw [hl]; exact hp)).trans (hm.trans (pair_code (by omega) h.b11))
theorem tells_csOf {L : List Nat} {b : Nat} (h : Wts L b) {X : List Int} (hX : ∀ x ∈ X, Sym L x) : Tells (padded ((tabW L b b).map pair)) b (csOf L b X) X := by
  refine ⟨by simp [csOf], fun i hi => ?_⟩
  have hi' : i < X.length := by simpa [csOf] using hi
  have e1 : (csOf L b X)[i] = codeOf L b X[i] := by simp [csOf]
  have e2 : X.getD i 0 = X[i] := by rw [List.getD_eq_getElem?_getD, List.getElem?_eq_getElem hi']; rfl
  have hx := hX _ (List.getElem_mem hi')
  rw [e1, e2]
  generalize X[i] = x at hx
  obtain ⟨h0, h1, h2⟩ := hx
  obtain ⟨s, rfl⟩ : ∃ s : Nat, x = (s : Int) := ⟨x.toNat, by omega⟩
  rw [Int.toNat_natCast] at h1 h2
  have hg := h.getD s
  unfold codeOf
  rw [Int.toNat_natCast]
  dsimp only
  have e3 : b - (b + 1 - L.getD s 0) = L.getD s 0 - 1 := by omega
  rw [e3]
  refine ⟨by omega, by omega, h0, fun y hy => ?_⟩
  rw [h.place_mod h2, tab_get h h1 h2 hy]
  omega
theorem tab_csOf {L : List Nat} {b : Nat} (h : Wts L b) : Tab (padded ((tabW L b b).map pair)) b := by
  intro i hi
  have hp := h.pow
  have hl := h.tab_length
  have hlen := h.len
  have hb := h.b11
  rw [padded_get (by rw [List.length_map]; omega) (by rw [List.length_map]; omega)]
  have hi' : i < (tabW L b b).length := by omega
  have e1 : ((tabW L b b).map pair).getD i 0 = pair ((tabW L b b)[i]) := by
    rw [List.getD_eq_getElem?_getD, List.getElem?_map, List.getElem?_eq_getElem hi']; rfl
  obtain ⟨s, w, g1, g2, g3, g4, g5⟩ := tabW_mem (List.getElem_mem hi')
  rw [e1, g5, pair_code (by omega) hb]
  omega
end Go.Proofs.YtopadgohinoomaaDoor.Cx
namespace Go.Proofs.YtopadgohinoomaaDoor.Cx
open Go.RowKit Go.Proofs.YtopadgohinoomaaDoorW.PrintWords Go.Proofs.YtopadgohinoomaaDoorW.PrintMore Go.Proofs.YtopadgohinoomaaDoor.PC
set_option linter.unusedVariables false
theorem width_l0 (B : Nat) (hB : B ≤ 40) : ∀ n : Nat, n < 2 ^ B → ∃ m, m ≤ B ∧ n < 2 ^ m ∧ (1 ≤ m → 2 ^ (m - 1) ≤ n) ∧ ∀ a : Nat, a ≤ 1000 - B → Ev (fun k => spec_Width.l0 k (n : Int) (a : Int)) ((a + m : Nat) : Int) := by
  have h40 : ∀ B, B ≤ 40 → 2 ^ B ≤ 1099511627776 := fun B h => Nat.pow_le_pow_right (show 0 < 2 by decide) h
  induction B with
  | zero =>
    intro n hn
    obtain rfl : n = 0 := by omega
    refine ⟨0, Nat.le_refl _, hn, by omega, fun a ha => (Ev.some _).step (fun k => ?_)⟩
    rw [spec_Width.l0, if_neg (by omega)]
    rfl
  | succ B ih =>
    intro n hn
    have hB2 := h40 (B + 1) hB
    by_cases e : n = 0
    · subst e
      refine ⟨0, Nat.zero_le _, by decide, by omega, fun a ha => (Ev.some _).step (fun k => ?_)⟩
      rw [spec_Width.l0, if_neg (by omega)]
      rfl
    · rw [Nat.pow_succ] at hn
      obtain ⟨m, h1, h2, h3, h4⟩ := ih (by omega) (n / 2) (by omega)
      refine ⟨m + 1, by omega, by rw [Nat.pow_succ]; omega, fun _ => ?_, fun a ha => ?_⟩
      · rw [Nat.add_sub_cancel]
        by_cases e : m = 0
        · subst e; simp only [Nat.pow_zero]; omega
        · have := h3 (by omega)
          have e2 : 2 ^ m = 2 ^ (m - 1) * 2 := by rw [← Nat.pow_succ]; congr 1; omega
          omega
      · refine ((h4 (a + 1) (by omega)).step (g := fun k => spec_Width.l0 k (n : Int) (a : Int)) (fun k => ?_)).elim (fun K hK => ⟨K, fun k hk => (hK k hk).trans ?_⟩)
        · rw [spec_Width.l0, if_pos (by omega)]
          have e1 : Int.tdiv (n : Int) 2 = ((n / 2 : Nat) : Int) := by rw [Int.tdiv_eq_ediv_of_nonneg (by omega)]; rfl
          rw [e1, wrap_small _ (by omega) (by omega), wrap_small _ (by omega) (by omega)]
          rfl
        · rw [show a + 1 + m = a + (m + 1) by omega]
theorem width_f (n : Nat) (h : n < 2 ^ 40) : ∃ m : Nat, m ≤ 40 ∧ n < 2 ^ m ∧ (1 ≤ m → 2 ^ (m - 1) ≤ n) ∧ Ev (fun k => spec_Width.f k (n : Int)) (m : Int) := by
  obtain ⟨m, h1, h2, h3, h4⟩ := width_l0 40 (by omega) n h
  refine ⟨m, h1, h2, h3, ?_⟩
  have := h4 0 (by omega)
  rw [Nat.zero_add] at this
  exact this
theorem wsum_mem {L : List Nat} {w : Nat} (h : w ∈ L) (h1 : 1 ≤ w) : 2 ^ (w - 1) ≤ wsum L := by
  induction L with
  | nil => cases h
  | cons x L ih =>
    rw [wsum]
    rcases List.mem_cons.mp h with e | e
    · subst e; rw [if_neg (by omega)]; omega
    · have := ih e; omega
theorem wsum_11 {L : List Nat} (h : ∀ w ∈ L, w ≤ 11) : wsum L ≤ 1024 * L.length := by
  induction L with
  | nil => exact Nat.le_refl _
  | cons x L ih =>
    have h1 := ih (fun w hw => h w (List.mem_cons_of_mem _ hw))
    have h2 := h x List.mem_cons_self
    have h3 : 2 ^ (x - 1) ≤ 2 ^ 10 := Nat.pow_le_pow_right (by decide) (by omega)
    rw [wsum, List.length_cons]
    by_cases e : x = 0
    · rw [if_pos e]; omega
    · rw [if_neg e]; omega
/-- What Whole may answer. -/
def WholeIs (l : List Int) (g : Nat → Option (List Int × Int × Bool)) : Prop :=
  Ev g (([] : List Int), 0, false) ∨ ∃ (L : List Nat) (b : Nat), Ev g (ints L, (b : Int), true) ∧ 1 ≤ b ∧ b ≤ 11 ∧ (∀ w ∈ L, w ≤ b) ∧ wsum L = 2 ^ b ∧ ∃ (W : List Nat) (v : Nat), L = W ++ [v] ∧ l = ints W ∧ 0 < v ∧ 2 ^ (b - 1) ≤ wsum W
theorem WholeIs.step {l : List Int} {g g' : Nat → Option (List Int × Int × Bool)} (h : WholeIs l g') (e : ∀ k, g (k + 1) = g' k) : WholeIs l g := by
  rcases h with h | ⟨L, b, h, r⟩
  · exact Or.inl (h.step e)
  · exact Or.inr ⟨L, b, h.step e, r⟩
theorem WholeIs.bind {l : List Int} {α : Type} {g : Nat → Option α} {f : Nat → α → Option (List Int × Int × Bool)} {t : α} (h : Ev g t) (k : WholeIs l (fun n => f n t)) : WholeIs l (fun n => (g n).bind (f n)) := by
  rcases k with k | ⟨L, b, k, r⟩
  · exact Or.inl (h.bind k)
  · exact Or.inr ⟨L, b, h.bind k, r⟩
theorem ints_app (a : List Nat) (x : Nat) : ints a ++ [(x : Int)] = ints (a ++ [x]) := by simp [ints]
theorem shl_one (v : Nat) (h : v ≤ 20) : shl .i64 1 (v : Int) = ((2 ^ v : Nat) : Int) := by
  have := shl_nat (x := 1) (c := v) (by omega) h
  rw [Nat.one_mul] at this
  exact this
theorem whole_end (W : List Nat) (hW : ∀ w ∈ W, w ≤ 11) (hl : W.length ≤ 1000000) : WholeIs (ints W) (fun k => spec_Whole.l0 k (ints W) (wsum W : Int) (ints W) ((ints W).length : Int) (W.length : Int)) := by
  have hs := wsum_11 hW
  obtain ⟨m, m1, m2, m3, m4⟩ := width_f (wsum W) (by omega)
  have hnone : WholeIs (ints W) (fun k => spec_Whole.j2 k (ints W) (wsum W : Int) (m : Int) true) := by
    refine Or.inl ((Ev.some _).step (fun k => ?_))
    rw [spec_Whole.j2, if_pos rfl]
  have hmain : WholeIs (ints W) (fun k => if (wsum W : Int) = 0 then (spec_Whole.j2 k (ints W) (wsum W : Int) (m : Int) true) else (spec_Whole.j2 k (ints W) (wsum W : Int) (m : Int) (decide ((m : Int) > 11)))) := by
    by_cases e : wsum W = 0
    · rw [e] at hnone ⊢
      simp only [Int.natCast_zero, if_true]
      exact hnone
    · have e' : ¬ ((wsum W : Int) = 0) := by omega
      simp only [if_neg e']
      by_cases g : m ≤ 11
      · have hmp : 1 ≤ m := by
          rcases Nat.eq_zero_or_pos m with h | h
          · subst h; simp only [Nat.pow_zero] at m2; omega
          · exact h
        have m3' := m3 hmp
        have hp : 2 ^ m ≤ 2 ^ 11 := Nat.pow_le_pow_right (by decide) g
        have h2 : 2 ^ m = 2 ^ (m - 1) * 2 := by rw [← Nat.pow_succ]; congr 1; omega
        obtain ⟨v, v1, v2, v3, v4⟩ := width_f (2 ^ m - wsum W) (by omega)
        have hv : 1 ≤ v := by
          rcases Nat.eq_zero_or_pos v with h | h
          · subst h; simp only [Nat.pow_zero] at v2; omega
          · exact h
        have v3' := v3 hv
        have hvm : v ≤ m := by
          rcases Nat.lt_or_ge m v with h | h
          · have : 2 ^ m ≤ 2 ^ (v - 1) := Nat.pow_le_pow_right (by decide) (by omega)
            omega
          · exact h
        have el : wrap64 (shl .i64 1 (m : Int) - (wsum W : Int)) = ((2 ^ m - wsum W : Nat) : Int) := by
          rw [shl_one m (by omega), wrap_small _ (by omega) (by omega)]
          omega
        have ev : wrap64 ((v : Int) - 1) = ((v - 1 : Nat) : Int) := by
          rw [wrap_small _ (by omega) (by omega)]
          omega
        rw [decide_eq_false (show ¬ ((m : Int) > 11) by omega)]
        refine WholeIs.step (WholeIs.bind (f := fun _ t221 => (if 0 ≤ (wrap64 (t221 - 1)) then (if ((2 ^ m - wsum W : Nat) : Int) = (shl .i64 1 (wrap64 (t221 - 1))) then ((some (([] : List Int) : List Int)).bind fun y222 => (if y222.length + (ints W).length < 17592186044416 then ((some (y222 ++ (ints W) : List Int)).bind fun y225 => (if y225.length < 17592186044416 then (some ((y225 ++ [t221]), (m : Int), true)) else (none))) else (none))) else (some (([] : List Int), 0, false))) else (none))) v4 ?_) (fun k => ?_)
        · rw [ev, shl_one _ (by omega)]
          simp only [if_pos (show (0 : Int) ≤ ((v - 1 : Nat) : Int) by omega)]
          by_cases q : 2 ^ m - wsum W = 2 ^ (v - 1)
          · simp only [if_pos (show ((2 ^ m - wsum W : Nat) : Int) = ((2 ^ (v - 1) : Nat) : Int) by rw [q])]
            refine Or.inr ⟨W ++ [v], m, ?_, hmp, g, ?_, ?_⟩
            · have e5 : ∀ k : Nat, (fun _ : Nat => (some (([] : List Int) : List Int)).bind fun y222 => (if y222.length + (ints W).length < 17592186044416 then ((some (y222 ++ (ints W) : List Int)).bind fun y225 => (if y225.length < 17592186044416 then (some ((y225 ++ [(v : Int)]), (m : Int), true)) else (none))) else (none))) k = some (ints (W ++ [v]), (m : Int), true) := by
                intro k
                dsimp only
                rw [Option.bind_some, if_pos (by rw [ints_length, List.length_nil]; omega), Option.bind_some, List.nil_append, if_pos (by rw [ints_length]; omega), ints_app]
              exact ⟨0, fun k _ => e5 k⟩
            · intro w hw
              rcases List.mem_append.mp hw with h | h
              · rcases Nat.eq_zero_or_pos w with h0 | h0
                · omega
                · have := wsum_mem h h0
                  rcases Nat.lt_or_ge m w with h3 | h3
                  · have : 2 ^ m ≤ 2 ^ (w - 1) := Nat.pow_le_pow_right (by decide) (by omega)
                    omega
                  · exact h3
              · obtain rfl := List.mem_singleton.mp h
                exact hvm
            · rw [wsum_append]
              simp only [wsum]
              rw [if_neg (by omega)]
              exact ⟨by omega, W, v, rfl, rfl, hv, m3'⟩
          · simp only [if_neg (show ¬ ((2 ^ m - wsum W : Nat) : Int) = ((2 ^ (v - 1) : Nat) : Int) by omega)]
            exact Or.inl (Ev.some _)
        · rw [spec_Whole.j2, if_neg (by decide), if_pos (by omega), el]
      · rw [decide_eq_true (show (m : Int) > 11 by omega)]
        exact hnone
  refine WholeIs.step (WholeIs.bind (f := fun k t220 => (if (wsum W : Int) = 0 then (spec_Whole.j2 k (ints W) (wsum W : Int) t220 true) else (spec_Whole.j2 k (ints W) (wsum W : Int) t220 (decide (t220 > 11))))) m4 hmain) (fun k => ?_)
  rw [spec_Whole.l0, if_neg (by rw [ints_length]; omega)]
theorem whole_loop (l : List Int) (hl : l.length ≤ 1000000) (n : Nat) : ∀ W : List Nat, (∀ w ∈ W, w ≤ 11) → W.length + n = l.length → l.take W.length = ints W → WholeIs l (fun k => spec_Whole.l0 k l (wsum W : Int) l (l.length : Int) (W.length : Int)) := by
  induction n with
  | zero =>
    intro W hW h1 h2
    rw [List.take_of_length_le (by omega)] at h2
    subst h2
    exact whole_end W hW (by omega)
  | succ n ih =>
    intro W hW h1 h2
    have hs := wsum_11 hW
    have hi : W.length < l.length := by omega
    have hj : ∀ x, WholeIs l (fun k => spec_Whole.j1 k l (wsum W : Int) x l (l.length : Int) (W.length : Int) true) := by
      intro x
      refine Or.inl ((Ev.some _).step (fun k => ?_))
      rw [spec_Whole.j1, if_pos rfl]
    have e1 : rd l (W.length : Int) = l[W.length] := by rw [rd_nat, List.getD_eq_getElem?_getD, List.getElem?_eq_getElem hi]; rfl
    obtain ⟨x, hx⟩ : ∃ x, l[W.length] = x := ⟨_, rfl⟩
    rw [hx] at e1
    by_cases c1 : x < 0
    · refine (hj x).step (fun k => ?_)
      rw [spec_Whole.l0, if_pos (by omega), if_pos (by omega), if_pos (by omega), e1, if_pos c1]
    · by_cases c2 : x > 11
      · refine (hj x).step (fun k => ?_)
        rw [spec_Whole.l0, if_pos (by omega), if_pos (by omega), if_pos (by omega), e1, if_neg c1, decide_eq_true c2]
      · obtain ⟨w, rfl⟩ : ∃ w : Nat, x = (w : Int) := ⟨x.toNat, by omega⟩
        have hp : 2 ^ (w - 1) ≤ 2 ^ 10 := Nat.pow_le_pow_right (by decide) (by omega)
        have h3 := ih (W ++ [w]) (by
          intro u hu
          rcases List.mem_append.mp hu with h | h
          · exact hW u h
          · obtain rfl := List.mem_singleton.mp h; omega) (by rw [List.length_append, List.length_singleton]; omega) (by
          rw [List.length_append, List.length_singleton, ← ints_app, ← h2, List.take_succ_eq_append_getElem hi, hx])
        rw [List.length_append, List.length_singleton, wsum_append] at h3
        simp only [wsum] at h3
        refine WholeIs.step (WholeIs.step h3 (g := fun k => spec_Whole.j1 k l (wsum W : Int) (w : Int) l (l.length : Int) (W.length : Int) false) (fun k => ?_)) (fun k => ?_)
        · rw [spec_Whole.j1, if_neg (by decide)]
          by_cases c3 : w = 0
          · subst c3
            rw [if_neg (by omega), wrap_small _ (by omega) (by omega), if_pos rfl]
            rfl
          · have e3 : wrap64 ((w : Int) - 1) = ((w - 1 : Nat) : Int) := by rw [wrap_small _ (by omega) (by omega)]; omega
            have hp0 := Nat.two_pow_pos (w - 1)
            obtain ⟨q, hq⟩ : ∃ q, 2 ^ (w - 1) = q := ⟨_, rfl⟩
            rw [if_pos (by omega), e3, if_pos (by omega), shl_one _ (by omega), if_neg c3, Nat.add_zero, hq, wrap_small _ (by omega) (by omega), wrap_small _ (by omega) (by omega)]
            rfl
        · rw [spec_Whole.l0, if_pos (by omega), if_pos (by omega), if_pos (by omega), e1, if_neg c1, decide_eq_false c2]
/-- spec.Whole: refused, or the weights (the last one among them) and the codes' bits. -/
theorem whole_f (l : List Int) (hl : l.length ≤ 1000000) : WholeIs l (fun k => spec_Whole.f k l) :=
  whole_loop l hl l.length [] (by simp) (by simp) (by simp [ints])
end Go.Proofs.YtopadgohinoomaaDoor.Cx
namespace Go.Proofs.YtopadgohinoomaaDoor.Cx
open Go.RowKit Go.Proofs.YtopadgohinoomaaDoorW.PrintWords Go.Proofs.YtopadgohinoomaaDoorW.PrintMore Go.Proofs.YtopadgohinoomaaDoor.PC
set_option linter.unusedVariables false
theorem and_255 (x : Nat) (h : x < 256) : Go.bits BinOp.and IntKind.i64 (x : Int) 255 = (x : Int) := by
  have h1 : (BitVec.ofInt 64 255).toNat = 2 ^ 8 - 1 := by decide
  have key : (BitVec.ofInt 64 (x : Int) &&& BitVec.ofInt 64 255).toNat = ((x : Int) % ((2 ^ 64 : Nat) : Int)).toNat % 2 ^ 8 := by
    rw [BitVec.toNat_and, BitVec.toNat_ofInt, h1, Nat.and_two_pow_sub_one_eq_mod]
  show IntKind.i64.wrap ((BitVec.ofInt 64 (x : Int) &&& BitVec.ofInt 64 255).toNat : Nat) = _
  rw [key, IntKind.wrap_i64]
  omega
theorem has_l1 (M : List Bool) (hM : M.length = 256) (X : List Int) (hX : ∀ x ∈ X, 0 ≤ x ∧ x ≤ 255) (hl : X.length ≤ 1000000) (n : Nat) : ∀ i, i + n = X.length → (∀ j, j < i → M.getD (X.getD j 0).toNat false = true) →
    Ev (fun k => spec_Has.l1 k M X (X.length : Int) (i : Int)) false ∨ (Ev (fun k => spec_Has.l1 k M X (X.length : Int) (i : Int)) true ∧ ∀ j, j < X.length → M.getD (X.getD j 0).toNat false = true) := by
  induction n with
  | zero =>
    intro i hi hp
    obtain rfl : i = X.length := by omega
    refine Or.inr ⟨(Ev.some _).step (fun k => ?_), hp⟩
    rw [spec_Has.l1, if_neg (by omega)]
  | succ n ih =>
    intro i hi hp
    have hi' : i < X.length := by omega
    have e2 : X.getD i 0 = X[i] := by rw [List.getD_eq_getElem?_getD, List.getElem?_eq_getElem hi']; rfl
    have hx := hX _ (List.getElem_mem hi')
    rw [← e2] at hx
    have e1 : wrap64 ((i : Int) + 1) = ((i + 1 : Nat) : Int) := by rw [wrap_small _ (by omega) (by omega)]; rfl
    have e3 : rd X (i : Int) = X.getD i 0 := rd_nat X i
    by_cases c : M.getD (X.getD i 0).toNat false = true
    · have hstep : ∀ k, spec_Has.l1 (k + 1) M X (X.length : Int) (i : Int) = spec_Has.l1 k M X (X.length : Int) ((i + 1 : Nat) : Int) := by
        intro k
        rw [spec_Has.l1, if_pos (by omega), if_pos (by omega), if_pos (by omega), e3, if_pos hx.1, if_pos (by omega), e1]
        exact if_pos c
      rcases ih (i + 1) (by omega) (fun j hj => by
        rcases Nat.lt_or_ge j i with h | h
        · exact hp j h
        · obtain rfl : j = i := by omega
          exact c) with h | ⟨h, r⟩
      · exact Or.inl (h.step hstep)
      · exact Or.inr ⟨h.step hstep, r⟩
    · refine Or.inl ((Ev.some _).step (fun k => ?_))
      rw [spec_Has.l1, if_pos (by omega), if_pos (by omega), if_pos (by omega), e3, if_pos hx.1, if_pos (by omega)]
      exact if_neg c
theorem set_true {M : List Bool} {v j : Nat} (h : (M.set v true).getD j false = true) : j = v ∨ M.getD j false = true := by
  by_cases e : v = j
  · exact Or.inl e.symm
  · rw [List.getD_eq_getElem?_getD, List.getElem?_set_ne e] at h
    rw [List.getD_eq_getElem?_getD]
    exact Or.inr h
theorem has_l0 (T : List S68) (hT : ∀ c ∈ T, 0 ≤ c.f0 ∧ c.f0 ≤ 255) (hTl : T.length ≤ 1000000) (X : List Int) (hX : ∀ x ∈ X, 0 ≤ x ∧ x ≤ 255) (hl : X.length ≤ 1000000) (n : Nat) : ∀ (i : Nat) (M : List Bool), i + n = T.length → M.length = 256 → (∀ v, M.getD v false = true → ∃ c ∈ T, c.f0 = (v : Int)) →
    Ev (fun k => spec_Has.l0 k X M T (T.length : Int) (i : Int)) false ∨ (Ev (fun k => spec_Has.l0 k X M T (T.length : Int) (i : Int)) true ∧ ∀ x ∈ X, ∃ c ∈ T, c.f0 = x) := by
  induction n with
  | zero =>
    intro i M hi hM hp
    obtain rfl : i = T.length := by omega
    have hstep : ∀ k, spec_Has.l0 (k + 1) X M T (T.length : Int) (T.length : Int) = spec_Has.l1 k M X (X.length : Int) ((0 : Nat) : Int) := by
      intro k
      rw [spec_Has.l0, if_neg (by omega)]
      rfl
    rcases has_l1 M hM X hX hl X.length 0 (by omega) (fun j hj => by omega) with h | ⟨h, r⟩
    · exact Or.inl (h.step hstep)
    · refine Or.inr ⟨h.step hstep, fun x hx => ?_⟩
      obtain ⟨j, hj, e⟩ := List.getElem_of_mem hx
      have e2 : X.getD j 0 = x := by rw [List.getD_eq_getElem?_getD, List.getElem?_eq_getElem hj]; exact e
      have h1 := r j hj
      rw [e2] at h1
      obtain ⟨c, hc, e3⟩ := hp _ h1
      have := hX x hx
      exact ⟨c, hc, by omega⟩
  | succ n ih =>
    intro i M hi hM hp
    have hi' : i < T.length := by omega
    have e1 : wrap64 ((i : Int) + 1) = ((i + 1 : Nat) : Int) := by rw [wrap_small _ (by omega) (by omega)]; rfl
    obtain ⟨c, hc⟩ : ∃ c, T[i] = c := ⟨_, rfl⟩
    have hm : c ∈ T := hc ▸ List.getElem_mem hi'
    have hb := hT c hm
    obtain ⟨v, hv⟩ : ∃ v : Nat, c.f0 = (v : Int) := ⟨c.f0.toNat, by omega⟩
    have hstep : ∀ k, spec_Has.l0 (k + 1) X M T (T.length : Int) (i : Int) = spec_Has.l0 k X (M.set v true) T (T.length : Int) ((i + 1 : Nat) : Int) := by
      intro k
      rw [spec_Has.l0, if_pos (by omega), if_pos (by omega), if_pos (by omega), rd68 hi', hc, hv, and_255 v (by omega), if_pos (by omega), if_pos (by omega), e1]
      rfl
    rcases ih (i + 1) (M.set v true) (by omega) (by rw [List.length_set]; exact hM) (fun u hu => by
      rcases set_true hu with e | e
      · exact ⟨c, hm, by rw [hv, e]⟩
      · exact hp u e) with h | ⟨h, r⟩
    · exact Or.inl (h.step hstep)
    · exact Or.inr ⟨h.step hstep, r⟩
/-- spec.Has: where it answers true, each literal is a symbol. -/
theorem has_f {L : List Nat} {b : Nat} (h : Wts L b) (X : List Int) (hX : ∀ x ∈ X, 0 ≤ x ∧ x ≤ 255) (hl : X.length ≤ 1000000) :
    Ev (fun k => spec_Has.f k (tabW L b b) X) false ∨ (Ev (fun k => spec_Has.f k (tabW L b b) X) true ∧ ∀ x ∈ X, Sym L x) := by
  have hp := h.pow
  have hlen := h.len
  have hstep : ∀ k, spec_Has.f k (tabW L b b) X = spec_Has.l0 k X (List.replicate 256 false) (tabW L b b) ((tabW L b b).length : Int) ((0 : Nat) : Int) := by
    intro k
    unfold spec_Has.f
    rw [if_pos (by omega)]
    rfl
  have hmem : ∀ c ∈ tabW L b b, 0 ≤ c.f0 ∧ c.f0 ≤ 255 := by
    intro c hc
    obtain ⟨s, w, g1, g2, g3, g4, g5⟩ := tabW_mem hc
    subst g5
    show 0 ≤ (s : Int) ∧ (s : Int) ≤ 255
    omega
  have key := has_l0 (tabW L b b) hmem (by rw [h.tab_length]; omega) X hX hl (tabW L b b).length 0 (List.replicate 256 false) (by omega) (List.length_replicate ..) (fun v hv => by
    rw [List.getD_eq_getElem?_getD, List.getElem?_replicate] at hv
    by_cases e : v < 256
    · rw [if_pos e] at hv; cases hv
    · rw [if_neg e] at hv; cases hv)
  rcases key with g | ⟨g, r⟩
  · exact Or.inl (g.elim (fun K hK => ⟨K, fun k hk => (hstep k).trans (hK k hk)⟩))
  · refine Or.inr ⟨g.elim (fun K hK => ⟨K, fun k hk => (hstep k).trans (hK k hk)⟩), fun x hx => ?_⟩
    obtain ⟨c, hc, e⟩ := r x hx
    obtain ⟨s, w, g1, g2, g3, g4, g5⟩ := tabW_mem hc
    subst g5
    have e' : (s : Int) = x := e
    subst e'
    refine ⟨by omega, by rw [Int.toNat_natCast]; exact g1, by rw [Int.toNat_natCast]; omega⟩
theorem tooLong_l0 (l : List Int) (hl : ∀ x ∈ l, 0 ≤ x ∧ x ≤ 9223372036854775807) (hn : l.length ≤ 1000) (n : Nat) : ∀ i a : Nat, i + n = l.length → a ≤ 1000000 → (∀ x ∈ l.take i, x ≤ (a : Int)) →
    Ev (fun k => spec_TooLong.l0 k (a : Int) l (l.length : Int) (i : Int)) true ∨ (Ev (fun k => spec_TooLong.l0 k (a : Int) l (l.length : Int) (i : Int)) false ∧ ∃ c : Nat, c ≤ 1000000 ∧ (c : Int) = a + (l.drop i).sum) := by
  induction n with
  | zero =>
    intro i a hi ha hp
    obtain rfl : i = l.length := by omega
    refine Or.inr ⟨(Ev.some _).step (fun k => ?_), a, ha, by simp⟩
    rw [spec_TooLong.l0, if_neg (by omega)]
  | succ n ih =>
    intro i a hi ha hp
    have hi' : i < l.length := by omega
    have e1 : wrap64 ((i : Int) + 1) = ((i + 1 : Nat) : Int) := by rw [wrap_small _ (by omega) (by omega)]; rfl
    have e2 : rd l (i : Int) = l[i] := by rw [rd_nat, List.getD_eq_getElem?_getD, List.getElem?_eq_getElem hi']; rfl
    have hb := hl _ (List.getElem_mem hi')
    have ed : l.drop i = l[i] :: l.drop (i + 1) := List.drop_eq_getElem_cons hi'
    rw [ed, List.sum_cons]
    obtain ⟨v, hv⟩ : ∃ v : Nat, l[i] = (v : Int) := ⟨(l[i]).toNat, by omega⟩
    rw [hv] at hb e2 ⊢
    have e3 : wrap64 (1000000 - (a : Int)) = 1000000 - (a : Int) := wrap_small _ (by omega) (by omega)
    by_cases c : (v : Int) > 1000000 - (a : Int)
    · refine Or.inl ((Ev.some _).step (fun k => ?_))
      rw [spec_TooLong.l0, if_pos (by omega), if_pos (by omega), if_pos (by omega), e2, e3, if_pos c]
    · have hstep : ∀ k, spec_TooLong.l0 (k + 1) (a : Int) l (l.length : Int) (i : Int) = spec_TooLong.l0 k ((a + v : Nat) : Int) l (l.length : Int) ((i + 1 : Nat) : Int) := by
        intro k
        rw [spec_TooLong.l0, if_pos (by omega), if_pos (by omega), if_pos (by omega), e2, e3, if_neg c, e1, wrap_small _ (by omega) (by omega)]
        rfl
      rcases ih (i + 1) (a + v) (by omega) (by omega) (fun x hx => by
        rw [List.take_succ_eq_append_getElem hi', hv] at hx
        rcases List.mem_append.mp hx with h | h
        · have := hp x h; omega
        · obtain rfl := List.mem_singleton.mp h; omega) with h | ⟨h, cc, r1, r2⟩
      · exact Or.inl (h.step hstep)
      · exact Or.inr ⟨h.step hstep, cc, r1, by omega⟩
/-- spec.TooLong of natural numbers: else their sum is at most 1000000. -/
theorem tooLong_f (l : List Int) (hl : ∀ x ∈ l, 0 ≤ x ∧ x ≤ 9223372036854775807) (hn : l.length ≤ 1000) :
    Ev (fun k => spec_TooLong.f k l) true ∨ (Ev (fun k => spec_TooLong.f k l) false ∧ l.sum ≤ 1000000) := by
  rcases tooLong_l0 l hl hn l.length 0 0 (by omega) (by omega) (fun x hx => by simp at hx) with h | ⟨h, c, r1, r2⟩
  · exact Or.inl h
  · refine Or.inr ⟨h, ?_⟩
    rw [List.drop_zero] at r2
    omega
theorem same_l0 (l : List Int) (hl : l.length ≤ 1000000) (n : Nat) : ∀ i, i + n = l.length → Ev (fun k => spec_SameBytes.l0 k l l (l.length : Int) (i : Int)) true := by
  induction n with
  | zero =>
    intro i hi
    obtain rfl : i = l.length := by omega
    refine (Ev.some _).step (fun k => ?_)
    rw [spec_SameBytes.l0, if_neg (by omega)]
  | succ n ih =>
    intro i hi
    refine (ih (i + 1) (by omega)).step (fun k => ?_)
    rw [spec_SameBytes.l0, if_pos (by omega), if_pos (by omega), if_pos (by omega), if_pos (by omega), if_pos rfl, wrap_small _ (by omega) (by omega)]
    rfl
theorem same_f (l : List Int) (hl : l.length ≤ 1000000) : Ev (fun k => spec_SameBytes.f k l l) true := by
  obtain ⟨K, hK⟩ := same_l0 l hl l.length 0 (by omega)
  refine ⟨K, fun k hk => ?_⟩
  show spec_SameBytes.f k l l = some true
  unfold spec_SameBytes.f
  rw [if_pos rfl]
  exact hK k hk
end Go.Proofs.YtopadgohinoomaaDoor.Cx
namespace Go.Proofs.YtopadgohinoomaaDoor.Cx
open Go.RowKit Go.Proofs.YtopadgohinoomaaDoorW.PrintWords Go.Proofs.YtopadgohinoomaaDoorW.PrintMore Go.Proofs.YtopadgohinoomaaDoor.PC
set_option linter.unusedVariables false
/-- A stream of literals, wherever it stands. -/
structure StreamOf (L : List Nat) (b : Nat) (X S : List Int) : Prop where
  bytes : Bytes S
  pos : 1 ≤ S.length
  le : S.length ≤ (11 * X.length + 8) / 8
  at_ : ∀ A B D, D = A ++ (S ++ B) → Bytes D → StreamAt D A.length S.length (csOf L b X)
theorem stream_of {L : List Nat} {b : Nat} (h : Wts L b) {X : List Int} (hX : ∀ x ∈ X, 0 ≤ x ∧ x ≤ 255) (hs : ∀ x ∈ X, Sym L x) (hl : X.length ≤ 500000) :
    ∃ S, StreamOf L b X S ∧ Ev (fun k => spec_WriteStream.f k (tabW L b b) (b : Int) X) S := by
  have hC := codesOf_csOf h hs
  obtain ⟨S, h1, h2, h3, h4⟩ := writeStream_f hC hX hl
  have hlen := clen_le hC.le11
  rw [hC.1] at hlen
  refine ⟨S, ⟨h1, by omega, by omega, fun A B D hD hB => ⟨hB, hC.fit, ⟨A, S, B, hD, rfl, rfl, h3⟩, by omega, by omega⟩⟩, ⟨_, h4⟩⟩
theorem range_map (f : Nat → Int) (xs : List Int) (h : ∀ i, i < xs.length → f i = xs.getD i 0) : (List.range xs.length).map f = xs := by
  apply List.ext_getElem?
  intro i
  rcases Nat.lt_or_ge i xs.length with g | g
  · rw [List.getElem?_map, List.getElem?_range g, List.getElem?_eq_getElem g]
    have := h i g
    rw [List.getD_eq_getElem?_getD, List.getElem?_eq_getElem g] at this
    exact congrArg some this
  · rw [List.getElem?_eq_none (by rw [List.length_map, List.length_range]; exact g), List.getElem?_eq_none g]
theorem map_sym {D T : List Int} {off m b : Nat} {cs : List (Nat × Nat)} {xs : List Int} (h : StreamAt D off m cs) (hT : Tells T b cs xs) (hb : b ≤ 11) (h2 : 2 ≤ off) :
    (List.range xs.length).map (sym D T b (top D (off + m - 1))) = xs :=
  range_map _ xs (fun i hi => h.sym hT hb h2 i (by rw [hT.1]; exact hi))
def lo (S : List Int) : Int := (S.length : Int) % 256
def hi (S : List Int) : Int := (S.length : Int) / 256 % 256
def headOf (S1 S2 S3 : List Int) : List Int := [lo S1, hi S1, lo S2, hi S2, lo S3, hi S3]
theorem ev_const {α : Type} {g : Nat → Option α} {r : α} (h : ∀ k, g k = some r) : Ev g r := ⟨0, fun k _ => h k⟩
theorem four_round {T : List S68} {b : Int} {X hd body q S : List Int} {a c i : Nat} {r : List Int} (hq : q.length = 4) (hc : rd q (i : Int) = (c : Int)) (hi : i < 3) (hac : a ≤ c) (hcX : c ≤ X.length) (hl : hd.length ≤ 1000 ∧ body.length ≤ 10000000 ∧ S.length ≤ 10000000)
    (hS : Ev (fun k => spec_WriteStream.f k T b ((X.take c).drop a)) S) (h : Ev (fun k => spec_WriteFour.l0 k T b X (hd ++ [lo S, Cx.hi S]) (body ++ S) (c : Int) q 4 ((i + 1 : Nat) : Int)) r) :
    Ev (fun k => spec_WriteFour.l0 k T b X hd body (a : Int) q 4 (i : Int)) r := by
  have h' : Ev (fun k => (fun t320 : List Int => (if ((i : Int)) < 3 then ((some (([((t320.length : Int)) % 256, ((t320.length : Int) / 256) % 256] : List Int) : List Int)).bind fun y323 => (if hd.length + y323.length < 140737488355328 then (if body.length + t320.length < 140737488355328 then (spec_WriteFour.l0 k T b X (hd ++ y323) (body ++ t320) (c : Int) q 4 ((i + 1 : Nat) : Int)) else (none)) else (none))) else (if body.length + t320.length < 140737488355328 then (spec_WriteFour.l0 k T b X hd (body ++ t320) (c : Int) q 4 ((i + 1 : Nat) : Int)) else (none)))) S) r := by
    obtain ⟨K, hK⟩ := h
    refine ⟨K, fun k hk => ?_⟩
    have e := hK k hk
    dsimp only
    rw [if_pos (by omega), Option.bind_some, if_pos (by simp only [List.length_cons, List.length_nil]; omega), if_pos (by omega)]
    exact e
  refine (Ev.bind (f := fun k t320 => (if ((i : Int)) < 3 then ((some (([((t320.length : Int)) % 256, ((t320.length : Int) / 256) % 256] : List Int) : List Int)).bind fun y323 => (if hd.length + y323.length < 140737488355328 then (if body.length + t320.length < 140737488355328 then (spec_WriteFour.l0 k T b X (hd ++ y323) (body ++ t320) (c : Int) q 4 ((i + 1 : Nat) : Int)) else (none)) else (none))) else (if body.length + t320.length < 140737488355328 then (spec_WriteFour.l0 k T b X hd (body ++ t320) (c : Int) q 4 ((i + 1 : Nat) : Int)) else (none)))) hS h').step (fun k => ?_)
  have e1 : wrap64 ((i : Int) + 1) = ((i + 1 : Nat) : Int) := by rw [wrap_small _ (by omega) (by omega)]; rfl
  rw [spec_WriteFour.l0, if_pos (by omega), if_pos (by omega), if_pos (by omega), hc, if_pos (by omega), if_pos (by omega), if_pos (by omega), Int.toNat_natCast, Int.toNat_natCast, e1]
theorem four_last {T : List S68} {b : Int} {X hd body q S : List Int} {a c : Nat} (hq : q.length = 4) (hc : rd q ((3 : Nat) : Int) = (c : Int)) (hac : a ≤ c) (hcX : c ≤ X.length) (hl : hd.length ≤ 1000 ∧ body.length ≤ 10000000 ∧ S.length ≤ 10000000)
    (hS : Ev (fun k => spec_WriteStream.f k T b ((X.take c).drop a)) S) :
    Ev (fun k => spec_WriteFour.l0 k T b X hd body (a : Int) q 4 ((3 : Nat) : Int)) (hd ++ (body ++ S)) := by
  have hend : Ev (fun k => spec_WriteFour.l0 k T b X hd (body ++ S) (c : Int) q 4 ((4 : Nat) : Int)) (hd ++ (body ++ S)) := by
    refine (Ev.some _).step (fun k => ?_)
    rw [spec_WriteFour.l0, if_neg (by omega), if_pos (by rw [List.length_append]; omega)]
  have h' : Ev (fun k => (fun t320 : List Int => (if (((3 : Nat) : Int)) < 3 then ((some (([((t320.length : Int)) % 256, ((t320.length : Int) / 256) % 256] : List Int) : List Int)).bind fun y323 => (if hd.length + y323.length < 140737488355328 then (if body.length + t320.length < 140737488355328 then (spec_WriteFour.l0 k T b X (hd ++ y323) (body ++ t320) (c : Int) q 4 ((4 : Nat) : Int)) else (none)) else (none))) else (if body.length + t320.length < 140737488355328 then (spec_WriteFour.l0 k T b X hd (body ++ t320) (c : Int) q 4 ((4 : Nat) : Int)) else (none)))) S) (hd ++ (body ++ S)) := by
    obtain ⟨K, hK⟩ := hend
    refine ⟨K, fun k hk => ?_⟩
    have e := hK k hk
    dsimp only
    rw [if_neg (by omega), if_pos (by omega)]
    exact e
  refine (Ev.bind (f := fun k t320 => (if (((3 : Nat) : Int)) < 3 then ((some (([((t320.length : Int)) % 256, ((t320.length : Int) / 256) % 256] : List Int) : List Int)).bind fun y323 => (if hd.length + y323.length < 140737488355328 then (if body.length + t320.length < 140737488355328 then (spec_WriteFour.l0 k T b X (hd ++ y323) (body ++ t320) (c : Int) q 4 ((4 : Nat) : Int)) else (none)) else (none))) else (if body.length + t320.length < 140737488355328 then (spec_WriteFour.l0 k T b X hd (body ++ t320) (c : Int) q 4 ((4 : Nat) : Int)) else (none)))) hS h').step (fun k => ?_)
  have e1 : wrap64 (((3 : Nat) : Int) + 1) = ((4 : Nat) : Int) := by rw [wrap_small _ (by omega) (by omega)]; rfl
  rw [spec_WriteFour.l0, if_pos (by omega), if_pos (by omega), if_pos (by omega), hc, if_pos (by omega), if_pos (by omega), if_pos (by omega), Int.toNat_natCast, Int.toNat_natCast, e1]
theorem take_drop (X : List Int) {a c : Nat} (h : a ≤ c) (hc : c ≤ X.length) : (X.take c).drop a ++ X.drop c = X.drop a := by
  conv => rhs; rw [← List.take_append_drop c X]
  rw [List.drop_append_of_le_length (by rw [List.length_take]; omega)]
theorem quarters_eq {T : List S68} {b : Int} {X : List Int} {n : Nat} (k : Nat) (hn : (X.length + 3) / 4 = n) (hl : X.length ≤ 131072) : spec_WriteFour.f k T b X = spec_WriteFour.l0 k T b X [] [] ((0 : Nat) : Int) [(n : Int), ((2 * n : Nat) : Int), ((3 * n : Nat) : Int), (X.length : Int)] 4 ((0 : Nat) : Int) := by
  have e0 : Int.tdiv ((X.length : Int) + 3) 4 = (n : Int) := (Int.tdiv_eq_ediv_of_nonneg (by omega)).trans (by omega)
  unfold spec_WriteFour.f spec_quarters.f
  rw [Option.bind_some, wrap_small ((X.length : Int) + 3) (by omega) (by omega), e0, wrap_small (n : Int) (by omega) (by omega), wrap_small (2 * (n : Int)) (by omega) (by omega), wrap_small (3 * (n : Int)) (by omega) (by omega)]
  rfl
theorem writeFour_f {L : List Nat} {b : Nat} (h : Wts L b) {X : List Int} (hX : ∀ x ∈ X, 0 ≤ x ∧ x ≤ 255) (hs : ∀ x ∈ X, Sym L x) (h10 : 10 ≤ X.length) (hl : X.length ≤ 131072) :
    ∃ X1 X2 X3 X4 S1 S2 S3 S4 : List Int, X = X1 ++ (X2 ++ (X3 ++ X4)) ∧ X1.length = (X.length + 3) / 4 ∧ X2.length = (X.length + 3) / 4 ∧ X3.length = (X.length + 3) / 4 ∧ X4.length = X.length - 3 * ((X.length + 3) / 4) ∧
      StreamOf L b X1 S1 ∧ StreamOf L b X2 S2 ∧ StreamOf L b X3 S3 ∧ StreamOf L b X4 S4 ∧
      Ev (fun k => spec_WriteFour.f k (tabW L b b) (b : Int) X) (headOf S1 S2 S3 ++ (S1 ++ (S2 ++ (S3 ++ S4)))) := by
  obtain ⟨n, hn⟩ : ∃ n, (X.length + 3) / 4 = n := ⟨_, rfl⟩
  have n3 : 3 * n < X.length := by omega
  have hsub : ∀ (a c : Nat), ∀ x ∈ (X.take c).drop a, x ∈ X := fun a c x hx => List.mem_of_mem_take (List.mem_of_mem_drop hx)
  have hlen : ∀ (a c : Nat), ((X.take c).drop a).length ≤ 131072 := fun a c => by rw [List.length_drop, List.length_take]; omega
  have mk : ∀ (a c : Nat), ∃ S, StreamOf L b ((X.take c).drop a) S ∧ Ev (fun k => spec_WriteStream.f k (tabW L b b) (b : Int) ((X.take c).drop a)) S := fun a c =>
    stream_of h (fun x hx => hX x (hsub a c x hx)) (fun x hx => hs x (hsub a c x hx)) (by have := hlen a c; omega)
  obtain ⟨S1, s1, w1⟩ := mk 0 n
  obtain ⟨S2, s2, w2⟩ := mk n (2 * n)
  obtain ⟨S3, s3, w3⟩ := mk (2 * n) (3 * n)
  obtain ⟨S4, s4, w4⟩ := mk (3 * n) X.length
  have l1 := s1.le
  have l2 := s2.le
  have l3 := s3.le
  have l4 := s4.le
  have m1 := hlen 0 n
  have m2 := hlen n (2 * n)
  have m3 := hlen (2 * n) (3 * n)
  have m4 := hlen (3 * n) X.length
  refine ⟨(X.take n).drop 0, (X.take (2 * n)).drop n, (X.take (3 * n)).drop (2 * n), (X.take X.length).drop (3 * n), S1, S2, S3, S4, ?_, ?_, ?_, ?_, ?_, s1, s2, s3, s4, ?_⟩
  · rw [List.take_of_length_le (Nat.le_refl X.length)]
    rw [take_drop X (by omega) (by omega), take_drop X (by omega) (by omega), take_drop X (by omega) (by omega), List.drop_zero]
  · rw [List.length_drop, List.length_take]; omega
  · rw [List.length_drop, List.length_take]; omega
  · rw [List.length_drop, List.length_take]; omega
  · rw [List.length_drop, List.length_take]; omega
  · have eq := fun k : Nat => quarters_eq (T := tabW L b b) (b := (b : Int)) k hn (by omega)
    have hf := four_last (T := tabW L b b) (b := (b : Int)) (X := X) (hd := (([] ++ [lo S1, Cx.hi S1]) ++ [lo S2, Cx.hi S2]) ++ [lo S3, Cx.hi S3]) (body := (([] ++ S1) ++ S2) ++ S3) (q := [(n : Int), ((2 * n : Nat) : Int), ((3 * n : Nat) : Int), (X.length : Int)]) (a := 3 * n) (c := X.length) rfl rfl (by omega) (by omega) (by simp only [List.length_append, List.length_cons, List.length_nil]; omega) w4
    have h3 := four_round (q := [(n : Int), ((2 * n : Nat) : Int), ((3 * n : Nat) : Int), (X.length : Int)]) (a := 2 * n) (c := 3 * n) (i := 2) (hd := ([] ++ [lo S1, Cx.hi S1]) ++ [lo S2, Cx.hi S2]) (body := ([] ++ S1) ++ S2) rfl rfl (by omega) (by omega) (by omega) (by simp only [List.length_append, List.length_cons, List.length_nil]; omega) w3 hf
    have h2 := four_round (q := [(n : Int), ((2 * n : Nat) : Int), ((3 * n : Nat) : Int), (X.length : Int)]) (a := n) (c := 2 * n) (i := 1) (hd := [] ++ [lo S1, Cx.hi S1]) (body := [] ++ S1) rfl rfl (by omega) (by omega) (by omega) (by simp only [List.length_append, List.length_cons, List.length_nil]; omega) w2 h3
    have h1 := four_round (q := [(n : Int), ((2 * n : Nat) : Int), ((3 * n : Nat) : Int), (X.length : Int)]) (a := 0) (c := n) (i := 0) (hd := []) (body := []) rfl rfl (by omega) (by omega) (by omega) (by simp only [List.length_nil]; omega) w1 h2
    obtain ⟨K, hK⟩ := h1
    refine ⟨K, fun k hk => ?_⟩
    have e := hK k hk
    dsimp only at e ⊢
    rw [eq k, e]
    simp only [headOf, List.nil_append, List.cons_append, List.append_assoc]
end Go.Proofs.YtopadgohinoomaaDoor.Cx
namespace Go.Proofs.YtopadgohinoomaaDoor.Cx
open Go.RowKit Go.Proofs.YtopadgohinoomaaDoorW.PrintWords Go.Proofs.YtopadgohinoomaaDoorW.PrintMore Go.Proofs.YtopadgohinoomaaDoor.PC
set_option linter.unusedVariables false
theorem mid (A H R : List Int) (i : Nat) (h : i < H.length) : (A ++ (H ++ R)).getD (A.length + i) 0 = H.getD i 0 := by
  simp only [List.getD_eq_getElem?_getD]
  rw [List.getElem?_append_right (by omega), Nat.add_sub_cancel_left, List.getElem?_append_left h]
theorem lohi (S : List Int) (h : S.length < 65536) : (lo S).toNat + 256 * (hi S).toNat = S.length := by
  unfold lo hi
  omega
theorem head_bytes (S1 S2 S3 : List Int) : Bytes (headOf S1 S2 S3) := by
  intro d hd
  simp only [headOf, lo, hi, List.mem_cons, List.not_mem_nil, or_false] at hd
  omega
theorem four_tab {L : List Nat} {b : Nat} (h : Wts L b) {X1 X2 X3 X4 S1 S2 S3 S4 A B : List Int} {n : Nat} (h1 : StreamOf L b X1 S1) (h2 : StreamOf L b X2 S2) (h3 : StreamOf L b X3 S3) (h4 : StreamOf L b X4 S4)
    {N : Nat} (hn : (N + 3) / 4 = n) (z1 : X1.length = n) (z2 : X2.length = n) (z3 : X3.length = n) (z4 : X4.length = N - 3 * n) (h10 : 10 ≤ N) (hN : N ≤ 131072)
    {T : List Int} (ht : Tab T b) (hpl : T.length = 2048) (t1 : Tells T b (csOf L b X1) X1) (t2 : Tells T b (csOf L b X2) X2) (t3 : Tells T b (csOf L b X3) X3) (t4 : Tells T b (csOf L b X4) X4) (hA : Bytes A) (hB : Bytes B) (hl : A.length + B.length ≤ 1500000) :
    FourOk (A ++ ((headOf S1 S2 S3 ++ (S1 ++ (S2 ++ (S3 ++ S4)))) ++ B)) T b A.length (headOf S1 S2 S3 ++ (S1 ++ (S2 ++ (S3 ++ S4)))).length N ∧
    fourRes (A ++ ((headOf S1 S2 S3 ++ (S1 ++ (S2 ++ (S3 ++ S4)))) ++ B)) T b A.length (headOf S1 S2 S3 ++ (S1 ++ (S2 ++ (S3 ++ S4)))).length N = X1 ++ (X2 ++ (X3 ++ X4)) := by
  have l1 := h1.le
  have l2 := h2.le
  have l3 := h3.le
  have l4 := h4.le
  have p1 := h1.pos
  have p2 := h2.pos
  have p3 := h3.pos
  have p4 := h4.pos
  have b11 := h.b11
  have hp := h.pow
  have htot : (headOf S1 S2 S3 ++ (S1 ++ (S2 ++ (S3 ++ S4)))).length = 6 + (S1.length + (S2.length + (S3.length + S4.length))) := by
    simp only [List.length_append]; rfl
  obtain ⟨D, hD⟩ : ∃ D, A ++ ((headOf S1 S2 S3 ++ (S1 ++ (S2 ++ (S3 ++ S4)))) ++ B) = D := ⟨_, rfl⟩
  rw [htot, hD]
  have hDB : Bytes D := by
    rw [← hD]
    exact hA.append (((head_bytes S1 S2 S3).append (h1.bytes.append (h2.bytes.append (h3.bytes.append h4.bytes)))).append hB)
  have hDl : D.length = A.length + (6 + (S1.length + (S2.length + (S3.length + S4.length))) + B.length) := by
    rw [← hD, List.length_append, List.length_append, htot]
  have hg : ∀ i, i < 6 → D.getD (A.length + i) 0 = (headOf S1 S2 S3).getD i 0 := by
    intro i hi
    rw [← hD, List.append_assoc]
    exact mid A (headOf S1 S2 S3) _ i hi
  have hx0 := hg 0 (by omega)
  have hx1 := hg 1 (by omega)
  have hx2 := hg 2 (by omega)
  have hx3 := hg 3 (by omega)
  have hx4 := hg 4 (by omega)
  have hx5 := hg 5 (by omega)
  have n1 : leN D A.length = S1.length := by
    unfold leN
    rw [show D.getD A.length 0 = lo S1 from hx0, show D.getD (A.length + 1) 0 = Cx.hi S1 from hx1]
    exact lohi S1 (by omega)
  have n2 : leN D (A.length + 2) = S2.length := by
    unfold leN
    rw [show D.getD (A.length + 2) 0 = lo S2 from hx2, show D.getD (A.length + 2 + 1) 0 = Cx.hi S2 from hx3]
    exact lohi S2 (by omega)
  have n3 : leN D (A.length + 4) = S3.length := by
    unfold leN
    rw [show D.getD (A.length + 4) 0 = lo S3 from hx4, show D.getD (A.length + 4 + 1) 0 = Cx.hi S3 from hx5]
    exact lohi S3 (by omega)
  clear hx0 hx1 hx2 hx3 hx4 hx5 hg
  have a1 := h1.at_ (A ++ headOf S1 S2 S3) (S2 ++ (S3 ++ (S4 ++ B))) D (by rw [← hD]; simp only [List.append_assoc]) hDB
  have a2 := h2.at_ (A ++ (headOf S1 S2 S3 ++ S1)) (S3 ++ (S4 ++ B)) D (by rw [← hD]; simp only [List.append_assoc]) hDB
  have a3 := h3.at_ (A ++ (headOf S1 S2 S3 ++ (S1 ++ S2))) (S4 ++ B) D (by rw [← hD]; simp only [List.append_assoc]) hDB
  have a4 := h4.at_ (A ++ (headOf S1 S2 S3 ++ (S1 ++ (S2 ++ S3)))) B D (by rw [← hD]; simp only [List.append_assoc]) hDB
  have hH : (headOf S1 S2 S3).length = 6 := rfl
  have o1 : (A ++ headOf S1 S2 S3).length = A.length + 6 := by rw [List.length_append]; rfl
  have o2 : (A ++ (headOf S1 S2 S3 ++ S1)).length = A.length + 6 + S1.length := by simp only [List.length_append]; omega
  have o3 : (A ++ (headOf S1 S2 S3 ++ (S1 ++ S2))).length = A.length + 6 + S1.length + S2.length := by simp only [List.length_append]; omega
  have o4 : (A ++ (headOf S1 S2 S3 ++ (S1 ++ (S2 ++ S3)))).length = A.length + 6 + S1.length + S2.length + S3.length := by simp only [List.length_append]; omega
  rw [o1] at a1
  rw [o2] at a2
  rw [o3] at a3
  rw [o4] at a4
  have E1 : e1 D A.length = A.length + 6 + S1.length - 1 := by unfold e1; omega
  have E2 : e2 D A.length = A.length + 6 + S1.length + S2.length - 1 := by unfold e2; omega
  have E3 : e3 D A.length = A.length + 6 + S1.length + S2.length + S3.length - 1 := by unfold e3; omega
  have E4 : A.length + (6 + (S1.length + (S2.length + (S3.length + S4.length)))) - 1 = A.length + 6 + S1.length + S2.length + S3.length + S4.length - 1 := by omega
  refine ⟨⟨hDB, by omega, b11, ht, by omega, by omega, by omega, by omega, by omega, by omega, by omega, by omega, by omega, by omega, ?_, ?_, ?_, ?_, ?_, ?_, ?_, ?_⟩, ?_⟩
  · rw [E1]; exact a1.top.2.1
  · rw [E2]; exact a2.top.2.1
  · rw [E3]; exact a3.top.2.1
  · rw [E4]; exact a4.top.2.1
  · intro i hi
    rw [E1, a1.pos t1 b11 (by omega) i (by rw [t1.1]; omega)]
    omega
  · intro i hi
    rw [E2, a2.pos t2 b11 (by omega) i (by rw [t2.1]; omega), E1]
    omega
  · intro i hi
    rw [E3, a3.pos t3 b11 (by omega) i (by rw [t3.1]; omega), E2]
    omega
  · intro i hi
    rw [E4, a4.pos t4 b11 (by omega) i (by rw [t4.1]; omega), E3]
    omega
  · have r1 := map_sym a1 t1 b11 (by omega)
    have r2 := map_sym a2 t2 b11 (by omega)
    have r3 := map_sym a3 t3 b11 (by omega)
    have r4 := map_sym a4 t4 b11 (by omega)
    rw [z1] at r1
    rw [z2] at r2
    rw [z3] at r3
    rw [z4] at r4
    unfold fourRes
    rw [hn, E1, E2, E3, E4, r1, r2, r3, r4]
theorem four_at {L : List Nat} {b : Nat} (h : Wts L b) {X1 X2 X3 X4 S1 S2 S3 S4 A B : List Int} {n : Nat} (h1 : StreamOf L b X1 S1) (h2 : StreamOf L b X2 S2) (h3 : StreamOf L b X3 S3) (h4 : StreamOf L b X4 S4)
    (y1 : ∀ x ∈ X1, Sym L x) (y2 : ∀ x ∈ X2, Sym L x) (y3 : ∀ x ∈ X3, Sym L x) (y4 : ∀ x ∈ X4, Sym L x) {N : Nat} (hn : (N + 3) / 4 = n) (z1 : X1.length = n) (z2 : X2.length = n) (z3 : X3.length = n) (z4 : X4.length = N - 3 * n) (h10 : 10 ≤ N) (hN : N ≤ 131072)
    (hA : Bytes A) (hB : Bytes B) (hl : A.length + B.length ≤ 1000000) :
    FourOk (A ++ ((headOf S1 S2 S3 ++ (S1 ++ (S2 ++ (S3 ++ S4)))) ++ B)) (padded ((tabW L b b).map pair)) b A.length (headOf S1 S2 S3 ++ (S1 ++ (S2 ++ (S3 ++ S4)))).length N ∧
    fourRes (A ++ ((headOf S1 S2 S3 ++ (S1 ++ (S2 ++ (S3 ++ S4)))) ++ B)) (padded ((tabW L b b).map pair)) b A.length (headOf S1 S2 S3 ++ (S1 ++ (S2 ++ (S3 ++ S4)))).length N = X1 ++ (X2 ++ (X3 ++ X4)) :=
  four_tab h h1 h2 h3 h4 hn z1 z2 z3 z4 h10 hN (tab_csOf h) (padded_length _) (tells_csOf h y1) (tells_csOf h y2) (tells_csOf h y3) (tells_csOf h y4) hA hB (by omega)
end Go.Proofs.YtopadgohinoomaaDoor.Cx
