/-
Plain lemmas: what the reference tells of codes of values, and of tables of them.
-/
import Derived.Test.YtopadgohinoomaaDoorSp
import Derived.Test.YtopadgohinoomaaDoorPC4
import Derived.Test.YtopadgohinoomaaDoorSc
import Derived.Test.YtopadgohinoomaaDoorSd
import Derived.Test.YtopadgohinoomaaDoorSe
namespace Go.Proofs.YtopadgohinoomaaDoor.St
open Go.RowKit Go.Proofs.YtopadgohinoomaaDoorW.PrintWords Go.Proofs.YtopadgohinoomaaDoorW.PrintLast Go.Proofs.YtopadgohinoomaaDoorW.PrintMore Go.Proofs.YtopadgohinoomaaDoor.PC
set_option linter.unusedVariables false
/-- Within 63 bits. -/
def I64 (x : Int) : Prop := -9223372036854775808 ≤ x ∧ x ≤ 9223372036854775807
def codeOk (hi : Int) (c : Int) : Bool := decide (0 ≤ c ∧ c ≤ hi)

theorem lit_in : ∀ i : Nat, i < 36 → spec_Value.f 30 0 (i : Int) = some ((litG ⟨i, 0, 0⟩).f0, (litG ⟨i, 0, 0⟩).f1, true) := by decide +kernel
theorem off_in : ∀ i : Nat, i < 32 → spec_Value.f 30 1 (i : Int) = some ((offG ⟨i, 0, 0⟩).f0, (offG ⟨i, 0, 0⟩).f1, true) := by decide +kernel
theorem mat_in : ∀ i : Nat, i < 53 → spec_Value.f 30 2 (i : Int) = some ((matG ⟨i, 0, 0⟩).f0, (matG ⟨i, 0, 0⟩).f1, true) := by decide +kernel
theorem lit_out (c : Int) (h : I64 c) (hc : c < 0 ∨ 35 < c) : ∃ a b, spec_Value.f 30 0 c = some (a, b, false) := by
  have hw : wrap64 (c - 16) = c - 16 ∨ c < 16 := by
    unfold I64 at h
    by_cases h16 : c < 16
    · exact .inr h16
    · exact .inl (wrap_id _ (by omega) (by omega))
  unfold spec_Value.f spec_LiteralValue.f spec_literalExtra.f
  rw [if_pos rfl]
  simp only [Option.bind_some]
  rcases hc with hc | hc
  · rw [if_pos (by omega)]
    exact ⟨c, 0, by simp; omega⟩
  · rw [if_neg (by omega)]
    rcases hw with hw | hw
    · rw [hw, if_pos (by simp; omega)]
      exact ⟨0, 0, rfl⟩
    · omega
theorem off_out (c : Int) (hc : c < 0 ∨ 31 < c) : ∃ a b, spec_Value.f 30 1 c = some (a, b, false) := by
  unfold spec_Value.f spec_OffsetValue.f
  rw [if_neg (by decide), if_pos rfl]
  by_cases h0 : c < 0
  · rw [if_pos h0]; exact ⟨0, 0, by simp [spec_OffsetValue.j0]⟩
  · rw [if_neg h0]; exact ⟨0, 0, by simp [spec_OffsetValue.j0, show c > 31 by omega]⟩
theorem mat_out (c : Int) (h : I64 c) (hc : c < 0 ∨ 52 < c) : ∃ a b, spec_Value.f 30 2 c = some (a, b, false) := by
  have hw : wrap64 (c - 32) = c - 32 ∨ c < 32 := by
    unfold I64 at h
    by_cases h16 : c < 32
    · exact .inr h16
    · exact .inl (wrap_id _ (by omega) (by omega))
  unfold spec_Value.f spec_MatchValue.f spec_matchExtra.f
  rw [if_neg (by decide), if_neg (by decide)]
  simp only [Option.bind_some]
  rcases hc with hc | hc
  · rw [if_pos (by omega)]
    exact ⟨wrap64 (c + 3), 0, by simp; omega⟩
  · rw [if_neg (by omega)]
    rcases hw with hw | hw
    · rw [hw, if_pos (by simp; omega)]
      exact ⟨0, 0, rfl⟩
    · omega
structure Good (κ hi : Int) (g : S123 → S125) (P : S123 → Bool) : Prop where
  hin : ∀ c, 0 ≤ c → c ≤ hi → spec_Value.f 30 κ c = some ((g ⟨c, 0, 0⟩).f0, (g ⟨c, 0, 0⟩).f1, true)
  hout : ∀ c, I64 c → codeOk hi c = false → ∃ a b, spec_Value.f 30 κ c = some (a, b, false)
  p : ∀ x, P x = decide (x.f0 ≤ hi)
  same : ∀ c b t, g ⟨c, b, t⟩ = ⟨(g ⟨c, 0, 0⟩).f0, (g ⟨c, 0, 0⟩).f1, b, t⟩
  rng : ∀ c, 0 ≤ c → c ≤ hi → (0 ≤ (g ⟨c, 0, 0⟩).f0 ∧ (g ⟨c, 0, 0⟩).f0 ≤ 4294967295) ∧ (0 ≤ (g ⟨c, 0, 0⟩).f1 ∧ (g ⟨c, 0, 0⟩).f1 ≤ 255)
  hi255 : hi ≤ 255
theorem out_of {hi c : Int} (h : codeOk hi c = false) : c < 0 ∨ hi < c := by
  unfold codeOk at h
  have := of_decide_eq_false h
  omega
def R32 (x : S125) : Prop := (0 ≤ x.f0 ∧ x.f0 ≤ 4294967295) ∧ (0 ≤ x.f1 ∧ x.f1 ≤ 255)
instance (x : S125) : Decidable (R32 x) := by unfold R32; exact inferInstance
theorem lit_rng : ∀ i : Nat, i < 36 → R32 (litG ⟨i, 0, 0⟩) := by decide +kernel
theorem off_rng : ∀ i : Nat, i < 32 → R32 (offG ⟨i, 0, 0⟩) := by decide +kernel
theorem mat_rng : ∀ i : Nat, i < 53 → R32 (matG ⟨i, 0, 0⟩) := by decide +kernel
theorem litGood : Good 0 35 litG litP where
  hin := fun c h0 h1 => by obtain ⟨i, rfl⟩ := Int.eq_ofNat_of_zero_le h0; exact lit_in i (by omega)
  hout := fun c h hc => lit_out c h (out_of hc)
  p := fun _ => rfl
  same := fun c b t => by unfold litG; split <;> rfl
  rng := fun c h0 h1 => by obtain ⟨i, rfl⟩ := Int.eq_ofNat_of_zero_le h0; exact lit_rng i (by omega)
  hi255 := by decide
theorem offGood : Good 1 31 offG offP where
  hin := fun c h0 h1 => by obtain ⟨i, rfl⟩ := Int.eq_ofNat_of_zero_le h0; exact off_in i (by omega)
  hout := fun c h hc => off_out c (out_of hc)
  p := fun _ => rfl
  same := fun c b t => by unfold offG; split <;> rfl
  rng := fun c h0 h1 => by obtain ⟨i, rfl⟩ := Int.eq_ofNat_of_zero_le h0; exact off_rng i (by omega)
  hi255 := by decide
theorem matGood : Good 2 52 matG matP where
  hin := fun c h0 h1 => by obtain ⟨i, rfl⟩ := Int.eq_ofNat_of_zero_le h0; exact mat_in i (by omega)
  hout := fun c h hc => mat_out c h (out_of hc)
  p := fun _ => rfl
  same := fun c b t => by unfold matG; split <;> rfl
  rng := fun c h0 h1 => by obtain ⟨i, rfl⟩ := Int.eq_ofNat_of_zero_le h0; exact mat_rng i (by omega)
  hi255 := by decide

/-- What the reference tells of a state whose symbol is a code. -/
def wantOf (g : S123 → S125) (x : S29) : S54 := ⟨(g ⟨x.f0, 0, 0⟩).f0, (g ⟨x.f0, 0, 0⟩).f1, x.f1, x.f2⟩
theorem rd29 (l : List S29) (i : Nat) (h : i < l.length) : rd_T29 l (i : Int) = l[i] := getD_nat l _ i h
theorem value_at {κ hi : Int} {g : S123 → S125} {P : S123 → Bool} (H : Good κ hi g P) (c : Int) (hc : I64 c) (k : Nat) (hk : 30 ≤ k) :
    ∃ a b, spec_Value.f k κ c = some (a, b, codeOk hi c) ∧ (codeOk hi c = true → a = (g ⟨c, 0, 0⟩).f0 ∧ b = (g ⟨c, 0, 0⟩).f1) := by
  cases ho : codeOk hi c with
  | true =>
    have h2 := of_decide_eq_true ho
    exact ⟨_, _, at_rounds (g := fun k => spec_Value.f k κ c) (spec_Value.mono κ c) hk (H.hin c h2.1 h2.2), fun _ => ⟨rfl, rfl⟩⟩
  | false =>
    obtain ⟨a, b, h⟩ := H.hout c hc ho
    exact ⟨a, b, at_rounds (g := fun k => spec_Value.f k κ c) (spec_Value.mono κ c) hk h, fun h => by cases h⟩
theorem basedOf_l {κ hi : Int} {g : S123 → S125} {P : S123 → Bool} (H : Good κ hi g P) (l : List S29) (hl : l.length ≤ 1000000) (hx : ∀ x ∈ l, I64 x.f0) :
    ∀ (d i k : Nat) (acc : List S54), i + d = l.length → d + 30 < k → acc = (l.take i).map (wantOf g) → (l.take i).all (fun x => codeOk hi x.f0) = true →
      spec_BasedOf.l0 k κ acc l (l.length : Int) (i : Int) = some (if l.all (fun x => codeOk hi x.f0) = true then (l.map (wantOf g), true) else ([], false)) := by
  intro d
  induction d with
  | zero =>
    intro i k acc hi_ hk ha hall
    obtain ⟨k, rfl⟩ : ∃ m, k = m + 1 := ⟨k - 1, by omega⟩
    have ht : l.take i = l := List.take_of_length_le (by omega)
    rw [ht] at ha hall
    rw [if_pos hall]
    simp only [spec_BasedOf.l0]
    rw [if_neg (by omega), ha]
  | succ d ih =>
    intro i k acc hi_ hk ha hall
    obtain ⟨k, rfl⟩ : ∃ m, k = m + 1 := ⟨k - 1, by omega⟩
    have hlt : i < l.length := by omega
    obtain ⟨a, b, h1, h2⟩ := value_at H (l[i]).f0 (hx _ (List.getElem_mem hlt)) k (by omega)
    simp only [spec_BasedOf.l0]
    rw [if_pos (by omega), if_pos (by omega), if_pos (by omega), rd29 l i hlt, h1]
    simp only [Option.bind_some]
    cases ho : codeOk hi (l[i]).f0 with
    | true =>
      obtain ⟨rfl, rfl⟩ := h2 ho
      rw [if_pos rfl, if_pos (by rw [ha, List.length_map, List.length_take]; omega), wrap_succ i (by omega)]
      refine ih (i + 1) k _ (by omega) (by omega) ?_ ?_
      · rw [ha, List.take_add_one, List.getElem?_eq_getElem hlt, List.map_append]
        rfl
      · rw [List.take_add_one, List.getElem?_eq_getElem hlt, List.all_append, hall]
        simpa using ho
    | false =>
      rw [if_neg (by decide), if_neg]
      intro h
      rw [List.all_eq_true.1 h _ (List.getElem_mem hlt)] at ho
      cases ho
theorem basedOf_f {κ hi : Int} {g : S123 → S125} {P : S123 → Bool} (H : Good κ hi g P) (l : List S29) (hl : l.length ≤ 1000000) (hx : ∀ x ∈ l, I64 x.f0) :
    spec_BasedOf.f (l.length + 31) κ l = some (if l.all (fun x => codeOk hi x.f0) = true then (l.map (wantOf g), true) else ([], false)) :=
  basedOf_l H l hl hx l.length 0 _ _ (by omega) (by omega) rfl rfl

def isState (x : S29) : Bool := decide ((0 ≤ x.f0 ∧ x.f0 ≤ 255) ∧ (0 ≤ x.f1 ∧ x.f1 ≤ 255) ∧ (0 ≤ x.f2 ∧ x.f2 ≤ 65535))
theorem areStates_l (l : List S29) (hl : l.length ≤ 1000000) : ∀ (d i k : Nat), i + d = l.length → d < k → (l.take i).all isState = true → spec_AreStates.l0 k l (l.length : Int) (i : Int) = some (l.all isState) := by
  intro d
  induction d with
  | zero =>
    intro i k hi_ hk hall
    obtain ⟨k, rfl⟩ : ∃ m, k = m + 1 := ⟨k - 1, by omega⟩
    rw [List.take_of_length_le (by omega)] at hall
    simp only [spec_AreStates.l0]
    rw [if_neg (by omega), hall]
  | succ d ih =>
    intro i k hi_ hk hall
    obtain ⟨k, rfl⟩ : ∃ m, k = m + 1 := ⟨k - 1, by omega⟩
    have hlt : i < l.length := by omega
    simp only [spec_AreStates.l0]
    rw [if_pos (by omega), if_pos (by omega), if_pos (by omega), rd29 l i hlt]
    have hno : isState l[i] = false → some false = some (l.all isState) := by
      intro h
      congr 1
      symm
      rw [← Bool.not_eq_true, List.all_eq_true]
      intro h'
      rw [h' _ (List.getElem_mem hlt)] at h
      cases h
    by_cases h : isState l[i] = true
    · have h' := of_decide_eq_true h
      rw [if_neg (by omega), if_neg (by omega), if_neg (by omega), if_neg (by omega), if_neg (by omega), if_neg (by omega), wrap_succ i (by omega)]
      refine ih (i + 1) k (by omega) (by omega) ?_
      rw [List.take_add_one, List.getElem?_eq_getElem hlt, List.all_append, hall]
      simpa using h
    · have hf : isState l[i] = false := by simpa using h
      have h' := of_decide_eq_false hf
      have hn := hno hf
      by_cases h1 : (l[i]).f0 < 0
      · rw [if_pos h1]; exact hn
      rw [if_neg h1]
      by_cases h1 : (l[i]).f0 > 255
      · rw [if_pos h1]; exact hn
      rw [if_neg h1]
      by_cases h1 : (l[i]).f1 < 0
      · rw [if_pos h1]; exact hn
      rw [if_neg h1]
      by_cases h1 : (l[i]).f1 > 255
      · rw [if_pos h1]; exact hn
      rw [if_neg h1]
      by_cases h1 : (l[i]).f2 < 0
      · rw [if_pos h1]; exact hn
      rw [if_neg h1]
      by_cases h1 : (l[i]).f2 > 65535
      · rw [if_pos h1]; exact hn
      omega
theorem areStates_f (l : List S29) (hl : l.length ≤ 1000000) : spec_AreStates.f (l.length + 1) l = some (l.all isState) :=
  areStates_l l hl l.length 0 _ (by omega) (by omega) rfl
theorem sameBased_l (l : List S54) (hl : l.length ≤ 1000000) : ∀ (d i k : Nat), i + d = l.length → d < k → spec_SameBased.l0 k l l (l.length : Int) (i : Int) = some true := by
  intro d
  induction d with
  | zero =>
    intro i k hi_ hk
    obtain ⟨k, rfl⟩ : ∃ m, k = m + 1 := ⟨k - 1, by omega⟩
    simp only [spec_SameBased.l0]
    rw [if_neg (by omega)]
  | succ d ih =>
    intro i k hi_ hk
    obtain ⟨k, rfl⟩ : ∃ m, k = m + 1 := ⟨k - 1, by omega⟩
    simp only [spec_SameBased.l0]
    rw [if_pos (by omega), if_pos (by omega), if_pos (by omega), if_pos (by omega), if_neg (by simp), wrap_succ i (by omega)]
    exact ih (i + 1) k (by omega) (by omega)
theorem sameBased_f (l : List S54) (hl : l.length ≤ 1000000) : spec_SameBased.f (l.length + 1) l l = some true := by
  unfold spec_SameBased.f
  rw [if_pos rfl]
  exact sameBased_l l hl l.length 0 _ (by omega) (by omega)
theorem tooLong1 (n : Nat) (h : n ≤ 9223372036854775807) : spec_TooLong.f 3 [(n : Int)] = some (decide (1000000 < n)) := by
  unfold spec_TooLong.f
  simp only [spec_TooLong.l0, List.length_cons, List.length_nil]
  have h0 : rd [(n : Int)] 0 = n := rfl
  have hw : wrap64 (1000000 - 0) = 1000000 := wrap_id _ (by omega) (by omega)
  have hw1 : wrap64 (0 + 1) = 1 := wrap_id _ (by omega) (by omega)
  rw [if_pos (by decide), if_pos (by decide), if_pos (by decide), h0, hw, hw1]
  by_cases hn : 1000000 < n
  · rw [if_pos (by omega), decide_eq_true hn]
  · rw [if_neg (by omega), if_neg (by decide), decide_eq_false hn]
end Go.Proofs.YtopadgohinoomaaDoor.St
