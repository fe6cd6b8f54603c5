/-
Plain laws: what spec.Section writes, and that its header is read.
Plain laws: what spec.Section answers.
Plain laws: a section's header is read.
-/
import Derived.Test.YtopadgohinoomaaDoorDe
import Derived.Test.YtopadgohinoomaaDoorEe
import Derived.Test.YtopadgohinoomaaDoorEa
namespace Go.Proofs.YtopadgohinoomaaDoor.Cx
open Go.RowKit Go.Proofs.YtopadgohinoomaaDoorW.PrintWords Go.Proofs.YtopadgohinoomaaDoorW.PrintMore Go.Proofs.YtopadgohinoomaaDoor.PC
set_option linter.unusedVariables false
/-- The streams of literals, in one or in four. -/
def BodyOf (L : List Nat) (b : Nat) (four : Bool) (X S : List Int) : Prop :=
  (four = false ∧ StreamOf L b X S) ∨ (four = true ∧ 10 ≤ X.length ∧ ∃ X1 X2 X3 X4 S1 S2 S3 S4 : List Int, X = X1 ++ (X2 ++ (X3 ++ X4)) ∧ X1.length = (X.length + 3) / 4 ∧ X2.length = (X.length + 3) / 4 ∧ X3.length = (X.length + 3) / 4 ∧ X4.length = X.length - 3 * ((X.length + 3) / 4) ∧
      StreamOf L b X1 S1 ∧ StreamOf L b X2 S2 ∧ StreamOf L b X3 S3 ∧ StreamOf L b X4 S4 ∧ S = headOf S1 S2 S3 ++ (S1 ++ (S2 ++ (S3 ++ S4))))
theorem BodyOf.facts {L : List Nat} {b : Nat} {four : Bool} {X S : List Int} (h : BodyOf L b four X S) (hN : X.length ≤ 131072) : Bytes S ∧ 1 ≤ S.length ∧ S.length ≤ 200000 := by
  rcases h with ⟨_, h⟩ | ⟨_, h10, X1, X2, X3, X4, S1, S2, S3, S4, eX, z1, z2, z3, z4, s1, s2, s3, s4, rfl⟩
  · have := h.le
    exact ⟨h.bytes, h.pos, by omega⟩
  · have l1 := s1.le
    have l2 := s2.le
    have l3 := s3.le
    have l4 := s4.le
    have p1 := s1.pos
    refine ⟨(head_bytes S1 S2 S3).append (s1.bytes.append (s2.bytes.append (s3.bytes.append s4.bytes))), ?_, ?_⟩
    · simp only [List.length_append]; omega
    · have hH : (headOf S1 S2 S3).length = 6 := rfl
      simp only [List.length_append]; omega
/-- The streams are read, wherever they stand, by a table that tells the codes. -/
theorem BodyOf.read {L : List Nat} {b : Nat} (h : Wts L b) {four : Bool} {X S A B D T : List Int} (hb : BodyOf L b four X S) (hN : X.length ≤ 131072) (h2 : 2 ≤ A.length) (hD : D = A ++ (S ++ B)) (hA : Bytes A) (hB : Bytes B) (hl : A.length + B.length ≤ 1500000)
    (ht : Tab T b) (hpl : T.length = 2048) (hT : ∀ Y : List Int, (∀ x ∈ Y, x ∈ X) → Tells T b (csOf L b Y) Y) : StrOk D T b A.length S.length X.length (if four = true then 4 else 1) X := by
  have b11 := h.b11
  have hp := h.pow
  obtain ⟨f1, f2, f3⟩ := hb.facts hN
  have hDB : Bytes D := by rw [hD]; exact hA.append (f1.append hB)
  have hDl : D.length = A.length + (S.length + B.length) := by rw [hD, List.length_append, List.length_append]
  rcases hb with ⟨rfl, hs⟩ | ⟨rfl, h10, X1, X2, X3, X4, S1, S2, S3, S4, eX, z1, z2, z3, z4, s1, s2, s3, s4, rfl⟩
  · have a1 := hs.at_ A B D hD hDB
    have t1 := hT X (fun x hx => hx)
    refine Or.inl ⟨by simp, ⟨hDB, by omega, b11, ht, by omega, by omega, h2, f2, by omega, by omega, a1.top.2.1, ?_⟩, (map_sym a1 t1 b11 h2).symm⟩
    intro i hi
    rw [a1.pos t1 b11 h2 i (by rw [t1.1]; omega)]
    omega
  · have hm : ∀ Y : List Int, (∀ x ∈ Y, x ∈ X1 ∨ x ∈ X2 ∨ x ∈ X3 ∨ x ∈ X4) → Tells T b (csOf L b Y) Y := fun Y hY => hT Y (fun x hx => by
      rw [eX]; simp only [List.mem_append]; exact hY x hx)
    obtain ⟨g1, g2⟩ := four_tab h s1 s2 s3 s4 (A := A) (B := B) rfl z1 z2 z3 z4 h10 hN ht hpl (hm X1 (fun x hx => Or.inl hx)) (hm X2 (fun x hx => Or.inr (Or.inl hx))) (hm X3 (fun x hx => Or.inr (Or.inr (Or.inl hx)))) (hm X4 (fun x hx => Or.inr (Or.inr (Or.inr hx)))) hA hB hl
    rw [← hD] at g1 g2
    rw [← eX] at g2
    exact Or.inr ⟨by simp, g1, g2.symm⟩
/-- The header's bytes. -/
theorem hdr_form {kd f N C : Nat} (hk : kd ≤ 3) (hf : f ≤ 3) (hN : N < 2 ^ fbits f) (hC : C < 2 ^ fbits f) (h d0 d1 d2 d3 : Nat) (e0 : h = hdrV kd f N C % 256) (e1 : d0 = hdrV kd f N C / 256 % 256) (e2 : d1 = hdrV kd f N C / 65536 % 256)
    (e3 : 2 ≤ f → d2 = hdrV kd f N C / 16777216 % 256) (e4 : f = 3 → d3 = hdrV kd f N C / 4294967296 % 256) :
    h / 4 % 4 = f ∧ h % 4 = kd ∧ formN f h d0 d1 = N ∧ formC f d0 d1 d2 d3 = C := by
  obtain ⟨V, hV⟩ : ∃ V, hdrV kd f N C = V := ⟨_, rfl⟩
  rw [hV] at e0 e1 e2 e3 e4
  rcases (show f = 0 ∨ f = 1 ∨ f = 2 ∨ f = 3 by omega) with rfl | rfl | rfl | rfl
  · have hV' : kd + 0 * 4 + N * 16 + C * 16384 = V := hV
    have hN' : N < 1024 := hN
    have hC' : C < 1024 := hC
    show h / 4 % 4 = 0 ∧ h % 4 = kd ∧ h / 16 + d0 % 64 * 16 = N ∧ d0 / 64 + d1 * 4 = C
    clear hV hN hC e3 e4
    omega
  · have hV' : kd + 1 * 4 + N * 16 + C * 16384 = V := hV
    have hN' : N < 1024 := hN
    have hC' : C < 1024 := hC
    show h / 4 % 4 = 1 ∧ h % 4 = kd ∧ h / 16 + d0 % 64 * 16 = N ∧ d0 / 64 + d1 * 4 = C
    clear hV hN hC e3 e4
    omega
  · have hV' : kd + 2 * 4 + N * 16 + C * 262144 = V := hV
    have hN' : N < 16384 := hN
    have hC' : C < 16384 := hC
    show h / 4 % 4 = 2 ∧ h % 4 = kd ∧ h / 16 + d0 * 16 + d1 % 4 * 4096 = N ∧ d1 / 4 + d2 * 64 = C
    have e3' := e3 (by omega)
    clear hV hN hC e3 e4
    omega
  · have hV' : kd + 3 * 4 + N * 16 + C * 4194304 = V := hV
    have hN' : N < 262144 := hN
    have hC' : C < 262144 := hC
    show h / 4 % 4 = 3 ∧ h % 4 = kd ∧ h / 16 + d0 * 16 + d1 % 64 * 4096 = N ∧ d1 / 64 + d2 * 4 + d3 * 1024 = C
    have e3' := e3 (by omega)
    have e4' := e4 rfl
    clear hV hN hC e3 e4
    omega
end Go.Proofs.YtopadgohinoomaaDoor.Cx
namespace Go.Proofs.YtopadgohinoomaaDoor.Cx
open Go.RowKit Go.Proofs.YtopadgohinoomaaDoorW.PrintWords Go.Proofs.YtopadgohinoomaaDoorW.PrintMore Go.Proofs.YtopadgohinoomaaDoor.PC
set_option linter.unusedVariables false
theorem fits_f (f N C : Nat) (hf : f ≤ 3) : spec_fits.f (f : Int) (N : Int) (C : Int) = some (decide (N < 2 ^ fbits f ∧ C < 2 ^ fbits f)) := by
  have key : ∀ n : Nat, n ≤ 20 → (if 0 ≤ (n : Int) then (if (N : Int) < (shl .i64 1 (n : Int)) then (some (decide ((C : Int) < (shl .i64 1 (n : Int))))) else (some false)) else (none)) = some (decide (N < 2 ^ n ∧ C < 2 ^ n)) := by
    intro n hn
    rw [if_pos (by omega), shl_one n hn]
    by_cases h : N < 2 ^ n
    · rw [if_pos (by omega)]
      congr 1
      by_cases h2 : C < 2 ^ n
      · rw [decide_eq_true (show N < 2 ^ n ∧ C < 2 ^ n from ⟨h, h2⟩), decide_eq_true (show (C : Int) < ((2 ^ n : Nat) : Int) by omega)]
      · rw [decide_eq_false (show ¬ (N < 2 ^ n ∧ C < 2 ^ n) from fun e => h2 e.2), decide_eq_false (show ¬ (C : Int) < ((2 ^ n : Nat) : Int) by omega)]
    · rw [if_neg (by omega), decide_eq_false (show ¬ (N < 2 ^ n ∧ C < 2 ^ n) from fun e => h e.1)]
  unfold spec_fits.f
  rw [Option.bind_some]
  rcases (show f = 0 ∨ f = 1 ∨ f = 2 ∨ f = 3 by omega) with rfl | rfl | rfl | rfl
  · have e : rd ([10, 10, 14, 18] : List Int) ((0 : Nat) : Int) = ((10 : Nat) : Int) := rfl
    have e2 : fbits 0 = 10 := rfl
    rw [if_pos (by decide), if_pos (by decide), e, e2]
    exact key 10 (by omega)
  · have e : rd ([10, 10, 14, 18] : List Int) ((1 : Nat) : Int) = ((10 : Nat) : Int) := rfl
    have e2 : fbits 1 = 10 := rfl
    rw [if_pos (by decide), if_pos (by decide), e, e2]
    exact key 10 (by omega)
  · have e : rd ([10, 10, 14, 18] : List Int) ((2 : Nat) : Int) = ((14 : Nat) : Int) := rfl
    have e2 : fbits 2 = 14 := rfl
    rw [if_pos (by decide), if_pos (by decide), e, e2]
    exact key 14 (by omega)
  · have e : rd ([10, 10, 14, 18] : List Int) ((3 : Nat) : Int) = ((18 : Nat) : Int) := rfl
    have e2 : fbits 3 = 18 := rfl
    rw [if_pos (by decide), if_pos (by decide), e, e2]
    exact key 18 (by omega)
theorem header_f (kd f N C : Nat) (hk : kd ≤ 3) (hf : f ≤ 3) (hN : N < 2 ^ fbits f) (hC : C < 2 ^ fbits f) : spec_header.f (kd : Int) (f : Int) (N : Int) (C : Int) = some (byt (4 + 2 * fbits f) (hdrV kd f N C)) := by
  unfold spec_header.f
  simp only [Int.toNat_natCast]
  rw [if_pos ⟨by omega, by omega, by omega, by omega, by omega, by omega, by omega, by omega⟩]
/-- What the end of Section may answer: refused, or a header of a form from lo to hi, and the body. -/
def SecEnd (g : Nat → Option (List Int × Bool)) (X body : List Int) (kd lo hi : Nat) : Prop :=
  Ev g (([] : List Int), false) ∨ ∃ f, lo ≤ f ∧ f ≤ hi ∧ X.length < 2 ^ fbits f ∧ body.length < 2 ^ fbits f ∧ Ev g (byt (4 + 2 * fbits f) (hdrV kd f X.length body.length) ++ body, true)
theorem SecEnd.step {g g' : Nat → Option (List Int × Bool)} {X body : List Int} {kd lo hi : Nat} (h : SecEnd g' X body kd lo hi) (e : ∀ k, g (k + 1) = g' k) : SecEnd g X body kd lo hi := by
  rcases h with h | ⟨f, f1, f2, f3, f4, h⟩
  · exact Or.inl (h.step e)
  · exact Or.inr ⟨f, f1, f2, f3, f4, h.step e⟩
theorem SecEnd.bind {α : Type} {g : Nat → Option α} {F : Nat → α → Option (List Int × Bool)} {t : α} {X body : List Int} {kd lo hi : Nat} (h : Ev g t) (k : SecEnd (fun n => F n t) X body kd lo hi) : SecEnd (fun n => (g n).bind (F n)) X body kd lo hi := by
  rcases k with k | ⟨f, f1, f2, f3, f4, k⟩
  · exact Or.inl (h.bind k)
  · exact Or.inr ⟨f, f1, f2, f3, f4, h.bind k⟩
theorem sec_j4 (X body : List Int) (kd f : Nat) (hk : kd ≤ 3) (hf : f ≤ 3) (hl : body.length ≤ 10000000) : SecEnd (fun k => spec_Section.j4 k X body (kd : Int) (f : Int)) X body kd f f := by
  by_cases h : X.length < 2 ^ fbits f ∧ body.length < 2 ^ fbits f
  · refine Or.inr ⟨f, Nat.le_refl _, Nat.le_refl _, h.1, h.2, (Ev.some _).step (fun k => ?_)⟩
    rw [spec_Section.j4, fits_f f _ _ hf, Option.bind_some, decide_eq_true h, if_pos rfl, header_f kd f _ _ hk hf h.1 h.2, Option.bind_some, if_pos (by
      have : fbits f ≤ 18 := by
        unfold fbits
        by_cases e1 : f ≤ 1
        · rw [if_pos e1]; omega
        · rw [if_neg e1]; by_cases e2 : f = 2
          · rw [if_pos e2]; omega
          · rw [if_neg e2]; omega
      rw [byt_length]; omega)]
  · refine Or.inl ((Ev.some _).step (fun k => ?_))
    rw [spec_Section.j4, fits_f f _ _ hf, Option.bind_some, decide_eq_false h, if_neg (by decide)]
theorem SecEnd.widen {g : Nat → Option (List Int × Bool)} {X body : List Int} {kd lo hi lo' hi' : Nat} (h : SecEnd g X body kd lo hi) (h1 : lo' ≤ lo) (h2 : hi ≤ hi') : SecEnd g X body kd lo' hi' := by
  rcases h with h | ⟨f, f1, f2, r⟩
  · exact Or.inl h
  · exact Or.inr ⟨f, by omega, by omega, r⟩
theorem sec_l0 (X body : List Int) (kd : Nat) (hk : kd ≤ 3) (hl : body.length ≤ 10000000) (n : Nat) : ∀ f, 1 ≤ f → f + n = 3 → SecEnd (fun k => spec_Section.l0 k X body (kd : Int) (f : Int)) X body kd 1 3 := by
  induction n with
  | zero =>
    intro f h1 h2
    obtain rfl : f = 3 := by omega
    refine ((sec_j4 X body kd 3 hk (by omega) hl).widen (by omega) (by omega)).step (fun k => ?_)
    rw [spec_Section.l0, if_neg (by omega)]
  | succ n ih =>
    intro f h1 h2
    by_cases h : X.length < 2 ^ fbits f ∧ body.length < 2 ^ fbits f
    · refine ((sec_j4 X body kd f hk (by omega) hl).widen (by omega) (by omega)).step (fun k => ?_)
      rw [spec_Section.l0, if_pos (by omega), fits_f f _ _ (by omega), Option.bind_some, decide_eq_true h, if_pos rfl]
    · refine (ih (f + 1) (by omega) (by omega)).step (fun k => ?_)
      rw [spec_Section.l0, if_pos (by omega), fits_f f _ _ (by omega), Option.bind_some, decide_eq_false h, if_neg (by decide), wrap_small _ (by omega) (by omega)]
      rfl
theorem mod3 (x : Int) (h : -9223372036854775808 ≤ x ∧ x ≤ 9223372036854775807) : ∃ m : Nat, m ≤ 2 ∧ spec_Mod.f x 3 = some (m : Int) := by
  have h1 : -2 ≤ Int.tmod x 3 ∧ Int.tmod x 3 ≤ 2 := by
    rcases Int.lt_or_le x 0 with h | h
    · have := Int.tmod_eq_emod (a := x) (b := 3)
      have h2 := Int.emod_nonneg x (show (3 : Int) ≠ 0 by decide)
      have h3 := Int.emod_lt_of_pos x (show (0 : Int) < 3 by decide)
      rw [this]
      split <;> omega
    · rw [Int.tmod_eq_emod_of_nonneg h]; omega
  refine ⟨(Int.tmod x 3 + 3).toNat % 3, by omega, ?_⟩
  unfold spec_Mod.f
  rw [if_neg (by decide), wrap_small _ (by omega) (by omega), Int.tmod_eq_emod_of_nonneg (by omega)]
  congr 1
  omega
theorem sec_j2 (X body : List Int) (kd : Nat) (hk : kd ≤ 3) (hl : body.length ≤ 10000000) (four : Bool) (form : Int) (hform : -9223372036854775808 ≤ form ∧ form ≤ 9223372036854775807) :
    SecEnd (fun k => spec_Section.j2 k X four form body (kd : Int)) X body kd (if four = true then 1 else 0) (if four = true then 3 else 0) := by
  cases four with
  | false =>
    refine (sec_j4 X body kd 0 hk (by omega) hl).step (fun k => ?_)
    rw [spec_Section.j2, if_neg (by decide)]
    rfl
  | true =>
    obtain ⟨m, m2, hm⟩ := mod3 form hform
    refine (sec_l0 X body kd hk hl (2 - m) (1 + m) (by omega) (by omega)).step (fun k => ?_)
    rw [spec_Section.j2, if_pos rfl, hm, Option.bind_some, wrap_small _ (by omega) (by omega)]
    rfl
theorem sec_j1 {L : List Nat} {b : Nat} (h : Wts L b) {X : List Int} (hX : Bytes X) (hs : ∀ x ∈ X, Sym L x) (hl : X.length ≤ 131072) (kd : Nat) (hk : kd ≤ 3) (four : Bool) (h10 : four = true → 10 ≤ X.length) (form : Int) (hform : -9223372036854775808 ≤ form ∧ form ≤ 9223372036854775807) (pre : List Int) (hpl : pre.length ≤ 1000) :
    ∃ S, BodyOf L b four X S ∧ SecEnd (fun k => spec_Section.j1 k X four form (b : Int) (tabW L b b) pre (kd : Int)) X (pre ++ S) kd (if four = true then 1 else 0) (if four = true then 3 else 0) := by
  cases four with
  | false =>
    obtain ⟨S, hS, hw⟩ := stream_of h hX hs (by omega)
    have hB : BodyOf L b false X S := Or.inl ⟨rfl, hS⟩
    have hSl := (hB.facts hl).2.2
    refine ⟨S, hB, SecEnd.step (SecEnd.bind (F := fun k t237 => (if pre.length + t237.length < 140737488355328 then (spec_Section.j2 k X false form (pre ++ t237) (kd : Int)) else (none))) hw ?_) (fun k => ?_)⟩
    · simp only [if_pos (show pre.length + S.length < 140737488355328 by omega)]
      exact sec_j2 X (pre ++ S) kd hk (by rw [List.length_append]; omega) false form hform
    · rw [spec_Section.j1, if_neg (by decide)]
  | true =>
    obtain ⟨X1, X2, X3, X4, S1, S2, S3, S4, eX, z1, z2, z3, z4, s1, s2, s3, s4, hw⟩ := writeFour_f h hX hs (h10 rfl) hl
    obtain ⟨S, hS⟩ : ∃ S, headOf S1 S2 S3 ++ (S1 ++ (S2 ++ (S3 ++ S4))) = S := ⟨_, rfl⟩
    rw [hS] at hw
    have hB : BodyOf L b true X S := Or.inr ⟨rfl, h10 rfl, X1, X2, X3, X4, S1, S2, S3, S4, eX, z1, z2, z3, z4, s1, s2, s3, s4, hS.symm⟩
    have hSl := (hB.facts hl).2.2
    refine ⟨S, hB, SecEnd.step (SecEnd.bind (F := fun k t231 => (if pre.length + t231.length < 140737488355328 then (spec_Section.j2 k X true form (pre ++ t231) (kd : Int)) else (none))) hw ?_) (fun k => ?_)⟩
    · simp only [if_pos (show pre.length + S.length < 140737488355328 by omega)]
      exact sec_j2 X (pre ++ S) kd hk (by rw [List.length_append]; omega) true form hform
    · rw [spec_Section.j1, if_pos rfl]
theorem sec_no {a b : List Int} {c d : Bool} {e : Int} {f : List Int} {g : Int} : Ev (fun k => spec_Section.j0 k a b c d e f g true) (([] : List Int), false) := by
  refine (Ev.some _).step (fun k => ?_)
  rw [spec_Section.j0, if_pos rfl]
/-- What stands in a section. -/
structure SecIs (P : List Nat → List Int → Prop) (l0 X : List Int) (told four : Bool) (L W : List Nat) (v b f : Nat) (pre S : List Int) : Prop where
  wts : Wts L b
  eL : L = W ++ [v]
  e0 : l0 = ints W
  v0 : 0 < v
  low : 2 ^ (b - 1) ≤ wsum W
  W128 : W.length ≤ 128
  whole : Ev (fun k => spec_Whole.f k l0) (ints L, (b : Int), true)
  X1 : 1 ≤ X.length
  XN : X.length ≤ 131072
  sym : ∀ x ∈ X, Sym L x
  body : BodyOf L b four X S
  pre_ : (told = true ∧ P W pre) ∨ (told = false ∧ pre = [])
  preL : pre.length ≤ 1000
  f3 : f ≤ 3
  f0 : formS f = (if four = true then 4 else 1)
  fitN : X.length < 2 ^ fbits f
  fitC : (pre ++ S).length < 2 ^ fbits f
theorem section_f (P : List Nat → List Int → Prop) (l0 X : List Int) (told four : Bool) (form : Int) (hl0 : l0.length ≤ 1000000) (hX : Bytes X) (hlX : X.length ≤ 1000000) (hform : -9223372036854775808 ≤ form ∧ form ≤ 9223372036854775807)
    (hpre : told = true → ∀ (W : List Nat), l0 = ints W → (∀ w ∈ W, w ≤ 11) → W.length ≤ 128 → ∃ pre, pre.length ≤ 1000 ∧ P W pre ∧ Ev (fun k => spec_WriteWeights.f k l0) pre) :
    Ev (fun k => spec_Section.f k l0 X told four form) (([] : List Int), false) ∨ ∃ (L W : List Nat) (v b f : Nat) (pre S : List Int), SecIs P l0 X told four L W v b f pre S ∧
      Ev (fun k => spec_Section.f k l0 X told four form) (byt (4 + 2 * fbits f) (hdrV (if told = true then 2 else 3) f X.length (pre ++ S).length) ++ (pre ++ S), true) := by
  have hF : ∀ {α : Type} {g : Nat → Option (List Int × Bool)} {t : List Int × Int × Bool} {r : List Int × Bool}, Ev (fun k => spec_Whole.f k l0) t → Ev (fun k => (if t.2.2 = true then (if (l0.length : Int) > 128 then (spec_Section.j0 k l0 X told four form t.1 t.2.1 true) else (if four = true then (if (X.length : Int) < 10 then (spec_Section.j0 k l0 X told four form t.1 t.2.1 true) else (if (X.length : Int) = 0 then (spec_Section.j0 k l0 X told four form t.1 t.2.1 true) else (spec_Section.j0 k l0 X told four form t.1 t.2.1 (decide ((X.length : Int) > 131072))))) else (if (X.length : Int) = 0 then (spec_Section.j0 k l0 X told four form t.1 t.2.1 true) else (spec_Section.j0 k l0 X told four form t.1 t.2.1 (decide ((X.length : Int) > 131072)))))) else (spec_Section.j0 k l0 X told four form t.1 t.2.1 true))) r → Ev (fun k => spec_Section.f k l0 X told four form) r := by
    intro α g t r h1 h2
    exact Ev.bind h1 h2
  have hF2 := @hF Unit (fun _ => none)
  clear hF
  rcases whole_f l0 hl0 with hw | ⟨L, b, hw, b1, b11, hle, hsm, W, v, eL, e0, v0, low⟩
  · refine Or.inl (hF2 hw ?_)
    simp only [Bool.false_eq_true, if_false]
    exact sec_no
  have hF3 : ∀ {r : List Int × Bool}, Ev (fun k => (if (l0.length : Int) > 128 then (spec_Section.j0 k l0 X told four form (ints L) (b : Int) true) else (if four = true then (if (X.length : Int) < 10 then (spec_Section.j0 k l0 X told four form (ints L) (b : Int) true) else (if (X.length : Int) = 0 then (spec_Section.j0 k l0 X told four form (ints L) (b : Int) true) else (spec_Section.j0 k l0 X told four form (ints L) (b : Int) (decide ((X.length : Int) > 131072))))) else (if (X.length : Int) = 0 then (spec_Section.j0 k l0 X told four form (ints L) (b : Int) true) else (spec_Section.j0 k l0 X told four form (ints L) (b : Int) (decide ((X.length : Int) > 131072))))))) r → Ev (fun k => spec_Section.f k l0 X told four form) r := by
    intro r h2
    refine hF2 hw ?_
    simp only [if_true]
    exact h2
  clear hF2
  by_cases d1 : (l0.length : Int) > 128
  · exact Or.inl (hF3 (by simp only [if_pos d1]; exact sec_no))
  by_cases d2 : four = true ∧ (X.length : Int) < 10
  · exact Or.inl (hF3 (by simp only [if_neg d1, if_pos d2.1, if_pos d2.2]; exact sec_no))
  by_cases d3 : (X.length : Int) = 0
  · refine Or.inl (hF3 ?_)
    simp only [if_neg d1, if_pos d3]
    cases four with
    | false => simp only [Bool.false_eq_true, if_false]; exact sec_no
    | true => exact absurd ⟨rfl, by omega⟩ d2
  by_cases d4 : (X.length : Int) > 131072
  · refine Or.inl (hF3 ?_)
    simp only [if_neg d1, if_neg d3, decide_eq_true d4]
    cases four with
    | false => simp only [Bool.false_eq_true, if_false]; exact sec_no
    | true => simp only [if_true, if_neg (show ¬ (X.length : Int) < 10 by omega)]; exact sec_no
  have hF4 : ∀ {r : List Int × Bool}, Ev (fun k => spec_Section.j0 k l0 X told four form (ints L) (b : Int) false) r → Ev (fun k => spec_Section.f k l0 X told four form) r := by
    intro r h2
    refine hF3 ?_
    simp only [if_neg d1, if_neg d3, decide_eq_false d4]
    cases four with
    | false => simp only [Bool.false_eq_true, if_false]; exact h2
    | true => simp only [if_true, if_neg (show ¬ (X.length : Int) < 10 from fun e => d2 ⟨rfl, e⟩)]; exact h2
  clear hF3
  have hWl : W.length ≤ 128 := by rw [e0, ints_length] at d1; omega
  have hLl : L.length ≤ 256 := by rw [eL, List.length_append, List.length_singleton]; omega
  have hWt : Wts L b := ⟨b1, b11, hle, hsm, hLl⟩
  have hct := codeTable_f hWt.b11 (by rw [hWt.bas]; exact hWt.pow) (by omega : L.length ≤ 1000000)
  have hF5 : ∀ {t : Bool} {r : List Int × Bool}, Ev (fun k => spec_Has.f k (tabW L b b) X) t → Ev (fun k => (if t = true then (if told = true then ((spec_WriteWeights.f k l0).bind fun t228 => (spec_Section.j1 k X four form (b : Int) (tabW L b b) t228 2)) else (spec_Section.j1 k X four form (b : Int) (tabW L b b) (([] : List Int)) 3)) else (some (([] : List Int), false)))) r → Ev (fun k => spec_Section.f k l0 X told four form) r := by
    intro t r h1 h2
    refine hF4 ?_
    have := Ev.bind (f := fun k t221 => ((spec_Has.f k t221 X).bind fun t224 => (if t224 = true then (if told = true then ((spec_WriteWeights.f k l0).bind fun t228 => (spec_Section.j1 k X four form (b : Int) t221 t228 2)) else (spec_Section.j1 k X four form (b : Int) t221 (([] : List Int)) 3)) else (some (([] : List Int), false))))) hct (Ev.bind h1 h2)
    refine this.step (fun k => ?_)
    rw [spec_Section.j0, if_neg (by decide)]
  rcases has_f hWt X hX (by omega) with hh | ⟨hh, hs⟩
  · refine Or.inl (hF5 hh ?_)
    simp only [Bool.false_eq_true, if_false]
    exact Ev.some _
  have hfin : ∀ (kd f : Nat) (pre S : List Int), kd = (if told = true then 2 else 3) → BodyOf L b four X S → ((told = true ∧ P W pre) ∨ (told = false ∧ pre = [])) → pre.length ≤ 1000 → (if four = true then 1 else 0) ≤ f → f ≤ (if four = true then 3 else 0) → X.length < 2 ^ fbits f → (pre ++ S).length < 2 ^ fbits f → SecIs P l0 X told four L W v b f pre S := by
    intro kd f pre S hk hB hp hpl f1 f2 g1 g2
    refine ⟨hWt, eL, e0, v0, low, hWl, hw, by omega, by omega, hs, hB, hp, hpl, ?_, ?_, g1, g2⟩
    · cases four with
      | false => simp at f2; omega
      | true => simpa using f2
    · cases four with
      | false =>
        simp at f2
        subst f2
        rfl
      | true =>
        simp at f1
        unfold formS
        rw [if_neg (by omega)]
        rfl
  have h10 : four = true → 10 ≤ X.length := fun h => by
    have : ¬ (X.length : Int) < 10 := fun e => d2 ⟨h, e⟩
    omega
  cases told with
  | false =>
    obtain ⟨S, hB, hE⟩ := sec_j1 hWt hX hs (by omega) 3 (by omega) four h10 form hform [] (by simp)
    rcases hE with hE | ⟨f, f1, f2, g1, g2, hE⟩
    · refine Or.inl (hF5 hh ?_)
      simp only [if_true, Bool.false_eq_true, if_false]
      exact hE
    · refine Or.inr ⟨L, W, v, b, f, [], S, hfin 3 f [] S rfl hB (Or.inr ⟨rfl, rfl⟩) (by simp) f1 f2 g1 g2, hF5 hh ?_⟩
      simp only [if_true, Bool.false_eq_true, if_false]
      exact hE
  | true =>
    have hW11 : ∀ w ∈ W, w ≤ 11 := fun w hw' => by
      have := hle w (by rw [eL]; exact List.mem_append_left _ hw')
      omega
    obtain ⟨pre, hpl, hp, hpw⟩ := hpre rfl W e0 hW11 hWl
    obtain ⟨S, hB, hE⟩ := sec_j1 hWt hX hs (by omega) 2 (by omega) four h10 form hform pre hpl
    rcases hE with hE | ⟨f, f1, f2, g1, g2, hE⟩
    · refine Or.inl (hF5 hh ?_)
      simp only [if_true]
      exact Ev.bind (f := fun k t228 => spec_Section.j1 k X four form (b : Int) (tabW L b b) t228 2) hpw hE
    · refine Or.inr ⟨L, W, v, b, f, pre, S, hfin 2 f pre S rfl hB (Or.inl ⟨rfl, hp⟩) hpl f1 f2 g1 g2, hF5 hh ?_⟩
      simp only [if_true]
      exact Ev.bind (f := fun k t228 => spec_Section.j1 k X four form (b : Int) (tabW L b b) t228 2) hpw hE
end Go.Proofs.YtopadgohinoomaaDoor.Cx
namespace Go.Proofs.YtopadgohinoomaaDoor.Cx
open Go.RowKit Go.Proofs.YtopadgohinoomaaDoorW.PrintWords Go.Proofs.YtopadgohinoomaaDoorW.PrintMore Go.Proofs.YtopadgohinoomaaDoor.PC
set_option linter.unusedVariables false
def hlen (f : Nat) : Nat := if f ≤ 1 then 3 else if f = 2 then 4 else 5
theorem hlen_b (f : Nat) : 3 ≤ hlen f ∧ hlen f ≤ 5 := by
  unfold hlen
  by_cases e1 : f ≤ 1
  · rw [if_pos e1]; omega
  · rw [if_neg e1]
    by_cases e2 : f = 2
    · rw [if_pos e2]; omega
    · rw [if_neg e2]; omega
theorem byt_bytes (n V : Nat) : Bytes (byt n V) := by
  intro d hd
  unfold byt at hd
  obtain ⟨i, _, rfl⟩ := List.mem_map.mp hd
  have := Nat.mod_lt (V / 256 ^ i) (show 0 < 256 by decide)
  omega
theorem hlen_byt {f : Nat} (hf : f ≤ 3) (V : Nat) : (byt (4 + 2 * fbits f) V).length = hlen f := by
  rw [byt_length]
  rcases (show f = 0 ∨ f = 1 ∨ f = 2 ∨ f = 3 by omega) with rfl | rfl | rfl | rfl <;> rfl
theorem sec_hdr {kd f N C : Nat} {A body B D : List Int} (hk : kd ≤ 3) (hf : f ≤ 3) (hN : N < 2 ^ fbits f) (hC : C < 2 ^ fbits f) (hC2 : body.length = C) (hN2 : N ≤ 131072) (hD : D = A ++ (byt (4 + 2 * fbits f) (hdrV kd f N C) ++ (body ++ B))) (hB : Bytes D) (hl : D.length ≤ 2000000) (ho : A.length + 4 < D.length) :
    Hdr D A.length N C (A.length + hlen f) (formS f) ∧ dN D A.length % 4 = kd := by
  have hlb := hlen_byt hf (hdrV kd f N C)
  have hg : ∀ i, i < hlen f → dN D (A.length + i) = hdrV kd f N C / 256 ^ i % 256 := by
    intro i hi
    unfold dN
    rw [hD, mid _ _ _ _ (by omega), byt_get _ _ _ (by rw [← byt_length (4 + 2 * fbits f) (hdrV kd f N C)]; omega), Int.toNat_natCast]
  have h3 : 3 ≤ hlen f := (hlen_b f).1
  have g0 := hg 0 (by omega)
  have g1 := hg 1 (by omega)
  have g2 := hg 2 (by omega)
  rw [Nat.add_zero, Nat.pow_zero, Nat.div_one] at g0
  obtain ⟨r1, r2, r3, r4⟩ := hdr_form hk hf hN hC (dN D A.length) (dN D (A.length + 1)) (dN D (A.length + 1 + 1)) (dN D (A.length + 1 + 2)) (dN D (A.length + 1 + 3)) g0 g1 g2
    (fun h => by
      have := hg 3 (by unfold hlen; rw [if_neg (by omega)]; by_cases e2 : f = 2; (rw [if_pos e2]; omega); (rw [if_neg e2]; omega))
      exact this)
    (fun h => by
      have := hg 4 (by unfold hlen; rw [if_neg (by omega), if_neg (by omega)]; omega)
      exact this)
  have hDl : D.length = A.length + (hlen f + (body.length + B.length)) := by rw [hD]; simp only [List.length_append, hlb]
  refine ⟨⟨hB, hl, ho, by rw [r1]; exact r3, by rw [r1]; exact r4, ?_, by rw [r1], hN2, by omega⟩, r2⟩
  rw [r1]
  unfold formO hlen
  by_cases e1 : f ≤ 1
  · rw [if_pos e1, if_pos e1]
  · rw [if_neg e1, if_neg e1]
    by_cases e2 : f = 2
    · rw [if_pos e2, if_pos e2]
    · rw [if_neg e2, if_neg e2]
theorem Hdr.same {D : List Int} {off N C o2 st N' C' o2' st' : Nat} (h : Hdr D off N C o2 st) (h' : Hdr D off N' C' o2' st') : N = N' ∧ C = C' ∧ o2 = o2' ∧ st = st' :=
  ⟨h.eN.symm.trans h'.eN, h.eC.symm.trans h'.eC, h.eO.symm.trans h'.eO, h.eS.symm.trans h'.eS⟩
theorem StrOk.same {D T : List Int} {b off total N st : Nat} {r r' : List Int} (h : StrOk D T b off total N st r) (h' : StrOk D T b off total N st r') : r = r' := by
  rcases h with ⟨rfl, _, h⟩ | ⟨rfl, _, h⟩
  · exact h.trans h'.one.2.symm
  · exact h.trans h'.four.2.symm
theorem litOk_again {D T : List Int} {off b : Nat} {p q : List Int × Nat} (hk : dN D off % 4 = 3) (hp : LitOk D T off b p) (hq : LitOk D T off b q) : p = q := by
  obtain ⟨_, N, C, o2, st, b', m, last, L, hH, e, h⟩ := hp
  obtain ⟨_, N', C', o2', st', b'', m', last', L', hH', e', h'⟩ := hq
  obtain ⟨rfl, rfl, rfl, rfl⟩ := hH.same hH'
  rcases h with h | h
  · rcases h' with h' | h'
    · exact Prod.ext (h.2.2.same h'.2.2) (e.trans e'.symm)
    · exact absurd h'.kind (by omega)
  · exact absurd h.kind (by omega)
open Classical in
theorem lit_f {D : List Int} {off b : Nat} {l2 : List S68} {p : List Int × Nat} (hl : l2.length ≤ 1000000) (hp : LitOk D (padded (l2.map pair)) off b p) (hu : ∀ q, LitOk D (padded (l2.map pair)) off b q → q = p) :
    impl_Literals.f D (off : Int) l2 (b : Int) = some (p.1, (p.2 : Int), true) := by
  unfold impl_Literals.f
  rw [if_pos ⟨hl, by omega, by omega⟩]
  simp only [Int.toNat_natCast]
  have hx : ∃ p, LitOk D (padded (l2.map pair)) off b p := ⟨p, hp⟩
  rw [dif_pos hx]
  have := hu _ (Classical.choose_spec hx)
  rw [this]
open Classical in
theorem lit_none {D : List Int} {off : Nat} (hn : LitNone D off) : impl_Literals.f D (off : Int) [] 0 = some ([], 0, false) := by
  unfold impl_Literals.f
  rw [if_pos ⟨by simp, by omega, by omega⟩]
  simp only [Int.toNat_natCast]
  have hx : ¬ ∃ p, LitOk D (padded (([] : List S68).map pair)) off (0 : Int).toNat p := by
    rintro ⟨p, _, N, C, o2, st, b', m, last, L, hH, e, h⟩
    rcases h with h | h
    · exact absurd h.2.1 (by decide)
    · have h1 := hn.1
      have h2 := h.kind
      omega
  rw [dif_neg hx, if_pos ⟨by trivial, hn⟩]
/-- Literals without a table are read with the table of the block ahead. -/
theorem again_lit {P : List Nat → List Int → Prop} {l0 X : List Int} {four : Bool} {L W : List Nat} {v b f : Nat} {pre S A B D : List Int} (h : SecIs P l0 X false four L W v b f pre S) (hA : Bytes A) (hB : Bytes B) (hX : Bytes X) (hl : A.length + B.length ≤ 1000000) (hB4 : 4 ≤ B.length)
    (hD : D = A ++ ((byt (4 + 2 * fbits f) (hdrV 3 f X.length (pre ++ S).length) ++ (pre ++ S)) ++ B)) :
    LitOk D (padded ((tabW L b b).map pair)) A.length b (X, A.length + hlen f + (pre ++ S).length) ∧ LitNone D A.length := by
  have hpre : pre = [] := by
    rcases h.pre_ with ⟨e, _⟩ | ⟨_, e⟩
    · cases e
    · exact e
  subst hpre
  rw [List.nil_append] at hD ⊢
  obtain ⟨f1, f2, f3⟩ := h.body.facts h.XN
  have hfitC := h.fitC
  rw [List.nil_append] at hfitC
  have hlb := hlen_byt h.f3 (hdrV 3 f X.length S.length)
  have hXN := h.XN
  have hhl := hlen_b f
  have hD1 : D = A ++ (byt (4 + 2 * fbits f) (hdrV 3 f X.length S.length) ++ (S ++ B)) := by rw [hD, List.append_assoc]
  have hD2 : D = (A ++ byt (4 + 2 * fbits f) (hdrV 3 f X.length S.length)) ++ (S ++ B) := by rw [hD1, List.append_assoc]
  have hAh : (A ++ byt (4 + 2 * fbits f) (hdrV 3 f X.length S.length)).length = A.length + hlen f := by rw [List.length_append, hlb]
  have hDl : D.length = A.length + hlen f + (S.length + B.length) := by rw [hD2, List.length_append, hAh, List.length_append]
  have hbb := byt_bytes (4 + 2 * fbits f) (hdrV 3 f X.length S.length)
  have hDB : Bytes D := by rw [hD1]; exact hA.append (hbb.append (f1.append hB))
  obtain ⟨hH, hk⟩ := sec_hdr (kd := 3) (by omega) h.f3 h.fitN hfitC rfl h.XN hD1 hDB (by omega) (by omega)
  have hs := h.body.read h.wts h.XN (by omega : 2 ≤ (A ++ byt (4 + 2 * fbits f) (hdrV 3 f X.length S.length)).length) hD2 (hA.append hbb) hB (by omega) (tab_csOf h.wts) (padded_length _) (fun Y hY => tells_csOf h.wts (fun x hx => h.sym x (hY x hx)))
  rw [hAh, ← h.f0] at hs
  have hb1 := h.wts.b1
  exact ⟨⟨by show X.length ≤ _; omega, X.length, S.length, A.length + hlen f, formS f, 0, 0, 0, [], hH, rfl, Or.inl ⟨hk, by omega, hs⟩⟩, hk, X.length, S.length, A.length + hlen f, formS f, hH⟩
end Go.Proofs.YtopadgohinoomaaDoor.Cx
