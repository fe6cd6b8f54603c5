/-
Plain laws: WriteWeights, Lowest; literals with their own table are read; FnSectionRead answers true.
-/
import Derived.Test.YtopadgohinoomaaDoorFa
import Derived.Test.YtopadgohinoomaaDoorEf
namespace Go.Proofs.YtopadgohinoomaaDoor.Cx
open Go.RowKit Go.Proofs.YtopadgohinoomaaDoorW.PrintWords Go.Proofs.YtopadgohinoomaaDoorW.PrintMore Go.Proofs.YtopadgohinoomaaDoor.PC
set_option linter.unusedVariables false
/-- The weights' bytes behind i of them. -/
structure WW (W : List Nat) (i : Nat) (A : List Int) : Prop where
  len : A.length = 1 + (i + 1) / 2
  head : A.getD 0 0 = ((127 + W.length : Nat) : Int)
  even : ∀ j, j < i → j % 2 = 0 → A.getD (1 + j / 2) 0 / 16 = (W.getD j 0 : Nat)
  odd : ∀ j, j < i → j % 2 = 1 → A.getD (1 + j / 2) 0 % 16 = (W.getD j 0 : Nat)
  last : i % 2 = 1 → A.getD (i / 2 + 1) 0 % 16 = 0
  bytes : Bytes A
theorem getD_app_l {A B : List Int} {i : Nat} (h : i < A.length) : (A ++ B).getD i 0 = A.getD i 0 := by
  simp only [List.getD_eq_getElem?_getD]
  rw [List.getElem?_append_left h]
theorem getD_app_r {A : List Int} {x : Int} : (A ++ [x]).getD A.length 0 = x := by
  simp [List.getD_eq_getElem?_getD]
theorem getD_set_eq {A : List Int} {i : Nat} {x : Int} (h : i < A.length) : (A.set i x).getD i 0 = x := by
  simp only [List.getD_eq_getElem?_getD]
  rw [List.getElem?_set_self h]
  rfl
theorem getD_set_ne {A : List Int} {i j : Nat} {x : Int} (h : i ≠ j) : (A.set i x).getD j 0 = A.getD j 0 := by
  simp only [List.getD_eq_getElem?_getD]
  rw [List.getElem?_set_ne h]
theorem WW.push {W : List Nat} {i : Nat} {A : List Int} (h : WW W i A) (hi : i % 2 = 0) (hw : W.getD i 0 ≤ 11) : WW W (i + 1) (A ++ [((W.getD i 0 * 16 : Nat) : Int)]) := by
  have hl := h.len
  refine ⟨by rw [List.length_append, List.length_singleton]; omega, by rw [getD_app_l (by omega)]; exact h.head, fun j hj e => ?_, fun j hj e => ?_, fun _ => ?_, h.bytes.append (fun d hd => ?_)⟩
  · by_cases c : j = i
    · subst c
      rw [show 1 + j / 2 = A.length by omega, getD_app_r]
      omega
    · rw [getD_app_l (by omega)]; exact h.even j (by omega) e
  · rw [getD_app_l (by omega)]; exact h.odd j (by omega) e
  · rw [show (i + 1) / 2 + 1 = A.length by omega, getD_app_r]
    omega
  · obtain rfl := List.mem_singleton.mp hd
    omega
theorem WW.put {W : List Nat} {i : Nat} {A : List Int} (h : WW W i A) (hi : i % 2 = 1) (hw : W.getD i 0 ≤ 11) : WW W (i + 1) (A.set (A.length - 1) (A.getD (A.length - 1) 0 + (W.getD i 0 : Nat))) := by
  have hl := h.len
  have hlast := h.last hi
  have hb := h.bytes.get (A.length - 1)
  have e1 : i / 2 + 1 = A.length - 1 := by omega
  rw [e1] at hlast
  refine ⟨by rw [List.length_set]; omega, by rw [getD_set_ne (by omega)]; exact h.head, fun j hj e => ?_, fun j hj e => ?_, fun _ => by omega, set_bytes h.bytes _ (by omega)⟩
  · by_cases c : 1 + j / 2 = A.length - 1
    · rw [c, getD_set_eq (by omega)]
      have := h.even j (by omega) e
      rw [c] at this
      omega
    · rw [getD_set_ne (fun e => c e.symm)]; exact h.even j (by omega) e
  · by_cases c : j = i
    · subst c
      rw [show 1 + j / 2 = A.length - 1 by omega, getD_set_eq (by omega)]
      omega
    · rw [getD_set_ne (by omega)]; exact h.odd j (by omega) e
theorem or_low (x w : Nat) (hx : x < 256) (h16 : x % 16 = 0) (hw : w < 16) : Go.bits BinOp.or IntKind.u8 (x : Int) (w : Int) = ((x + w : Nat) : Int) := by
  have h1 : x ||| w = x + w := by
    obtain ⟨q, rfl⟩ : ∃ q, x = q <<< 4 := ⟨x / 16, by rw [Nat.shiftLeft_eq]; omega⟩
    exact (Nat.shiftLeft_add_eq_or_of_lt (show w < 2 ^ 4 by omega) q).symm
  have key : (BitVec.ofInt 8 (x : Int) ||| BitVec.ofInt 8 (w : Int)).toNat = x ||| w := by
    rw [BitVec.toNat_or, BitVec.toNat_ofInt, BitVec.toNat_ofInt]
    congr 1 <;> omega
  show IntKind.u8.wrap ((BitVec.ofInt 8 (x : Int) ||| BitVec.ofInt 8 (w : Int)).toNat : Nat) = _
  rw [key, h1, IntKind.wrap_u8]
  omega
theorem ww_loop (W : List Nat) (hW : ∀ w ∈ W, w ≤ 11) (hl : W.length ≤ 128) (n : Nat) : ∀ (i : Nat) (A : List Int), i + n = W.length → WW W i A → ∃ R, WW W W.length R ∧ Ev (fun k => spec_WriteWeights.l0 k A (ints W) ((ints W).length : Int) (i : Int)) R := by
  have hg : ∀ i, W.getD i 0 ≤ 11 := by
    intro i
    rcases Nat.lt_or_ge i W.length with g | g
    · rw [List.getD_eq_getElem?_getD, List.getElem?_eq_getElem g]
      exact hW _ (List.getElem_mem g)
    · rw [List.getD_eq_getElem?_getD, List.getElem?_eq_none g]
      exact Nat.zero_le _
  induction n with
  | zero =>
    intro i A hi h
    obtain rfl : i = W.length := by omega
    refine ⟨A, h, (Ev.some _).step (fun k => ?_)⟩
    rw [spec_WriteWeights.l0, if_neg (by rw [ints_length]; omega)]
  | succ n ih =>
    intro i A hi h
    have hA := h.len
    have hw := hg i
    have e1 : wrap64 ((i : Int) + 1) = ((i + 1 : Nat) : Int) := by rw [wrap_small _ (by omega) (by omega)]; rfl
    by_cases c : i % 2 = 0
    · obtain ⟨R, hR, hE⟩ := ih (i + 1) _ (by omega) (h.push c hw)
      refine ⟨R, hR, hE.step (fun k => ?_)⟩
      have e2 : wrap64 (((W.getD i 0 : Nat) : Int) * 16) % 256 = ((W.getD i 0 * 16 : Nat) : Int) := by rw [wrap_small _ (by omega) (by omega)]; omega
      rw [spec_WriteWeights.l0, if_pos (by rw [ints_length]; omega), if_pos (by omega), if_pos (by rw [ints_length]; omega), if_pos (by rw [Int.tmod_eq_emod_of_nonneg (by omega)]; omega), if_pos (by omega), rd_ints, e2, e1]
    · obtain ⟨R, hR, hE⟩ := ih (i + 1) _ (by omega) (h.put (by omega) hw)
      refine ⟨R, hR, hE.step (fun k => ?_)⟩
      have e2 : wrap64 ((A.length : Int) - 1) = ((A.length - 1 : Nat) : Int) := by rw [wrap_small _ (by omega) (by omega)]; omega
      have hb := h.bytes.get (A.length - 1)
      obtain ⟨x, hx⟩ : ∃ x : Nat, A.getD (A.length - 1) 0 = (x : Int) := ⟨(A.getD (A.length - 1) 0).toNat, by omega⟩
      have hlast := h.last (by omega)
      rw [show i / 2 + 1 = A.length - 1 by omega, hx] at hlast
      rw [hx] at hb
      have e3 : ((W.getD i 0 : Nat) : Int) % 256 = ((W.getD i 0 : Nat) : Int) := by omega
      rw [spec_WriteWeights.l0, if_pos (by rw [ints_length]; omega), if_pos (by omega), if_pos (by rw [ints_length]; omega), if_neg (by rw [Int.tmod_eq_emod_of_nonneg (by omega)]; omega), e2, if_pos (by omega), if_pos (by omega), rd_ints, rd_nat, Int.toNat_natCast, hx, e3, or_low x _ (by omega) (by omega) (by omega), e1]
      rfl
theorem writeWeights_f (W : List Nat) (hW : ∀ w ∈ W, w ≤ 11) (hl : W.length ≤ 128) : ∃ R, WW W W.length R ∧ Ev (fun k => spec_WriteWeights.f k (ints W)) R := by
  have h0 : WW W 0 [((127 + W.length : Nat) : Int)] := ⟨rfl, rfl, fun j hj => by omega, fun j hj => by omega, fun h => by omega, fun d hd => by
    obtain rfl := List.mem_singleton.mp hd
    omega⟩
  obtain ⟨R, hR, hE⟩ := ww_loop W hW hl W.length 0 _ (by omega) h0
  refine ⟨R, hR, hE.elim (fun K hK => ⟨K, fun k hk => ?_⟩)⟩
  have e : wrap64 (127 + ((ints W).length : Int)) % 256 = ((127 + W.length : Nat) : Int) := by rw [ints_length, wrap_small _ (by omega) (by omega)]; omega
  have := hK k hk
  dsimp only at this ⊢
  unfold spec_WriteWeights.f
  rw [e]
  exact this
theorem rowW_at (L : List Nat) (b w i : Nat) (n : Nat) : n ≤ L.length → i < (rowW L b w n).length → ∃ s, s < n ∧ L.getD s 0 = w ∧ (L.take s).count w * 2 ^ (w - 1) ≤ i ∧ i < (L.take s).count w * 2 ^ (w - 1) + 2 ^ (w - 1) := by
  induction n with
  | zero => intro _ h; simp [rowW] at h
  | succ n ih =>
    intro hn h
    rcases Nat.lt_or_ge i (rowW L b w n).length with g | g
    · obtain ⟨s, h1, h2⟩ := ih (by omega) g
      exact ⟨s, by omega, h2⟩
    · rw [rowW, List.length_append] at h
      by_cases e : L.getD n 0 = w
      · rw [if_pos e, List.length_replicate] at h
        rw [rowW_length _ _ _ _ (by omega)] at h g
        exact ⟨n, by omega, e, g, h⟩
      · rw [if_neg e] at h
        simp at h
        omega
theorem tabW_at (L : List Nat) (b i : Nat) (m : Nat) : i < (tabW L b m).length → ∃ s, s < L.length ∧ 1 ≤ L.getD s 0 ∧ place L s ≤ i ∧ i < place L s + 2 ^ (L.getD s 0 - 1) := by
  induction m with
  | zero => intro h; simp [tabW] at h
  | succ m ih =>
    intro h
    rcases Nat.lt_or_ge i (tabW L b m).length with g | g
    · exact ih g
    · rw [tabW, List.length_append] at h
      obtain ⟨s, h1, h2, h3, h4⟩ := rowW_at L b (m + 1) (i - (tabW L b m).length) L.length (Nat.le_refl _) (by omega)
      rw [tabW_length] at h3 h4 g
      refine ⟨s, h1, by omega, ?_, ?_⟩
      · unfold place; rw [h2, Nat.add_sub_cancel]; rw [Nat.add_sub_cancel] at h3; omega
      · unfold place; rw [h2, Nat.add_sub_cancel]; rw [Nat.add_sub_cancel] at h4; omega
theorem fills_tab {L : List Nat} {b : Nat} (h : Wts L b) {T : List Int} (hF : Fills L b L.length T) : Tab T b := by
  intro i hi
  have hlen := h.len
  obtain ⟨s, h1, h2, h3, h4⟩ := tabW_at L b i b (by rw [h.tab_length]; exact hi)
  have := hF.2 s h1 (by omega) (i - place L s) (by omega)
  rw [show place L s + (i - place L s) = i by omega] at this
  rw [this]
  unfold entry
  have hg := h.getD s
  have hb := h.b11
  omega
theorem fills_tells {L : List Nat} {b : Nat} (h : Wts L b) {T : List Int} (hF : Fills L b L.length T) {X : List Int} (hX : ∀ x ∈ X, Sym L x) : Tells T b (csOf L b X) X := by
  refine ⟨by simp [csOf], fun i hi => ?_⟩
  have hi' : i < X.length := by simpa [csOf] using hi
  have e1 : (csOf L b X)[i] = codeOf L b X[i] := by simp [csOf]
  have e2 : X.getD i 0 = X[i] := by rw [List.getD_eq_getElem?_getD, List.getElem?_eq_getElem hi']; rfl
  have hx := hX _ (List.getElem_mem hi')
  rw [e1, e2]
  generalize X[i] = x at hx
  obtain ⟨h0, h1, h2⟩ := hx
  obtain ⟨s, rfl⟩ : ∃ s : Nat, x = (s : Int) := ⟨x.toNat, by omega⟩
  rw [Int.toNat_natCast] at h1 h2
  have hg := h.getD s
  unfold codeOf
  rw [Int.toNat_natCast]
  dsimp only
  have e3 : b - (b + 1 - L.getD s 0) = L.getD s 0 - 1 := by omega
  rw [e3]
  refine ⟨by omega, by omega, h0, fun y hy => ?_⟩
  rw [h.place_mod h2, hF.2 s h1 (by omega) y hy]
  unfold entry
  omega
theorem fills_exist {L : List Nat} {b : Nat} (h : Wts L b) : Fills L b L.length (padded ((tabW L b b).map pair)) := by
  refine ⟨padded_length _, fun s h1 h2 j hj => ?_⟩
  rw [tab_get h h1 (by omega) hj]
  rfl
theorem wsum_odd (L : List Nat) : wsum L % 2 = L.count 1 % 2 := by
  induction L with
  | nil => rfl
  | cons x L ih =>
    rw [wsum, List.count_cons]
    by_cases e0 : x = 0
    · subst e0; simp; exact ih
    · rw [if_neg e0]
      by_cases e1 : x = 1
      · subst e1; simp; omega
      · have : 2 ^ (x - 1) = 2 * 2 ^ (x - 2) := by rw [Nat.mul_comm, ← Nat.pow_succ]; congr 1; omega
        have e2 : (x == 1) = false := by simp; exact e1
        rw [e2]
        simp
        omega
theorem lowest_f (L : List Nat) (hl : L.length ≤ 1000) : Ev (fun k => spec_Lowest.f k (ints L)) false ∨ (Ev (fun k => spec_Lowest.f k (ints L)) true ∧ 1 ∈ L) := by
  have key : ∀ n i, i + n = L.length → Ev (fun k => spec_Lowest.l0 k (ints L) ((ints L).length : Int) (i : Int)) false ∨ (Ev (fun k => spec_Lowest.l0 k (ints L) ((ints L).length : Int) (i : Int)) true ∧ 1 ∈ L) := by
    intro n
    induction n with
    | zero =>
      intro i hi
      refine Or.inl ((Ev.some _).step (fun k => ?_))
      rw [spec_Lowest.l0, if_neg (by rw [ints_length]; omega)]
    | succ n ih =>
      intro i hi
      have hi' : i < L.length := by omega
      have e2 : L.getD i 0 = L[i] := by rw [List.getD_eq_getElem?_getD, List.getElem?_eq_getElem hi']; rfl
      by_cases c : L.getD i 0 = 1
      · refine Or.inr ⟨(Ev.some _).step (fun k => ?_), ?_⟩
        · rw [spec_Lowest.l0, if_pos (by rw [ints_length]; omega), if_pos (by omega), if_pos (by rw [ints_length]; omega), rd_ints, if_pos (by omega)]
        · rw [e2] at c
          rw [← c]
          exact List.getElem_mem hi'
      · have hstep : ∀ k, spec_Lowest.l0 (k + 1) (ints L) ((ints L).length : Int) (i : Int) = spec_Lowest.l0 k (ints L) ((ints L).length : Int) ((i + 1 : Nat) : Int) := by
          intro k
          rw [spec_Lowest.l0, if_pos (by rw [ints_length]; omega), if_pos (by omega), if_pos (by rw [ints_length]; omega), rd_ints, if_neg (by omega), wrap_small _ (by omega) (by omega)]
          rfl
        rcases ih (i + 1) (by omega) with h | ⟨h, r⟩
        · exact Or.inl (h.step hstep)
        · exact Or.inr ⟨h.step hstep, r⟩
  exact key L.length 0 (by omega)
theorem told_wts {D : List Int} {h b o2 C N st m last : Nat} {res : List Int} {W : List Nat} (t : Told D h b o2 C N st m last res W) : Wts (W ++ [last]) b := by
  have hp := Nat.two_pow_pos (last - 1)
  have hs := t.hsum
  have hl := t.hlow
  have h0 := t.hb0
  have e2 : 2 ^ b = 2 ^ (b - 1) * 2 := by rw [← Nat.pow_succ]; congr 1; omega
  refine ⟨t.hb0, t.hb, fun w hw => ?_, ?_, ?_⟩
  · rcases Nat.lt_or_ge b w with g | g
    · exfalso
      have h3 : 2 ^ b ≤ 2 ^ (w - 1) := Nat.pow_le_pow_right (by decide) (by omega)
      rcases List.mem_append.mp hw with hw' | hw'
      · have := wsum_mem hw' (by omega)
        omega
      · obtain rfl := List.mem_singleton.mp hw'
        omega
    · exact g
  · rw [wsum_append]
    simp only [wsum]
    rw [if_neg (by have := t.hlast; omega)]
    omega
  · have := t.hlen
    have := t.hm2
    rw [List.length_append, List.length_singleton]
    omega
theorem told_same {D : List Int} {h b o2 C N st m last b' m' last' : Nat} {res res' : List Int} {W W' : List Nat} (t : Told D h b o2 C N st m last res W) (t' : Told D h b' o2 C N st m' last' res' W') : res = res' := by
  have hm : m = m' := by
    have h1 := t.h0
    have h2 := t'.h0
    omega
  subst hm
  have hW : W = W' := by
    apply List.ext_getElem?
    intro j
    have l1 := t.hlen
    have l2 := t'.hlen
    rcases Nat.lt_or_ge j m with g | g
    · have h1 := t.hnib j g
      have h2 := t'.hnib j g
      have h3 : W.getD j 0 = W'.getD j 0 := by omega
      rw [List.getD_eq_getElem?_getD, List.getD_eq_getElem?_getD, List.getElem?_eq_getElem (by omega), List.getElem?_eq_getElem (by omega)] at h3
      rw [List.getElem?_eq_getElem (by omega), List.getElem?_eq_getElem (by omega)]
      exact congrArg some h3
    · rw [List.getElem?_eq_none (by omega), List.getElem?_eq_none (by omega)]
  subst hW
  have p1 := Nat.two_pow_pos (last - 1)
  have p2 := Nat.two_pow_pos (last' - 1)
  have s1 := t.hsum
  have s2 := t'.hsum
  have l1 := t.hlow
  have l2 := t'.hlow
  have hb : b = b' := by
    rcases Nat.lt_trichotomy b b' with g | g | g
    · have : 2 ^ b ≤ 2 ^ (b' - 1) := Nat.pow_le_pow_right (by decide) (by omega)
      omega
    · exact g
    · have : 2 ^ b' ≤ 2 ^ (b - 1) := Nat.pow_le_pow_right (by decide) (by omega)
      omega
  subst hb
  have hlast : last = last' := by
    have a1 := t.hlast
    have a2 := t'.hlast
    have e : 2 ^ (last - 1) = 2 ^ (last' - 1) := by omega
    rcases Nat.lt_trichotomy last last' with g | g | g
    · have h1 : 2 ^ (last - 1 + 1) ≤ 2 ^ (last' - 1) := Nat.pow_le_pow_right (by decide) (by omega)
      rw [Nat.pow_succ] at h1
      omega
    · exact g
    · have h1 : 2 ^ (last' - 1 + 1) ≤ 2 ^ (last - 1) := Nat.pow_le_pow_right (by decide) (by omega)
      rw [Nat.pow_succ] at h1
      omega
  subst hlast
  have hf := fills_exist (told_wts t)
  exact (t.str _ hf).same (t'.str _ hf)
theorem litOk_told {D T : List Int} {off b : Nat} {p q : List Int × Nat} (hk : dN D off % 4 = 2) (hp : LitOk D T off b p) (hq : LitOk D T off b q) : p = q := by
  obtain ⟨_, N, C, o2, st, b', m, last, L, hH, e, h⟩ := hp
  obtain ⟨_, N', C', o2', st', b'', m', last', L', hH', e', h'⟩ := hq
  obtain ⟨rfl, rfl, rfl, rfl⟩ := hH.same hH'
  rcases h with h | h
  · exact absurd h.1 (by omega)
  · rcases h' with h' | h'
    · exact absurd h'.1 (by omega)
    · exact Prod.ext (told_same h h') (e.trans e'.symm)
/-- Literals with their own table are read. -/
theorem told_lit {l0 X : List Int} {four : Bool} {L W : List Nat} {v b f : Nat} {pre S A B D T : List Int} (h : SecIs (fun W pre => WW W W.length pre) l0 X true four L W v b f pre S) (h1m : 1 ∈ L) (hA : Bytes A) (hB : Bytes B) (hX : Bytes X) (hl : A.length + B.length ≤ 1000000) (hB4 : 4 ≤ B.length)
    (hD : D = A ++ ((byt (4 + 2 * fbits f) (hdrV 2 f X.length (pre ++ S).length) ++ (pre ++ S)) ++ B)) :
    LitOk D T A.length 0 (X, A.length + hlen f + (pre ++ S).length) ∧ dN D A.length % 4 = 2 := by
  have hw : WW W W.length pre := by
    rcases h.pre_ with ⟨_, e⟩ | ⟨e, _⟩
    · exact e
    · cases e
  have hwt := h.wts
  obtain ⟨f1, f2, f3⟩ := h.body.facts h.XN
  have hfitC := h.fitC
  have hlb := hlen_byt h.f3 (hdrV 2 f X.length (pre ++ S).length)
  have hXN := h.XN
  have hhl := hlen_b f
  have hW128 := h.W128
  have hpl := hw.len
  have hbb := byt_bytes (4 + 2 * fbits f) (hdrV 2 f X.length (pre ++ S).length)
  have hPl : (pre ++ S).length = pre.length + S.length := List.length_append
  obtain ⟨H, hH⟩ : ∃ H, byt (4 + 2 * fbits f) (hdrV 2 f X.length (pre ++ S).length) = H := ⟨_, rfl⟩
  have hD1 : D = A ++ (H ++ ((pre ++ S) ++ B)) := by rw [hD, hH, List.append_assoc]
  have hD2 : D = (A ++ H) ++ (pre ++ (S ++ B)) := by rw [hD1]; simp only [List.append_assoc]
  have hD3 : D = (A ++ H ++ pre) ++ (S ++ B) := by rw [hD1]; simp only [List.append_assoc]
  rw [hH] at hlb hbb
  have hAh : (A ++ H).length = A.length + hlen f := by rw [List.length_append, hlb]
  have hAp : (A ++ H ++ pre).length = A.length + hlen f + pre.length := by rw [List.length_append, hAh]
  have hDl : D.length = A.length + hlen f + (pre.length + (S.length + B.length)) := by rw [hD2, List.length_append, hAh, List.length_append, List.length_append]
  have hDB : Bytes D := by rw [hD2]; exact (hA.append hbb).append (hw.bytes.append (f1.append hB))
  obtain ⟨hHd, hk⟩ := sec_hdr (kd := 2) (by omega) h.f3 h.fitN hfitC rfl h.XN (by rw [hH]; exact hD1) hDB (by omega) (by omega)
  have hpg : ∀ i, i < pre.length → D.getD (A.length + hlen f + i) 0 = pre.getD i 0 := by
    intro i hi
    rw [hD2, ← hAh]
    exact mid (A ++ H) pre (S ++ B) i hi
  have hWm : 0 < W.length := by
    rcases Nat.eq_zero_or_pos W.length with e | e
    · have : W = [] := List.eq_nil_of_length_eq_zero e
      have hlow := h.low
      rw [this] at hlow
      have := Nat.two_pow_pos (b - 1)
      simp only [wsum] at hlow
      omega
    · exact e
  have hsum : wsum W + 2 ^ (v - 1) = 2 ^ b := by
    have := hwt.sum
    rw [h.eL, wsum_append] at this
    simp only [wsum] at this
    rw [if_neg (by have := h.v0; omega)] at this
    omega
  have hcnt : L.count 1 % 2 = 0 := by
    have h1 := wsum_odd L
    rw [hwt.sum] at h1
    have e2 : 2 ^ b = 2 ^ (b - 1) * 2 := by rw [← Nat.pow_succ]; congr 1; have := hwt.b1; omega
    omega
  have hc1 : 0 < L.count 1 := List.count_pos_iff.mpr h1m
  have hWle : ∀ j, W.getD j 0 ≤ 11 := by
    intro j
    rcases Nat.lt_or_ge j W.length with g | g
    · rw [List.getD_eq_getElem?_getD, List.getElem?_eq_getElem g]
      have := hwt.le W[j] (by rw [h.eL]; exact List.mem_append_left _ (List.getElem_mem g))
      have hb := hwt.b11
      show W[j] ≤ 11
      omega
    · rw [List.getD_eq_getElem?_getD, List.getElem?_eq_none g]
      exact Nat.zero_le _
  have ht : Told D (dN D A.length) b (A.length + hlen f) (pre ++ S).length X.length (formS f) W.length v X W := by
    refine ⟨hk, hDB, ?_, hWm, hW128, rfl, fun j hj => ?_, fun j _ => hWle j, hwt.b11, hwt.b1, h.v0, hsum, h.low, by rw [← h.eL]; exact hcnt, by rw [← h.eL]; omega, by omega, by omega, fun tab hf => ?_⟩
    · have := hpg 0 (by omega)
      rw [Nat.add_zero] at this
      rw [this]
      exact hw.head
    · have e1 : D.getD (A.length + hlen f + 1 + j / 2) 0 = pre.getD (1 + j / 2) 0 := by
        rw [Nat.add_assoc]
        exact hpg (1 + j / 2) (by omega)
      unfold nib
      rw [e1]
      by_cases c : j % 2 = 0
      · rw [if_pos c]; exact hw.even j hj c
      · rw [if_neg c]; exact hw.odd j hj (by omega)
    · rw [← h.eL] at hf
      have hs := h.body.read hwt h.XN (by omega : 2 ≤ (A ++ H ++ pre).length) hD3 ((hA.append hbb).append hw.bytes) hB (by omega) (fills_tab hwt hf) hf.1 (fun Y hY => fills_tells hwt hf (fun x hx => h.sym x (hY x hx)))
      rw [hAp, ← h.f0] at hs
      rw [show A.length + hlen f + 1 + (W.length + 1) / 2 = A.length + hlen f + pre.length by omega, show (pre ++ S).length - (1 + (W.length + 1) / 2) = S.length by omega]
      exact hs
  exact ⟨⟨by show X.length ≤ _; omega, X.length, (pre ++ S).length, A.length + hlen f, formS f, b, W.length, v, W, hHd, rfl, Or.inr ht⟩, hk⟩
theorem read_j0 {l0 l1 l2 l5 : List Int} {four : Bool} {form : Int} : Ev (fun k => laws_FnSectionRead.j0 k l0 l1 l2 four form l5 true) true := by
  refine (Ev.some _).step (fun k => ?_)
  rw [laws_FnSectionRead.j0, if_pos rfl]
theorem read_j1 {l0 l2 l5 s : List Int} : Ev (fun k => laws_FnSectionRead.j1 k l0 l2 l5 s true) true := by
  refine (Ev.some _).step (fun k => ?_)
  rw [laws_FnSectionRead.j1, if_pos rfl]
  rfl
theorem read_main {l0 l1 l2 l5 : List Int} {four : Bool} {L W : List Nat} {v b f : Nat} {pre S s : List Int} (h : SecIs (fun W pre => WW W W.length pre) l1 l2 true four L W v b f pre S) (h1m : 1 ∈ L) (h0 : Bytes l0) (h2 : Bytes l2) (h5 : Bytes l5) (hl : l0.length + l5.length ≤ 1000000) (hl5 : 4 ≤ l5.length)
    (hs : s = byt (4 + 2 * fbits f) (hdrV 2 f l2.length (pre ++ S).length) ++ (pre ++ S)) : Ev (fun k => laws_FnSectionRead.j1 k l0 l2 l5 s false) true := by
  obtain ⟨hok, hk⟩ := told_lit (T := padded (([] : List S68).map pair)) h h1m (A := l0) (B := l5) (D := l0 ++ s ++ l5) h0 h5 h2 hl hl5 (by rw [hs, List.append_assoc])
  have hlit := lit_f (l2 := []) (by simp) hok (fun q hq => litOk_told hk hq hok)
  have hlb := hlen_byt h.f3 (hdrV 2 f l2.length (pre ++ S).length)
  have hsl : s.length = hlen f + (pre ++ S).length := by rw [hs, List.length_append, hlb]
  have hsb : s.length ≤ 1000000 := by
    have h2 := (h.body.facts h.XN).2.2
    have h3 := h.preL
    have h5 := hlen_b f
    rw [hsl, List.length_append]
    omega
  have hXN := h.XN
  have hlit' : impl_Literals.f (l0 ++ s ++ l5) (l0.length : Int) [] 0 = some (l2, ((l0.length + s.length : Nat) : Int), true) := by
    have e : (l0.length + hlen f + (pre ++ S).length : Nat) = l0.length + s.length := by rw [hsl]; omega
    rw [e] at hlit
    exact hlit
  clear hlit hok
  have hlen2 : (l0 ++ s ++ l5).length = l0.length + s.length + l5.length := by rw [List.length_append, List.length_append]
  obtain ⟨K2, hK2⟩ := same_f l2 (by omega)
  refine Ev.step (g' := fun k => ((some (([] : List Int) : List Int)).bind fun y278 => (if y278.length + l0.length < 140737488355328 then ((some (y278 ++ l0 : List Int)).bind fun y281 => (if y281.length + s.length < 140737488355328 then ((some (y281 ++ s : List Int)).bind fun y284 => (if y284.length + l5.length < 140737488355328 then ((some (y284 ++ l5 : List Int)).bind fun y287 => ((impl_Literals.f y287 (l0.length : Int) ([] : List (S68)) 0).bind fun bt290 => (if bt290.2.2 = true then (if bt290.2.1 = (wrap64 ((y287.length : Int) - (l5.length : Int))) then ((spec_SameBytes.f k bt290.1 l2).bind fun t295 => (some t295)) else (some false)) else (some false)))) else (none))) else (none))) else (none)))) ⟨K2, fun k hk => ?_⟩ (fun k => ?_)
  · have hk2 : spec_SameBytes.f k l2 l2 = some true := hK2 k (by omega)
    dsimp only
    rw [Option.bind_some, if_pos (by simp only [List.length_nil]; omega), Option.bind_some, List.nil_append, if_pos (by omega), Option.bind_some, if_pos (by rw [List.length_append]; omega), Option.bind_some, hlit', Option.bind_some, if_pos rfl, wrap_small _ (by rw [hlen2]; omega) (by rw [hlen2]; omega), if_pos (show (((l0.length + s.length : Nat) : Int)) = ((l0 ++ s ++ l5).length : Int) - (l5.length : Int) by rw [hlen2]; omega), hk2, Option.bind_some]
  · rw [laws_FnSectionRead.j1, if_neg (by decide)]
theorem read_true (l0 l1 l2 l5 : List Int) (four : Bool) (form : Int) (h0 : Bytes l0) (h2 : Bytes l2) (h5 : Bytes l5) (hform : -9223372036854775808 ≤ form ∧ form ≤ 9223372036854775807) : Ev (fun k => laws_FnSectionRead.f k l0 l1 l2 four form l5) true := by
  by_cases c0 : (l0.length : Int) > 2147483647
  · exact read_j0.elim (fun K hK => ⟨K, fun k hk => by dsimp only; unfold laws_FnSectionRead.f; rw [if_pos c0]; exact hK k hk⟩)
  by_cases c1 : (l1.length : Int) > 2147483647
  · exact read_j0.elim (fun K hK => ⟨K, fun k hk => by dsimp only; unfold laws_FnSectionRead.f; rw [if_neg c0, if_pos c1]; exact hK k hk⟩)
  by_cases c2 : (l2.length : Int) > 2147483647
  · exact read_j0.elim (fun K hK => ⟨K, fun k hk => by dsimp only; unfold laws_FnSectionRead.f; rw [if_neg c0, if_neg c1, if_pos c2]; exact hK k hk⟩)
  by_cases c3 : (l5.length : Int) > 2147483647
  · exact read_j0.elim (fun K hK => ⟨K, fun k hk => by dsimp only; unfold laws_FnSectionRead.f; rw [if_neg c0, if_neg c1, if_neg c2, decide_eq_true c3]; exact hK k hk⟩)
  have key : Ev (fun k => laws_FnSectionRead.j0 k l0 l1 l2 four form l5 false) true := by
    refine Ev.step (g' := fun k => ((spec_TooLong.f k (([(l0.length : Int), (l1.length : Int), (l2.length : Int), (l5.length : Int)] : List Int))).bind fun t266 => (if t266 = true then (some true) else ((spec_Section.f k l1 l2 true four form).bind fun bt267 => ((spec_Whole.f k l1).bind fun bt271 => (if bt267.2 = true then (if bt271.2.2 = true then ((spec_Lowest.f k bt271.1).bind fun t276 => (if t276 = true then (laws_FnSectionRead.j1 k l0 l2 l5 bt267.1 (decide ((l5.length : Int) < 4))) else (laws_FnSectionRead.j1 k l0 l2 l5 bt267.1 true))) else (laws_FnSectionRead.j1 k l0 l2 l5 bt267.1 true)) else (laws_FnSectionRead.j1 k l0 l2 l5 bt267.1 true))))))) ?_ (fun k => by rw [laws_FnSectionRead.j0, if_neg (by decide)])
    rcases tooLong_f [(l0.length : Int), (l1.length : Int), (l2.length : Int), (l5.length : Int)] (fun x hx => by
      simp only [List.mem_cons, List.not_mem_nil, or_false] at hx
      omega) (by simp) with ht | ⟨ht, hsum⟩
    · refine Ev.bind (f := fun k t266 => (if t266 = true then (some true) else ((spec_Section.f k l1 l2 true four form).bind fun bt267 => ((spec_Whole.f k l1).bind fun bt271 => (if bt267.2 = true then (if bt271.2.2 = true then ((spec_Lowest.f k bt271.1).bind fun t276 => (if t276 = true then (laws_FnSectionRead.j1 k l0 l2 l5 bt267.1 (decide ((l5.length : Int) < 4))) else (laws_FnSectionRead.j1 k l0 l2 l5 bt267.1 true))) else (laws_FnSectionRead.j1 k l0 l2 l5 bt267.1 true)) else (laws_FnSectionRead.j1 k l0 l2 l5 bt267.1 true)))))) ht ?_
      simp only [if_true]
      exact Ev.some true
    · simp only [List.sum_cons, List.sum_nil] at hsum
      refine Ev.bind (f := fun k t266 => (if t266 = true then (some true) else ((spec_Section.f k l1 l2 true four form).bind fun bt267 => ((spec_Whole.f k l1).bind fun bt271 => (if bt267.2 = true then (if bt271.2.2 = true then ((spec_Lowest.f k bt271.1).bind fun t276 => (if t276 = true then (laws_FnSectionRead.j1 k l0 l2 l5 bt267.1 (decide ((l5.length : Int) < 4))) else (laws_FnSectionRead.j1 k l0 l2 l5 bt267.1 true))) else (laws_FnSectionRead.j1 k l0 l2 l5 bt267.1 true)) else (laws_FnSectionRead.j1 k l0 l2 l5 bt267.1 true)))))) ht ?_
      simp only [Bool.false_eq_true, if_false]
      have hS2 : ∀ {t : List Int × Bool} {u : List Int × Int × Bool}, Ev (fun k => spec_Section.f k l1 l2 true four form) t → Ev (fun k => spec_Whole.f k l1) u → Ev (fun k => (if t.2 = true then (if u.2.2 = true then ((spec_Lowest.f k u.1).bind fun t276 => (if t276 = true then (laws_FnSectionRead.j1 k l0 l2 l5 t.1 (decide ((l5.length : Int) < 4))) else (laws_FnSectionRead.j1 k l0 l2 l5 t.1 true))) else (laws_FnSectionRead.j1 k l0 l2 l5 t.1 true)) else (laws_FnSectionRead.j1 k l0 l2 l5 t.1 true))) true → Ev (fun k => ((spec_Section.f k l1 l2 true four form).bind fun bt267 => ((spec_Whole.f k l1).bind fun bt271 => (if bt267.2 = true then (if bt271.2.2 = true then ((spec_Lowest.f k bt271.1).bind fun t276 => (if t276 = true then (laws_FnSectionRead.j1 k l0 l2 l5 bt267.1 (decide ((l5.length : Int) < 4))) else (laws_FnSectionRead.j1 k l0 l2 l5 bt267.1 true))) else (laws_FnSectionRead.j1 k l0 l2 l5 bt267.1 true)) else (laws_FnSectionRead.j1 k l0 l2 l5 bt267.1 true))))) true := by
        intro t u e1 e2 e3
        exact Ev.bind e1 (Ev.bind e2 e3)
      rcases section_f (fun W pre => WW W W.length pre) l1 l2 true four form (by omega) h2 (by omega) hform (fun _ W e hW hl => by
        obtain ⟨R, hR, hE⟩ := writeWeights_f W hW hl
        refine ⟨R, by have := hR.len; omega, hR, ?_⟩
        rw [e]
        exact hE) with hs | ⟨L, W, v, b, f, pre, S, hI, hs⟩
      · rcases whole_f l1 (by omega) with hw | ⟨L, b, hw, -⟩
        · refine hS2 hs hw ?_
          simp only [Bool.false_eq_true, if_false]
          exact read_j1
        · refine hS2 hs hw ?_
          simp only [Bool.false_eq_true, if_false]
          exact read_j1
      · refine hS2 hs hI.whole ?_
        simp only [if_true]
        have hLl := hI.wts.len
        rcases lowest_f L (by omega) with hlo | ⟨hlo, h1m⟩
        · refine Ev.bind (f := fun k t276 => (if t276 = true then (laws_FnSectionRead.j1 k l0 l2 l5 _ (decide ((l5.length : Int) < 4))) else (laws_FnSectionRead.j1 k l0 l2 l5 _ true))) hlo ?_
          simp only [Bool.false_eq_true, if_false]
          exact read_j1
        · refine Ev.bind (f := fun k t276 => (if t276 = true then (laws_FnSectionRead.j1 k l0 l2 l5 _ (decide ((l5.length : Int) < 4))) else (laws_FnSectionRead.j1 k l0 l2 l5 _ true))) hlo ?_
          simp only [if_true]
          by_cases d : (l5.length : Int) < 4
          · rw [decide_eq_true d]; exact read_j1
          · rw [decide_eq_false d]
            exact read_main hI h1m h0 h2 h5 (by omega) (by omega) rfl
  exact key.elim (fun K hK => ⟨K, fun k hk => by dsimp only; unfold laws_FnSectionRead.f; rw [if_neg c0, if_neg c1, if_neg c2, decide_eq_false c3]; exact hK k hk⟩)
end Go.Proofs.YtopadgohinoomaaDoor.Cx
