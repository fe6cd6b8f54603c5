/-
Walk of readHuff where the weights stand four bits each.
-/
import Derived.Test.YtopadgohinoomaaDoorCk
import Derived.Test.YtopadgohinoomaaDoorSw
namespace Go.Proofs.YtopadgohinoomaaDoor.Cx
open Go.RowKit Go.Proofs.YtopadgohinoomaaDoorW.PrintWords Go.Proofs.YtopadgohinoomaaDoorW.PrintLast Go.Proofs.YtopadgohinoomaaDoorW.PrintMore Go.Proofs.YtopadgohinoomaaDoor.PC
attribute [local go_sem] max2_int min2_int max_two min_two max_three min_three max_four min_four
set_option linter.unusedVariables false
set_option linter.unusedSimpArgs false
theorem z144 : Tryd.zeroCells144 = Array.replicate 256 (.int .u8 0) := by kernel_rfl
theorem and15 (d : Nat) (h : d ≤ 255) : Go.bits BinOp.and IntKind.u8 (d : Int) 15 = (d : Int) % 16 := by
  have e := u8_and_nat d 15 (by omega) (by omega)
  rw [show (15 : Nat) = 2 ^ 4 - 1 from rfl, Nat.and_two_pow_sub_one_eq_mod] at e
  rw [show ((15 : Int)) = ((2 ^ 4 - 1 : Nat) : Int) from rfl, e]
  omega
def z13 : Array Value := #[.int .u32 0, .int .u32 0, .int .u32 0, .int .u32 0, .int .u32 0, .int .u32 0, .int .u32 0, .int .u32 0, .int .u32 0, .int .u32 0, .int .u32 0, .int .u32 0, .int .u32 0]
theorem z149 : z13 = Array.replicate 13 (.int .u32 0) := by kernel_rfl
theorem nib_step {D : List Int} {off k i2 o2 d gw : Nat} {w : World} (hj : i2 = 2 * k ∧ o2 = off + 1 + k) (hd : D.getD o2 0 = (d : Int)) (h : RowF w gw 144 256 (fun j => .int .u8 (if j < 2 * k then nib D off j else 0))) :
    RowF ((w.setCell ⟨gw, i2, none⟩ (.int .u8 ((d : Int) / 16))).setCell ⟨gw, i2 + 1, none⟩ (.int .u8 ((d : Int) % 16))) gw 144 256 (fun j => .int .u8 (if j < 2 * (k + 1) then nib D off j else 0)) := by
  obtain ⟨rfl, rfl⟩ := hj
  refine ((h.set (2 * k) _).set (2 * k + 1) _).congr (fun j hj => ?_)
  by_cases e1 : j = 2 * k + 1
  · subst e1
    rw [if_pos rfl, if_pos (by omega)]
    unfold nib
    rw [if_neg (by omega), show off + 1 + (2 * k + 1) / 2 = off + 1 + k by omega, hd]
  · rw [if_neg e1]
    by_cases e2 : j = 2 * k
    · subst e2
      rw [if_pos rfl, if_pos (by omega)]
      unfold nib
      rw [if_pos (by omega), show off + 1 + 2 * k / 2 = off + 1 + k by omega, hd]
    · rw [if_neg e2]
      by_cases e3 : j < 2 * k
      · rw [if_pos e3, if_pos (by omega)]
      · rw [if_neg e3, if_neg (by omega)]
theorem mark_step {l : List Nat} {i wv cv gm : Nat} {w : World} (hi : i < l.length) (hw : l.getD i 0 = wv) (hc : (l.take i).count wv = cv) (h : RowF w gm 149 13 (fun j => .int .u32 (((l.take i).count j : Nat) : Int))) :
    RowF (w.setCell ⟨gm, wv, none⟩ (.int .u32 ((cv : Int) + 1))) gm 149 13 (fun j => .int .u32 (((l.take (i + 1)).count j : Nat) : Int)) := by
  refine (h.set wv _).congr (fun j hj => ?_)
  rw [count_take hi, hw]
  by_cases e : j = wv
  · subst e
    rw [if_pos rfl, if_pos rfl, hc]
    rfl
  · rw [if_neg e, if_neg e]
    rfl
theorem log_of {n k : Nat} (h1 : 2 ^ k ≤ n) (h2 : n < 2 ^ (k + 1)) : Nat.log2 n = k := by
  have h0 : n ≠ 0 := by have := Nat.two_pow_pos k; omega
  have a : Nat.log2 n < k + 1 := (Nat.log2_lt h0).2 h2
  have b : k ≤ Nat.log2 n := (Nat.le_log2 h0).2 h1
  omega
theorem ms_eq {ms e : Nat} (he : e ≤ 10) (hms : ms ≤ 2048) : (((ms : Int) + 2 ^ e % 4294967296) % 4294967296) = ((ms + 2 ^ e : Nat) : Int) := by
  have h1 : 2 ^ e ≤ 2 ^ 10 := Nat.pow_le_pow_right (by decide) he
  have h2 := Nat.two_pow_pos e
  have h5 : ((2 ^ e : Nat) : Int) = (2 : Int) ^ e := by rw [Int.natCast_pow]; rfl
  rw [← h5]
  omega
theorem even_and {c : Nat} (h : c % 2 = 0) (hc : c ≤ 1000) : Go.bits BinOp.and IntKind.u32 (c : Int) 1 = 0 := by
  have e := u32_and_nat c 1 (by omega) (by omega)
  rw [show (1 : Nat) = 2 ^ 1 - 1 from rfl, Nat.and_two_pow_sub_one_eq_mod] at e
  rw [show ((1 : Int)) = ((2 ^ 1 - 1 : Nat) : Int) from rfl, e]
  omega
theorem last_mark {l : List Nat} {x cl gm : Nat} {w : World} (hc : l.count x = cl) (h : RowF w gm 149 13 (fun j => .int .u32 ((l.count j : Nat) : Int))) :
    RowF (w.setCell ⟨gm, x, none⟩ (.int .u32 ((cl : Int) + 1))) gm 149 13 (fun j => .int .u32 (((l ++ [x]).count j : Nat) : Int)) := by
  refine (h.set x _).congr (fun j hj => ?_)
  rw [List.count_append, List.count_singleton]
  by_cases e : j = x
  · subst e
    rw [if_pos rfl, hc]
    simp
  · rw [if_neg e]
    have e' : ¬ x = j := fun h => e h.symm
    simp [e']
theorem bas_cons (x : Nat) (l : List Nat) (k : Nat) : bas (x :: l) k = bas l k + (if 1 ≤ x ∧ x ≤ k then 2 ^ (x - 1) else 0) := by
  induction k with
  | zero => rw [if_neg (by omega)]; rfl
  | succ k ih =>
    show bas (x :: l) k + (x :: l).count (k + 1) * 2 ^ k = bas l k + l.count (k + 1) * 2 ^ k + _
    rw [ih, List.count_cons]
    by_cases h1 : x = k + 1
    · subst h1
      have n1 : ¬ (1 ≤ k + 1 ∧ k + 1 ≤ k) := by omega
      have n2 : 1 ≤ k + 1 ∧ k + 1 ≤ k + 1 := by omega
      have n3 : ((k + 1 == k + 1) = true) := by simp
      rw [if_neg n1, if_pos n2, if_pos n3, Nat.add_sub_cancel, Nat.add_mul, Nat.one_mul]
      omega
    · have n3 : ¬ ((x == k + 1) = true) := by simpa using h1
      rw [if_neg n3, Nat.add_zero]
      by_cases h2 : 1 ≤ x ∧ x ≤ k
      · have n2 : 1 ≤ x ∧ x ≤ k + 1 := by omega
        rw [if_pos h2, if_pos n2]
        omega
      · have n2 : ¬ (1 ≤ x ∧ x ≤ k + 1) := by omega
        rw [if_neg h2, if_neg n2]
        omega
theorem bas_le (l : List Nat) (k : Nat) : bas l k ≤ wsum l := by
  induction l with
  | nil =>
    induction k with
    | zero => exact Nat.le_refl _
    | succ k ih => simp only [bas, List.count_nil, Nat.zero_mul, Nat.add_zero]; exact ih
  | cons x l ih =>
    rw [bas_cons]
    simp only [wsum]
    by_cases h : 1 ≤ x ∧ x ≤ k
    · rw [if_pos h, if_neg (by omega)]; omega
    · rw [if_neg h]; omega
theorem nx_eq {nx cw i4 : Nat} (h1 : i4 ≤ 10) (h2 : nx ≤ 2048) (h3 : cw ≤ 129) : (((nx : Int) + (cw : Int) * 2 ^ i4 % 4294967296) % 4294967296) = ((nx + cw * 2 ^ i4 : Nat) : Int) := by
  have h4 : 2 ^ i4 ≤ 2 ^ 10 := Nat.pow_le_pow_right (by decide) h1
  have h5 : ((2 ^ i4 : Nat) : Int) = (2 : Int) ^ i4 := by rw [Int.natCast_pow]; rfl
  have h6 : cw * 2 ^ i4 ≤ 129 * 1024 := Nat.mul_le_mul h3 h4
  rw [← h5, ← Int.natCast_mul]
  omega
theorem bas_step {L : List Nat} {i4 nx gm : Nat} {w : World} (hn : nx = bas L i4) (h : RowF w gm 149 13 (fun j => .int .u32 ((if 1 ≤ j ∧ j ≤ i4 then bas L (j - 1) else L.count j : Nat) : Int))) :
    RowF (w.setCell ⟨gm, i4 + 1, none⟩ (.int .u32 (nx : Int))) gm 149 13 (fun j => .int .u32 ((if 1 ≤ j ∧ j ≤ i4 + 1 then bas L (j - 1) else L.count j : Nat) : Int)) := by
  refine (h.set (i4 + 1) _).congr (fun j hj => ?_)
  by_cases e : j = i4 + 1
  · subst e
    rw [if_pos rfl, if_pos (by omega), Nat.add_sub_cancel, hn]
  · rw [if_neg e]
    by_cases h2 : 1 ≤ j ∧ j ≤ i4
    · rw [if_pos h2, if_pos (by omega)]
    · rw [if_neg h2, if_neg (by omega)]
theorem below_grown {w w' : World} (h : Below w.heap.size w w') (row : Option Nat) : w.grownBy w' row := ⟨h.os, h.tape, h.output, h.size, fun k hk _ => h.block k hk⟩
theorem mark_zero {L : List Nat} {b s j : Nat} (hs : s < L.length) (h0 : L.getD s 0 = 0) : (Value.int .u32 ((if 1 ≤ j ∧ j ≤ b then bas L (j - 1) + (L.take s).count j * 2 ^ (j - 1) else L.count j : Nat) : Int)) = Value.int .u32 ((if 1 ≤ j ∧ j ≤ b then bas L (j - 1) + (L.take (s + 1)).count j * 2 ^ (j - 1) else L.count j : Nat) : Int) := by
  by_cases h : 1 ≤ j ∧ j ≤ b
  · rw [if_pos h, if_pos h, count_take hs, h0, if_neg (by omega), Nat.add_zero]
  · rw [if_neg h, if_neg h]
theorem fills_zero {L : List Nat} {b s : Nat} {tab : List Int} (h0 : L.getD s 0 = 0) (h : Fills L b s tab) : Fills L b (s + 1) tab := by
  refine ⟨h.1, fun s' hs' hp j hj => ?_⟩
  rcases Nat.lt_or_ge s' s with h1 | h1
  · exact h.2 s' h1 hp j hj
  · obtain rfl : s' = s := by omega
    omega
theorem bas_mono (l : List Nat) {a c : Nat} (h : a ≤ c) : bas l a ≤ bas l c := by
  induction c with
  | zero => obtain rfl : a = 0 := by omega
            exact Nat.le_refl _
  | succ c ih =>
    rcases Nat.lt_or_ge c a with h1 | h1
    · obtain rfl : a = c + 1 := by omega
      exact Nat.le_refl _
    · have := ih h1
      simp only [bas]
      omega
theorem count_get {L : List Nat} {s x : Nat} (hs : s < L.length) (hw : L.getD s 0 = x) : (L.take s).count x + 1 ≤ L.count x := by
  have h1 := count_take hs x
  rw [hw, if_pos rfl] at h1
  rw [← h1]
  exact (List.take_sublist (s + 1) L).count_le x
theorem place_le {L : List Nat} {b s f : Nat} (hS : wsum L = 2 ^ b) (hs : s < L.length) (hw : L.getD s 0 = f + 1) : place L s + 2 ^ f ≤ 2 ^ b := by
  have h1 := bas_le L (f + 1)
  have h2 := count_get hs hw
  rw [hS] at h1
  unfold place
  rw [hw, Nat.add_sub_cancel]
  have h3 : ((L.take s).count (f + 1) + 1) * 2 ^ f ≤ L.count (f + 1) * 2 ^ f := Nat.mul_le_mul_right _ h2
  rw [Nat.add_mul, Nat.one_mul] at h3
  have h4 : bas L (f + 1) = bas L f + L.count (f + 1) * 2 ^ f := rfl
  omega
theorem w_le {L : List Nat} {b s f : Nat} (hS : wsum L = 2 ^ b) (hb : 0 < b) (h2 : 2 ≤ L.count 1) (hs : s < L.length) (hw : L.getD s 0 = f + 1) : f + 1 ≤ b := by
  rcases Nat.lt_or_ge b (f + 1) with h | h
  · have h1 := bas_le L (f + 1)
    have h3 := count_get hs hw
    have h4 : bas L (f + 1) = bas L f + L.count (f + 1) * 2 ^ f := rfl
    have h5 : bas L 1 ≤ bas L f := bas_mono L (by omega)
    have h6 : bas L 1 = 0 + L.count 1 * 2 ^ 0 := rfl
    have h7 : 1 * 2 ^ f ≤ L.count (f + 1) * 2 ^ f := Nat.mul_le_mul_right _ (by omega)
    have h8 : 2 ^ b ≤ 2 ^ f := Nat.pow_le_pow_right (by decide) (by omega)
    rw [hS] at h1
    omega
  · exact h
theorem grown_trans {a w w' : World} {row : Option Nat} (h : a.grownBy w row) (k : w.grownBy w' row) : a.grownBy w' row :=
  ⟨k.os.trans h.os, k.tape.trans h.tape, k.output.trans h.output, Nat.le_trans h.size k.size, fun i hi hne => (k.block i (Nat.lt_of_lt_of_le hi h.size) hne).trans (h.block i hi hne)⟩
theorem one1' {u : Value} (h : u.oneCell' = true := by rfl) : ∀ q ∈ [u], q.oneCell' = true := by intro q hq; rw [List.mem_singleton.1 hq]; exact h
theorem tval_eq {L : List Nat} {b s f : Nat} (hs : s ≤ 128) (hf : f + 1 ≤ b) (hb : b ≤ 11) (hw : L.getD s 0 = f + 1) : Go.bits BinOp.or IntKind.u16 ((s : Int) * 256) ((b : Int) + 1 - ((f : Int) + 1)) = entry L b s := by
  unfold entry
  rw [hw, show ((s : Int) * 256) = ((s * 256 : Nat) : Int) by omega, show ((b : Int) + 1 - ((f : Int) + 1)) = ((b + 1 - (f + 1) : Nat) : Int) by omega, u16_or_nat _ _ (by omega) (by omega), or_byte s _ (by omega)]
theorem grown_far {w w' : World} {row : Option Nat} (h : w.grownBy w' row) {p : Addr} (hp : w.heap.size ≤ p.block) (u : Value) : w.grownBy (w'.setCell p u) row :=
  ⟨h.os, h.tape, h.output, by simpa [World.setCell] using h.size, fun k hk hne => (Below.heap_setCell w' p u k (by omega)).trans (h.block k hk hne)⟩
theorem mark2_step {L : List Nat} {b s f st ln gm : Nat} {w : World} (hs : s < L.length) (hw : L.getD s 0 = f + 1) (hst : place L s = st) (hln : 2 ^ f = ln) (hfb : f + 1 ≤ b)
    (h : RowF w gm 149 13 (fun j => .int .u32 ((if 1 ≤ j ∧ j ≤ b then bas L (j - 1) + (L.take s).count j * 2 ^ (j - 1) else L.count j : Nat) : Int))) :
    RowF (w.setCell ⟨gm, f + 1, none⟩ (.int .u32 ((st : Int) + (ln : Int)))) gm 149 13 (fun j => .int .u32 ((if 1 ≤ j ∧ j ≤ b then bas L (j - 1) + (L.take (s + 1)).count j * 2 ^ (j - 1) else L.count j : Nat) : Int)) := by
  refine (h.set (f + 1) _).congr (fun j hj => ?_)
  rw [count_take hs, hw]
  by_cases e : j = f + 1
  · subst e
    rw [if_pos rfl, if_pos (by omega), if_pos rfl, Nat.add_sub_cancel, Nat.add_mul, Nat.one_mul, ← hst, ← hln]
    unfold place
    rw [hw, Nat.add_sub_cancel, ← Int.natCast_add]
    congr 2
    omega
  · rw [if_neg e, if_neg e, Nat.add_zero]
theorem place_apart {L : List Nat} {s s' : Nat} (hs : s < L.length) (h : s' < s) (p : 0 < L.getD s 0) (p' : 0 < L.getD s' 0) :
    place L s' + 2 ^ (L.getD s' 0 - 1) ≤ place L s ∨ place L s + 2 ^ (L.getD s 0 - 1) ≤ place L s' := by
  obtain ⟨a, ha⟩ : ∃ a, L.getD s' 0 = a + 1 := ⟨L.getD s' 0 - 1, by omega⟩
  obtain ⟨c, hc⟩ : ∃ c, L.getD s 0 = c + 1 := ⟨L.getD s 0 - 1, by omega⟩
  unfold place
  rw [ha, hc, Nat.add_sub_cancel, Nat.add_sub_cancel]
  have g1 := count_get (show s' < L.length by omega) ha
  have g2 := count_get hs hc
  have b1 : bas L (a + 1) = bas L a + L.count (a + 1) * 2 ^ a := rfl
  have b2 : bas L (c + 1) = bas L c + L.count (c + 1) * 2 ^ c := rfl
  have m1 : ((L.take s').count (a + 1) + 1) * 2 ^ a ≤ L.count (a + 1) * 2 ^ a := Nat.mul_le_mul_right _ g1
  have m2 : ((L.take s).count (c + 1) + 1) * 2 ^ c ≤ L.count (c + 1) * 2 ^ c := Nat.mul_le_mul_right _ g2
  rw [Nat.add_mul, Nat.one_mul] at m1 m2
  rcases Nat.lt_trichotomy a c with h1 | h1 | h1
  · have := bas_mono L (show a + 1 ≤ c by omega)
    left; omega
  · subst h1
    have h2 : (L.take (s' + 1)).count (a + 1) ≤ (L.take s).count (a + 1) := by
      have : L.take (s' + 1) = (L.take s).take (s' + 1) := by rw [List.take_take, Nat.min_eq_left (by omega)]
      rw [this]
      exact (List.take_sublist _ _).count_le _
    rw [count_take (by omega) (a + 1), ha, if_pos rfl] at h2
    have h3 : ((L.take s').count (a + 1) + 1) * 2 ^ a ≤ (L.take s).count (a + 1) * 2 ^ a := Nat.mul_le_mul_right _ h2
    rw [Nat.add_mul, Nat.one_mul] at h3
    left; omega
  · have := bas_mono L (show c + 1 ≤ a by omega)
    right; omega
theorem getD_set' (l : List Int) (a : Nat) (y : Int) (j : Nat) : (l.set a y).getD j 0 = if a = j ∧ a < l.length then y else l.getD j 0 := by
  rw [List.getD_eq_getElem?_getD, List.getD_eq_getElem?_getD, List.getElem?_set]
  by_cases h : a = j
  · subst h
    by_cases h2 : a < l.length
    · simp [h2]
    · simp [h2]
  · simp [h]
theorem fills_set {L : List Nat} {b s f st j : Nat} {tab : List Int} {tv : Int} (hS : wsum L = 2 ^ b) (hs : s < L.length) (hw : L.getD s 0 = f + 1) (hst : place L s = st) (hj : j < 2 ^ f) (hi : st + j < 2048)
    (h : Fills L b s tab ∧ ∀ q, q < j → tab.getD (st + q) 0 = tv) : Fills L b s (tab.set (st + j) tv) ∧ ∀ q, q < j + 1 → (tab.set (st + j) tv).getD (st + q) 0 = tv := by
  obtain ⟨⟨hl, hf⟩, hq⟩ := h
  refine ⟨⟨by rw [List.length_set]; exact hl, fun s' hs' hp k hk => ?_⟩, fun q hq' => ?_⟩
  · have := place_apart hs hs' (by omega) hp
    rw [hw, hst, Nat.add_sub_cancel] at this
    rw [getD_set', if_neg (by omega)]
    exact hf s' hs' hp k hk
  · rw [getD_set']
    by_cases e : q = j
    · subst e; rw [if_pos ⟨rfl, by omega⟩]
    · rw [if_neg (by omega)]; exact hq q (by omega)
theorem fills_done {L : List Nat} {b s f : Nat} {tab : List Int} (hw : L.getD s 0 = f + 1) (h : Fills L b s tab ∧ ∀ q, q < 2 ^ f → tab.getD (place L s + q) 0 = entry L b s) : Fills L b (s + 1) tab := by
  obtain ⟨⟨hl, hf⟩, hq⟩ := h
  refine ⟨hl, fun s' hs' hp k hk => ?_⟩
  rcases Nat.lt_or_ge s' s with h1 | h1
  · exact hf s' h1 hp k hk
  · obtain rfl : s' = s := by omega
    rw [hw, Nat.add_sub_cancel] at hk
    exact hq k hk
theorem data_at {w : World} {ad : Addr} {D : List Int} (hD : Kd.C (Kd.int .u8) w (some ad) D.length D) (i : Nat) (hi : i < D.length) {W : World} (hb : Below w.heap.size w W) : W.cell? (ad.add i) = some (.int .u8 (D.getD i 0)) := by
  obtain ⟨a, e, hc⟩ := Kd.at_int hD (i : Int) (by omega) (by omega)
  cases e
  simp only [Int.toNat_natCast] at hc
  exact (pw_cell_below hb hc).trans rfl
def PostH (l : List Nat) (b : Int) (boff : Int) (v : Value) (base rb : Nat) (w : World) (e : Ending) (w' : World) : Prop := e = .returned (.tuple #[.int .i64 b, .int .i64 boff, .nilIface]) ∧ ∃ tab, Kd.R (Kd.int .u16) 103 w' base (fun k => k ≠ rb) v tab ∧ Fills l b.toNat l.length tab ∧ w.grownBy w' v.ownBlock
set_option maxHeartbeats 1000000 in
set_option maxRecDepth 100000 in
theorem huff_any (rb gt ct base m b last off : Nat) (ad : Addr) (c : Nat) (D T0 : List Int) (l : List Nat) (w : World)
    (hD : Kd.C (Kd.int .u8) w (some ad) D.length D) (hB : Bytes D) (hl : D.length ≤ 2000000) (hT : Kd.R (Kd.int .u16) 103 w base (fun k => k ≠ rb) (.slice (some ⟨gt, 0, none⟩) 2048 ct) T0)
    (h0 : D.getD off 0 = ((127 + m : Nat) : Int)) (hm : 0 < m) (hm2 : m ≤ 128) (hroom : off + 1 + (m + 1) / 2 < D.length) (hlen : l.length = m) (hnib : ∀ j, j < m → nib D off j = (l.getD j 0 : Nat)) (h11 : ∀ j, j < m → l.getD j 0 ≤ 11)
    (hb : b ≤ 11) (hb0 : 0 < b) (hlast : 0 < last) (hsum : wsum l + 2 ^ (last - 1) = 2 ^ b) (hlow : 2 ^ (b - 1) ≤ wsum l) (heven : (l ++ [last]).count 1 % 2 = 0) (h2 : 2 ≤ (l ++ [last]).count 1) :
    Calls Tryd.prog 62 #[.pointer (some ⟨rb, 0, none⟩), .slice (some ad) D.length c, .int .i64 off, .slice (some ⟨gt, 0, none⟩) 2048 ct] w (PostH (l ++ [last]) b ((off + 1 + (m + 1) / 2 : Nat) : Int) (.slice (some ⟨gt, 0, none⟩) 2048 ct) base rb w) := by
  have q0 : ∀ n, (w.drewN n).cell? (ad.add off) = some (.int .u8 ((127 + m : Nat) : Int)) := fun n => by rw [← h0]; exact data_at hD off (by omega) (pw_below_drewN (Below.refl _ _) n)
  have q0' : w.cell? (ad.add off) = some (.int .u8 ((127 + m : Nat) : Int)) := q0 0
  have hoi : (off : Int) < (D.length : Int) := by omega
  have HD := Aside0.mk hD
  have HB := Aside0.mk hB
  have HT := Aside0.mk hT
  have HL := Aside0.mk hlen
  have HNIB := Aside0.mk hnib
  have H11 := Aside0.mk h11
  have HS := Aside0.mk hsum
  have HLOW := Aside0.mk hlow
  have HEV := Aside0.mk heven
  have HC2 := Aside0.mk h2
  have HM := Aside0.mk (show (m + 1) / 2 + (m + 1) / 2 ≤ m + 1 by omega)
  have HBL := Aside0.mk (Below.refl w.heap.size w)
  obtain ⟨hf, hhf⟩ : ∃ hf, (m + 1) / 2 = hf := ⟨_, rfl⟩
  have HHF := Aside0.mk hhf
  have hfi : ((m : Int) + 1) / 2 = (hf : Int) := by omega
  rw [hhf] at hroom ⊢
  clear hD hB hT hlen hnib h11 hsum hlow heven h2 h0 hhf
  go_enter Tryd.func62, Tryd.ntmps62
  go_wp2_with (fail)
  rw [show (127 : Int) + (m : Int) - 127 = (m : Int) by omega]
  generalize decide (D.length ≤ off) = dz
  have RW : Aside0 (RowF (w.alloc (Obj.cells Tryd.zeroCells144 144)) w.heap.size 144 256 (fun j => .int .u8 (if j < 0 then nib D off j else 0))) := ⟨(rowF_new (by rw [← z144]; exact blk_new w _)).congr (fun i hi => by simp)⟩
  have HB1 := Aside0.mk (below_alloc HBL.out (Obj.cells Tryd.zeroCells144 144))
  generalize w.alloc (Obj.cells Tryd.zeroCells144 144) = wl at RW HB1 ⊢
  obtain ⟨gw, hgw⟩ : ∃ g, w.heap.size = g := ⟨_, rfl⟩
  rw [hgw] at RW ⊢
  have HGW := Aside0.mk hgw
  clear hgw
  go_loopg [2, 24] hf (fun kq a1 a2 w' => ∃ k i2 o2 : Nat, a1 = .int .i64 o2 ∧ a2 = .int .i64 i2 ∧ k + kq = hf ∧ Aside0 (i2 = 2 * k ∧ o2 = off + 1 + k) ∧ Aside0 (RowF w' gw 144 256 (fun j => .int .u8 (if j < 2 * k then nib D off j else 0))) ∧ Aside0 (Below w.heap.size w w'))
  case atStart => exact ⟨0, 0, off + 1, by go_num, rfl, by omega, ⟨rfl, rfl⟩, RW, HB1⟩
  case round =>
    clear RW HB1
    obtain ⟨k, i2, o2, rfl, rfl, hk, HJ, RW, HB1⟩ := hrel
    have hj := HJ.out
    by_cases hlt : k < hf
    · have hi2 : i2 ≤ 254 := by have := HM.out; have := HHF.out; omega
      have c1 : ((i2 : Int) < (m : Int)) := by have := HM.out; have := HHF.out; omega
      have co : (o2 : Int) < (D.length : Int) := by omega
      have co2 : o2 ≤ 2000000 := by omega
      have qd : ∀ n, (wr.drewN n).cell? (ad.add o2) = some (.int .u8 (D.getD o2 0)) := fun n => data_at HD.out o2 (by omega) (pw_below_drewN HB1.out n)
      have hr := HB.out.get o2
      obtain ⟨d, hd⟩ : ∃ d : Nat, D.getD o2 0 = (d : Int) := ⟨(D.getD o2 0).toNat, by omega⟩
      rw [hd] at hr
      simp only [hd] at qd
      have HDD := Aside0.mk hd
      have hd2 : d ≤ 255 := by omega
      have qd0 : wr.cell? (ad.add o2) = some (.int .u8 d) := qd 0
      have s0 := RW.out.cell i2 (by omega)
      have s1 := RW.out.cell (i2 + 1) (by omega)
      have f0 := RW.out.frozen i2
      have f1 := RW.out.frozen (i2 + 1)
      have qa := and15 d hd2
      clear hj hd hr
      go_wp2_with (fail)
      obtain ⟨p, rfl⟩ : ∃ p, gk = p + 1 := ⟨gk - 1, by omega⟩
      go_roundg p
      case rel => exact ⟨k + 1, i2 + 2, o2 + 1, by go_num, by go_num, by omega, ⟨by have := HJ.out; omega⟩, ⟨nib_step HJ.out HDD.out RW.out⟩, ⟨(HB1.out.setCell (by show w.heap.size ≤ gw; have := HGW.out; omega) _).setCell (by show w.heap.size ≤ gw; have := HGW.out; omega) _⟩⟩
      case measure => omega
    · clear hj
      obtain rfl : k = hf := by omega
      have c1 : ¬ ((i2 : Int) < (m : Int)) := by have := HM.out; have := HHF.out; have := HJ.out; omega
      have c2 : (m : Int) ≤ 256 := by omega
      have hgl : gw < wr.heap.size := RW.out.lt
      have hg0 : w.heap.size ≤ gw := by have := HGW.out; omega
      go_wp2_with (fail)
      have RM : Aside0 (RowF (wr.alloc (Obj.cells z13 149)) wr.heap.size 149 13 (fun j => .int .u32 (((l.take 0).count j : Nat) : Int))) := ⟨(rowF_new (by rw [← z149]; exact blk_new wr _)).congr (fun i hi => by simp)⟩
      have RW2 : Aside0 (RowF (wr.alloc (Obj.cells z13 149)) gw 144 256 (fun j => .int .u8 (if j < 2 * k then nib D off j else 0))) := ⟨RW.out.below (below_alloc (Below.refl _ _) _)⟩
      have HB2 := Aside0.mk (below_alloc HB1.out (Obj.cells z13 149))
      have ez : z13 = #[.int .u32 0, .int .u32 0, .int .u32 0, .int .u32 0, .int .u32 0, .int .u32 0, .int .u32 0, .int .u32 0, .int .u32 0, .int .u32 0, .int .u32 0, .int .u32 0, .int .u32 0] := rfl
      rw [ez] at RM RW2 HB2
      clear ez
      generalize wr.alloc (Obj.cells #[.int .u32 0, .int .u32 0, .int .u32 0, .int .u32 0, .int .u32 0, .int .u32 0, .int .u32 0, .int .u32 0, .int .u32 0, .int .u32 0, .int .u32 0, .int .u32 0, .int .u32 0] 149) = wm at RM RW2 HB2 ⊢
      generalize wr.heap.size = gm at RM hgl ⊢
      clear RW HB1
      go_loopg [27, 281] m (fun kq a1 a2 w' => ∃ i ms : Nat, a1 = .int .u32 ms ∧ a2 = .int .i64 i ∧ i + kq = m ∧ Aside0 (ms = wsum (l.take i)) ∧ Aside0 (RowF w' gm 149 13 (fun j => .int .u32 (((l.take i).count j : Nat) : Int))) ∧ Aside0 (RowF w' gw 144 256 (fun j => .int .u8 (if j < 2 * k then nib D off j else 0))) ∧ Aside0 (Below w.heap.size w w'))
      case atStart => exact ⟨0, 0, rfl, rfl, by omega, ⟨by simp [wsum]⟩, RM, RW2, HB2⟩
      case round =>
        clear RM RW2 HB2
        obtain ⟨i, ms, rfl, rfl, hik, HMS, RM, RW2, HB2⟩ := hrel
        by_cases him : i < m
        · have c3 : ((i : Int) < (m : Int)) := by omega
          have him2 : i < 2 * k := by have := HM.out; have := HHF.out; omega
          obtain ⟨wv, hwv⟩ : ∃ x, l.getD i 0 = x := ⟨_, rfl⟩
          have hw11 : wv ≤ 11 := hwv ▸ H11.out i him
          have sW : wr.cell? ⟨gw, i, none⟩ = some (.int .u8 (wv : Int)) := by
            have := RW2.out.cell i (by omega)
            rw [if_pos him2, HNIB.out i him, hwv] at this
            exact this
          obtain ⟨cv, hcv⟩ : ∃ x, (l.take i).count wv = x := ⟨_, rfl⟩
          have hcv2 : cv ≤ 128 := by
            have h1 : (l.take i).count wv ≤ (l.take i).length := List.count_le_length
            rw [List.length_take] at h1
            omega
          have sM : wr.cell? ⟨gm, wv, none⟩ = some (.int .u32 (cv : Int)) := hcv ▸ RM.out.cell wv (by omega)
          have fM := RM.out.frozen wv
          have HWV := Aside0.mk hwv
          have HCV := Aside0.mk hcv
          have hms : ms ≤ 2048 := by
            have h1 := wsum_take_le l i
            have h2 := HS.out
            have h3 : 2 ^ b ≤ 2 ^ 11 := Nat.pow_le_pow_right (by decide) hb
            have := HMS.out
            have := Nat.two_pow_pos (last - 1)
            omega
          clear hwv hcv
          by_cases hw0 : wv = 0
          · subst hw0
            go_wp2_with (fail)
            obtain ⟨p, rfl⟩ : ∃ p, gk = p + 1 := ⟨gk - 1, by omega⟩
            go_roundg p
            case rel => exact ⟨i + 1, ms, rfl, by go_num, by omega, ⟨by rw [wsum_take (by rw [HL.out]; exact him), HWV.out]; exact HMS.out⟩, ⟨mark_step (by rw [HL.out]; exact him) HWV.out HCV.out RM.out⟩, ⟨RW2.out.far (by show gw ≠ gm; omega) _⟩, ⟨HB2.out.setCell (by show w.heap.size ≤ gm; omega) _⟩⟩
            case measure => omega
          · have c4 : (0 : Int) < (wv : Int) := by omega
            obtain ⟨e, rfl⟩ : ∃ e, wv = e + 1 := ⟨wv - 1, by omega⟩
            have he10 : e ≤ 10 := by omega
            go_wp2_with (fail)
            obtain ⟨p, rfl⟩ : ∃ p, gk = p + 1 := ⟨gk - 1, by omega⟩
            go_roundg p
            case rel => exact ⟨i + 1, ms + 2 ^ e, by rw [ms_eq he10 hms], by go_num, by omega, ⟨by rw [wsum_take (by rw [HL.out]; exact him), HWV.out, if_neg (by omega), Nat.add_sub_cancel, ← HMS.out]⟩, ⟨mark_step (by rw [HL.out]; exact him) HWV.out HCV.out RM.out⟩, ⟨RW2.out.far (by show gw ≠ gm; omega) _⟩, ⟨HB2.out.setCell (by show w.heap.size ≤ gm; omega) _⟩⟩
            case measure => omega
        · obtain rfl : i = m := by omega
          have hm' := HMS.out
          rw [List.take_of_length_le (by rw [HL.out]; exact Nat.le_refl _)] at hm'
          have hS := HS.out
          have hLow := HLOW.out
          have hp2 := Nat.two_pow_pos (last - 1)
          have h3 : 2 ^ b ≤ 2 ^ 11 := Nat.pow_le_pow_right (by decide) hb
          obtain ⟨e, rfl⟩ : ∃ e, last = e + 1 := ⟨last - 1, by omega⟩
          rw [Nat.add_sub_cancel] at hS hp2
          have hms0 : ms ≠ 0 := by have := Nat.two_pow_pos (b - 1); omega
          obtain ⟨z1, hz1⟩ : ∃ z : Int, z = 32 - (b : Int) := ⟨_, rfl⟩
          have HZ1 : Aside0 (bits_LeadingZeros32.f (ms : Int) = some z1) := ⟨by
            rw [lz32 ms (by omega) hms0, log_of (n := ms) (k := b - 1) (by omega) (by rw [show b - 1 + 1 = b by omega]; omega)]
            congr 1
            omega⟩
          have ez1 : (32 : Int) - z1 = (b : Int) := by omega
          have he10 : e ≤ 10 := by
            rcases Nat.lt_or_ge 10 e with h | h
            · have : 2 ^ 11 ≤ 2 ^ e := Nat.pow_le_pow_right (by decide) h
              have := Nat.two_pow_pos (b - 1)
              omega
            · exact h
          obtain ⟨z2, hz2⟩ : ∃ z : Int, z = 31 - (e : Int) := ⟨_, rfl⟩
          have h4 : 2 ^ e ≤ 2 ^ 10 := Nat.pow_le_pow_right (by decide) he10
          obtain ⟨lv, hlv⟩ : ∃ lv, 2 ^ e = lv := ⟨_, rfl⟩
          have HZ2 : Aside0 (bits_LeadingZeros32.f ((lv : Nat) : Int) = some z2) := ⟨by
            rw [← hlv, lz32 (2 ^ e) (by omega) (by omega), Nat.log2_two_pow, hz2]⟩
          have ez2 : (31 : Int) - z2 = (e : Int) := by omega
          have c5 : ((2 : Int) ^ b) = ((2 ^ b : Nat) : Int) := by rw [Int.natCast_pow]; rfl
          have c6 : ((2 : Int) ^ e) = ((lv : Nat) : Int) := by rw [← hlv, Int.natCast_pow]; rfl
          have el1 : ((2 : Int) ^ b % 4294967296 - (ms : Int)) % 4294967296 = (lv : Int) := by rw [c5]; omega
          have el2 : ((2 : Int) ^ b - (ms : Int)) % 4294967296 = (lv : Int) := by rw [c5]; omega
          have el3 : (2 : Int) ^ e % 4294967296 = (lv : Int) := by rw [c6]; omega
          have el4 : (2 : Int) ^ b ≤ 2048 := by rw [c5]; omega
          have el5 : 0 < lv := by omega
          obtain ⟨pv, hpv⟩ : ∃ pv, 2 ^ b = pv := ⟨_, rfl⟩
          have EL7 : Aside0 (wrap64 ((2 : Int) ^ b) = (pv : Int)) := ⟨by rw [c5, ← hpv]; unfold wrap64; omega⟩
          have el7 : pv ≤ 2048 := by omega
          have el8 : ((ms : Int) == 0) = false := by simp; omega
          have el6 : lv ≤ 1024 := by omega
          have HLV := Aside0.mk hlv
          clear hm' hS hLow hms0 hz1 hz2 hlv hpv c5 c6 hp2 h3 h4
          have c3 : ¬ ((i : Int) < (i : Int)) := by omega
          obtain ⟨cl, hcl⟩ : ∃ x, l.count (e + 1) = x := ⟨_, rfl⟩
          obtain ⟨c1, hc1⟩ : ∃ x, (l ++ [e + 1]).count 1 = x := ⟨_, rfl⟩
          have hcl2 : cl ≤ 128 := by
            have h1 : l.count (e + 1) ≤ l.length := List.count_le_length
            rw [HL.out] at h1
            omega
          have hc2 : (2 : Int) ≤ (c1 : Int) := by have := HC2.out; omega
          have qe : Go.bits BinOp.and IntKind.u32 (c1 : Int) 1 = 0 := even_and (by have := HEV.out; omega) (by
            have h1 : (l ++ [e + 1]).count 1 ≤ (l ++ [e + 1]).length := List.count_le_length
            simp only [List.length_append, HL.out, List.length_singleton] at h1
            omega)
          have HCL := Aside0.mk hcl
          have HC1 := Aside0.mk hc1
          have RM := Aside0.mk (show RowF wr gm 149 13 (fun j => .int .u32 ((l.count j : Nat) : Int)) by
            have := RM.out
            rw [List.take_of_length_le (by rw [HL.out]; exact Nat.le_refl _)] at this
            exact this)
          have sW := RW2.out.cell i (by omega)
          have fW := RW2.out.frozen i
          clear hcl hc1
          go_wp2_with (first
            | ((with_reducible refine gate_dst (N := 320) rfl ?_); rw [EL7.out])
            | (go_at_call 75; (with_reducible refine (bits_LeadingZeros32.calls (ms : Int) _ _ HZ1.out).mono ?_); rintro e1 w1 ⟨rfl, ⟨n1, rfl⟩⟩)
            | (go_at_call 75; (with_reducible refine (bits_LeadingZeros32.calls (lv : Int) _ _ HZ2.out).mono ?_); rintro e1 w1 ⟨rfl, ⟨n2, rfl⟩⟩)
            | ((with_reducible refine gate_store (t := 5) (p := 352) (v := .tmp 351) rfl ?_); refine store_event (w1 := (wr.drewN (n1 + n2)).setCell ⟨gw, i, none⟩ (.int .u8 ((e : Int) + 1))) rfl rfl rfl ?hr ?_; (case hr => first | (go_simp; done) | (go_simp; rfl)); intro w5 hq5; have hw5 := hq5.symm; clear hq5; have RW5 := Aside0.mk (show RowF w5 gw 144 256 _ from hw5 ▸ (show RowF (wr.drewN (n1 + n2)) gw 144 256 _ from RW2.out).set i (.int .u8 ((e : Int) + 1))); have RM5 := Aside0.mk (show RowF w5 gm 149 13 _ from hw5 ▸ (show RowF (wr.drewN (n1 + n2)) gm 149 13 _ from RM.out).far (p := ⟨gw, i, none⟩) (by show gm ≠ gw; omega) (.int .u8 ((e : Int) + 1))); have HB5 := Aside0.mk (show Below w.heap.size w w5 from hw5 ▸ (pw_below_drewN HB2.out _).setCell (p := ⟨gw, i, none⟩) (by show w.heap.size ≤ gw; omega) _); have sM5 : w5.cell? ⟨gm, e + 1, none⟩ = some (.int .u32 (cl : Int)) := HCL.out ▸ RM5.out.cell (e + 1) (by omega); have fM5 := RM5.out.frozen (e + 1); clear hw5)
            | ((with_reducible refine gate_store (t := 87) (p := 360) (v := .tmp 359) rfl ?_); refine store_event (w1 := w5.setCell ⟨gm, e + 1, none⟩ (.int .u32 ((cl : Int) + 1))) rfl rfl rfl ?hr ?_; (case hr => first | (go_simp; done) | (go_simp; rfl)); intro w6 hq6; have hw6 := hq6.symm; clear hq6; have RW6 := Aside0.mk (show RowF w6 gw 144 256 _ from hw6 ▸ RW5.out.far (p := ⟨gm, e + 1, none⟩) (by show gw ≠ gm; omega) (.int .u32 ((cl : Int) + 1))); have RM6 := Aside0.mk (show RowF w6 gm 149 13 (fun j => .int .u32 (((l ++ [e + 1]).count j : Nat) : Int)) from hw6 ▸ last_mark HCL.out RM5.out); have HB6 := Aside0.mk (show Below w.heap.size w w6 from hw6 ▸ HB5.out.setCell (p := ⟨gm, e + 1, none⟩) (by show w.heap.size ≤ gm; omega) _); have s16 : w6.cell? ⟨gm, 1, none⟩ = some (.int .u32 (c1 : Int)) := HC1.out ▸ RM6.out.cell 1 (by omega); clear hw6))
          obtain ⟨L, hL⟩ : ∃ L, l ++ [e + 1] = L := ⟨_, rfl⟩
          rw [hL] at RM6
          rw [hL]
          have HLL := Aside0.mk hL
          have HSL : Aside0 (wsum L = 2 ^ b) := ⟨by rw [← hL, wsum_append]; have := HS.out; simp only [wsum]; simpa using this⟩
          have HLen : Aside0 (L.length = i + 1) := ⟨by rw [← hL, List.length_append, HL.out]; rfl⟩
          have H11L : Aside0 (∀ j, j < i + 1 → L.getD j 0 ≤ 11) := ⟨fun j hj => by
            rw [← hL]
            rcases Nat.lt_or_ge j i with h | h
            · have := H11.out j h
              rw [List.getD_eq_getElem?_getD, List.getElem?_append_left (by rw [HL.out]; exact h), ← List.getD_eq_getElem?_getD]
              exact this
            · obtain rfl : j = i := by omega
              rw [List.getD_eq_getElem?_getD, List.getElem?_append_right (by rw [HL.out]; exact Nat.le_refl _), HL.out, Nat.sub_self]
              show e + 1 ≤ 11
              omega⟩
          have RW6 : Aside0 (RowF w6 gw 144 256 (fun j => .int .u8 (if j < i + 1 then ((L.getD j 0 : Nat) : Int) else if j < 2 * k then nib D off j else 0))) := ⟨RW6.out.congr (fun j hj => by
            rw [← hL]
            by_cases h : j = i
            · subst h
              rw [if_pos rfl, if_pos (by omega), List.getD_eq_getElem?_getD, List.getElem?_append_right (by rw [HL.out]; exact Nat.le_refl _), HL.out, Nat.sub_self]
              rfl
            · rw [if_neg h]
              by_cases h2 : j < i + 1
              · rw [if_pos h2, if_pos (by have := HM.out; have := HHF.out; omega), HNIB.out j (by omega), List.getD_eq_getElem?_getD, List.getD_eq_getElem?_getD, List.getElem?_append_left (by rw [HL.out]; omega)]
              · rw [if_neg h2])⟩
          clear hL RM5 RW5 RM RW2 HB2 HB5 sW fW s16 sM5 fM5 el1 el2 el3 el4 el7 el8 qe hc2 ez1 ez2
          go_loopg [32, 33] b (fun kq a1 a2 w' => ∃ i4 nx : Nat, a1 = .int .u32 nx ∧ a2 = .int .i64 i4 ∧ i4 + kq = b ∧ Aside0 (nx = bas L i4) ∧ Aside0 (RowF w' gm 149 13 (fun j => .int .u32 ((if 1 ≤ j ∧ j ≤ i4 then bas L (j - 1) else L.count j : Nat) : Int))) ∧
            Aside0 (RowF w' gw 144 256 (fun j => .int .u8 (if j < i + 1 then ((L.getD j 0 : Nat) : Int) else if j < 2 * k then nib D off j else 0))) ∧ Aside0 (Below w.heap.size w w'))
          case atStart => exact ⟨0, 0, rfl, rfl, by omega, ⟨rfl⟩, ⟨RM6.out.congr (fun j hj => by rw [if_neg (by omega)])⟩, RW6, HB6⟩
          case round =>
            clear RM6 RW6 HB6
            obtain ⟨i4, nx, rfl, rfl, hik4, HNX, RM6, RW6, HB6⟩ := hrel
            by_cases hi4 : i4 < b
            · have c7 : ((i4 : Int) < (b : Int)) := by omega
              obtain ⟨cw, hcw⟩ : ∃ x, L.count (i4 + 1) = x := ⟨_, rfl⟩
              have hcw2 : cw ≤ 129 := by
                have h1 : L.count (i4 + 1) ≤ L.length := List.count_le_length
                rw [HLen.out] at h1
                omega
              have hi10 : i4 ≤ 10 := by omega
              have hnx : nx ≤ 2048 := by
                have h1 := bas_le L i4
                have := HNX.out
                have h3 : 2 ^ b ≤ 2 ^ 11 := Nat.pow_le_pow_right (by decide) hb
                rw [HSL.out] at h1
                omega
              have sM : wr.cell? ⟨gm, i4 + 1, none⟩ = some (.int .u32 (cw : Int)) := by
                have := RM6.out.cell (i4 + 1) (by omega)
                rw [if_neg (by omega), hcw] at this
                exact this
              have fM := RM6.out.frozen (i4 + 1)
              have HCW := Aside0.mk hcw
              clear hcw
              go_wp2_with (fail)
              obtain ⟨p, rfl⟩ : ∃ p, gk = p + 1 := ⟨gk - 1, by omega⟩
              go_roundg p
              case rel => exact ⟨i4 + 1, nx + cw * 2 ^ i4, by rw [nx_eq hi10 hnx hcw2], by go_num, by omega, ⟨by have := HNX.out; show _ = bas L i4 + L.count (i4 + 1) * 2 ^ i4; rw [HCW.out, this]⟩, ⟨bas_step HNX.out RM6.out⟩, ⟨RW6.out.far (by show gw ≠ gm; omega) _⟩, ⟨HB6.out.setCell (by show w.heap.size ≤ gm; omega) _⟩⟩
              case measure => omega
            · obtain rfl : b = i4 := by omega
              have c7 : ¬ ((b : Int) < (b : Int)) := by omega
              obtain ⟨m1, hm1⟩ : ∃ m1 : Nat, (i : Int) + 1 = (m1 : Int) := ⟨i + 1, by omega⟩
              rw [hm1]
              have c8 : ((m1 : Int) ≤ 256) := by omega
              have HM1 := Aside0.mk (show i + 1 = m1 by omega)
              clear hm1
              go_wp2_with (fail)
              have hgt : gt < w.heap.size := by
                obtain ⟨g, c', e', -, h2, -⟩ := Kd.R_form HT.out (by have := (Kd.R_reads' HT.out).1; omega)
                injection e' with e1
                injection e1 with e1
                injection e1 with e1
                omega
              have HG0 := Aside0.mk (below_grown HB6.out (some gt))
              have HT6 := Aside0.mk (Kd.R_below HT.out HB6.out)
              have HT0 := Aside0.mk (Kd.R_reads' HT.out).1
              go_loopg [394] m1 (fun kq a1 w' => ∃ s : Nat, a1 = .int .i64 s ∧ s + kq = m1 ∧ Aside0 (RowF w' gm 149 13 (fun j => .int .u32 ((if 1 ≤ j ∧ j ≤ b then bas L (j - 1) + (L.take s).count j * 2 ^ (j - 1) else L.count j : Nat) : Int))) ∧
                Aside0 (RowF w' gw 144 256 (fun j => .int .u8 (if j < i + 1 then ((L.getD j 0 : Nat) : Int) else if j < 2 * k then nib D off j else 0))) ∧ Aside0 (w.grownBy w' (some gt)) ∧
                ∃ tab, Aside0 (Kd.R (Kd.int .u16) 103 w' base (fun k => k ≠ rb) (.slice (some ⟨gt, 0, none⟩) 2048 ct) tab) ∧ Aside0 (Fills L b s tab))
              case atStart => exact ⟨0, rfl, by omega, ⟨RM6.out.congr (fun j hj => by simp only [List.take_zero, List.count_nil, Nat.zero_mul, Nat.add_zero])⟩, RW6, HG0, T0, HT6, ⟨⟨HT0.out.symm, fun s hs => by omega⟩⟩⟩
              case round =>
                clear RM6 RW6 HB6 HG0 HT6
                obtain ⟨s, rfl, hsk, RM6, RW6, HG0, tab, HT6, HFI⟩ := hrel
                by_cases hsm : s < m1
                · have c9 : ((s : Int) < (m1 : Int)) := by omega
                  obtain ⟨wv, hwv⟩ : ∃ x, L.getD s 0 = x := ⟨_, rfl⟩
                  have sW : wr.cell? ⟨gw, s, none⟩ = some (.int .u8 (wv : Int)) := by
                    have := RW6.out.cell s (by omega)
                    rw [if_pos (by have := HM1.out; omega), hwv] at this
                    exact this
                  have HWV := Aside0.mk hwv
                  have hw11 : wv ≤ 11 := hwv ▸ H11L.out s (by have := HM1.out; omega)
                  clear hwv
                  by_cases hw0 : wv = 0
                  · subst hw0
                    go_wp2_with (fail)
                    obtain ⟨p, rfl⟩ : ∃ p, gk = p + 1 := ⟨gk - 1, by omega⟩
                    go_roundg p
                    case rel => exact ⟨s + 1, by go_num, by omega, ⟨RM6.out.congr (fun j hj => mark_zero (by have := HLen.out; have := HM1.out; omega) HWV.out)⟩, RW6, HG0, tab, HT6, ⟨fills_zero HWV.out HFI.out⟩⟩
                    case measure => omega
                  · obtain ⟨f, rfl⟩ : ∃ f, wv = f + 1 := ⟨wv - 1, by omega⟩
                    have hs1 : s < L.length := by have := HLen.out; have := HM1.out; omega
                    have hfb : f + 1 ≤ b := w_le HSL.out hb0 (by rw [HLL.out.symm]; exact HC2.out) hs1 HWV.out
                    have hf10 : f ≤ 10 := by omega
                    obtain ⟨st, hst⟩ : ∃ x, place L s = x := ⟨_, rfl⟩
                    have hpl : st + 2 ^ f ≤ 2 ^ b := by rw [← hst]; exact place_le HSL.out hs1 HWV.out
                    have h3 : 2 ^ b ≤ 2 ^ 11 := Nat.pow_le_pow_right (by decide) hb
                    obtain ⟨ln, hln⟩ : ∃ x, 2 ^ f = x := ⟨_, rfl⟩
                    have hl2 : st + ln ≤ 2048 := by omega
                    have hl0 : 0 < ln := by have := Nat.two_pow_pos f; omega
                    have sM : wr.cell? ⟨gm, f + 1, none⟩ = some (.int .u32 (st : Int)) := by
                      have := RM6.out.cell (f + 1) (by omega)
                      rw [if_pos (by omega), Nat.add_sub_cancel] at this
                      rw [← hst]
                      unfold place
                      rw [HWV.out, Nat.add_sub_cancel]
                      exact this
                    have fM := RM6.out.frozen (f + 1)
                    have hgk : s + gk = m1 := hsk
                    obtain ⟨gk5, hgk5⟩ : ∃ x, gk = x := ⟨_, rfl⟩
                    have HST := Aside0.mk hst
                    have HLN := Aside0.mk hln
                    have c10 : ((2 : Int) ^ f) % 4294967296 = (ln : Int) := by
                      have h5 : ((2 ^ f : Nat) : Int) = (2 : Int) ^ f := by rw [Int.natCast_pow]; rfl
                      rw [← h5, hln]
                      omega
                    have hs128 : s ≤ 128 := by have := HM1.out; omega
                    clear hst hln hpl h3
                    go_wp2_with (fail)
                    rw [c10, tval_eq (L := L) hs128 hfb hb HWV.out]
                    obtain ⟨tv, htv⟩ : ∃ tv, entry L b s = tv := ⟨_, rfl⟩
                    rw [htv]
                    have HTV := Aside0.mk htv
                    clear htv c10
                    go_loopg [40] ln (fun kq a1 w' => ∃ j : Nat, a1 = .int .u32 j ∧ j + kq = ln ∧ Aside0 (RowF w' gm 149 13 (fun j => .int .u32 ((if 1 ≤ j ∧ j ≤ b then bas L (j - 1) + (L.take s).count j * 2 ^ (j - 1) else L.count j : Nat) : Int))) ∧
                      Aside0 (RowF w' gw 144 256 (fun j => .int .u8 (if j < i + 1 then ((L.getD j 0 : Nat) : Int) else if j < 2 * k then nib D off j else 0))) ∧ Aside0 (w.grownBy w' (some gt)) ∧
                      ∃ tab, Aside0 (Kd.R (Kd.int .u16) 103 w' base (fun k => k ≠ rb) (.slice (some ⟨gt, 0, none⟩) 2048 ct) tab) ∧ Aside0 (Fills L b s tab ∧ ∀ q, q < j → tab.getD (st + q) 0 = tv))
                    case atStart => exact ⟨0, rfl, by omega, RM6, RW6, HG0, tab, HT6, ⟨HFI.out, fun q hq => by omega⟩⟩
                    case round =>
                      clear RM6 RW6 HG0 HT6 HFI sM fM sW
                      obtain ⟨j, rfl, hjk, RM6, RW6, HG0, tab, HT6, HFI⟩ := hrel
                      by_cases hjl : j < ln
                      · have c11 : ((j : Int) < (ln : Int)) := by omega
                        have hi2 : st + j < 2048 := by omega
                        have c12 : ((st : Int) + (j : Int) < 2048) := by omega
                        go_wp2_with (first
                          | ((with_reducible refine gate_store (t := 103) (p := 427) (v := .tmp 426) rfl ?_); refine St.R_storeW (Kd.int .u16) (w0 := wr) base rfl rfl 103 (.tmp 427) (.tmp 426) rfl 103 (g := gt) (n := 2048) (cap := ct) (o' := st + j) (st + j) tab tv (.int .u16 tv) [.int .u16 tv] (fun k => k ≠ rb) (fun _ => False) rfl (Nat.mul_one _).symm rfl rfl size103 one1' HT6.out hi2 rfl rfl (fun _ hk => hk.elim) (Below.refl _ _) ?_; intro w7 ho hbl hg; have HT7 := Aside0.mk ho; have HG7 := Aside0.mk (grown_trans HG0.out hg); have RM7 := Aside0.mk (RM6.out.grown hg (by simp; omega)); have RW7 := Aside0.mk (RW6.out.grown hg (by simp; omega)); clear ho hbl hg))
                        obtain ⟨p, rfl⟩ : ∃ p, gk = p + 1 := ⟨gk - 1, by omega⟩
                        go_roundg p
                        case rel => exact ⟨j + 1, by go_num, by omega, RM7, RW7, HG7, tab.set (st + j) tv, HT7, ⟨fills_set HSL.out hs1 HWV.out HST.out (by rw [HLN.out]; exact hjl) hi2 HFI.out⟩⟩
                        case measure => omega
                      · obtain rfl : j = ln := by omega
                        have c11 : ¬ ((j : Int) < (j : Int)) := by omega
                        have sM : wr.cell? ⟨gm, f + 1, none⟩ = some (.int .u32 (st : Int)) := by
                          have := RM6.out.cell (f + 1) (by omega)
                          rw [if_pos (by omega), Nat.add_sub_cancel] at this
                          rw [← HST.out]
                          unfold place
                          rw [HWV.out, Nat.add_sub_cancel]
                          exact this
                        have fM := RM6.out.frozen (f + 1)
                        go_wp2_with (fail)
                        go_roundg (gk5 - 1)
                        case rel => exact ⟨s + 1, by go_num, by omega, ⟨mark2_step hs1 HWV.out HST.out HLN.out hfb RM6.out⟩, ⟨RW6.out.far (by show gw ≠ gm; omega) _⟩, ⟨grown_far HG0.out (by show w.heap.size ≤ gm; omega) _⟩, tab, ⟨Kd.R_grown1 HT6.out rfl (grown_one wr ⟨gm, f + 1, none⟩ _) (by simp [Value.ownBlock]; omega)⟩, ⟨fills_done HWV.out (by rw [HST.out]; exact HTV.out ▸ HLN.out ▸ HFI.out)⟩⟩
                        case measure => omega
                · obtain rfl : s = m1 := by omega
                  have c9 : ¬ ((s : Int) < (s : Int)) := by omega
                  go_wp2_with (fail)
                  have hj2 := HJ.out.2
                  refine bodyPost_ret (v := .tuple #[.int .i64 (b : Int), .int .i64 (o2 : Int), .nilIface]) (by simp [results, Tryd.results62, go_sem]) rfl ?_
                  rw [HLL.out]
                  exact ⟨by rw [hj2, show ((off + 1 + k : Nat) : Int) = (off : Int) + 1 + (k : Int) by omega], tab, HT6.out, by rw [Int.toNat_natCast, HLen.out, HM1.out]; exact HFI.out, HG0.out⟩
end Go.Proofs.YtopadgohinoomaaDoor.Cx
