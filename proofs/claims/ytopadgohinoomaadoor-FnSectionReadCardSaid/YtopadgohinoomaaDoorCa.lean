/-
Plain laws of a bit reader that goes backward: the number that bytes are, and what the reader's bits say of it.
-/
namespace Go.Proofs.YtopadgohinoomaaDoor.Cx
/-- Bytes, from the lowest one on, as one number. -/
def num : List Int → Nat
  | [] => 0
  | d :: r => d.toNat + 256 * num r
def Bytes (D : List Int) : Prop := ∀ d ∈ D, 0 ≤ d ∧ d ≤ 255
theorem Bytes.get {D : List Int} (h : Bytes D) (i : Nat) : 0 ≤ D.getD i 0 ∧ D.getD i 0 ≤ 255 := by
  rw [List.getD_eq_getElem?_getD]
  rcases Nat.lt_or_ge i D.length with hi | hi
  · rw [List.getElem?_eq_getElem hi]
    exact h _ (List.getElem_mem hi)
  · rw [List.getElem?_eq_none hi]
    exact ⟨Int.le_refl _, by decide⟩
theorem Bytes.append {A B : List Int} (h : Bytes A) (k : Bytes B) : Bytes (A ++ B) := by
  intro d hd
  rcases List.mem_append.1 hd with h1 | h1
  · exact h d h1
  · exact k d h1
theorem num_drop (D : List Int) (i : Nat) (h : i < D.length) : num (D.drop i) = (D.getD i 0).toNat + 256 * num (D.drop (i + 1)) := by
  rw [List.drop_eq_getElem_cons h, List.getD_eq_getElem?_getD, List.getElem?_eq_getElem h]
  rfl
theorem num_append (A B : List Int) : num (A ++ B) = num A + 256 ^ A.length * num B := by
  induction A with
  | nil => simp [num]
  | cons a A ih =>
    simp only [List.cons_append, num, ih, List.length_cons, Nat.pow_succ, Nat.mul_add]
    have : 256 ^ A.length * 256 * num B = 256 * (256 ^ A.length * num B) := by rw [Nat.mul_comm (256 ^ A.length) 256, Nat.mul_assoc]
    omega
theorem num_lt {D : List Int} (h : Bytes D) : num D < 256 ^ D.length := by
  induction D with
  | nil => simp [num]
  | cons d D ih =>
    have h1 := h d List.mem_cons_self
    have h2 := ih (fun x hx => h x (List.mem_cons_of_mem _ hx))
    simp only [num, List.length_cons, Nat.pow_succ]
    omega
theorem num_div {D : List Int} (h : Bytes D) (i : Nat) : num D / 2 ^ (8 * i) = num (D.drop i) := by
  induction i generalizing D with
  | zero => simp
  | succ i ih =>
    cases D with
    | nil => simp [num]
    | cons d D =>
      have h1 := h d List.mem_cons_self
      rw [List.drop_succ_cons, ← ih (fun x hx => h x (List.mem_cons_of_mem _ hx)), show 8 * (i + 1) = 8 + 8 * i by omega, Nat.pow_add, ← Nat.div_div_eq_div_mul]
      congr 1
      simp only [num]
      omega

/-- The reader's numbers: p bits of the data are still to come, of which 'cnt' stand lowest in 'bits'. -/
def RdOk (D : List Int) (off bits cnt p : Nat) : Prop := p = 8 * off + cnt ∧ off ≤ D.length ∧ bits < 4294967296 ∧ bits % 2 ^ cnt = num (D.drop off) % 2 ^ cnt
theorem or_byte (x d : Nat) (hd : d < 256) : (x * 256) ||| d = x * 256 + d := by
  have := Nat.two_pow_add_eq_or_of_lt (i := 8) (show d < 2 ^ 8 by omega) x
  rw [Nat.mul_comm, show (256 : Nat) = 2 ^ 8 by rfl]
  exact this.symm
theorem key256 (x c d : Nat) (hd : d < 256) : (x * 256 + d) % (c * 256) = (x % c) * 256 + d := by
  have h1 : (x * 256 + d) % 256 = d := by omega
  have h2 : (x * 256 + d) / 256 = x := by omega
  rw [Nat.mul_comm c 256, Nat.mod_mul, h1, h2]
  omega
theorem RdOk.step {D : List Int} {off bits cnt p : Nat} (hD : Bytes D) (h : RdOk D off bits cnt p) (h0 : 0 < off) (hc : cnt ≤ 24) :
    RdOk D (off - 1) ((bits * 256 % 4294967296) ||| (D.getD (off - 1) 0).toNat) (cnt + 8) p := by
  obtain ⟨hp, ho, hb, he⟩ := h
  have hd := hD.get (off - 1)
  have hn := num_drop D (off - 1) (by omega)
  rw [show off - 1 + 1 = off by omega] at hn
  generalize hg : (D.getD (off - 1) 0).toNat = d at *
  have hd' : d < 256 := by omega
  have e1 : bits * 256 % 4294967296 = (bits % 16777216) * 256 := by omega
  rw [e1, or_byte _ _ hd']
  refine ⟨by omega, by omega, by omega, ?_⟩
  have hpow : 2 ^ (cnt + 8) = 2 ^ cnt * 256 := by rw [Nat.pow_add]
  have h24 : (2 : Nat) ^ 24 = 2 ^ cnt * 2 ^ (24 - cnt) := by rw [← Nat.pow_add]; congr 1; omega
  have hm : (bits % 16777216) % 2 ^ cnt = bits % 2 ^ cnt := by
    rw [show (16777216 : Nat) = 2 ^ 24 from by decide, h24]
    exact Nat.mod_mul_right_mod (bits) (2 ^ cnt) (2 ^ (24 - cnt))
  have key : ∀ x : Nat, (x * 256 + d) % (2 ^ cnt * 256) = (x % 2 ^ cnt) * 256 + d := fun x => key256 x (2 ^ cnt) d hd'
  rw [hpow, key, hm, he, hn, Nat.add_comm d, Nat.mul_comm 256, key]
theorem RdOk.take {D : List Int} {off bits cnt p : Nat} (h : RdOk D off bits cnt p) (n : Nat) (hn : n ≤ cnt) : RdOk D off bits (cnt - n) (p - n) := by
  obtain ⟨hp, ho, hb, he⟩ := h
  refine ⟨by omega, ho, hb, ?_⟩
  have hpow : 2 ^ cnt = 2 ^ (cnt - n) * 2 ^ n := by rw [← Nat.pow_add]; congr 1; omega
  have := congrArg (· % 2 ^ (cnt - n)) he
  simp only [hpow, Nat.mod_mul_right_mod] at this
  exact this
/-- The next b bits of the data below bit p, the highest one first. -/
def look (D : List Int) (p b : Nat) : Nat := num D / 2 ^ (p - b) % 2 ^ b
theorem RdOk.look {D : List Int} {off bits cnt p : Nat} (hD : Bytes D) (h : RdOk D off bits cnt p) (b : Nat) (hb : b ≤ cnt) : bits / 2 ^ (cnt - b) % 2 ^ b = look D p b := by
  obtain ⟨hp, ho, hbb, he⟩ := h
  have hpow : 2 ^ cnt = 2 ^ (cnt - b) * 2 ^ b := by rw [← Nat.pow_add]; congr 1; omega
  have h1 : ∀ x : Nat, x / 2 ^ (cnt - b) % 2 ^ b = x % 2 ^ cnt / 2 ^ (cnt - b) := by
    intro x
    rw [hpow, Nat.mod_mul_right_div_self]
  unfold Cx.look
  rw [h1, he, ← h1, ← num_div hD off, Nat.div_div_eq_div_mul, ← Nat.pow_add]
  congr 3
  omega
theorem look_lt (D : List Int) (p b : Nat) : look D p b < 2 ^ b := Nat.mod_lt _ (Nat.two_pow_pos b)
end Go.Proofs.YtopadgohinoomaaDoor.Cx
