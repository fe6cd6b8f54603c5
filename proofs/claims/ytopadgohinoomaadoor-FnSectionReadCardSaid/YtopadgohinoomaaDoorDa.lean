/-
Plain laws: a stream of codes is decoded to what was written.
Plain laws: spec.Stream's bytes as a number.
Plain laws: spec.WriteStream writes the codes of the literals as a stream.
Plain laws: spec.WriteStream's answer.
-/
import Derived.Test.YtopadgohinoomaaDoorCi
import Derived.Test.YtopadgohinoomaaDoorPC6
import Derived.Test.YtopadgohinoomaaDoorCk
import Derived.Test.YtopadgohinoomaaDoorPC7
import Derived.Laws.BitsLemmas
namespace Go.Proofs.YtopadgohinoomaaDoor.Cx
set_option linter.unusedVariables false
/-- How many bits codes have. -/
def clen : List (Nat × Nat) → Nat
  | [] => 0
  | c :: r => c.2 + clen r
/-- The bits of codes, one behind the other, as a number. -/
def cval : List (Nat × Nat) → Nat
  | [] => 0
  | c :: r => c.1 * 2 ^ clen r + cval r
def Fit (l : List (Nat × Nat)) : Prop := ∀ c ∈ l, c.1 < 2 ^ c.2
theorem cval_lt {l : List (Nat × Nat)} (h : Fit l) : cval l < 2 ^ clen l := by
  induction l with
  | nil => decide
  | cons c r ih =>
    have h1 := h c List.mem_cons_self
    have h2 := ih (fun x hx => h x (List.mem_cons_of_mem _ hx))
    simp only [cval, clen, Nat.pow_add]
    have h3 : (c.1 + 1) * 2 ^ clen r ≤ 2 ^ c.2 * 2 ^ clen r := Nat.mul_le_mul_right _ h1
    rw [Nat.add_mul, Nat.one_mul] at h3
    omega
theorem clen_append (a b : List (Nat × Nat)) : clen (a ++ b) = clen a + clen b := by
  induction a with
  | nil => simp [clen]
  | cons c a ih => simp only [List.cons_append, clen, ih]; omega
theorem cval_append (a b : List (Nat × Nat)) : cval (a ++ b) = cval a * 2 ^ clen b + cval b := by
  induction a with
  | nil => simp [cval]
  | cons c a ih =>
    simp only [List.cons_append, cval, ih, clen_append, Nat.add_mul, Nat.pow_add]
    rw [Nat.mul_assoc]
    omega
/-- The i-th code stands where it should. -/
theorem cval_at {l : List (Nat × Nat)} (h : Fit l) (i : Nat) (hi : i < l.length) (X : Nat) :
    (X * 2 ^ clen l + cval l) / 2 ^ clen (l.drop (i + 1)) % 2 ^ (l[i]).2 = (l[i]).1 := by
  have e : l = l.take i ++ l[i] :: l.drop (i + 1) := by rw [List.getElem_cons_drop, List.take_append_drop]
  have hc := h l[i] (List.getElem_mem hi)
  have hd : Fit (l.drop (i + 1)) := fun c hc => h c (List.mem_of_mem_drop hc)
  have h2 := cval_lt hd
  have e1 : clen l = clen (l.take i) + ((l[i]).2 + clen (l.drop (i + 1))) := by
    conv => lhs; rw [e, clen_append]
    rfl
  have e2 : cval l = cval (l.take i) * 2 ^ ((l[i]).2 + clen (l.drop (i + 1))) + ((l[i]).1 * 2 ^ clen (l.drop (i + 1)) + cval (l.drop (i + 1))) := by
    conv => lhs; rw [e, cval_append]
    rfl
  rw [e1, e2]
  generalize clen (l.drop (i + 1)) = R at *
  generalize cval (l.drop (i + 1)) = V at *
  generalize (l[i]).1 = c at *
  generalize (l[i]).2 = n at *
  have e3 : X * 2 ^ (clen (l.take i) + (n + R)) + (cval (l.take i) * 2 ^ (n + R) + (c * 2 ^ R + V)) = V + 2 ^ R * (c + 2 ^ n * (X * 2 ^ clen (l.take i) + cval (l.take i))) := by
    simp only [Nat.pow_add, Nat.mul_add]
    have a1 : X * (2 ^ clen (l.take i) * (2 ^ n * 2 ^ R)) = 2 ^ R * (2 ^ n * (X * 2 ^ clen (l.take i))) := by ac_rfl
    have a2 : cval (l.take i) * (2 ^ n * 2 ^ R) = 2 ^ R * (2 ^ n * cval (l.take i)) := by ac_rfl
    have a3 : c * 2 ^ R = 2 ^ R * c := Nat.mul_comm _ _
    rw [a1, a2, a3]
    omega
  rw [e3, Nat.add_mul_div_left _ _ (Nat.two_pow_pos R), Nat.div_eq_of_lt h2, Nat.zero_add, Nat.add_mul_mod_self_left, Nat.mod_eq_of_lt hc]
/-- The bytes from off on, m of them, are a stream of codes. -/
structure StreamAt (D : List Int) (off m : Nat) (cs : List (Nat × Nat)) : Prop where
  bytes : Bytes D
  fit : Fit cs
  split : ∃ A S B : List Int, D = A ++ (S ++ B) ∧ A.length = off ∧ S.length = m ∧ num S = 2 ^ clen cs + cval cs
  size : 8 * m ≤ clen cs + 8 ∧ clen cs < 8 * m
theorem log_of' {n k : Nat} (h1 : 2 ^ k ≤ n) (h2 : n < 2 ^ (k + 1)) : Nat.log2 n = k := by
  have h0 : n ≠ 0 := by have := Nat.two_pow_pos k; omega
  have a : Nat.log2 n < k + 1 := (Nat.log2_lt h0).2 h2
  have b : k ≤ Nat.log2 n := (Nat.le_log2 h0).2 h1
  omega
theorem StreamAt.top {D : List Int} {off m : Nat} {cs : List (Nat × Nat)} (h : StreamAt D off m cs) : Cx.top D (off + m - 1) = 8 * off + clen cs ∧ D.getD (off + m - 1) 0 ≠ 0 ∧ off + m ≤ D.length := by
  obtain ⟨hB, hF, ⟨A, S, B, rfl, hA, hS, hN⟩, h1, h2⟩ := h
  have hm : 0 < m := by omega
  have hBS : Bytes S := fun d hd => hB d (List.mem_append_right _ (List.mem_append_left _ hd))
  have hg : (A ++ (S ++ B)).getD (off + m - 1) 0 = S.getD (m - 1) 0 := by
    rw [List.getD_eq_getElem?_getD, List.getD_eq_getElem?_getD, List.getElem?_append_right (by omega), List.getElem?_append_left (by omega)]
    congr 2
    omega
  have hd := num_div hBS (m - 1)
  have hdr := num_drop S (m - 1) (by omega)
  have hz : S.drop m = [] := List.drop_of_length_le (by omega)
  rw [show m - 1 + 1 = m by omega, hz, num, Nat.mul_zero, Nat.add_zero] at hdr
  rw [hdr, hN] at hd
  have hv := cval_lt hF
  have hr := hBS.get (m - 1)
  have hlog : Nat.log2 (S.getD (m - 1) 0).toNat = clen cs - 8 * (m - 1) := by
    rw [← hd]
    apply log_of'
    · rw [Nat.le_div_iff_mul_le (Nat.two_pow_pos _), ← Nat.pow_add, show clen cs - 8 * (m - 1) + 8 * (m - 1) = clen cs by omega]
      omega
    · rw [Nat.div_lt_iff_lt_mul (Nat.two_pow_pos _), ← Nat.pow_add, show clen cs - 8 * (m - 1) + 1 + 8 * (m - 1) = clen cs + 1 by omega, Nat.pow_succ]
      omega
  have hpos : 0 < (S.getD (m - 1) 0).toNat := by
    rw [← hd]
    apply Nat.div_pos _ (Nat.two_pow_pos _)
    have : 2 ^ (8 * (m - 1)) ≤ 2 ^ clen cs := Nat.pow_le_pow_right (by decide) (by omega)
    omega
  refine ⟨?_, by rw [hg]; omega, by simp only [List.length_append]; omega⟩
  unfold Cx.top
  rw [hg, hlog]
  omega
theorem StreamAt.look {D : List Int} {off m b : Nat} {cs : List (Nat × Nat)} (h : StreamAt D off m cs) (i : Nat) (hi : i < cs.length) (hn : (cs[i]).2 ≤ b) (hp : b ≤ 8 * off + clen (cs.drop i)) :
    Cx.look D (8 * off + clen (cs.drop i)) b / 2 ^ (b - (cs[i]).2) = (cs[i]).1 := by
  obtain ⟨hB, hF, ⟨A, S, B, hD, hA, hS, hN⟩, h1, h2⟩ := h
  have hc := cval_at hF i hi
  have e1 : clen (cs.drop i) = (cs[i]).2 + clen (cs.drop (i + 1)) := by
    rw [List.drop_eq_getElem_cons hi]; rfl
  rw [e1] at hp ⊢
  generalize (cs[i]).2 = n at *
  generalize (cs[i]).1 = c at *
  generalize clen (cs.drop (i + 1)) = R at *
  unfold Cx.look
  have hb : 2 ^ b = 2 ^ (b - n) * 2 ^ n := by rw [← Nat.pow_add]; congr 1; omega
  rw [hb, Nat.mod_mul_right_div_self, Nat.div_div_eq_div_mul, ← Nat.pow_add, show 8 * off + (n + R) - b + (b - n) = 8 * off + R by omega, Nat.pow_add, ← Nat.div_div_eq_div_mul, num_div hB]
  have hdrop : D.drop off = S ++ B := by rw [hD, List.drop_append_of_le_length (by omega), List.drop_of_length_le (by omega), List.nil_append]
  rw [hdrop, num_append, hN, hS]
  have h256 : (256 : Nat) ^ m = 2 ^ (8 * m - clen cs) * 2 ^ clen cs := by
    rw [← Nat.pow_add, show 8 * m - clen cs + clen cs = 8 * m by omega, Nat.pow_mul]
  have e2 : 2 ^ clen cs + cval cs + 256 ^ m * num B = (1 + 2 ^ (8 * m - clen cs) * num B) * 2 ^ clen cs + cval cs := by
    rw [h256, Nat.add_mul, Nat.one_mul]
    have : 2 ^ (8 * m - clen cs) * 2 ^ clen cs * num B = 2 ^ (8 * m - clen cs) * num B * 2 ^ clen cs := by ac_rfl
    omega
  rw [e2]
  exact hc _
/-- The table tells the codes' literals. -/
def Tells (T : List Int) (b : Nat) (cs : List (Nat × Nat)) (xs : List Int) : Prop := cs.length = xs.length ∧ ∀ i (h : i < cs.length), 1 ≤ (cs[i]).2 ∧ (cs[i]).2 ≤ b ∧ 0 ≤ xs.getD i 0 ∧ ∀ y, y < 2 ^ (b - (cs[i]).2) → T.getD ((cs[i]).1 * 2 ^ (b - (cs[i]).2) + y) 0 = xs.getD i 0 * 256 + ((cs[i]).2 : Int)
theorem StreamAt.step {D T : List Int} {off m b : Nat} {cs : List (Nat × Nat)} {xs : List Int} (h : StreamAt D off m cs) (hT : Tells T b cs xs) (hb : b ≤ 11) (h2 : 2 ≤ off) (i : Nat) (hi : i < cs.length) :
    T.getD (Cx.look D (8 * off + clen (cs.drop i)) b) 0 = xs.getD i 0 * 256 + ((cs[i]).2 : Int) := by
  obtain ⟨g1, g2, g3, g4⟩ := hT.2 i hi
  have hl := h.look i hi g2 (by omega)
  obtain ⟨v, hv⟩ : ∃ v, Cx.look D (8 * off + clen (cs.drop i)) b = v := ⟨_, rfl⟩
  rw [hv] at hl ⊢
  have := g4 (v % 2 ^ (b - (cs[i]).2)) (Nat.mod_lt _ (Nat.two_pow_pos _))
  rw [← hl, Nat.mul_comm, Nat.div_add_mod] at this
  exact this
theorem StreamAt.pos {D T : List Int} {off m b : Nat} {cs : List (Nat × Nat)} {xs : List Int} (h : StreamAt D off m cs) (hT : Tells T b cs xs) (hb : b ≤ 11) (h2 : 2 ≤ off) (i : Nat) (hi : i ≤ cs.length) :
    Cx.pos D T b (Cx.top D (off + m - 1)) i = 8 * off + clen (cs.drop i) := by
  induction i with
  | zero => rw [Cx.pos, h.top.1, List.drop_zero]
  | succ i ih =>
    have hi' : i < cs.length := by omega
    rw [Cx.pos, ih (by omega), h.step hT hb h2 i hi']
    obtain ⟨g1, g2, g3, g4⟩ := hT.2 i hi'
    have e1 : clen (cs.drop i) = (cs[i]).2 + clen (cs.drop (i + 1)) := by
      rw [List.drop_eq_getElem_cons hi']; rfl
    rw [e1]
    omega
theorem StreamAt.sym {D T : List Int} {off m b : Nat} {cs : List (Nat × Nat)} {xs : List Int} (h : StreamAt D off m cs) (hT : Tells T b cs xs) (hb : b ≤ 11) (h2 : 2 ≤ off) (i : Nat) (hi : i < cs.length) :
    Cx.sym D T b (Cx.top D (off + m - 1)) i = xs.getD i 0 := by
  unfold Cx.sym
  rw [h.pos hT hb h2 i (by omega), h.step hT hb h2 i hi]
  obtain ⟨g1, g2, g3, g4⟩ := hT.2 i hi
  omega
theorem clen_pos {T : List Int} {b : Nat} {cs : List (Nat × Nat)} {xs : List Int} (hT : Tells T b cs xs) (i : Nat) (hi : i < cs.length) : 1 ≤ clen (cs.drop i) := by
  have e1 : clen (cs.drop i) = (cs[i]).2 + clen (cs.drop (i + 1)) := by
    rw [List.drop_eq_getElem_cons hi]; rfl
  have := (hT.2 i hi).1
  omega
end Go.Proofs.YtopadgohinoomaaDoor.Cx
namespace Go.Proofs.YtopadgohinoomaaDoor.Cx
open Go.RowKit Go.Proofs.YtopadgohinoomaaDoorW.PrintWords Go.Proofs.YtopadgohinoomaaDoor.PC
set_option linter.unusedVariables false
theorem num_set (l : List Int) (q : Nat) (v : Int) (h : q < l.length) : num (l.set q v) + 256 ^ q * (l.getD q 0).toNat = num l + 256 ^ q * v.toNat := by
  induction l generalizing q with
  | nil => simp at h
  | cons a l ih =>
    cases q with
    | zero => simp [num]; omega
    | succ q =>
      have := ih q (by simpa using h)
      simp only [List.set_cons_succ, num, List.getD_cons_succ, Nat.pow_succ]
      have a1 : 256 ^ q * 256 * (l.getD q 0).toNat = 256 * (256 ^ q * (l.getD q 0).toNat) := by ac_rfl
      have a2 : 256 ^ q * 256 * v.toNat = 256 * (256 ^ q * v.toNat) := by ac_rfl
      rw [a1, a2]
      omega
theorem num_zeros (n : Nat) : num (List.replicate n 0) = 0 := by
  induction n with
  | zero => rfl
  | succ n ih => rw [List.replicate_succ, num, ih]; rfl
theorem byte_of {S : List Int} (hB : Bytes S) (q : Nat) (h : q < S.length) : (S.getD q 0).toNat = num S / 2 ^ (8 * q) % 256 := by
  rw [num_div hB, num_drop S q h]
  have := hB.get q
  omega
/-- Bits, the highest one first, as a number. -/
def bval : List Nat → Nat
  | [] => 0
  | b :: r => b * 2 ^ r.length + bval r
theorem bval_append (a : List Nat) (x : Nat) : bval (a ++ [x]) = 2 * bval a + x := by
  induction a with
  | nil => simp [bval]
  | cons b a ih =>
    simp only [List.cons_append, bval, ih, List.length_append, List.length_singleton, Nat.pow_succ]
    have : b * (2 ^ a.length * 2) = 2 * (b * 2 ^ a.length) := by ac_rfl
    omega
theorem set_bytes {S : List Int} (hB : Bytes S) (q : Nat) {v : Int} (hv : 0 ≤ v ∧ v ≤ 255) : Bytes (S.set q v) := by
  intro d hd
  rcases List.mem_or_eq_of_mem_set hd with h | rfl
  · exact hB d h
  · exact hv
/-- One step: a bit is laid at place p, above which alone bits stand. -/
theorem bit_step {S : List Int} (hB : Bytes S) {V p bit : Nat} (hb : bit ≤ 1) (hN : num S = V * 2 ^ (p + 1)) (hp : p / 8 < S.length) :
    ∃ v : Int, Go.bits BinOp.or IntKind.u8 (S.getD (p / 8) 0) (((bit * 2 ^ (p % 8) : Nat) : Int) % 256) = v ∧ 0 ≤ v ∧ v ≤ 255 ∧ num (S.set (p / 8) v) = (2 * V + bit) * 2 ^ p := by
  have hr := hB.get (p / 8)
  have h7 : p % 8 ≤ 7 := by omega
  have hpow : 2 ^ (p % 8) ≤ 128 := Nat.pow_le_pow_right (n := 2) (by decide) h7
  obtain ⟨d, hd⟩ : ∃ d : Nat, S.getD (p / 8) 0 = (d : Int) := ⟨(S.getD (p / 8) 0).toNat, by omega⟩
  have hby := byte_of hB (p / 8) hp
  rw [hd, Int.toNat_natCast, hN, show p + 1 = 8 * (p / 8) + (p % 8 + 1) by omega, Nat.pow_add, Nat.mul_left_comm, Nat.mul_div_cancel_left _ (Nat.two_pow_pos _)] at hby
  have hbit : bit * 2 ^ (p % 8) ≤ 128 := by
    have : bit * 2 ^ (p % 8) ≤ 1 * 2 ^ (p % 8) := Nat.mul_le_mul_right _ hb
    omega
  have hm : ((bit * 2 ^ (p % 8) : Nat) : Int) % 256 = ((bit * 2 ^ (p % 8) : Nat) : Int) := by omega
  -- the byte is a multiple of 2^(r+1)
  obtain ⟨c, hc⟩ : ∃ c, d = c * 2 ^ (p % 8 + 1) := by
    refine ⟨d / 2 ^ (p % 8 + 1), ?_⟩
    have : d % 2 ^ (p % 8 + 1) = 0 := by
      rw [hby, show (256 : Nat) = 2 ^ (p % 8 + 1) * 2 ^ (7 - p % 8) by rw [← Nat.pow_add, show p % 8 + 1 + (7 - p % 8) = 8 by omega], Nat.mod_mul_right_mod, Nat.mul_mod_left]
    exact (Nat.div_mul_cancel (Nat.dvd_of_mod_eq_zero this)).symm
  have hor : d ||| bit * 2 ^ (p % 8) = d + bit * 2 ^ (p % 8) := by
    rw [hc]
    have hlt : bit * 2 ^ (p % 8) < 2 ^ (p % 8 + 1) := by
      rw [Nat.pow_succ]
      have : bit * 2 ^ (p % 8) ≤ 1 * 2 ^ (p % 8) := Nat.mul_le_mul_right _ hb
      have := Nat.two_pow_pos (p % 8)
      omega
    have := Nat.two_pow_add_eq_or_of_lt hlt c
    rw [Nat.mul_comm c]
    exact this.symm
  have hd255 : d ≤ 255 := by omega
  have hsum : d + bit * 2 ^ (p % 8) ≤ 255 := by
    rw [← hor]
    have := Nat.or_lt_two_pow (n := 8) (x := d) (y := bit * 2 ^ (p % 8)) (by omega) (by omega)
    omega
  refine ⟨((d + bit * 2 ^ (p % 8) : Nat) : Int), ?_, by omega, by omega, ?_⟩
  · rw [hd, hm, u8_or_nat _ _ (by omega) (by omega), hor]
  · have hs := num_set S (p / 8) ((d + bit * 2 ^ (p % 8) : Nat) : Int) hp
    rw [hd, Int.toNat_natCast, Int.toNat_natCast, hN, Nat.mul_add] at hs
    have e1 : 256 ^ (p / 8) * (bit * 2 ^ (p % 8)) = bit * 2 ^ p := by
      rw [show (256 : Nat) = 2 ^ 8 from rfl, ← Nat.pow_mul]
      conv => rhs; rw [show p = 8 * (p / 8) + p % 8 by omega, Nat.pow_add]
      ac_rfl
    rw [e1] at hs
    have e2 : V * 2 ^ (p + 1) = 2 * V * 2 ^ p := by rw [Nat.pow_succ]; ac_rfl
    rw [e2] at hs
    rw [Nat.add_mul]
    omega
theorem shl_nat' {x c : Nat} (hx : x * 2 ^ c < 4611686018427387904) (hc : c ≤ 60) : shl .i64 (x : Int) (c : Int) = ((x * 2 ^ c : Nat) : Int) := by
  unfold shl
  have h1 : min (c : Int).toNat IntKind.i64.bits = c := by
    rw [Int.toNat_natCast]
    have : IntKind.i64.bits = 64 := rfl
    omega
  have h2 : (x : Int) * 2 ^ c = ((x * 2 ^ c : Nat) : Int) := by rw [Int.natCast_mul, Int.natCast_pow]; rfl
  rw [h1, h2, IntKind.wrap_i64]
  omega
theorem shl_nat {x c : Nat} (hx : x ≤ 1) (hc : c ≤ 20) : shl .i64 (x : Int) (c : Int) = ((x * 2 ^ c : Nat) : Int) := by
  apply shl_nat' _ (by omega)
  have h1 : 2 ^ c ≤ 2 ^ 20 := Nat.pow_le_pow_right (by decide) hc
  have h2 : x * 2 ^ c ≤ 1 * 2 ^ 20 := Nat.mul_le_mul hx h1
  omega
theorem shr_nat {x c : Nat} (hc : c ≤ 60) : shr .i64 (x : Int) (c : Int) = ((x / 2 ^ c : Nat) : Int) := by
  unfold shr
  have h1 : min (c : Int).toNat IntKind.i64.bits = c := by
    rw [Int.toNat_natCast]
    have : IntKind.i64.bits = 64 := rfl
    omega
  rw [h1, Int.natCast_ediv, Int.natCast_pow]
  rfl
def ints (l : List Nat) : List Int := l.map (fun x : Nat => (x : Int))
theorem ints_length (l : List Nat) : (ints l).length = l.length := by simp [ints]
theorem rd_ints (l : List Nat) (i : Nat) : rd (ints l) (i : Int) = ((l.getD i 0 : Nat) : Int) := by
  unfold rd ints
  rw [Int.toNat_natCast, List.getD_eq_getElem?_getD, List.getD_eq_getElem?_getD, List.getElem?_map]
  cases l[i]? <;> rfl
theorem bval_take {l : List Nat} {i : Nat} (h : i < l.length) : bval (l.take (i + 1)) = 2 * bval (l.take i) + l.getD i 0 := by
  rw [take_step h, bval_append]
theorem rd_nat (S : List Int) (q : Nat) : rd S (q : Int) = S.getD q 0 := by unfold rd; rw [Int.toNat_natCast]
theorem stream_loop (l : List Nat) (hl : ∀ x ∈ l, x ≤ 1) (hn : l.length ≤ 100000000) (k : Nat) : ∀ (i : Nat) (S : List Int), i ≤ l.length → l.length - i < k → Bytes S → S.length = (l.length + 7) / 8 → num S = bval (l.take i) * 2 ^ (l.length - i) →
    ∃ R, spec_Stream.l0 k (ints l) S (ints l) (l.length : Int) (i : Int) = some R ∧ Bytes R ∧ R.length = (l.length + 7) / 8 ∧ num R = bval l := by
  induction k with
  | zero => intro i S h1 h2; omega
  | succ k ih =>
    intro i S h1 h2 hB hL hN
    unfold spec_Stream.l0
    by_cases h : i < l.length
    · obtain ⟨p, hp⟩ : ∃ p, l.length = p + 1 + i := ⟨l.length - 1 - i, by omega⟩
      have w1 : wrap64 (wrap64 (((ints l).length : Int) - 1) - (i : Int)) = (p : Int) := by rw [ints_length]; unfold wrap64; omega
      have w2 : wrap64 (Int.tdiv (p : Int) 8) = ((p / 8 : Nat) : Int) := by
        rw [Int.tdiv_eq_ediv_of_nonneg (by omega)]; unfold wrap64; omega
      have w3 : Int.tmod (p : Int) 8 = ((p % 8 : Nat) : Int) := by
        rw [Int.tmod_eq_emod_of_nonneg (by omega)]; omega
      have hbit : l.getD i 0 ≤ 1 := by
        rw [List.getD_eq_getElem?_getD, List.getElem?_eq_getElem h]
        exact hl _ (List.getElem_mem h)
      have hq : p / 8 < S.length := by rw [hL]; omega
      rw [show l.length - i = p + 1 by omega] at hN
      obtain ⟨v, e1, v0, v1, hnum⟩ := bit_step hB hbit hN hq
      have w4 : shl .i64 ((l.getD i 0 : Nat) : Int) ((p % 8 : Nat) : Int) = ((l.getD i 0 * 2 ^ (p % 8) : Nat) : Int) := shl_nat hbit (by omega)
      rw [if_pos (by omega), if_pos (by omega), if_pos (by rw [ints_length]; omega), w1, w2, w3, if_pos (by omega), if_pos (by omega), if_pos (by omega), rd_ints, w4, rd_nat, e1, Int.toNat_natCast]
      have w5 : wrap64 ((i : Int) + 1) = ((i + 1 : Nat) : Int) := by unfold wrap64; omega
      rw [w5]
      refine ih (i + 1) _ (by omega) (by omega) (set_bytes hB _ ⟨v0, v1⟩) (by rw [List.length_set]; exact hL) ?_
      rw [hnum, bval_take h, show l.length - (i + 1) = p by omega]
    · rw [if_neg (by omega)]
      have hi : i = l.length := by omega
      subst hi
      rw [List.take_length, Nat.sub_self, Nat.pow_zero, Nat.mul_one] at hN
      exact ⟨S, rfl, hB, hL, hN⟩
theorem stream_w (n : Nat) (hn : n ≤ 10000000) : wrap64 (Int.tdiv (wrap64 (((n + 1 : Nat) : Int) + 7)) 8) = (((n + 8) / 8 : Nat) : Int) := by
  have h1 : wrap64 (((n + 1 : Nat) : Int) + 7) = ((n + 8 : Nat) : Int) := by unfold wrap64; omega
  rw [h1, Int.tdiv_eq_ediv_of_nonneg (by omega)]
  clear h1
  unfold wrap64
  omega
/-- spec.Stream: the bits with a 1 ahead, as a number. -/
theorem stream_f (l : List Nat) (hl : ∀ x ∈ l, x ≤ 1) (hn : l.length ≤ 10000000) (k : Nat) (hk : l.length + 2 ≤ k) :
    ∃ R, spec_Stream.f k (ints l) = some R ∧ Bytes R ∧ R.length = (l.length + 8) / 8 ∧ num R = 2 ^ l.length + bval l := by
  have hc : ([1] : List Int) ++ ints l = ints (1 :: l) := rfl
  have hL := ints_length (1 :: l)
  unfold spec_Stream.f
  rw [Option.bind_some]
  rw [if_pos (by rw [ints_length]; simp only [List.length_singleton]; omega), Option.bind_some, hc]
  rw [hL, List.length_cons, stream_w _ hn, if_pos (Int.natCast_nonneg _), Int.toNat_natCast, if_pos (by omega)]
  have hz : Bytes (List.replicate ((l.length + 8) / 8) (0 : Int)) := by
    intro d hd
    rw [List.eq_of_mem_replicate hd]
    decide
  obtain ⟨R, h1, h2, h3, h4⟩ := stream_loop (1 :: l) (by intro x hx; rcases List.mem_cons.1 hx with rfl | h; exact Nat.le_refl _; exact hl x h) (by simp only [List.length_cons]; omega) k 0 (List.replicate ((l.length + 8) / 8) 0) (Nat.zero_le _) (by simp only [List.length_cons]; omega) hz (by rw [List.length_replicate, List.length_cons]) (by rw [num_zeros]; simp [bval])
  rw [List.length_cons] at h1
  refine ⟨R, h1, h2, by rw [h3, List.length_cons], ?_⟩
  rw [h4, bval, Nat.one_mul]
end Go.Proofs.YtopadgohinoomaaDoor.Cx
namespace Go.Proofs.YtopadgohinoomaaDoor.Cx
open Go.RowKit Go.Proofs.YtopadgohinoomaaDoorW.PrintWords Go.Proofs.YtopadgohinoomaaDoor.PC
set_option linter.unusedVariables false
/-- The n lowest bits of c, the highest one first. -/
def cbits (c : Nat) : Nat → List Nat
  | 0 => []
  | n + 1 => c / 2 ^ n % 2 :: cbits c n
def abits : List (Nat × Nat) → List Nat
  | [] => []
  | c :: r => cbits c.1 c.2 ++ abits r
theorem cbits_length (c n : Nat) : (cbits c n).length = n := by
  induction n with
  | zero => rfl
  | succ n ih => rw [cbits, List.length_cons, ih]
theorem cbits_val (c n : Nat) : bval (cbits c n) = c % 2 ^ n := by
  induction n with
  | zero => rw [cbits, bval, Nat.pow_zero, Nat.mod_one]
  | succ n ih =>
    rw [cbits, bval, cbits_length, ih, Nat.pow_succ, Nat.mod_mul]
    rw [Nat.mul_comm (2 ^ n)]
    omega
theorem bval_app (a b : List Nat) : bval (a ++ b) = bval a * 2 ^ b.length + bval b := by
  induction a with
  | nil => simp [bval]
  | cons x a ih =>
    simp only [List.cons_append, bval, ih, List.length_append, Nat.pow_add, Nat.add_mul]
    rw [Nat.mul_assoc]
    omega
theorem abits_length (l : List (Nat × Nat)) : (abits l).length = clen l := by
  induction l with
  | nil => rfl
  | cons c l ih => rw [abits, List.length_append, cbits_length, ih, clen]
theorem abits_val {l : List (Nat × Nat)} (h : Fit l) : bval (abits l) = cval l := by
  induction l with
  | nil => rfl
  | cons c l ih =>
    rw [abits, bval_app, cbits_val, abits_length, ih (fun x hx => h x (List.mem_cons_of_mem _ hx)), Nat.mod_eq_of_lt (h c List.mem_cons_self), cval]
theorem cbits_le (c n : Nat) : ∀ x ∈ cbits c n, x ≤ 1 := by
  induction n with
  | zero => intro x hx; cases hx
  | succ n ih =>
    intro x hx
    rcases List.mem_cons.1 hx with rfl | h
    · omega
    · exact ih x h
theorem abits_le (l : List (Nat × Nat)) : ∀ x ∈ abits l, x ≤ 1 := by
  induction l with
  | nil => intro x hx; cases hx
  | cons c l ih =>
    intro x hx
    rcases List.mem_append.1 hx with h | h
    · exact cbits_le _ _ x h
    · exact ih x h
theorem wrap_small (x : Int) (h1 : 0 ≤ x) (h2 : x ≤ 1000000000000) : wrap64 x = x := by unfold wrap64; omega
theorem ints_append (a b : List Nat) : ints a ++ ints b = ints (a ++ b) := by simp [ints]
theorem wrap_pred (n : Nat) (h : n ≤ 1000) : wrap64 (((n + 1 : Nat) : Int) - 1 - 1) = (n : Int) - 1 := by unfold wrap64; omega
theorem and_one (x : Nat) (h : x < 4611686018427387904) : Go.bits BinOp.and IntKind.i64 (x : Int) 1 = ((x % 2 : Nat) : Int) := by
  have h1 : (BitVec.ofInt 64 1).toNat = 2 ^ 1 - 1 := by decide
  have key : (BitVec.ofInt 64 (x : Int) &&& BitVec.ofInt 64 1).toNat = ((x : Int) % ((2 ^ 64 : Nat) : Int)).toNat % 2 ^ 1 := by
    rw [BitVec.toNat_and, BitVec.toNat_ofInt, h1, Nat.and_two_pow_sub_one_eq_mod]
  show IntKind.i64.wrap ((BitVec.ofInt 64 (x : Int) &&& BitVec.ofInt 64 1).toNat : Nat) = _
  rw [key, IntKind.wrap_i64]
  omega
theorem bits_loop (T : List S68) (b : Int) (X : List Int) (xl i : Int) (c : Nat) (hc : c < 4611686018427387904) (n : Nat) : ∀ (k : Nat) (acc : List Nat), n ≤ 60 → acc.length + n ≤ 100000000 →
    spec_WriteStream.l1 (k + n + 1) T b (ints acc) (c : Int) ((n : Int) - 1) X xl i = spec_WriteStream.l0 k T b (ints (acc ++ cbits c n)) X xl (wrap64 (i + 1)) := by
  induction n with
  | zero =>
    intro k acc h1 h2
    rw [spec_WriteStream.l1, if_neg (by omega), cbits, List.append_nil]
  | succ n ih =>
    intro k acc h1 h2
    have e : ((n + 1 : Nat) : Int) - 1 = (n : Int) := by omega
    rw [spec_WriteStream.l1, e, if_pos (by omega), if_pos (by omega), if_pos (by rw [ints_length]; omega), shr_nat (by omega), and_one _ (Nat.lt_of_le_of_lt (Nat.div_le_self _ _) hc)]
    have e2 : ints acc ++ [((c / 2 ^ n % 2 : Nat) : Int)] = ints (acc ++ [c / 2 ^ n % 2]) := by simp [ints]
    have e3 : wrap64 ((n : Int) - 1) = (n : Int) - 1 := by unfold wrap64; omega
    rw [e2, e3, show k + (n + 1) = k + n + 1 by omega, ih k (acc ++ [c / 2 ^ n % 2]) (by omega) (by rw [List.length_append, List.length_singleton]; omega)]
    rw [cbits, List.append_assoc]
    rfl
/-- The codes of literals, as codeOf tells them whatever the rounds (K at least). -/
def CodesOf (T : List S68) (b : Int) (K : Nat) (X : List Int) (cs : List (Nat × Nat)) : Prop :=
  cs.length = X.length ∧ ∀ i (h : i < cs.length), 1 ≤ (cs[i]).2 ∧ (cs[i]).2 ≤ 11 ∧ (cs[i]).1 < 2 ^ (cs[i]).2 ∧ ∀ k, K ≤ k → spec_codeOf.f k T b (X.getD i 0) = some (((cs[i]).1 : Int), ((cs[i]).2 : Int))
theorem clen_le {cs : List (Nat × Nat)} (h : ∀ c ∈ cs, c.2 ≤ 11) : clen cs ≤ 11 * cs.length := by
  induction cs with
  | nil => exact Nat.le_refl _
  | cons c cs ih =>
    have h1 := h c List.mem_cons_self
    have h2 := ih (fun x hx => h x (List.mem_cons_of_mem _ hx))
    simp only [clen, List.length_cons]
    omega
theorem stream_rounds (T : List S68) (b : Int) (K K' : Nat) (X : List Int) (cs : List (Nat × Nat)) (hC : CodesOf T b K X cs) (hX : ∀ x ∈ X, 0 ≤ x ∧ x ≤ 255) (hl : X.length ≤ 1000000) (r : Nat) : ∀ (i k : Nat) (acc : List Nat), i + r = X.length → K + K' + 14 * r + 14 ≤ k → acc.length + 11 * r ≤ 50000000 →
    ∃ k', K' ≤ k' ∧ spec_WriteStream.l0 k T b (ints acc) X (X.length : Int) (i : Int) = (spec_Stream.f k' (ints (acc ++ abits (cs.drop i)))).bind fun t => some t := by
  induction r with
  | zero =>
    intro i k acc h1 h2 h3
    obtain ⟨k, rfl⟩ : ∃ j, k = j + 1 := ⟨k - 1, by omega⟩
    refine ⟨k, by omega, ?_⟩
    rw [spec_WriteStream.l0, if_neg (by omega), List.drop_of_length_le (by rw [hC.1]; omega), abits, List.append_nil]
  | succ r ih =>
    intro i k acc h1 h2 h3
    have hi : i < cs.length := by rw [hC.1]; omega
    obtain ⟨c1, c2, c3, c4⟩ := hC.2 i hi
    obtain ⟨k, rfl⟩ : ∃ j, k = j + (cs[i]).2 + 1 + 1 := ⟨k - (cs[i]).2 - 2, by omega⟩
    have hx := hX (X.getD i 0) (by rw [List.getD_eq_getElem?_getD, List.getElem?_eq_getElem (by omega)]; exact List.getElem_mem _)
    have hc : (cs[i]).1 < 4611686018427387904 := by
      have : 2 ^ (cs[i]).2 ≤ 2 ^ 11 := Nat.pow_le_pow_right (by decide) c2
      omega
    rw [spec_WriteStream.l0, if_pos (by omega), if_pos (by omega), if_pos (by omega), rd_nat, wrap_small _ (by omega) (by omega), c4 _ (by omega), Option.bind_some, wrap_small _ (by omega) (by omega), bits_loop T b X (X.length : Int) (i : Int) (cs[i]).1 hc (cs[i]).2 k acc (by omega) (by omega), wrap_small _ (by omega) (by omega), show (i : Int) + 1 = ((i + 1 : Nat) : Int) from rfl]
    obtain ⟨k', e1, e2⟩ := ih (i + 1) k (acc ++ cbits (cs[i]).1 (cs[i]).2) (by omega) (by omega) (by rw [List.length_append, cbits_length]; omega)
    refine ⟨k', e1, ?_⟩
    rw [e2, List.append_assoc]
    congr 4
    rw [List.drop_eq_getElem_cons hi]
    rfl
end Go.Proofs.YtopadgohinoomaaDoor.Cx
namespace Go.Proofs.YtopadgohinoomaaDoor.Cx
open Go.RowKit Go.Proofs.YtopadgohinoomaaDoorW.PrintWords Go.Proofs.YtopadgohinoomaaDoor.PC
set_option linter.unusedVariables false
theorem CodesOf.fit {T : List S68} {b : Int} {K : Nat} {X : List Int} {cs : List (Nat × Nat)} (h : CodesOf T b K X cs) : Fit cs := by
  intro c hc
  obtain ⟨i, hi, rfl⟩ := List.mem_iff_getElem.1 hc
  exact (h.2 i hi).2.2.1
theorem CodesOf.le11 {T : List S68} {b : Int} {K : Nat} {X : List Int} {cs : List (Nat × Nat)} (h : CodesOf T b K X cs) : ∀ c ∈ cs, c.2 ≤ 11 := by
  intro c hc
  obtain ⟨i, hi, rfl⟩ := List.mem_iff_getElem.1 hc
  exact (h.2 i hi).2.1
theorem num_inj {A : List Int} : ∀ {B : List Int}, Bytes A → Bytes B → A.length = B.length → num A = num B → A = B := by
  induction A with
  | nil => intro B _ _ h _; cases B with
    | nil => rfl
    | cons b B => simp at h
  | cons a A ih =>
    intro B hA hB h e
    cases B with
    | nil => simp at h
    | cons b B =>
      have h1 := hA a List.mem_cons_self
      have h2 := hB b List.mem_cons_self
      simp only [num] at e
      have e1 : a = b := by omega
      subst e1
      rw [ih (fun x hx => hA x (List.mem_cons_of_mem _ hx)) (fun x hx => hB x (List.mem_cons_of_mem _ hx)) (by simpa using h) (by omega)]
/-- spec.WriteStream: the codes of the literals behind a 1, as bytes. -/
theorem writeStream_f {T : List S68} {b : Int} {K : Nat} {X : List Int} {cs : List (Nat × Nat)} (hC : CodesOf T b K X cs) (hX : ∀ x ∈ X, 0 ≤ x ∧ x ≤ 255) (hl : X.length ≤ 500000) :
    ∃ S, Bytes S ∧ S.length = (clen cs + 8) / 8 ∧ num S = 2 ^ clen cs + cval cs ∧ ∀ k, K + 30 * X.length + 40 ≤ k → spec_WriteStream.f k T b X = some S := by
  have hlen := clen_le hC.le11
  rw [hC.1] at hlen
  obtain ⟨S, h1, h2, h3, h4⟩ := stream_f (abits cs) (abits_le cs) (by rw [abits_length]; omega) (clen cs + 2) (by rw [abits_length]; exact Nat.le_refl _)
  refine ⟨S, h2, by rw [h3, abits_length], by rw [h4, abits_length, abits_val hC.fit], fun k hk => ?_⟩
  obtain ⟨k', e1, e2⟩ := stream_rounds T b K (clen cs + 2) X cs hC hX (by omega) X.length 0 k [] (by omega) (by omega) (by simp only [List.length_nil]; omega)
  have e3 : spec_WriteStream.f k T b X = spec_WriteStream.l0 k T b (ints []) X (X.length : Int) ((0 : Nat) : Int) := rfl
  rw [e3, e2, List.nil_append, List.drop_zero]
  obtain ⟨S', g1, g2, g3, g4⟩ := stream_f (abits cs) (abits_le cs) (by rw [abits_length]; omega) k' (by rw [abits_length]; exact e1)
  have : S' = S := by
    obtain ⟨d, rfl⟩ : ∃ d, k' = clen cs + 2 + d := ⟨k' - (clen cs + 2), by omega⟩
    exact num_inj g2 h2 (by rw [g3, h3]) (by rw [g4, h4])
  rw [g1, this]
  rfl
end Go.Proofs.YtopadgohinoomaaDoor.Cx
