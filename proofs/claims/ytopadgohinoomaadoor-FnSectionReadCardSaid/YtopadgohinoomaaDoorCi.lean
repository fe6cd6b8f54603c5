/-
Walks of ZZFourStreams and impl.FourStreams, with the plain function that they compute.
-/
import Derived.Test.YtopadgohinoomaaDoorCh
namespace Go.Proofs.YtopadgohinoomaaDoor.Cx
open Go.RowKit Go.Proofs.YtopadgohinoomaaDoorW.PrintWords Go.Proofs.YtopadgohinoomaaDoorW.PrintLast Go.Proofs.YtopadgohinoomaaDoorW.PrintMore Go.Proofs.YtopadgohinoomaaDoor.PC
attribute [local go_sem] max2_int min2_int max_two min_two max_three min_three max_four min_four
set_option linter.unusedVariables false
set_option linter.unusedSimpArgs false
/-- Two bytes of the data as a number. -/
def leN (D : List Int) (o : Nat) : Nat := (D.getD o 0).toNat + 256 * (D.getD (o + 1) 0).toNat
def e1 (D : List Int) (off : Nat) : Nat := off + 5 + leN D off
def e2 (D : List Int) (off : Nat) : Nat := e1 D off + leN D (off + 2)
def e3 (D : List Int) (off : Nat) : Nat := e2 D off + leN D (off + 4)
/-- What four streams hold. -/
def fourRes (D T : List Int) (b off total N : Nat) : List Int :=
  (List.range ((N + 3) / 4)).map (sym D T b (top D (e1 D off))) ++ ((List.range ((N + 3) / 4)).map (sym D T b (top D (e2 D off))) ++ ((List.range ((N + 3) / 4)).map (sym D T b (top D (e3 D off))) ++ (List.range (N - 3 * ((N + 3) / 4))).map (sym D T b (top D (off + total - 1)))))
def Tab (T : List Int) (b : Nat) : Prop := ∀ i, i < 2 ^ b → 0 ≤ T.getD i 0 ∧ T.getD i 0 ≤ 65535 ∧ (T.getD i 0).toNat % 256 ≤ b
structure FourOk (D T : List Int) (b off total N : Nat) : Prop where
  hB : Bytes D
  hl : D.length ≤ 2000000
  hb : b ≤ 11
  tab : Tab T b
  hTl : 2 ^ b ≤ T.length
  hTm : T.length ≤ 2000000
  hn : 0 < (N + 3) / 4
  hN : 3 * ((N + 3) / 4) ≤ N
  hNm : N ≤ 200000
  hol : off + total ≤ D.length
  p1 : 0 < leN D off
  p2 : 0 < leN D (off + 2)
  p3 : 0 < leN D (off + 4)
  p4 : 6 + leN D off + leN D (off + 2) + leN D (off + 4) < total
  d1 : D.getD (e1 D off) 0 ≠ 0
  d2 : D.getD (e2 D off) 0 ≠ 0
  d3 : D.getD (e3 D off) 0 ≠ 0
  d4 : D.getD (off + total - 1) 0 ≠ 0
  P1 : ∀ i, i < (N + 3) / 4 → 8 * (off + 4) + b ≤ pos D T b (top D (e1 D off)) i
  P2 : ∀ i, i < (N + 3) / 4 → 8 * (e1 D off - 1) + b ≤ pos D T b (top D (e2 D off)) i
  P3 : ∀ i, i < (N + 3) / 4 → 8 * (e2 D off - 1) + b ≤ pos D T b (top D (e3 D off)) i
  P4 : ∀ i, 3 * ((N + 3) / 4) + i < N → 8 * (e3 D off - 1) + b ≤ pos D T b (top D (off + total - 1)) i
theorem rd_drop (D : List Int) (o : Nat) (i : Nat) : rd (D.drop o) (i : Int) = D.getD (o + i) 0 := by
  unfold rd
  simp [List.getD_eq_getElem?_getD, List.getElem?_drop]
theorem le16_f {D : List Int} (hB : Bytes D) (o : Nat) (h : o + 1 < D.length) : zstd_le16.f (D.drop o) = some ((leN D o : Nat) : Int) := by
  have h0 := hB.get o
  have h1 := hB.get (o + 1)
  have r0 := rd_drop D o 0
  have r1 := rd_drop D o 1
  simp only [Int.natCast_zero, Int.natCast_one, Nat.add_zero] at r0 r1
  have r0' : rd (D.drop o) 0 = D.getD o 0 := r0
  have r1' : rd (D.drop o) 1 = D.getD (o + 1) 0 := r1
  unfold zstd_le16.f
  rw [if_pos (by rw [List.length_drop]; omega), if_pos (by rw [List.length_drop]; omega), r0', r1']
  obtain ⟨x, hx⟩ : ∃ x : Nat, D.getD o 0 = (x : Int) := ⟨(D.getD o 0).toNat, by omega⟩
  obtain ⟨y, hy⟩ : ∃ y : Nat, D.getD (o + 1) 0 = (y : Int) := ⟨(D.getD (o + 1) 0).toNat, by omega⟩
  unfold leN
  rw [hx, hy, Int.toNat_natCast, Int.toNat_natCast]
  have w1 : IntKind.u16.wrap (x : Int) = (x : Int) := by rw [IntKind.wrap_u16]; omega
  have w2 : IntKind.u16.wrap (y : Int) = (y : Int) := by rw [IntKind.wrap_u16]; omega
  have w3 : IntKind.u16.wrap ((y : Int) * 256) = ((y * 256 : Nat) : Int) := by rw [IntKind.wrap_u16]; omega
  rw [w1, w2, w3, u16_or_nat x (y * 256) (by omega) (by omega), Nat.or_comm, or_byte y x (by omega)]
  congr 1
  omega
theorem fil_res {D T : List Int} {b off total N : Nat} {out : List Int} (hN : 3 * ((N + 3) / 4) ≤ N) (h : Fil D T b ((N + 3) / 4) N (top D (e1 D off)) (top D (e2 D off)) (top D (e3 D off)) (top D (off + total - 1)) ((N + 3) / 4) out) : out = fourRes D T b off total N := by
  obtain ⟨hl, hf⟩ := h
  obtain ⟨n, hn⟩ : ∃ n, (N + 3) / 4 = n := ⟨_, rfl⟩
  have hn4 : N ≤ 4 * n := by omega
  unfold fourRes
  rw [hn] at hf hN ⊢
  apply List.ext_getElem
  · simp only [List.length_append, List.length_map, List.length_range]; omega
  intro j h1 h2
  have hg : ∀ k (hk : k < out.length), out.getD k 0 = out[k] := fun k hk => by rw [List.getD_eq_getElem?_getD, List.getElem?_eq_getElem hk]; rfl
  rw [← hg j h1]
  by_cases c1 : j < n
  · rw [List.getElem_append_left (by simpa using c1), (hf j c1).1]
    simp
  · rw [List.getElem_append_right (by simpa using c1)]
    simp only [List.length_map, List.length_range]
    by_cases c2 : j - n < n
    · rw [List.getElem_append_left (by simpa using c2)]
      have := (hf (j - n) c2).2.1
      rw [show n + (j - n) = j by omega] at this
      rw [this]; simp
    · rw [List.getElem_append_right (by simpa using c2)]
      simp only [List.length_map, List.length_range]
      by_cases c3 : j - n - n < n
      · rw [List.getElem_append_left (by simpa using c3)]
        have := (hf (j - n - n) c3).2.2.1
        rw [show n + n + (j - n - n) = j by omega] at this
        rw [this]; simp
      · rw [List.getElem_append_right (by simpa using c3)]
        simp only [List.length_map, List.length_range]
        have := (hf (j - n - n - n) (by omega)).2.2.2 (by omega)
        rw [show n + n + n + (j - n - n - n) = j by omega] at this
        rw [this]; simp
def PostL (res : List Int) (w : World) (e : Ending) (w' : World) : Prop := ∃ v0, e = .returned (.tuple #[v0, .nilIface]) ∧ Kd.R (Kd.int .u8) 5 w' w.heap.size (fun _ => True) v0 res ∧ Below w.heap.size w w'
theorem four_ok (rb : Nat) (A TA : Option Addr) (c tc b off total N : Nat) (D T : List Int) (w : World) (h : FourOk D T b off total N)
    (hr12 : w.cell? ⟨rb, 12, none⟩ = some (.slice TA T.length tc)) (hr13 : w.cell? ⟨rb, 13, none⟩ = some (.int .i64 b))
    (hD : Kd.C (Kd.int .u8) w A D.length D) (hc : D.length ≤ c) (hT : Kd.C (Kd.int .u16) w TA T.length T) :
    Calls Tryd.prog 56 #[.pointer (some ⟨rb, 0, none⟩), .slice A D.length c, .int .i64 off, .int .i64 total, .int .i64 N, .slice none 0 0] w (PostL (fourRes D T b off total N) w) := by
  obtain ⟨hB, hl, hb, tab, hTl, hTm, hn, hN, hNm, hol, p1, p2, p3, p4, d1, d2, d3, d4, P1, P2, P3, P4⟩ := h
  obtain ⟨ad, rfl, -⟩ := Kd.at_int hD 0 (by omega) (by omega)
  have b0 := hB.get off
  have b1 := hB.get (off + 1)
  have b2 := hB.get (off + 2)
  have b3 := hB.get (off + 2 + 1)
  have b4 := hB.get (off + 4)
  have b5 := hB.get (off + 4 + 1)
  have hx4 : off + total - 1 = e3 D off + (total - 6 - leN D off - leN D (off + 2) - leN D (off + 4)) := by unfold e3 e2 e1; omega
  refine (four_any rb ad TA c tc b off total N ((N + 3) / 4) (leN D off) (leN D (off + 2)) (leN D (off + 4)) (total - 6 - leN D off - leN D (off + 2) - leN D (off + 4)) D T w hr12 hr13 hD hc hT hB
    (le16_f hB off (by omega)) (le16_f hB (off + 2) (by omega)) (le16_f hB (off + 4) (by omega)) (by unfold leN; omega) (by unfold leN; omega) (by unfold leN; omega) (by omega) p1 p2 p3 (by omega) rfl hN hNm hn hb tab hl hTl hTm hol
    (e1 D off) (e2 D off) (e3 D off) (off + total - 1) rfl rfl rfl hx4 d1 d2 d3 d4 P1 P2 P3 P4).mono ?_
  rintro e w' ⟨v0, out, rfl, hR, hb, hF⟩
  exact ⟨v0, rfl, fil_res hN hF ▸ hR, hb⟩
end Go.Proofs.YtopadgohinoomaaDoor.Cx
