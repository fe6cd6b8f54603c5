/-
Walks of writer.put and spec.header.
-/
import Derived.Test.YtopadgohinoomaaDoorDa
import Derived.Test.YtopadgohinoomaaDoorSw
import Derived.Test.YtopadgohinoomaaDoorPC7
import Derived.StillTailTactics
import Derived.IntWalk
namespace Go.Proofs.YtopadgohinoomaaDoor.Cx
open Go.RowKit Go.Proofs.YtopadgohinoomaaDoorW.PrintWords Go.Proofs.YtopadgohinoomaaDoorW.PrintLast Go.Proofs.YtopadgohinoomaaDoorW.PrintMore Go.Proofs.YtopadgohinoomaaDoor.PC
attribute [local go_sem] max2_int min2_int max_two min_two max_three min_three max_four min_four
set_option linter.unusedVariables false
set_option linter.unusedSimpArgs false
/-- The bytes of a number of n bits, the lowest ones first. -/
def byt (n V : Nat) : List Int := (List.range ((n + 7) / 8)).map (fun i => ((V / 256 ^ i % 256 : Nat) : Int))
theorem byt_length (n V : Nat) : (byt n V).length = (n + 7) / 8 := by simp [byt]
theorem byt_get (n V i : Nat) (h : i < (n + 7) / 8) : (byt n V).getD i 0 = ((V / 256 ^ i % 256 : Nat) : Int) := by
  rw [List.getD_eq_getElem?_getD, byt, List.getElem?_map, List.getElem?_range h]
  rfl
theorem pow256 (q : Nat) : 256 ^ q = 2 ^ (8 * q) := by rw [Nat.pow_mul]
theorem byt_append {n V : Nat} (h : n % 8 = 0) (hV : V < 2 ^ n) : byt n V ++ [0] = byt (n + 1) V := by
  unfold byt
  have e1 : (n + 7) / 8 = n / 8 := by omega
  have e2 : (n + 1 + 7) / 8 = n / 8 + 1 := by omega
  rw [e1, e2, List.range_succ, List.map_append]
  have e3 : V / 256 ^ (n / 8) = 0 := Nat.div_eq_of_lt (by rw [pow256, show 8 * (n / 8) = n by omega]; exact hV)
  congr 1
  show [(0 : Int)] = [((V / 256 ^ (n / 8) % 256 : Nat) : Int)]
  rw [e3]
  rfl
theorem byt_same {n V : Nat} (h : n % 8 ≠ 0) : byt n V = byt (n + 1) V := by
  unfold byt
  rw [show (n + 1 + 7) / 8 = (n + 7) / 8 by omega]
/-- The bit at place n set. -/
theorem byt_bit {n V bit : Nat} (hV : V < 2 ^ n) (hb : bit ≤ 1) :
    (byt (n + 1) V).set (n / 8) (((V / 256 ^ (n / 8) % 256 + bit * 2 ^ (n % 8) : Nat) : Int)) = byt (n + 1) (V + bit * 2 ^ n) ∧ V / 256 ^ (n / 8) % 256 < 2 ^ (n % 8) := by
  have hlt : V / 256 ^ (n / 8) < 2 ^ (n % 8) := by
    rw [Nat.div_lt_iff_lt_mul (by rw [pow256]; exact Nat.two_pow_pos _), pow256, ← Nat.pow_add]
    rwa [show n % 8 + 8 * (n / 8) = n by omega]
  have h7 : 2 ^ (n % 8) ≤ 2 ^ 7 := Nat.pow_le_pow_right (by decide) (by omega)
  have hm : V / 256 ^ (n / 8) % 256 = V / 256 ^ (n / 8) := Nat.mod_eq_of_lt (by omega)
  refine ⟨?_, by omega⟩
  apply List.ext_getElem?
  intro i
  by_cases hi : i < (n + 1 + 7) / 8
  · have hq : n / 8 < (byt (n + 1) V).length := by rw [byt_length]; omega
    by_cases e : n / 8 = i
    · subst e
      rw [List.getElem?_set_self hq, byt, List.getElem?_map, List.getElem?_range hi, Option.map_some]
      congr 2
      have e1 : 2 ^ n = 2 ^ (n % 8) * 256 ^ (n / 8) := by rw [pow256, ← Nat.pow_add]; congr 1; omega
      rw [hm, e1, ← Nat.mul_assoc, Nat.add_mul_div_right _ _ (by rw [pow256]; exact Nat.two_pow_pos _)]
      have : bit * 2 ^ (n % 8) ≤ 1 * 2 ^ (n % 8) := Nat.mul_le_mul_right _ hb
      exact (Nat.mod_eq_of_lt (by omega)).symm
    · rw [List.getElem?_set_ne e, byt, byt, List.getElem?_map, List.getElem?_map, List.getElem?_range hi, Option.map_some, Option.map_some]
      congr 2
      have hlt2 : i < n / 8 := by omega
      have e1 : 2 ^ n = 2 ^ (n - 8 * (i + 1)) * 256 * 256 ^ i := by rw [pow256, show 256 = 2 ^ 8 from rfl, ← Nat.pow_add, ← Nat.pow_add]; congr 1; omega
      rw [e1, ← Nat.mul_assoc, ← Nat.mul_assoc, Nat.add_mul_div_right _ _ (by rw [pow256]; exact Nat.two_pow_pos _), Nat.add_mul_mod_self_right]
  · rw [List.getElem?_eq_none (by rw [List.length_set, byt_length]; omega), List.getElem?_eq_none (by rw [byt_length]; omega)]
theorem or_u8 (x y k : Nat) (hx : x < 2 ^ k) (h : x + y * 2 ^ k < 256) : Go.bits BinOp.or IntKind.u8 (x : Int) ((y * 2 ^ k : Nat) : Int) = ((x + y * 2 ^ k : Nat) : Int) := by
  have h1 : x ||| y * 2 ^ k = x + y * 2 ^ k := by
    rw [Nat.or_comm, ← Nat.shiftLeft_eq, ← Nat.shiftLeft_add_eq_or_of_lt hx, Nat.add_comm]
  have key : (BitVec.ofInt 8 (x : Int) ||| BitVec.ofInt 8 ((y * 2 ^ k : Nat) : Int)).toNat = x ||| y * 2 ^ k := by
    rw [BitVec.toNat_or, BitVec.toNat_ofInt, BitVec.toNat_ofInt]
    generalize y * 2 ^ k = z at h
    congr 1 <;> omega
  show IntKind.u8.wrap ((BitVec.ofInt 8 (x : Int) ||| BitVec.ofInt 8 ((y * 2 ^ k : Nat) : Int)).toNat : Nat) = _
  rw [key, h1, IntKind.wrap_u8]
  generalize y * 2 ^ k = z at h
  omega
theorem nilRow {w : World} (base wb : Nat) (hb : base ≤ w.heap.size) : Kd.R (Kd.int .u8) 5 w base (fun k => k ≠ wb) (.slice none 0 0) [] := Kd.R_nil _ _ _ _ _
structure IsW (wb : Nat) (v : Value) (n base : Nat) (l : List Int) (w : World) : Prop where
  blk : w.heap[wb]? = some (.cells #[v, .int .i64 n] 117 (0, 0))
  row : Kd.R (Kd.int .u8) 5 w base (fun k => k ≠ wb) v l
theorem IsW.alloc {wb n base : Nat} {v : Value} {l : List Int} {w : World} (h : IsW wb v n base l w) (o : Obj) : IsW wb v n base l (w.alloc o) := ⟨blk_alloc h.blk o, Kd.R_alloc h.row o⟩
def PostP (wb n V base : Nat) (w0 : World) (e : Ending) (w' : World) : Prop := ∃ v', e = .returned (.tuple #[]) ∧ IsW wb v' n base (byt n V) w' ∧ Below w0.heap.size w0 w'
set_option maxHeartbeats 2000000 in
set_option maxRecDepth 100000 in
theorem put_any (wb n V many x : Nat) (v : Value) (w0 w : World) (hV : V < 2 ^ n) (hn : n ≤ 100) (hm : many ≤ 40) (hx : x ≤ 1000000000) (hW : IsW wb v n w0.heap.size (byt n V) w) (hb : Below w0.heap.size w0 w) (hwb : w0.heap.size ≤ wb) :
    Calls Tryd.prog 57 #[.pointer (some ⟨wb, 0, none⟩), .int .i64 many, .int .i64 x] w (PostP wb (n + many) (V + x % 2 ^ many * 2 ^ n) w0.heap.size w0) := by
  have HW := Aside0.mk hW
  have HB := Aside0.mk hb
  have HV := Aside0.mk hV
  have hu117 := Tryd.underlying117
  clear hW hb hV
  go_enter Tryd.func57, Tryd.ntmps57
  go_wp2_with (fail)
  go_loopg [8] many (fun kq a1 w' => ∃ (k : Nat) (v' : Value), a1 = .int .i64 k ∧ k + kq = many ∧ Aside0 (IsW wb v' (n + k) w0.heap.size (byt (n + k) (V + x % 2 ^ k * 2 ^ n)) w') ∧ Aside0 (Below w0.heap.size w0 w'))
  case atStart => exact ⟨0, v, rfl, by omega, ⟨by simpa [Nat.mod_one] using HW.out⟩, HB⟩
  case round =>
    clear HW HB
    obtain ⟨k, v', rfl, hk, HW, HB⟩ := hrel
    by_cases hlt : k < many
    · have r0 : wr.cell? ⟨wb, 0, none⟩ = some v' := (blk_cell HW.out.blk 0).trans rfl
      have r1 : wr.cell? ⟨wb, 1, none⟩ = some (.int .i64 ((n + k : Nat) : Int)) := (blk_cell HW.out.blk 1).trans rfl
      have f0 : wr.frozen? ⟨wb, 0, none⟩ = false := blk_frozen HW.out.blk 0
      have f1 : wr.frozen? ⟨wb, 1, none⟩ = false := blk_frozen HW.out.blk 1
      have c1 : (k : Int) < (many : Int) := by omega
      obtain ⟨p, hp⟩ : ∃ p, n + k = p := ⟨_, rfl⟩
      rw [hp] at r1
      obtain ⟨U, hU⟩ : ∃ U, V + x % 2 ^ k * 2 ^ n = U := ⟨_, rfl⟩
      have hUl : U < 2 ^ p := by
        rw [← hU, ← hp, Nat.pow_add]
        have h1 := Nat.mod_lt x (Nat.two_pow_pos k)
        have h2 : (x % 2 ^ k + 1) * 2 ^ n ≤ 2 ^ k * 2 ^ n := Nat.mul_le_mul_right _ h1
        rw [Nat.add_mul, Nat.one_mul] at h2
        have h3 := HV.out
        rw [Nat.mul_comm (2 ^ n)]
        omega
      have HU := Aside0.mk hUl
      have HUE := Aside0.mk hU
      have HP := Aside0.mk hp
      have HW' := Aside0.mk (show IsW wb v' p w0.heap.size (byt p U) wr by have := HW.out; rw [hp, hU] at this; exact this)
      have hwl : wb < wr.heap.size := blk_lt HW.out.blk
      have hpl : p ≤ 140 := by omega
      clear HW hU hp hUl
      go_upto_if 16 with (fail)
      go_cut [16] (fun v16 wc => Aside0 (∃ v2, IsW wb v2 p w0.heap.size (byt (p + 1) U) wc) ∧ Aside0 (Below w0.heap.size w0 wc))
      case first =>
        by_cases h8 : p % 8 = 0
        · have c2 : (p : Int) % 8 = 0 := by omega
          have HA := Aside0.mk (byt_append h8 HU.out)
          have HL := Aside0.mk (show (byt p U).length ≤ 100 by rw [byt_length]; omega)
          clear h8
          go_wp2_with (first
            | ((with_reducible refine gate_builtin (b := .append) (xs := #[.tmp 21, .tmp 22]) rfl ?_); at_builtin; refine Kd.R_append (Kd.int .u8) (w0 := w0) w0.heap.size rfl (.tmp 21) (.tmp 22) 32 5 (.int .u8 0) 1 rfl Tryd.underlying32 PC.info5 rfl (by decide) (by omega) v' (byt p U) 0 [.int .u8 0] (fun k => k ≠ wb) (fun _ => False) rfl rfl ?aP (fun _ hk => hk.elim) ?aF ?aO ?aB ?aS ?aL ?_; (case aP => exact rfl); (case aF => exact fun j hj => by omega); (case aO => exact HW'.out.row); (case aB => exact HB.out); (case aS => exact HB.out.size); (case aL => have := HL.out; omega); intro v2 w2 ho hb2 hg2 hat; rw [HA.out] at ho; obtain ⟨g2, c2', ev2, -, -, -⟩ := Kd.R_form ho (by rw [byt_length]; omega); subst ev2; have hbk := blk_grown HW'.out.blk hg2 (fun e => HW'.out.row.1 wb e.symm rfl); have s0 : w2.cell? ⟨wb, 0, none⟩ = some v' := (blk_cell hbk 0).trans rfl; have f0' : w2.frozen? ⟨wb, 0, none⟩ = false := blk_frozen hbk 0; have BK := Aside0.mk hbk; have HO := Aside0.mk ho; have HB2 := Aside0.mk hb2; clear hbk ho hb2 hg2 hat))
          go_meet
          case rel => exact ⟨⟨_, ⟨blk_put BK.out 0 _ rfl, Kd.R_far HO.out (p := ⟨wb, 0, none⟩) (fun j hj => hj) _⟩⟩, ⟨HB2.out.setCell hwb _⟩⟩
        · have c2 : ((p : Int) % 8 == 0) = false := by simp; omega
          have c3 : ¬ ((p : Int) % 8 = 0) := by omega
          have HA := Aside0.mk (byt_same (V := U) h8)
          clear h8
          go_wp2_with (fail)
          go_meet
          case rel => exact ⟨⟨v', by rw [← HA.out]; exact HW'.out⟩, HB⟩
      case rest =>
        clear HW' HB r0 r1 f0 f1
        obtain ⟨⟨v2, HWi⟩, HB⟩ := And.intro hcut.1.out hcut.2
        clear hcut
        have hlen : (byt (p + 1) U).length = (p + 1 + 7) / 8 := byt_length _ _
        obtain ⟨g, cc, ev, hg1, hg2, cells, hcells⟩ := Kd.R_form HWi.row (by omega)
        subst ev
        have hgw : g ≠ wb := HWi.row.1 g rfl
        obtain ⟨ad, ea, hat⟩ := Kd.at_int (Kd.R_reads' HWi.row).2.2 ((p / 8 : Nat) : Int) (by omega) (by omega)
        have ea' : ad = ⟨g, 0, none⟩ := (Option.some.inj ea).symm
        subst ea'
        obtain ⟨l, hl⟩ : ∃ l, (byt (p + 1) U).length = l := ⟨_, rfl⟩
        rw [hl] at hlen
        obtain ⟨d, hd⟩ : ∃ d, U / 256 ^ (p / 8) % 256 = d := ⟨_, rfl⟩
        have hd256 : d < 256 := by rw [← hd]; exact Nat.mod_lt _ (by decide)
        have e0 : wc.cell? ⟨g, p / 8, none⟩ = some (.int .u8 d) := by
          have h1 : rd (byt (p + 1) U) ((p / 8 : Nat) : Int) = (d : Int) := by
            unfold rd
            rw [Int.toNat_natCast, byt_get _ _ _ (by omega), hd]
          rw [h1, Int.toNat_natCast] at hat
          simpa [add_plain] using hat
        have ez : wc.frozen? ⟨g, p / 8, none⟩ = false := blk_frozen hcells _
        have i1 : ((p : Int) / 8).toNat = p / 8 := by omega
        have i0 : 0 ≤ (p : Int) / 8 := by omega
        have i2 : (p : Int) / 8 < (l : Int) := by omega
        have r0 : wc.cell? ⟨wb, 0, none⟩ = some (.slice (some ⟨g, 0, none⟩) l cc) := (blk_cell HWi.blk 0).trans (by rw [← hl]; rfl)
        have r1 : wc.cell? ⟨wb, 1, none⟩ = some (.int .i64 (p : Int)) := (blk_cell HWi.blk 1).trans rfl
        have f1 : wc.frozen? ⟨wb, 1, none⟩ = false := blk_frozen HWi.blk 1
        have HWI := Aside0.mk HWi
        have HCE := Aside0.mk hcells
        have HDD := Aside0.mk hd
        have HL := Aside0.mk hl
        have HLE := Aside0.mk hlen
        have w1 : IntKind.i64.wrap ((p : Int) / 8) = (p : Int) / 8 := IntWalk.i64_in _ (by omega)
        have w2 : IntKind.i64.wrap ((p : Int) % 8) = (p : Int) % 8 := IntWalk.i64_in _ (by omega)
        have w3 : IntKind.i64.wrap (Int.tdiv (p : Int) 8) = (p : Int) / 8 := by rw [Int.tdiv_eq_ediv_of_nonneg (by omega)]; exact w1
        have w4 : IntKind.i64.wrap (Int.tmod (p : Int) 8) = (p : Int) % 8 := by rw [Int.tmod_eq_emod_of_nonneg (by omega)]; exact w2
        obtain ⟨bt, hbt⟩ : ∃ bt, x / 2 ^ k % 2 = bt := ⟨_, rfl⟩
        obtain ⟨m8, hm8⟩ : ∃ m8, p % 8 = m8 := ⟨_, rfl⟩
        have a1 : Go.bits BinOp.and IntKind.i64 ((x : Int) / 2 ^ k) 1 = (bt : Int) := by
          have h1 : x / 2 ^ k ≤ x := Nat.div_le_self _ _
          have := and_one (x / 2 ^ k) (by omega)
          rw [hbt] at this
          rw [← this]
          push_cast
          rfl
        have bt1 : bt ≤ 1 := by omega
        have m81 : m8 ≤ 7 := by omega
        have a2 : IntKind.u8.wrap (bt : Int) = (bt : Int) := by rw [IntKind.wrap_u8]; omega
        have a3 : Int.tmod (p : Int) 8 = (m8 : Int) := by rw [Int.tmod_eq_emod_of_nonneg (by omega)]; omega
        obtain ⟨hset, hdlt⟩ := byt_bit HU.out bt1
        rw [hd, hm8] at hset hdlt
        obtain ⟨y, hy⟩ : ∃ y, bt * 2 ^ m8 = y := ⟨_, rfl⟩
        have hp8 : 2 ^ m8 ≤ 2 ^ 7 := Nat.pow_le_pow_right (by decide) m81
        have hyl : y ≤ 1 * 2 ^ m8 := by rw [← hy]; exact Nat.mul_le_mul_right _ bt1
        have b1 : IntKind.u8.wrap ((bt : Int) * 2 ^ m8) = (y : Int) := by
          have e1 : (bt : Int) * 2 ^ m8 = (y : Int) := by rw [← hy]; push_cast; rfl
          rw [e1, IntKind.wrap_u8]
          omega
        have b2 : Go.bits BinOp.or IntKind.u8 (d : Int) (y : Int) = ((d + y : Nat) : Int) := by
          have := or_u8 d bt m8 hdlt (by omega)
          rw [hy] at this
          exact this
        rw [hy] at hset
        obtain ⟨e, he⟩ : ∃ e, d + y = e := ⟨_, rfl⟩
        rw [he] at b2 hset
        have HSET := Aside0.mk hset
        clear hset hdlt hy hp8 hyl he
        have HBT := Aside0.mk hbt
        have HM8 := Aside0.mk hm8
        clear HWi hcells hd hl hat ea hlen hbt hm8
        go_wp2_with (fail)
        go_still_tail 24, (by kernel_rfl)
        change wpList _ _ _ _ _ (wc.drewN 1)
        go_wp2_with (fail)
        obtain ⟨q, rfl⟩ : ∃ q, gk = q + 1 := ⟨gk - 1, by omega⟩
        go_roundg q
        case rel =>
          have hE : U + bt * 2 ^ p = V + x % 2 ^ (k + 1) * 2 ^ n := by
            have h1 := HUE.out
            have h2 := HBT.out
            have h3 := HP.out
            rw [← h1, ← h2, ← h3, Nat.mod_pow_succ, Nat.add_mul, Nat.pow_add, Nat.add_assoc]
            congr 2
            rw [Nat.mul_comm (2 ^ n), ← Nat.mul_assoc, Nat.mul_comm (2 ^ k)]
          have hN : n + (k + 1) = p + 1 := by have := HP.out; omega
          have hrow := (Kd.R_putg (Kd.R_drewN HWI.out.row 1) ((p / 8 : Nat) : Int) (e : Int)).1
          rw [Int.toNat_natCast, HSET.out, hE] at hrow
          refine ⟨k + 1, .slice (some ⟨g, 0, none⟩) (byt (p + 1) U).length cc, rfl, by omega, ⟨⟨?_, ?_⟩⟩, ⟨((pw_below_drewN HB.out 1).setCell (p := ⟨g, p / 8, none⟩) hg1 _).setCell (p := ⟨wb, 1, none⟩) hwb _⟩⟩
          · rw [hN]
            exact blk_put (blk_far (blk_drewN HWI.out.blk 1) (p := ⟨g, p / 8, none⟩) (fun e => hgw e.symm) _) 1 _ rfl
          · rw [hN]
            exact Kd.R_far hrow (p := ⟨wb, 1, none⟩) (fun j hj => hj) _
        case measure => omega
    · obtain rfl : k = many := by omega
      have c1 : ¬ ((k : Int) < (k : Int)) := by omega
      go_wp2_with (fail)
      refine bodyPost_ret (v := .tuple #[]) (by simp [results, Tryd.results57, go_sem]) rfl ?_
      exact ⟨v', rfl, HW.out, HB.out⟩
/-- The bits of a size in a form. -/
def fbits (f : Nat) : Nat := if f ≤ 1 then 10 else if f = 2 then 14 else 18
def hdrV (kind f many bytes : Nat) : Nat := kind + f * 4 + many * 16 + bytes * 2 ^ (4 + fbits f)
def spec_header.f (a0 a1 a2 a3 : Int) : Option (List Int) :=
  if 0 ≤ a0 ∧ a0 ≤ 3 ∧ 0 ≤ a1 ∧ a1 ≤ 3 ∧ 0 ≤ a2 ∧ a2 < ((2 ^ fbits a1.toNat : Nat) : Int) ∧ 0 ≤ a3 ∧ a3 < ((2 ^ fbits a1.toNat : Nat) : Int) then some (byt (4 + 2 * fbits a1.toNat) (hdrV a0.toNat a1.toNat a2.toNat a3.toNat)) else none
set_option maxHeartbeats 2000000 in
set_option maxRecDepth 100000 in
theorem header_any (kd f many bytes nb : Nat) (w : World) (hk : kd ≤ 3) (hf : f ≤ 3) (hnb : fbits f = nb) (hm : many < 2 ^ nb) (hb : bytes < 2 ^ nb) :
    Calls Tryd.prog 41 #[.int .i64 kd, .int .i64 f, .int .i64 many, .int .i64 bytes] w fun e w' => ∃ v0_ : Value, e = .returned v0_ ∧ Kd.R (Kd.int .u8) 5 w' w.heap.size (fun _ => True) v0_ (byt (4 + 2 * nb) (hdrV kd f many bytes)) ∧ Below w.heap.size w w' := by
  have hu117 := Tryd.underlying117
  have hu33 := Tryd.underlying33
  have HB := Aside0.mk (Below.refl w.heap.size w)
  have hnb18 : nb ≤ 18 := by
    rw [← hnb]
    unfold fbits
    by_cases e1 : f ≤ 1
    · rw [if_pos e1]; omega
    · rw [if_neg e1]
      by_cases e2 : f = 2
      · rw [if_pos e2]; omega
      · rw [if_neg e2]; omega
  have hnb2 : 2 ^ nb ≤ 2 ^ 18 := Nat.pow_le_pow_right (by decide) hnb18
  have hx1 : many ≤ 1000000000 := by omega
  have hx2 : bytes ≤ 1000000000 := by omega
  have hkm : kd % 2 ^ 2 = kd := Nat.mod_eq_of_lt (by omega)
  have hfm : f % 2 ^ 2 = f := Nat.mod_eq_of_lt (by omega)
  have hmm : many % 2 ^ nb = many := Nat.mod_eq_of_lt hm
  have hbm : bytes % 2 ^ nb = bytes := Nat.mod_eq_of_lt hb
  have HV1 := Aside0.mk (show 0 + kd % 2 ^ 2 * 2 ^ 0 < 2 ^ (0 + 2) by rw [hkm]; omega)
  have HV2 := Aside0.mk (show 0 + kd % 2 ^ 2 * 2 ^ 0 + f % 2 ^ 2 * 2 ^ (0 + 2) < 2 ^ (0 + 2 + 2) by rw [hkm, hfm]; omega)
  have HV3 := Aside0.mk (show 0 + kd % 2 ^ 2 * 2 ^ 0 + f % 2 ^ 2 * 2 ^ (0 + 2) + many % 2 ^ nb * 2 ^ (0 + 2 + 2) < 2 ^ (0 + 2 + 2 + nb) by
    rw [hkm, hfm, hmm, Nat.pow_add 2 (0 + 2 + 2) nb]
    omega)
  have HE := Aside0.mk (show byt (0 + 2 + 2 + nb + nb) (0 + kd % 2 ^ 2 * 2 ^ 0 + f % 2 ^ 2 * 2 ^ (0 + 2) + many % 2 ^ nb * 2 ^ (0 + 2 + 2) + bytes % 2 ^ nb * 2 ^ (0 + 2 + 2 + nb)) = byt (4 + 2 * nb) (hdrV kd f many bytes) by
    rw [hkm, hfm, hmm, hbm]
    unfold hdrV
    rw [hnb, show 0 + 2 + 2 + nb + nb = 4 + 2 * nb by omega, show 0 + 2 + 2 + nb = 4 + nb by omega]
    congr 1
    omega)
  have hb0 : Below w.heap.size w (w.alloc (Obj.cells #[.slice none 0 0, .int .i64 0] 117)) := below_alloc HB.out _
  have hw0 : IsW w.heap.size (.slice none 0 0) 0 w.heap.size (byt 0 0) (w.alloc (Obj.cells #[.slice none 0 0, .int .i64 0] 117)) := ⟨blk_new w _, nilRow _ _ (below_size hb0)⟩
  have P1 := Aside0.mk (put_any w.heap.size 0 0 2 kd (.slice none 0 0) w _ (by decide) (by omega) (by omega) (by omega) hw0 hb0 (Nat.le_refl _))
  have P2 := Aside0.mk (fun v1 w1 h1 h2 => put_any w.heap.size (0 + 2) (0 + kd % 2 ^ 2 * 2 ^ 0) 2 f v1 w w1 HV1.out (by omega) (by omega) (by omega) h1 h2 (Nat.le_refl _))
  have P3 := Aside0.mk (fun v1 w1 h1 h2 => put_any w.heap.size (0 + 2 + 2) (0 + kd % 2 ^ 2 * 2 ^ 0 + f % 2 ^ 2 * 2 ^ (0 + 2)) nb many v1 w w1 HV2.out (by omega) (by omega) hx1 h1 h2 (Nat.le_refl _))
  have P4 := Aside0.mk (fun v1 w1 h1 h2 => put_any w.heap.size (0 + 2 + 2 + nb) (0 + kd % 2 ^ 2 * 2 ^ 0 + f % 2 ^ 2 * 2 ^ (0 + 2) + many % 2 ^ nb * 2 ^ (0 + 2 + 2)) nb bytes v1 w w1 HV3.out (by omega) (by omega) hx2 h1 h2 (Nat.le_refl _))
  have HNB := Aside0.mk hnb
  clear hkm hfm hmm hbm hnb hnb2 hm hb hw0 hb0
  go_enter Tryd.func41, Tryd.ntmps41
  rcases (show f = 0 ∨ f = 1 ∨ f = 2 ∨ f = 3 by omega) with rfl | rfl | rfl | rfl
  · obtain rfl : nb = 10 := HNB.out.symm
    go_wp2_with (first
      | (go_at_call 57; refine (P4.out v3 w3 HW3.out HB3.out).mono ?_; rintro e w4 ⟨v4, rfl, hw4, hb4⟩; rw [HE.out] at hw4; obtain ⟨g4, c4, ev4, -, -, -⟩ := Kd.R_form hw4.row (by rw [byt_length]; omega); subst ev4; have r4 : w4.cell? ⟨w.heap.size, 0, none⟩ = _ := (blk_cell hw4.blk 0).trans rfl; have HW4 := Aside0.mk hw4; have HB4 := Aside0.mk hb4; clear hw4 hb4)
      | (go_at_call 57; refine (P3.out v2 _ (HW2.out.alloc _) (below_alloc HB2.out _)).mono ?_; rintro e w3 ⟨v3, rfl, hw3, hb3⟩; have HW3 := Aside0.mk hw3; have HB3 := Aside0.mk hb3; clear hw3 hb3)
      | (go_at_call 57; refine (P2.out v1 w1 HW1.out HB1.out).mono ?_; rintro e w2 ⟨v2, rfl, hw2, hb2⟩; have HW2 := Aside0.mk hw2; have HB2 := Aside0.mk hb2; clear hw2 hb2)
      | (go_at_call 57; refine P1.out.mono ?_; rintro e w1 ⟨v1, rfl, hw1, hb1⟩; have HW1 := Aside0.mk hw1; have HB1 := Aside0.mk hb1; clear hw1 hb1))
    go_ret
    exact ⟨_, rfl, Kd.R_of_own (Kd.own_of_R HW4.out.row) (fun _ _ => trivial), HB4.out⟩
  · obtain rfl : nb = 10 := HNB.out.symm
    go_wp2_with (first
      | (go_at_call 57; refine (P4.out v3 w3 HW3.out HB3.out).mono ?_; rintro e w4 ⟨v4, rfl, hw4, hb4⟩; rw [HE.out] at hw4; obtain ⟨g4, c4, ev4, -, -, -⟩ := Kd.R_form hw4.row (by rw [byt_length]; omega); subst ev4; have r4 : w4.cell? ⟨w.heap.size, 0, none⟩ = _ := (blk_cell hw4.blk 0).trans rfl; have HW4 := Aside0.mk hw4; have HB4 := Aside0.mk hb4; clear hw4 hb4)
      | (go_at_call 57; refine (P3.out v2 _ (HW2.out.alloc _) (below_alloc HB2.out _)).mono ?_; rintro e w3 ⟨v3, rfl, hw3, hb3⟩; have HW3 := Aside0.mk hw3; have HB3 := Aside0.mk hb3; clear hw3 hb3)
      | (go_at_call 57; refine (P2.out v1 w1 HW1.out HB1.out).mono ?_; rintro e w2 ⟨v2, rfl, hw2, hb2⟩; have HW2 := Aside0.mk hw2; have HB2 := Aside0.mk hb2; clear hw2 hb2)
      | (go_at_call 57; refine P1.out.mono ?_; rintro e w1 ⟨v1, rfl, hw1, hb1⟩; have HW1 := Aside0.mk hw1; have HB1 := Aside0.mk hb1; clear hw1 hb1))
    go_ret
    exact ⟨_, rfl, Kd.R_of_own (Kd.own_of_R HW4.out.row) (fun _ _ => trivial), HB4.out⟩
  · obtain rfl : nb = 14 := HNB.out.symm
    go_wp2_with (first
      | (go_at_call 57; refine (P4.out v3 w3 HW3.out HB3.out).mono ?_; rintro e w4 ⟨v4, rfl, hw4, hb4⟩; rw [HE.out] at hw4; obtain ⟨g4, c4, ev4, -, -, -⟩ := Kd.R_form hw4.row (by rw [byt_length]; omega); subst ev4; have r4 : w4.cell? ⟨w.heap.size, 0, none⟩ = _ := (blk_cell hw4.blk 0).trans rfl; have HW4 := Aside0.mk hw4; have HB4 := Aside0.mk hb4; clear hw4 hb4)
      | (go_at_call 57; refine (P3.out v2 _ (HW2.out.alloc _) (below_alloc HB2.out _)).mono ?_; rintro e w3 ⟨v3, rfl, hw3, hb3⟩; have HW3 := Aside0.mk hw3; have HB3 := Aside0.mk hb3; clear hw3 hb3)
      | (go_at_call 57; refine (P2.out v1 w1 HW1.out HB1.out).mono ?_; rintro e w2 ⟨v2, rfl, hw2, hb2⟩; have HW2 := Aside0.mk hw2; have HB2 := Aside0.mk hb2; clear hw2 hb2)
      | (go_at_call 57; refine P1.out.mono ?_; rintro e w1 ⟨v1, rfl, hw1, hb1⟩; have HW1 := Aside0.mk hw1; have HB1 := Aside0.mk hb1; clear hw1 hb1))
    go_ret
    exact ⟨_, rfl, Kd.R_of_own (Kd.own_of_R HW4.out.row) (fun _ _ => trivial), HB4.out⟩
  · obtain rfl : nb = 18 := HNB.out.symm
    go_wp2_with (first
      | (go_at_call 57; refine (P4.out v3 w3 HW3.out HB3.out).mono ?_; rintro e w4 ⟨v4, rfl, hw4, hb4⟩; rw [HE.out] at hw4; obtain ⟨g4, c4, ev4, -, -, -⟩ := Kd.R_form hw4.row (by rw [byt_length]; omega); subst ev4; have r4 : w4.cell? ⟨w.heap.size, 0, none⟩ = _ := (blk_cell hw4.blk 0).trans rfl; have HW4 := Aside0.mk hw4; have HB4 := Aside0.mk hb4; clear hw4 hb4)
      | (go_at_call 57; refine (P3.out v2 _ (HW2.out.alloc _) (below_alloc HB2.out _)).mono ?_; rintro e w3 ⟨v3, rfl, hw3, hb3⟩; have HW3 := Aside0.mk hw3; have HB3 := Aside0.mk hb3; clear hw3 hb3)
      | (go_at_call 57; refine (P2.out v1 w1 HW1.out HB1.out).mono ?_; rintro e w2 ⟨v2, rfl, hw2, hb2⟩; have HW2 := Aside0.mk hw2; have HB2 := Aside0.mk hb2; clear hw2 hb2)
      | (go_at_call 57; refine P1.out.mono ?_; rintro e w1 ⟨v1, rfl, hw1, hb1⟩; have HW1 := Aside0.mk hw1; have HB1 := Aside0.mk hb1; clear hw1 hb1))
    go_ret
    exact ⟨_, rfl, Kd.R_of_own (Kd.own_of_R HW4.out.row) (fun _ _ => trivial), HB4.out⟩
theorem spec_header.calls (a0 a1 a2 a3 : Int) (r : List Int) (w : World) (h : spec_header.f a0 a1 a2 a3 = some r) :
    Calls Tryd.prog 41 #[.int .i64 a0, .int .i64 a1, .int .i64 a2, .int .i64 a3] w fun e w' => ∃ v0_ : Value, e = .returned (v0_) ∧ Kd.R (Kd.int .u8) 5 w' w.heap.size (fun _ => True) v0_ r ∧ Below w.heap.size w w' := by
  unfold spec_header.f at h
  split at h
  · rename_i hc
    obtain ⟨x0, y0, x1, y1, x2, y2, x3, y3⟩ := hc
    injection h with h
    subst h
    obtain ⟨n0, rfl⟩ := Int.eq_ofNat_of_zero_le x0
    obtain ⟨n1, rfl⟩ := Int.eq_ofNat_of_zero_le x1
    obtain ⟨n2, rfl⟩ := Int.eq_ofNat_of_zero_le x2
    obtain ⟨n3, rfl⟩ := Int.eq_ofNat_of_zero_le x3
    simp only [Int.toNat_natCast] at y2 y3 ⊢
    exact header_any n0 n1 n2 n3 _ w (by omega) (by omega) rfl (by omega) (by omega)
  · cases h
end Go.Proofs.YtopadgohinoomaaDoor.Cx
