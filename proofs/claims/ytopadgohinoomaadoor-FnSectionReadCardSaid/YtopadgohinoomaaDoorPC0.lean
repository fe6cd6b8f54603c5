/- What some of the functions that the laws use answer, as plain Lean functions, and that the calls come to these answers: written by a program of this session, after the way of the kit's print; some lines mended by hand. -/
import Derived.Test.YtopadgohinoomaaDoorProg
import Derived.Below
import Derived.Deep.Draws
import Derived.Deep.AppendLies
import Derived.Maps.AppendAt
import Derived.OwnWalk
import Derived.Laws.BytesArg
import Derived.Laws.MakeOwn
import Derived.Laws.OwnMore
import Derived.Deep.OwnRows
import Derived.Tactics
import Derived.Lib.ConvBytes
import Derived.Laws.Slices
import Derived.WalkKit
import Derived.KernelRfl
import Derived.RowKit3
import Derived.Deep.LoopGhost
import Derived.Deep.QuietTactic
import Derived.BigQuiet
import Derived.WideLaws
import Derived.Deep.DeepCutAuto
import Derived.Deep.CutBlock
import Derived.Deep.RegionHeld3
import Derived.Laws.Rows
import Derived.Lib.AppendStr
import Derived.ArgAppend
import Derived.Laws.IdiomCopy
import Derived.OrdersHeld
import Derived.Laws.BitsLemmas
import Derived.RowKit
import Derived.Test.YtopadgohinoomaaDoorWWords
import Derived.Test.YtopadgohinoomaaDoorWLast
import Derived.Test.YtopadgohinoomaaDoorWTab
import Derived.Test.YtopadgohinoomaaDoorWFour
import Derived.Test.YtopadgohinoomaaDoorWQPut
import Derived.Test.YtopadgohinoomaaDoorWApart
import Derived.Test.YtopadgohinoomaaDoorWArr
import Derived.Test.YtopadgohinoomaaDoorWZeros
import Derived.Test.YtopadgohinoomaaDoorWFoot
import Derived.Test.YtopadgohinoomaaDoorWKept
import Derived.Test.YtopadgohinoomaaDoorWShare
import Derived.Test.YtopadgohinoomaaDoorWN
import Derived.Test.YtopadgohinoomaaDoorWFootNe
import Derived.Test.YtopadgohinoomaaDoorWAt
import Derived.Test.YtopadgohinoomaaDoorWEqStruct
import Derived.Test.YtopadgohinoomaaDoorWRepsOne
import Derived.Test.YtopadgohinoomaaDoorWInv
import Derived.Test.YtopadgohinoomaaDoorWInvWords
import Derived.Test.YtopadgohinoomaaDoorWGuard
import Derived.Test.YtopadgohinoomaaDoorWNEv
import Derived.Test.YtopadgohinoomaaDoorWMore
namespace Go.Proofs.YtopadgohinoomaaDoor.PC
open Go.RowKit Go.Proofs.YtopadgohinoomaaDoorW.PrintWords Go.Proofs.YtopadgohinoomaaDoorW.PrintLast Go.Proofs.YtopadgohinoomaaDoorW.PrintMore
attribute [local go_sem] max2_int min2_int max_two min_two max_three min_three max_four min_four   -- for this text's walks alone
set_option linter.unusedVariables false
set_option linter.unusedSimpArgs false



def errW : Option Int → Value
  | none => .nilIface
  | some c => .iface 0 (.int .i64 c)
theorem errW_none : errW none = .nilIface := rfl
theorem errW_some (c : Int) : errW (some c) = .iface 0 (.int .i64 c) := rfl

theorem info3 : (Tryd.prog.info? 3).map (fun i => (i.zero, i.size, i.bytes)) = some (some (.int .i64 0), 1, 8) := by kernel_rfl
theorem info4 : (Tryd.prog.info? 4).map (fun i => (i.zero, i.size, i.bytes)) = some (some (.bool false), 1, 1) := by kernel_rfl
theorem info5 : (Tryd.prog.info? 5).map (fun i => (i.zero, i.size, i.bytes)) = some (some (.int .u8 0), 1, 1) := by kernel_rfl
theorem info54 : (Tryd.prog.info? 54).map (fun i => (i.zero, i.size, i.bytes)) = some (some (.agg #[(.int .i64 0), (.int .i64 0), (.int .i64 0), (.int .i64 0)]), 4, 32) := by kernel_rfl
theorem info68 : (Tryd.prog.info? 68).map (fun i => (i.zero, i.size, i.bytes)) = some (some (.agg #[(.int .i64 0), (.int .i64 0)]), 2, 16) := by kernel_rfl
theorem info103 : (Tryd.prog.info? 103).map (fun i => (i.zero, i.size, i.bytes)) = some (some (.int .u16 0), 1, 2) := by kernel_rfl
theorem info105 : (Tryd.prog.info? 105).map (fun i => (i.zero, i.size, i.bytes)) = some (some (.agg #[(.int .u8 0), (.int .u8 0), (.int .u16 0)]), 3, 4) := by kernel_rfl
theorem info107 : (Tryd.prog.info? 107).map (fun i => (i.zero, i.size, i.bytes)) = some (some (.agg #[(.int .u32 0), (.int .u8 0), (.int .u8 0), (.int .u16 0)]), 4, 8) := by kernel_rfl
theorem info123 : (Tryd.prog.info? 123).map (fun i => (i.zero, i.size, i.bytes)) = some (some (.agg #[(.int .u8 0), (.int .u8 0), (.int .u16 0)]), 3, 4) := by kernel_rfl
-- the values' own types
/-! #### struct type 29 -/
structure S29 where
  f0 : Int
  f1 : Int
  f2 : Int
def z29 : S29 := ⟨(0 : Int), (0 : Int), (0 : Int)⟩
def k29 : Kd S29 := Kd.iso (Kd.pair (Kd.int .i64) (Kd.pair (Kd.int .i64) (Kd.int .i64))) (fun x : S29 => (x.f0, x.f1, x.f2))
theorem k29_open {w : World} {x : S29} {cs : List Value} (h : k29.K w x cs) : cs = [.int .i64 x.f0, .int .i64 x.f1, .int .i64 x.f2] := by
  obtain ⟨_, _, rfl, rfl, ⟨_, _, rfl, rfl, rfl⟩⟩ := h
  exact rfl
theorem k29_openM {w : World} {base : Nat} {ok : Nat → Prop} {x : S29} {cs : List Value} (h : k29.M w base ok x cs) : cs = [.int .i64 x.f0, .int .i64 x.f1, .int .i64 x.f2] := by
  obtain ⟨_, _, rfl, rfl, ⟨_, _, rfl, rfl, rfl⟩⟩ := h
  exact rfl
theorem k29_mk (w : World) (x : S29)  : k29.K w x [.int .i64 x.f0, .int .i64 x.f1, .int .i64 x.f2] := ⟨[.int .i64 x.f0], [.int .i64 x.f1, .int .i64 x.f2], rfl, rfl, ⟨[.int .i64 x.f1], [.int .i64 x.f2], rfl, rfl, rfl⟩⟩
theorem k29_mkM (w : World) (base : Nat) (ok : Nat → Prop) (x : S29)  : k29.M w base ok x [.int .i64 x.f0, .int .i64 x.f1, .int .i64 x.f2] := ⟨[.int .i64 x.f0], [.int .i64 x.f1, .int .i64 x.f2], rfl, rfl, ⟨[.int .i64 x.f1], [.int .i64 x.f2], rfl, rfl, rfl⟩⟩
def rd_T29 (xs : List S29) (i : Int) : S29 := xs.getD i.toNat z29
theorem at_T29 {w : World} {A : Option Addr} {n : Nat} {xs : List S29} (h : Kd.C k29 w A n xs) (i : Int) (h0 : 0 ≤ i) (h1 : i < n) : ∃ ad , A = some ad ∧ w.cell? (ad.add (i.toNat * 3)) = some (.int .i64 (rd_T29 xs i).f0) ∧ w.cell? ⟨(ad.add (i.toNat * 3)).block, (ad.add (i.toNat * 3)).off + 1, none⟩ = some (.int .i64 (rd_T29 xs i).f1) ∧ w.cell? ⟨(ad.add (i.toNat * 3)).block, (ad.add (i.toNat * 3)).off + 2, none⟩ = some (.int .i64 (rd_T29 xs i).f2) := by
  obtain ⟨ad, c, e, _, hK, hc0⟩ := Kd.C_get h z29 i h0 h1
  have hc : ∀ j u, c[j]? = some u → w.cell? (ad.add (i.toNat * 3 + j)) = some u := hc0
  obtain rfl := k29_open hK
  exact ⟨ad, e, hc 0 _ rfl, by rw [← add_field _ _ 1 (by omega)]; exact hc 1 _ rfl, by rw [← add_field _ _ 2 (by omega)]; exact hc 2 _ rfl⟩

/-! #### struct type 54 -/
structure S54 where
  f0 : Int
  f1 : Int
  f2 : Int
  f3 : Int
def z54 : S54 := ⟨(0 : Int), (0 : Int), (0 : Int), (0 : Int)⟩
def k54 : Kd S54 := Kd.iso (Kd.pair (Kd.int .i64) (Kd.pair (Kd.int .i64) (Kd.pair (Kd.int .i64) (Kd.int .i64)))) (fun x : S54 => (x.f0, x.f1, x.f2, x.f3))
theorem k54_open {w : World} {x : S54} {cs : List Value} (h : k54.K w x cs) : cs = [.int .i64 x.f0, .int .i64 x.f1, .int .i64 x.f2, .int .i64 x.f3] := by
  obtain ⟨_, _, rfl, rfl, ⟨_, _, rfl, rfl, ⟨_, _, rfl, rfl, rfl⟩⟩⟩ := h
  exact rfl
theorem k54_openM {w : World} {base : Nat} {ok : Nat → Prop} {x : S54} {cs : List Value} (h : k54.M w base ok x cs) : cs = [.int .i64 x.f0, .int .i64 x.f1, .int .i64 x.f2, .int .i64 x.f3] := by
  obtain ⟨_, _, rfl, rfl, ⟨_, _, rfl, rfl, ⟨_, _, rfl, rfl, rfl⟩⟩⟩ := h
  exact rfl
theorem k54_mk (w : World) (x : S54)  : k54.K w x [.int .i64 x.f0, .int .i64 x.f1, .int .i64 x.f2, .int .i64 x.f3] := ⟨[.int .i64 x.f0], [.int .i64 x.f1, .int .i64 x.f2, .int .i64 x.f3], rfl, rfl, ⟨[.int .i64 x.f1], [.int .i64 x.f2, .int .i64 x.f3], rfl, rfl, ⟨[.int .i64 x.f2], [.int .i64 x.f3], rfl, rfl, rfl⟩⟩⟩
theorem k54_mkM (w : World) (base : Nat) (ok : Nat → Prop) (x : S54)  : k54.M w base ok x [.int .i64 x.f0, .int .i64 x.f1, .int .i64 x.f2, .int .i64 x.f3] := ⟨[.int .i64 x.f0], [.int .i64 x.f1, .int .i64 x.f2, .int .i64 x.f3], rfl, rfl, ⟨[.int .i64 x.f1], [.int .i64 x.f2, .int .i64 x.f3], rfl, rfl, ⟨[.int .i64 x.f2], [.int .i64 x.f3], rfl, rfl, rfl⟩⟩⟩
def rd_T54 (xs : List S54) (i : Int) : S54 := xs.getD i.toNat z54
theorem at_T54 {w : World} {A : Option Addr} {n : Nat} {xs : List S54} (h : Kd.C k54 w A n xs) (i : Int) (h0 : 0 ≤ i) (h1 : i < n) : ∃ ad , A = some ad ∧ w.cell? (ad.add (i.toNat * 4)) = some (.int .i64 (rd_T54 xs i).f0) ∧ w.cell? ⟨(ad.add (i.toNat * 4)).block, (ad.add (i.toNat * 4)).off + 1, none⟩ = some (.int .i64 (rd_T54 xs i).f1) ∧ w.cell? ⟨(ad.add (i.toNat * 4)).block, (ad.add (i.toNat * 4)).off + 2, none⟩ = some (.int .i64 (rd_T54 xs i).f2) ∧ w.cell? ⟨(ad.add (i.toNat * 4)).block, (ad.add (i.toNat * 4)).off + 3, none⟩ = some (.int .i64 (rd_T54 xs i).f3) := by
  obtain ⟨ad, c, e, _, hK, hc0⟩ := Kd.C_get h z54 i h0 h1
  have hc : ∀ j u, c[j]? = some u → w.cell? (ad.add (i.toNat * 4 + j)) = some u := hc0
  obtain rfl := k54_open hK
  exact ⟨ad, e, hc 0 _ rfl, by rw [← add_field _ _ 1 (by omega)]; exact hc 1 _ rfl, by rw [← add_field _ _ 2 (by omega)]; exact hc 2 _ rfl, by rw [← add_field _ _ 3 (by omega)]; exact hc 3 _ rfl⟩

/-! #### struct type 105 -/
structure S105 where
  f0 : Int
  f1 : Int
  f2 : Int
def z105 : S105 := ⟨(0 : Int), (0 : Int), (0 : Int)⟩
def k105 : Kd S105 := Kd.iso (Kd.pair (Kd.int .u8) (Kd.pair (Kd.int .u8) (Kd.int .u16))) (fun x : S105 => (x.f0, x.f1, x.f2))
theorem k105_open {w : World} {x : S105} {cs : List Value} (h : k105.K w x cs) : cs = [.int .u8 x.f0, .int .u8 x.f1, .int .u16 x.f2] := by
  obtain ⟨_, _, rfl, rfl, ⟨_, _, rfl, rfl, rfl⟩⟩ := h
  exact rfl
theorem k105_openM {w : World} {base : Nat} {ok : Nat → Prop} {x : S105} {cs : List Value} (h : k105.M w base ok x cs) : cs = [.int .u8 x.f0, .int .u8 x.f1, .int .u16 x.f2] := by
  obtain ⟨_, _, rfl, rfl, ⟨_, _, rfl, rfl, rfl⟩⟩ := h
  exact rfl
theorem k105_mk (w : World) (x : S105)  : k105.K w x [.int .u8 x.f0, .int .u8 x.f1, .int .u16 x.f2] := ⟨[.int .u8 x.f0], [.int .u8 x.f1, .int .u16 x.f2], rfl, rfl, ⟨[.int .u8 x.f1], [.int .u16 x.f2], rfl, rfl, rfl⟩⟩
theorem k105_mkM (w : World) (base : Nat) (ok : Nat → Prop) (x : S105)  : k105.M w base ok x [.int .u8 x.f0, .int .u8 x.f1, .int .u16 x.f2] := ⟨[.int .u8 x.f0], [.int .u8 x.f1, .int .u16 x.f2], rfl, rfl, ⟨[.int .u8 x.f1], [.int .u16 x.f2], rfl, rfl, rfl⟩⟩
def rd_T105 (xs : List S105) (i : Int) : S105 := xs.getD i.toNat z105
theorem at_T105 {w : World} {A : Option Addr} {n : Nat} {xs : List S105} (h : Kd.C k105 w A n xs) (i : Int) (h0 : 0 ≤ i) (h1 : i < n) : ∃ ad , A = some ad ∧ w.cell? (ad.add (i.toNat * 3)) = some (.int .u8 (rd_T105 xs i).f0) ∧ w.cell? ⟨(ad.add (i.toNat * 3)).block, (ad.add (i.toNat * 3)).off + 1, none⟩ = some (.int .u8 (rd_T105 xs i).f1) ∧ w.cell? ⟨(ad.add (i.toNat * 3)).block, (ad.add (i.toNat * 3)).off + 2, none⟩ = some (.int .u16 (rd_T105 xs i).f2) := by
  obtain ⟨ad, c, e, _, hK, hc0⟩ := Kd.C_get h z105 i h0 h1
  have hc : ∀ j u, c[j]? = some u → w.cell? (ad.add (i.toNat * 3 + j)) = some u := hc0
  obtain rfl := k105_open hK
  exact ⟨ad, e, hc 0 _ rfl, by rw [← add_field _ _ 1 (by omega)]; exact hc 1 _ rfl, by rw [← add_field _ _ 2 (by omega)]; exact hc 2 _ rfl⟩

/-! #### struct type 123 -/
structure S123 where
  f0 : Int
  f1 : Int
  f2 : Int
def z123 : S123 := ⟨(0 : Int), (0 : Int), (0 : Int)⟩
def k123 : Kd S123 := Kd.iso (Kd.pair (Kd.int .u8) (Kd.pair (Kd.int .u8) (Kd.int .u16))) (fun x : S123 => (x.f0, x.f1, x.f2))
theorem k123_open {w : World} {x : S123} {cs : List Value} (h : k123.K w x cs) : cs = [.int .u8 x.f0, .int .u8 x.f1, .int .u16 x.f2] := by
  obtain ⟨_, _, rfl, rfl, ⟨_, _, rfl, rfl, rfl⟩⟩ := h
  exact rfl
theorem k123_openM {w : World} {base : Nat} {ok : Nat → Prop} {x : S123} {cs : List Value} (h : k123.M w base ok x cs) : cs = [.int .u8 x.f0, .int .u8 x.f1, .int .u16 x.f2] := by
  obtain ⟨_, _, rfl, rfl, ⟨_, _, rfl, rfl, rfl⟩⟩ := h
  exact rfl
theorem k123_mk (w : World) (x : S123)  : k123.K w x [.int .u8 x.f0, .int .u8 x.f1, .int .u16 x.f2] := ⟨[.int .u8 x.f0], [.int .u8 x.f1, .int .u16 x.f2], rfl, rfl, ⟨[.int .u8 x.f1], [.int .u16 x.f2], rfl, rfl, rfl⟩⟩
theorem k123_mkM (w : World) (base : Nat) (ok : Nat → Prop) (x : S123)  : k123.M w base ok x [.int .u8 x.f0, .int .u8 x.f1, .int .u16 x.f2] := ⟨[.int .u8 x.f0], [.int .u8 x.f1, .int .u16 x.f2], rfl, rfl, ⟨[.int .u8 x.f1], [.int .u16 x.f2], rfl, rfl, rfl⟩⟩
def rd_T123 (xs : List S123) (i : Int) : S123 := xs.getD i.toNat z123
theorem at_T123 {w : World} {A : Option Addr} {n : Nat} {xs : List S123} (h : Kd.C k123 w A n xs) (i : Int) (h0 : 0 ≤ i) (h1 : i < n) : ∃ ad , A = some ad ∧ w.cell? (ad.add (i.toNat * 3)) = some (.int .u8 (rd_T123 xs i).f0) ∧ w.cell? ⟨(ad.add (i.toNat * 3)).block, (ad.add (i.toNat * 3)).off + 1, none⟩ = some (.int .u8 (rd_T123 xs i).f1) ∧ w.cell? ⟨(ad.add (i.toNat * 3)).block, (ad.add (i.toNat * 3)).off + 2, none⟩ = some (.int .u16 (rd_T123 xs i).f2) := by
  obtain ⟨ad, c, e, _, hK, hc0⟩ := Kd.C_get h z123 i h0 h1
  have hc : ∀ j u, c[j]? = some u → w.cell? (ad.add (i.toNat * 3 + j)) = some u := hc0
  obtain rfl := k123_open hK
  exact ⟨ad, e, hc 0 _ rfl, by rw [← add_field _ _ 1 (by omega)]; exact hc 1 _ rfl, by rw [← add_field _ _ 2 (by omega)]; exact hc 2 _ rfl⟩

/-! #### struct type 125 -/
structure S125 where
  f0 : Int
  f1 : Int
  f2 : Int
  f3 : Int
def z125 : S125 := ⟨(0 : Int), (0 : Int), (0 : Int), (0 : Int)⟩
def k125 : Kd S125 := Kd.iso (Kd.pair (Kd.int .u32) (Kd.pair (Kd.int .u8) (Kd.pair (Kd.int .u8) (Kd.int .u16)))) (fun x : S125 => (x.f0, x.f1, x.f2, x.f3))
theorem k125_open {w : World} {x : S125} {cs : List Value} (h : k125.K w x cs) : cs = [.int .u32 x.f0, .int .u8 x.f1, .int .u8 x.f2, .int .u16 x.f3] := by
  obtain ⟨_, _, rfl, rfl, ⟨_, _, rfl, rfl, ⟨_, _, rfl, rfl, rfl⟩⟩⟩ := h
  exact rfl
theorem k125_openM {w : World} {base : Nat} {ok : Nat → Prop} {x : S125} {cs : List Value} (h : k125.M w base ok x cs) : cs = [.int .u32 x.f0, .int .u8 x.f1, .int .u8 x.f2, .int .u16 x.f3] := by
  obtain ⟨_, _, rfl, rfl, ⟨_, _, rfl, rfl, ⟨_, _, rfl, rfl, rfl⟩⟩⟩ := h
  exact rfl
theorem k125_mk (w : World) (x : S125)  : k125.K w x [.int .u32 x.f0, .int .u8 x.f1, .int .u8 x.f2, .int .u16 x.f3] := ⟨[.int .u32 x.f0], [.int .u8 x.f1, .int .u8 x.f2, .int .u16 x.f3], rfl, rfl, ⟨[.int .u8 x.f1], [.int .u8 x.f2, .int .u16 x.f3], rfl, rfl, ⟨[.int .u8 x.f2], [.int .u16 x.f3], rfl, rfl, rfl⟩⟩⟩
theorem k125_mkM (w : World) (base : Nat) (ok : Nat → Prop) (x : S125)  : k125.M w base ok x [.int .u32 x.f0, .int .u8 x.f1, .int .u8 x.f2, .int .u16 x.f3] := ⟨[.int .u32 x.f0], [.int .u8 x.f1, .int .u8 x.f2, .int .u16 x.f3], rfl, rfl, ⟨[.int .u8 x.f1], [.int .u8 x.f2, .int .u16 x.f3], rfl, rfl, ⟨[.int .u8 x.f2], [.int .u16 x.f3], rfl, rfl, rfl⟩⟩⟩
def rd_T125 (xs : List S125) (i : Int) : S125 := xs.getD i.toNat z125
theorem at_T125 {w : World} {A : Option Addr} {n : Nat} {xs : List S125} (h : Kd.C k125 w A n xs) (i : Int) (h0 : 0 ≤ i) (h1 : i < n) : ∃ ad , A = some ad ∧ w.cell? (ad.add (i.toNat * 4)) = some (.int .u32 (rd_T125 xs i).f0) ∧ w.cell? ⟨(ad.add (i.toNat * 4)).block, (ad.add (i.toNat * 4)).off + 1, none⟩ = some (.int .u8 (rd_T125 xs i).f1) ∧ w.cell? ⟨(ad.add (i.toNat * 4)).block, (ad.add (i.toNat * 4)).off + 2, none⟩ = some (.int .u8 (rd_T125 xs i).f2) ∧ w.cell? ⟨(ad.add (i.toNat * 4)).block, (ad.add (i.toNat * 4)).off + 3, none⟩ = some (.int .u16 (rd_T125 xs i).f3) := by
  obtain ⟨ad, c, e, _, hK, hc0⟩ := Kd.C_get h z125 i h0 h1
  have hc : ∀ j u, c[j]? = some u → w.cell? (ad.add (i.toNat * 4 + j)) = some u := hc0
  obtain rfl := k125_open hK
  exact ⟨ad, e, hc 0 _ rfl, by rw [← add_field _ _ 1 (by omega)]; exact hc 1 _ rfl, by rw [← add_field _ _ 2 (by omega)]; exact hc 2 _ rfl, by rw [← add_field _ _ 3 (by omega)]; exact hc 3 _ rfl⟩

/-! #### struct type 107 -/
structure S107 where
  f0 : Int
  f1 : Int
  f2 : Int
  f3 : Int
def z107 : S107 := ⟨(0 : Int), (0 : Int), (0 : Int), (0 : Int)⟩
def k107 : Kd S107 := Kd.iso (Kd.pair (Kd.int .u32) (Kd.pair (Kd.int .u8) (Kd.pair (Kd.int .u8) (Kd.int .u16)))) (fun x : S107 => (x.f0, x.f1, x.f2, x.f3))
theorem k107_open {w : World} {x : S107} {cs : List Value} (h : k107.K w x cs) : cs = [.int .u32 x.f0, .int .u8 x.f1, .int .u8 x.f2, .int .u16 x.f3] := by
  obtain ⟨_, _, rfl, rfl, ⟨_, _, rfl, rfl, ⟨_, _, rfl, rfl, rfl⟩⟩⟩ := h
  exact rfl
theorem k107_openM {w : World} {base : Nat} {ok : Nat → Prop} {x : S107} {cs : List Value} (h : k107.M w base ok x cs) : cs = [.int .u32 x.f0, .int .u8 x.f1, .int .u8 x.f2, .int .u16 x.f3] := by
  obtain ⟨_, _, rfl, rfl, ⟨_, _, rfl, rfl, ⟨_, _, rfl, rfl, rfl⟩⟩⟩ := h
  exact rfl
theorem k107_mk (w : World) (x : S107)  : k107.K w x [.int .u32 x.f0, .int .u8 x.f1, .int .u8 x.f2, .int .u16 x.f3] := ⟨[.int .u32 x.f0], [.int .u8 x.f1, .int .u8 x.f2, .int .u16 x.f3], rfl, rfl, ⟨[.int .u8 x.f1], [.int .u8 x.f2, .int .u16 x.f3], rfl, rfl, ⟨[.int .u8 x.f2], [.int .u16 x.f3], rfl, rfl, rfl⟩⟩⟩
theorem k107_mkM (w : World) (base : Nat) (ok : Nat → Prop) (x : S107)  : k107.M w base ok x [.int .u32 x.f0, .int .u8 x.f1, .int .u8 x.f2, .int .u16 x.f3] := ⟨[.int .u32 x.f0], [.int .u8 x.f1, .int .u8 x.f2, .int .u16 x.f3], rfl, rfl, ⟨[.int .u8 x.f1], [.int .u8 x.f2, .int .u16 x.f3], rfl, rfl, ⟨[.int .u8 x.f2], [.int .u16 x.f3], rfl, rfl, rfl⟩⟩⟩
def rd_T107 (xs : List S107) (i : Int) : S107 := xs.getD i.toNat z107
theorem at_T107 {w : World} {A : Option Addr} {n : Nat} {xs : List S107} (h : Kd.C k107 w A n xs) (i : Int) (h0 : 0 ≤ i) (h1 : i < n) : ∃ ad , A = some ad ∧ w.cell? (ad.add (i.toNat * 4)) = some (.int .u32 (rd_T107 xs i).f0) ∧ w.cell? ⟨(ad.add (i.toNat * 4)).block, (ad.add (i.toNat * 4)).off + 1, none⟩ = some (.int .u8 (rd_T107 xs i).f1) ∧ w.cell? ⟨(ad.add (i.toNat * 4)).block, (ad.add (i.toNat * 4)).off + 2, none⟩ = some (.int .u8 (rd_T107 xs i).f2) ∧ w.cell? ⟨(ad.add (i.toNat * 4)).block, (ad.add (i.toNat * 4)).off + 3, none⟩ = some (.int .u16 (rd_T107 xs i).f3) := by
  obtain ⟨ad, c, e, _, hK, hc0⟩ := Kd.C_get h z107 i h0 h1
  have hc : ∀ j u, c[j]? = some u → w.cell? (ad.add (i.toNat * 4 + j)) = some u := hc0
  obtain rfl := k107_open hK
  exact ⟨ad, e, hc 0 _ rfl, by rw [← add_field _ _ 1 (by omega)]; exact hc 1 _ rfl, by rw [← add_field _ _ 2 (by omega)]; exact hc 2 _ rfl, by rw [← add_field _ _ 3 (by omega)]; exact hc 3 _ rfl⟩

/-! #### struct type 68 -/
structure S68 where
  f0 : Int
  f1 : Int
def z68 : S68 := ⟨(0 : Int), (0 : Int)⟩
def k68 : Kd S68 := Kd.iso (Kd.pair (Kd.int .i64) (Kd.int .i64)) (fun x : S68 => (x.f0, x.f1))
theorem k68_open {w : World} {x : S68} {cs : List Value} (h : k68.K w x cs) : cs = [.int .i64 x.f0, .int .i64 x.f1] := by
  obtain ⟨_, _, rfl, rfl, rfl⟩ := h
  exact rfl
theorem k68_openM {w : World} {base : Nat} {ok : Nat → Prop} {x : S68} {cs : List Value} (h : k68.M w base ok x cs) : cs = [.int .i64 x.f0, .int .i64 x.f1] := by
  obtain ⟨_, _, rfl, rfl, rfl⟩ := h
  exact rfl
theorem k68_mk (w : World) (x : S68)  : k68.K w x [.int .i64 x.f0, .int .i64 x.f1] := ⟨[.int .i64 x.f0], [.int .i64 x.f1], rfl, rfl, rfl⟩
theorem k68_mkM (w : World) (base : Nat) (ok : Nat → Prop) (x : S68)  : k68.M w base ok x [.int .i64 x.f0, .int .i64 x.f1] := ⟨[.int .i64 x.f0], [.int .i64 x.f1], rfl, rfl, rfl⟩
def rd_T68 (xs : List S68) (i : Int) : S68 := xs.getD i.toNat z68
theorem at_T68 {w : World} {A : Option Addr} {n : Nat} {xs : List S68} (h : Kd.C k68 w A n xs) (i : Int) (h0 : 0 ≤ i) (h1 : i < n) : ∃ ad , A = some ad ∧ w.cell? (ad.add (i.toNat * 2)) = some (.int .i64 (rd_T68 xs i).f0) ∧ w.cell? ⟨(ad.add (i.toNat * 2)).block, (ad.add (i.toNat * 2)).off + 1, none⟩ = some (.int .i64 (rd_T68 xs i).f1) := by
  obtain ⟨ad, c, e, _, hK, hc0⟩ := Kd.C_get h z68 i h0 h1
  have hc : ∀ j u, c[j]? = some u → w.cell? (ad.add (i.toNat * 2 + j)) = some u := hc0
  obtain rfl := k68_open hK
  exact ⟨ad, e, hc 0 _ rfl, by rw [← add_field _ _ 1 (by omega)]; exact hc 1 _ rfl⟩

end Go.Proofs.YtopadgohinoomaaDoor.PC
