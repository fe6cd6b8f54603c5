/-
Plain lemmas: what the printed loops that copy, map or compare lists compute.
-/
import Derived.Test.YtopadgohinoomaaDoorPC0
import Derived.Test.YtopadgohinoomaaDoorPC3
namespace Go.Proofs.YtopadgohinoomaaDoor.St
open Go.RowKit Go.Proofs.YtopadgohinoomaaDoorW.PrintWords Go.Proofs.YtopadgohinoomaaDoorW.PrintLast Go.Proofs.YtopadgohinoomaaDoorW.PrintMore Go.Proofs.YtopadgohinoomaaDoor.PC
set_option linter.unusedVariables false
theorem wrap_succ (i : Nat) (h : i < 9223372036854775807) : wrap64 ((i : Int) + 1) = ((i + 1 : Nat) : Int) := by
  unfold wrap64
  omega
theorem wrap_id (x : Int) (h0 : -9223372036854775808 ≤ x) (h1 : x ≤ 9223372036854775807) : wrap64 x = x := by
  unfold wrap64
  omega
theorem getD_nat {α : Type} (xs : List α) (z : α) (k : Nat) (h : k < xs.length) : xs.getD k z = xs[k] := by
  rw [List.getD_eq_getElem?_getD, List.getElem?_eq_getElem h]; rfl

/-- A printed loop that appends f of each element. -/
theorem map_loop {α β : Type} (l0 : Nat → List β → List α → Int → Int → Option (List β)) (f : α → β) (rdf : List α → Int → α) (N : Nat)
    (hstep : ∀ k acc xs n i, l0 (k + 1) acc xs n i = if i < n then (if 0 ≤ i then (if i < (xs.length : Int) then (if acc.length < N then l0 k (acc ++ [f (rdf xs i)]) xs n (wrap64 (i + 1)) else none) else none) else none) else some acc)
    (hrd : ∀ (xs : List α) (k : Nat) (h : k < xs.length), rdf xs (k : Int) = xs[k]) (l : List α) (hN : l.length < N) (h63 : l.length < 9223372036854775807) :
    ∀ (d i k : Nat) (acc : List β), i + d = l.length → d < k → acc = (l.take i).map f → l0 k acc l (l.length : Int) (i : Int) = some (l.map f) := by
  intro d
  induction d with
  | zero =>
    intro i k acc hi hk ha
    obtain ⟨k, rfl⟩ : ∃ m, k = m + 1 := ⟨k - 1, by omega⟩
    rw [hstep, if_neg (by omega), ha, List.take_of_length_le (by omega)]
  | succ d ih =>
    intro i k acc hi hk ha
    obtain ⟨k, rfl⟩ : ∃ m, k = m + 1 := ⟨k - 1, by omega⟩
    have hlt : i < l.length := by omega
    rw [hstep, if_pos (by omega), if_pos (by omega), if_pos (by omega), if_pos (by rw [ha, List.length_map, List.length_take]; omega), wrap_succ i (by omega), hrd l i hlt]
    refine ih (i + 1) k _ (by omega) (by omega) ?_
    rw [ha, List.take_add_one, List.getElem?_eq_getElem hlt, List.map_append]
    rfl

theorem inFSE_f (l : List S105) (h : l.length ≤ 1000000) : zstd_zzInFSE.f (l.length + 1) l = some (l.map fun x => ⟨x.f0, x.f1, x.f2⟩) :=
  map_loop zstd_zzInFSE.l0 (fun x => ⟨x.f0, x.f1, x.f2⟩) rd_T105 _ (fun _ _ _ _ _ => rfl) (fun xs k hk => getD_nat xs _ k hk) l (by omega) (by omega) l.length 0 _ _ (by omega) (by omega) rfl
theorem baseline_f (l : List S125) (h : l.length ≤ 1000000) : zstd_zzBaseline.f (l.length + 1) l = some (l.map fun x => ⟨x.f0, x.f1, x.f2, x.f3⟩) :=
  map_loop zstd_zzBaseline.l0 (fun x => ⟨x.f0, x.f1, x.f2, x.f3⟩) rd_T125 _ (fun _ _ _ _ _ => rfl) (fun xs k hk => getD_nat xs _ k hk) l (by omega) (by omega) l.length 0 _ _ (by omega) (by omega) rfl
theorem entries_f (l : List S29) (h : l.length ≤ 1000000) : impl_entriesOf.f (l.length + 1) l = some (l.map fun x => ⟨x.f0 % 256, x.f1 % 256, IntKind.u16.wrap x.f2⟩) :=
  map_loop impl_entriesOf.l0 (fun x => ⟨x.f0 % 256, x.f1 % 256, IntKind.u16.wrap x.f2⟩) rd_T29 _ (fun _ _ _ _ _ => rfl) (fun xs k hk => getD_nat xs _ k hk) l (by omega) (by omega) l.length 0 _ _ (by omega) (by omega) rfl
theorem based_f (l : List S107) (h : l.length ≤ 1000000) : impl_basedOf.f (l.length + 1) l = some (l.map fun x => ⟨wrap64 x.f0, wrap64 x.f1, wrap64 x.f2, wrap64 x.f3⟩) :=
  map_loop impl_basedOf.l0 (fun x => ⟨wrap64 x.f0, wrap64 x.f1, wrap64 x.f2, wrap64 x.f3⟩) rd_T107 _ (fun _ _ _ _ _ => rfl) (fun xs k hk => getD_nat xs _ k hk) l (by omega) (by omega) l.length 0 _ _ (by omega) (by omega) rfl
end Go.Proofs.YtopadgohinoomaaDoor.St
