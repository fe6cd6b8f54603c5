/-
PROVED: FnMatchStates returns true for every table of states, and leaves it as it was: the states of lengths of matches have the least value of their code, and how many bits are added; a symbol that is no code is refused. Conditions: io.EOF and the package's table of bases read as the program's text lays them (tied).
-/
import Derived.Test.YtopadgohinoomaaDoorSv
import Derived.Test.YtopadgohinoomaaDoorSy
import Derived.Test.YtopadgohinoomaaDoorTie
import Derived.Test.YtopadgohinoomaaDoorCards
import Derived.SevenTiedAt
namespace Go.Proofs.YtopadgohinoomaaDoor.Match
open Go Go.ChangeShapes Go.WideShapes Go.ChangeAt Go.RowKit Go.Deep Go.Proofs.YtopadgohinoomaaDoorW.PrintWords Go.Proofs.YtopadgohinoomaaDoor.PC Go.Proofs.YtopadgohinoomaaDoor.St
set_option linter.unusedVariables false
abbrev V : String := "loop.example/pub-g01462/pub/zstd.matchLengthBase"
abbrev laidE : List (String × DataW Unit) := [("io.EOF", Rows.laid_io_EOF), (V, Rows.laid_loop_example_pub_g01462_pub_zstd_matchLengthBase)]
theorem own : ownKnob Tryd.prog.godebug = none := by kernel_rfl
theorem laidOut : laidOutB Tryd.prog = true := by kernel_rfl
theorem gV : Tryd.prog.globalNamed V = some 1 := by kernel_rfl
theorem tV : (Tryd.prog.globals[1]?).map (·.type) = some 127 := by kernel_rfl
theorem door_met (os : Os) (args : Array Value) : laidMetH Tryd.prog laidE ((World.doorLaid Tryd.prog 400 os).forCall (fun _ _ => 0) ⟨#[], args, []⟩).memory :=
  laidMetH_of_parts3 (fuel := 8) (laidMet_of_run' 8 (by kernel_rfl) (by kernel_rfl)) (by kernel_rfl) (by kernel_rfl)
theorem eof {W : World} (h : laidMetH Tryd.prog laidE W) : Eof W := by
  rw [MakeChecks.laidMetH_plain _ _ _ (by kernel_rfl)] at h
  exact eof_of_laid h
set_option maxRecDepth 100000 in
theorem tab {W : World} (h : laidMetH Tryd.prog laidE W) : matAt W := by
  rw [MakeChecks.laidMetH_plain _ _ _ (by kernel_rfl)] at h
  obtain ⟨ps, ⟨g0, t0, cs0, f0, p0, q0, hg0, ht0, hv0, hd0, _, e0⟩, _, hrows⟩ := h.tail
  obtain rfl := Option.some.inj (gV.symm.trans hg0)
  obtain rfl := Option.some.inj (tV.symm.trans ht0)
  obtain ⟨l0⟩ := cs0
  rcases open_ints Tryd.underlying127 Tryd.underlying87 (by kernel_rfl) hd0 with ⟨_, hx⟩ | ⟨a, len, cap, zs, hcs, _, hl, hm, hz, hx, hcell, _⟩
  · simp [Rows.laid_loop_example_pub_g01462_pub_zstd_matchLengthBase] at hx
  have hcs' : l0 = [.slice (some a) len cap] := hcs
  subst hcs'
  have hd : Rows.laid_loop_example_pub_g01462_pub_zstd_matchLengthBase = DataW.slice (lits .u32 (zs.take len)) (lits .u32 (zs.drop len)) := congrArg Prod.fst hx
  have h1 : lits (H := Unit) .u32 (zs.take len) = lits .u32 matTab := by
    have := congrArg (fun d : DataW Unit => match d with | .slice e _ => e | _ => []) hd
    exact this.symm
  have h2 : lits (H := Unit) .u32 (zs.drop len) = [] := by
    have := congrArg (fun d : DataW Unit => match d with | .slice _ e => e | _ => []) hd
    exact this.symm
  have hdrop : zs.drop len = [] := by
    have := congrArg List.length h2
    simp only [lits, List.length_map, List.length_nil] at this
    exact List.eq_nil_of_length_eq_zero this
  have hzl : zs.length ≤ len := by
    have := congrArg List.length hdrop
    rw [List.length_drop, List.length_nil] at this
    omega
  have htake : zs.take len = matTab := by
    have hinj : ∀ (xs ys : List Int), lits (H := Unit) .u32 xs = lits .u32 ys → xs = ys := by
      intro xs
      induction xs with
      | nil => intro ys h; cases ys with
        | nil => rfl
        | cons y ys => simp [lits] at h
      | cons x xs ih => intro ys h; cases ys with
        | nil => simp [lits] at h
        | cons y ys =>
          simp only [lits, List.map_cons, List.cons.injEq, DataW.lit.injEq, Lit.int.injEq, true_and] at h
          rw [h.1, ih ys h.2]
    exact hinj _ _ h1
  have hzc : zs.length = cap := by rw [hz]; simp
  have hlen : len = 21 := by
    have := congrArg List.length htake
    rw [List.length_take] at this
    have h3 : matTab.length = 21 := rfl
    omega
  have hzs : zs = matTab := by rw [← htake, List.take_of_length_le hzl]
  have hcap : cap = len := by omega
  subst hcap hlen
  refine ⟨a, 21, by simpa using World.var?_cell hg0 hv0 0, Kd.C_of_reads (d := (0 : Int)) ⟨by rw [← hzs]; exact hzc, by decide, fun _ => ⟨a, rfl, fun j hj => ?_⟩⟩⟩
  rw [← hzs]
  exact hcell j (by omega)

set_option maxRecDepth 100000 in
theorem lifted (os : Os) (started : os.Started) (H : Type) (enc : TypeId × Value → H) :
    ReturnsInHanded {} Tryd.checked os 4 .any (fun w args => (Rows.fnMatchStatesSpec.pre enc Tryd.prog Tryd.f4 [] false w args ∧ laidMetH Tryd.prog laidE w) ∧ sizedMet enc Tryd.prog Tryd.f4 (OpenSpec.ofChange Rows.fnMatchStatesSpec) false w args)
      (Rows.fnMatchStatesSpec.post enc Tryd.prog Tryd.f4 false true false false) := by
  refine returnsInHanded_of_change_and (C := Tryd.checked) (X := fun w _ => laidMetH Tryd.prog laidE w) (fun _ _ _ hh h => h.of_heap hh) own started (by kernel_rfl) Tryd.func4
    (ChangeSpec.witness_shaped (enc := enc) (C := Tryd.checked) (os := os) (X := fun w _ => laidMetH Tryd.prog laidE w) false (World.doorLaid Tryd.prog 400 os) #[.slice none 0 0] 8 rfl (World.shaped_of_RefB (by kernel_rfl) (by kernel_rfl)) (by kernel_rfl) (by kernel_rfl) (by kernel_rfl) (door_met os _)) ?_
  intro W base args ds gs before hval0 hW _ _ hL _
  have hval : ∀ (j : Nat) t v, Tryd.f4.params[j]? = some t → args[j]? = some v → Value.okWide Tryd.prog W .any base t v := hval0
  have hW' := hW
  obtain ⟨p, q, hA0, hV0, rfl, hfz, hnd⟩ := hW
  have hA : DataW.TrodAll enc Tryd.prog W 0 (fun _ => true) true Tryd.f4.params.toList args.toList ds p := hA0
  have hV : DataW.TrodVars enc Tryd.prog W (fun _ => true) [V] gs q := hV0
  rw [Tryd.params4] at hA hval
  obtain ⟨v0, vs0, d0, ds0, p0, q0, hargs, rfl, rfl, h0, r0⟩ := trodAll_cons hA
  obtain ⟨rfl, rfl, rfl⟩ := trodAll_nil r0
  obtain rfl : args = #[v0] := by cases args; simp_all
  obtain ⟨g, t, cs, fuel, d, p', rfl, hg, ht, hvar, hd, rfl⟩ := trodVars_one hV
  obtain rfl := Option.some.inj (gV.symm.trans hg)
  obtain rfl := Option.some.inj (tV.symm.trans ht)
  obtain ⟨A0, len0, cap0, rfl⟩ := okWide_slice Tryd.underlying22 (hval 0 22 v0 rfl rfl)
  have k0 := h0
  have lt0 : ∀ x ∈ p0, x.block < W.heap.size := by obtain ⟨m, hm⟩ := k0; exact DataW.trod_lt m _ _ _ hm
  obtain ⟨l, rfl, hc, hC, hx⟩ := open29 h0
  obtain ⟨tad, tc, hcell, htc⟩ := tab hL
  have hsz : 1 < W.heap.size := World.block_lt_of_cell? W _ hcell
  obtain ⟨l0⟩ := cs
  have hcs1 : l0.length = 1 := by
    cases fuel with
    | zero => simp [DataW.trod] at hd
    | succ m =>
      rcases open_ints Tryd.underlying127 Tryd.underlying87 (by kernel_rfl) hd with ⟨h, _⟩ | ⟨_, _, _, _, h, _⟩
      · rw [show (⟨l0⟩ : Array Value).toList = l0 from rfl] at h; rw [h]; rfl
      · rw [show (⟨l0⟩ : Array Value).toList = l0 from rfl] at h; rw [h]; rfl
  obtain ⟨u, rfl⟩ : ∃ u, l0 = [u] := by
    match l0, hcs1 with
    | [u], _ => exact ⟨u, rfl⟩
  have hu : u = .slice (some tad) 21 tc := by
    have := World.var?_cell hg hvar 0
    rw [show (⟨1, 0, none⟩ : Addr) = ⟨1, 0, none⟩ from rfl, hcell] at this
    simpa using this.symm
  subst hu
  have kv : DataW.Trod enc Tryd.prog W 0 (fun _ => true) true 127 (.slice (some tad) 21 tc) d p' := ⟨fuel, hd⟩
  have ltv : ∀ x ∈ p', x.block < W.heap.size := DataW.trod_lt fuel _ _ _ hd
  clear hA0 hval0 hV0
  refine (matLaw_any A0 cap0 l W (tab hL) (eof hL) hC hc hx).mono fun e W' ⟨he, bel⟩ => ?_
  subst he
  have hvars : DataW.TrodVars enc Tryd.prog W' (fun b => decide (b < W.heap.size)) [V] [d] (MemPlace.row ⟨1, 0, none⟩ 1 ++ p') := by
    obtain ⟨f2, h2⟩ := Below.trod laidOut (by kernel_rfl) (of_decide_eq_true (by kernel_rfl)) kv bel ltv
    exact trodVars_mk1 hg ht (var?_below bel hg hsz hvar) h2
  exact ⟨_, rfl, _, _, _, [], _, _, hW', trodAll_mk1 (shut_bool Tryd.underlying4 _), (trodAll_cons_mk (Below.trod laidOut (by kernel_rfl) (of_decide_eq_true (by kernel_rfl)) k0 bel lt0) trodAll_mk0), hvars, bel.frame _, fun h => by cases h⟩
theorem over : Rows.fnMatchStatesRow.holds Tryd.pinned (OpenSpec.ofChange Rows.fnMatchStatesSpec) :=
  OpenClaim.holds_of_wide 4 Tryd.f4 rfl rfl rfl rfl rfl rfl rfl ⟨rfl, rfl, rfl, rfl, rfl⟩ rfl rfl rfl rfl rfl (by kernel_rfl) Tryd.func4 (by kernel_rfl)
    (of_decide_eq_true (by kernel_rfl)) (by unfold Func.isWrapper; first | (rw [if_pos (by decide +kernel)]; kernel_rfl) | (rw [if_neg (by decide +kernel)]; exact ⟨rfl, rfl⟩))
    (fun os started H enc _ => lifted os started H enc)
end Go.Proofs.YtopadgohinoomaaDoor.Match
namespace Go.Proofs.YtopadgohinoomaaDoor
/-- THE TIED CARD of FnMatchStates. -/
theorem mat_card : Rows.FnMatchStatesCardSaid :=
  Claim7.holds_tied_plain_at .later [] [.sentinel, .data] true (true, "545767dd2573033e7ae9efa5f5ccc60bd19965a679830179f9ae89f5c7988a23") true
    Match.over (fun _ h => by cases h) (by kernel_rfl) (fun _ h => by cases h) fnMatchStates_row_tie rfl ⟨rfl, rfl⟩ (by kernel_rfl) rfl
    (fun f fn hf hfn => by
      obtain rfl : f = 4 := Option.some.inj ((show Tryd.prog.funcNamed "loop.example/pub-g01462/laws.FnMatchStates" = some 4 by kernel_rfl).symm.trans hf) |>.symm
      obtain rfl : fn = Tryd.f4 := (Option.some.inj (Tryd.func4.symm.trans hfn)).symm
      exact ⟨by kernel_rfl, fun j t ht => by
        rw [Tryd.params4] at ht
        have hm : t ∈ [22] := by simpa using Array.mem_of_getElem? ht
        have hall : ([22].all fun u => !Tryd.prog.wantsStandIn u) = true := by kernel_rfl
        exact (show Tryd.prog.wantsStandIn t = false by simpa using List.all_eq_true.1 hall t hm)⟩)
    (by kernel_rfl)
#print axioms mat_card
end Go.Proofs.YtopadgohinoomaaDoor
