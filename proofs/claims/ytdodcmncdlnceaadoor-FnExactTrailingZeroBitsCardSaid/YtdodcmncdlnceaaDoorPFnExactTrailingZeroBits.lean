/- FnExactTrailingZeroBits: the law FnExactTrailingZeroBits returns true for every input, and leaves its arguments as they were. No condition beyond the form's own reach. -/
import Derived.Test.YtdodcmncdlnceaaDoorRow
import Derived.Test.YtdodcmncdlnceaaDoorTzTab
import Derived.Test.YtdodcmncdlnceaaDoorLaw31
import Derived.Test.YtdodcmncdlnceaaDoorCards
import Derived.Test.YtdodcmncdlnceaaDoorTie
import Derived.LaidMore
import Derived.Lib.LaidTab
import Derived.SevenTiedAt
set_option linter.unusedSimpArgs false
set_option linter.unusedVariables false
namespace Go.Proofs.YtdodcmncdlnceaaDoor.fnExactTrailingZeroBits
open Go.ChangeShapes Go.WideShapes Go.ChangeAt Go.RowKit
open Go.ChangeMaps (open_string shut_string)

theorem door_met (os : Os) (args : Array Value) : laidMetH Tryd.prog Rows.fnExactTrailingZeroBitsRow.laid ((World.doorLaid Tryd.prog 400 os).forCall (fun _ _ => 0) ⟨#[], args, []⟩).memory :=
  laidMetH_of_parts3 (fuel := 8) (laidMet_of_run' 8 (by kernel_rfl) (by kernel_rfl)) (by kernel_rfl) (by kernel_rfl)

set_option maxRecDepth 100000 in
theorem lifted (os : Os) (started : os.Started) (H : Type) (enc : TypeId × Value → H) :
    ReturnsInHanded {} Tryd.checked os 3 .any (fun w args => (Rows.fnExactTrailingZeroBitsSpec.pre enc Tryd.prog Tryd.f3 [] false w args ∧ laidMetH Tryd.prog Rows.fnExactTrailingZeroBitsRow.laid w) ∧ sizedMet enc Tryd.prog Tryd.f3 (OpenSpec.ofChange Rows.fnExactTrailingZeroBitsSpec) false w args) (Rows.fnExactTrailingZeroBitsSpec.post enc Tryd.prog Tryd.f3 false true false false) := by
  refine returnsInHanded_of_change_and (C := Tryd.checked) (X := fun w _ => laidMetH Tryd.prog Rows.fnExactTrailingZeroBitsRow.laid w) (fun _ _ _ hh h => h.of_heap hh) ownRow started (by kernel_rfl) Tryd.func3
    (ChangeSpec.witness_shaped (enc := enc) (C := Tryd.checked) (os := os) (X := fun w _ => laidMetH Tryd.prog Rows.fnExactTrailingZeroBitsRow.laid w) false (World.doorLaid Tryd.prog 400 os) #[.agg #[.bool false, .slice none 0 0]] 8 rfl (World.shaped_of_RefB (by kernel_rfl) (by kernel_rfl)) (by kernel_rfl) (by kernel_rfl) (by kernel_rfl) (door_met os _)) ?_
  intro W base args ds gs before hval0 hW hcnd hsz0 hL _
  have hT := laid_tab _ hL
  have hval : ∀ (j : Nat) t v, Tryd.f3.params[j]? = some t → args[j]? = some v → Value.okWide Tryd.prog W .any base t v := hval0
  have hW' := hW
  obtain ⟨p, q, hA0, hV, rfl, hfz, hnd⟩ := hW
  have hA : DataW.TrodAll enc Tryd.prog W 0 (fun _ => true) true Tryd.f3.params.toList args.toList ds p := hA0
  have hsz : (DataW.weightsEach Tryd.prog (Tryd.f3.params.toList ++ Rows.fnExactTrailingZeroBitsSpec.plain.varTypes Tryd.prog) (ds ++ gs)).all (· ≤ reachBytes) = true := hsz0
  rw [Tryd.params3] at hA hval hsz
  obtain ⟨v0, vs0, d0, ds0, p0, q0, hargs, rfl, rfl, h0, r0⟩ := trodAll_cons hA
  obtain ⟨rfl, rfl, rfl⟩ := trodAll_nil r0
  obtain rfl : args = #[v0] := by cases args; simp_all
  obtain ⟨rfl, rfl⟩ := trodVars_none hV
  have k0 := h0
  have lt0 : ∀ x ∈ p0, x.block < W.heap.size := by obtain ⟨m, hm⟩ := k0; exact DataW.trod_lt m _ _ _ hm
  have wt0 : ∀ y ∈ d0.weights Tryd.prog 24, y ≤ 140737488351232 := fun y hy => of_decide_eq_true (List.all_eq_true.1 hsz y (DataW.weights_mem_each (j := 0) (t := 24) rfl rfl y hy))
  obtain ⟨n0, s0, ws0, rfl, hr0, hl0⟩ := openNumber (hval 0 24 v0 rfl rfl) h0
  have hl0 := hl0 _ wt0
  clear hA0 hval0
  refine (fnExactTrailingZeroBits_walk n0 s0 ws0 W hT hr0 (by omega)).mono fun e W' ⟨bel, he⟩ => ?_
  subst he
  exact ⟨_, rfl, _, _, _, [], _, [], hW', trodAll_mk1 (shut_bool Tryd.underlying4 _), (trodAll_cons_mk (Below.trod laidOut (by kernel_rfl) (of_decide_eq_true (by kernel_rfl)) k0 bel lt0) trodAll_mk0), rfl, Below.frame bel _, fun h => by cases h⟩

theorem row : Rows.FnExactTrailingZeroBitsSaid :=
  OpenClaim.holds_of_wide 3 Tryd.f3 rfl rfl rfl rfl rfl rfl rfl ⟨rfl, rfl, rfl, rfl, rfl⟩ rfl rfl rfl rfl rfl (by kernel_rfl) Tryd.func3 (by kernel_rfl)
    (of_decide_eq_true (by kernel_rfl)) (by unfold Func.isWrapper; first | (rw [if_pos (by decide +kernel)]; kernel_rfl) | (rw [if_neg (by decide +kernel)]; exact ⟨rfl, rfl⟩))
    (fun os started H enc _ => lifted os started H enc)

theorem proved : Rows.FnExactTrailingZeroBitsCardSaid :=
  Claim7.holds_tied_plain_at .later [] [.data, .data] true (true, "d33925ac307d6733cb664da0aabb631814c41288d6d269d829be289a781ddd7f") false
    row (fun _ h => by cases h) (by kernel_rfl) (fun _ h => by cases h) fnExactTrailingZeroBits_row_tie rfl ⟨rfl, rfl⟩ (by kernel_rfl) rfl
    (fun f fn hf hfn => by
      obtain rfl : f = 3 := Option.some.inj ((show Tryd.prog.funcNamed "loop.example/lib-g03408/laws.FnExactTrailingZeroBits" = some 3 by kernel_rfl).symm.trans hf) |>.symm
      obtain rfl : fn = Tryd.f3 := (Option.some.inj (Tryd.func3.symm.trans hfn)).symm
      exact ⟨by kernel_rfl, fun j t ht => by
        rw [Tryd.params3] at ht
        have hm : t ∈ [24] := by simpa using Array.mem_of_getElem? ht
        have hall : ([24].all fun u => !Tryd.prog.wantsStandIn u) = true := by kernel_rfl
        exact (show Tryd.prog.wantsStandIn t = false by simpa using List.all_eq_true.1 hall t hm)⟩)
    (by kernel_rfl)

end Go.Proofs.YtdodcmncdlnceaaDoor.fnExactTrailingZeroBits
