/- FnTrailingZero: the law FnTrailingZero returns true for every input, and leaves its arguments as they were. No condition beyond the form's own reach. -/
import Derived.Test.YtdodcmncdlnceaaDoorRow
import Derived.Test.YtdodcmncdlnceaaDoorTzTab
import Derived.Test.YtdodcmncdlnceaaDoorLaw31
import Derived.Test.YtdodcmncdlnceaaDoorCards
import Derived.Test.YtdodcmncdlnceaaDoorTie
import Derived.LaidMore
import Derived.Lib.LaidTab
import Derived.SevenTiedAt
set_option linter.unusedSimpArgs false
set_option linter.unusedVariables false
namespace Go.Proofs.YtdodcmncdlnceaaDoor.fnTrailingZero
open Go.ChangeShapes Go.WideShapes Go.ChangeAt Go.RowKit
open Go.ChangeMaps (open_string shut_string)

theorem door_met (os : Os) (args : Array Value) : laidMetH Tryd.prog Rows.fnTrailingZeroRow.laid ((World.doorLaid Tryd.prog 400 os).forCall (fun _ _ => 0) ⟨#[], args, []⟩).memory :=
  laidMetH_of_parts3 (fuel := 8) (laidMet_of_run' 8 (by kernel_rfl) (by kernel_rfl)) (by kernel_rfl) (by kernel_rfl)

set_option maxRecDepth 100000 in
theorem lifted (os : Os) (started : os.Started) (H : Type) (enc : TypeId × Value → H) :
    ReturnsInHanded {} Tryd.checked os 4 .any (fun w args => (Rows.fnTrailingZeroSpec.pre enc Tryd.prog Tryd.f4 [] false w args ∧ laidMetH Tryd.prog Rows.fnTrailingZeroRow.laid w) ∧ sizedMet enc Tryd.prog Tryd.f4 (OpenSpec.ofChange Rows.fnTrailingZeroSpec) false w args) (Rows.fnTrailingZeroSpec.post enc Tryd.prog Tryd.f4 false true false false) := by
  refine returnsInHanded_of_change_and (C := Tryd.checked) (X := fun w _ => laidMetH Tryd.prog Rows.fnTrailingZeroRow.laid w) (fun _ _ _ hh h => h.of_heap hh) ownRow started (by kernel_rfl) Tryd.func4
    (ChangeSpec.witness_shaped (enc := enc) (C := Tryd.checked) (os := os) (X := fun w _ => laidMetH Tryd.prog Rows.fnTrailingZeroRow.laid w) false (World.doorLaid Tryd.prog 400 os) #[.int .u64 0] 8 rfl (World.shaped_of_RefB (by kernel_rfl) (by kernel_rfl)) (by kernel_rfl) (by kernel_rfl) (by kernel_rfl) (door_met os _)) ?_
  intro W base args ds gs before hval0 hW hcnd hsz0 hL _
  have hT := laid_tab _ hL
  have hval : ∀ (j : Nat) t v, Tryd.f4.params[j]? = some t → args[j]? = some v → Value.okWide Tryd.prog W .any base t v := hval0
  have hW' := hW
  obtain ⟨p, q, hA0, hV, rfl, hfz, hnd⟩ := hW
  have hA : DataW.TrodAll enc Tryd.prog W 0 (fun _ => true) true Tryd.f4.params.toList args.toList ds p := hA0
  have hsz : (DataW.weightsEach Tryd.prog (Tryd.f4.params.toList ++ Rows.fnTrailingZeroSpec.plain.varTypes Tryd.prog) (ds ++ gs)).all (· ≤ reachBytes) = true := hsz0
  rw [Tryd.params4] at hA hval hsz
  obtain ⟨v0, vs0, d0, ds0, p0, q0, hargs, rfl, rfl, h0, r0⟩ := trodAll_cons hA
  obtain ⟨rfl, rfl, rfl⟩ := trodAll_nil r0
  obtain rfl : args = #[v0] := by cases args; simp_all
  obtain ⟨rfl, rfl⟩ := trodVars_none hV
  obtain ⟨a0, rfl, rfl, rfl, w0⟩ := open_int Tryd.underlying28 (hval 0 28 v0 rfl rfl) h0
  clear hA0 hval0
  refine (fnTrailingZero_walk a0 W hT w0).mono fun e W' ⟨bel, he⟩ => ?_
  subst he
  exact ⟨_, rfl, _, _, _, [], _, [], hW', trodAll_mk1 (shut_bool Tryd.underlying4 _), (trodAll_cons_mk (shut_int Tryd.underlying28 w0) trodAll_mk0), rfl, Below.frame bel _, fun h => by cases h⟩

theorem row : Rows.FnTrailingZeroSaid :=
  OpenClaim.holds_of_wide 4 Tryd.f4 rfl rfl rfl rfl rfl rfl rfl ⟨rfl, rfl, rfl, rfl, rfl⟩ rfl rfl rfl rfl rfl (by kernel_rfl) Tryd.func4 (by kernel_rfl)
    (of_decide_eq_true (by kernel_rfl)) (by unfold Func.isWrapper; first | (rw [if_pos (by decide +kernel)]; kernel_rfl) | (rw [if_neg (by decide +kernel)]; exact ⟨rfl, rfl⟩))
    (fun os started H enc _ => lifted os started H enc)

theorem proved : Rows.FnTrailingZeroCardSaid :=
  Claim7.holds_tied_plain_at .later [] [.data, .data] true (true, "d33925ac307d6733cb664da0aabb631814c41288d6d269d829be289a781ddd7f") false
    row (fun _ h => by cases h) (by kernel_rfl) (fun _ h => by cases h) fnTrailingZero_row_tie rfl ⟨rfl, rfl⟩ (by kernel_rfl) rfl
    (fun f fn hf hfn => by
      obtain rfl : f = 4 := Option.some.inj ((show Tryd.prog.funcNamed "loop.example/lib-g03408/laws.FnTrailingZero" = some 4 by kernel_rfl).symm.trans hf) |>.symm
      obtain rfl : fn = Tryd.f4 := (Option.some.inj (Tryd.func4.symm.trans hfn)).symm
      exact ⟨by kernel_rfl, fun j t ht => by
        rw [Tryd.params4] at ht
        have hm : t ∈ [28] := by simpa using Array.mem_of_getElem? ht
        have hall : ([28].all fun u => !Tryd.prog.wantsStandIn u) = true := by kernel_rfl
        exact (show Tryd.prog.wantsStandIn t = false by simpa using List.all_eq_true.1 hall t hm)⟩)
    (by kernel_rfl)

end Go.Proofs.YtdodcmncdlnceaaDoor.fnTrailingZero
