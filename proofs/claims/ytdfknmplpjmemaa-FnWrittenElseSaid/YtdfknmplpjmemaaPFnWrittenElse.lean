/- FnWrittenElse: the law FnWrittenElse returns true for every input, and leaves its arguments as they were. No condition beyond the form's own reach. -/
import Derived.Test.YtdfknmplpjmemaaRow
import Derived.Test.YtdfknmplpjmemaaLaw30
set_option linter.unusedSimpArgs false
set_option linter.unusedVariables false
namespace Go.Proofs.Ytdfknmplpjmemaa.fnWrittenElse
open Go.ChangeShapes Go.WideShapes Go.ChangeAt Go.RowKit
open Go.ChangeMaps (open_string shut_string)

set_option maxRecDepth 100000 in
theorem lifted (os : Os) (started : os.Started) (H : Type) (enc : TypeId × Value → H) :
    ReturnsInHanded {} Try.checked os 3 .any (Rows.fnWrittenElseSpec.pre6 enc Try.prog Try.f3 Rows.fnWrittenElseRow.domain false) (Rows.fnWrittenElseSpec.post enc Try.prog Try.f3 false true false false) := by
  refine returnsInHanded_of_change_sized (C := Try.checked) ownRow started (by kernel_rfl) Try.func3
    (ChangeSpec.witness6 (enc := enc) (C := Try.checked) false ⟨#[], #[.agg #[.bool false, .slice none 0 0], .agg #[.bool false, .slice none 0 0]], []⟩ 8 (by kernel_rfl) (by kernel_rfl) (by kernel_rfl) (by kernel_rfl)) ?_
  intro W base args ds gs before hval0 hW hcnd hsz0 _
  have hval : ∀ (j : Nat) t v, Try.f3.params[j]? = some t → args[j]? = some v → Value.okWide Try.prog W .any base t v := hval0
  have hW' := hW
  obtain ⟨p, q, hA0, hV, rfl, hfz, hnd⟩ := hW
  have hA : DataW.TrodAll enc Try.prog W 0 (fun _ => true) true Try.f3.params.toList args.toList ds p := hA0
  have hsz : (DataW.weightsEach Try.prog (Try.f3.params.toList ++ Rows.fnWrittenElseSpec.plain.varTypes Try.prog) (ds ++ gs)).all (· ≤ reachBytes) = true := hsz0
  rw [Try.params3] at hA hval hsz
  obtain ⟨v0, vs0, d0, ds0, p0, q0, hargs, rfl, rfl, h0, r0⟩ := trodAll_cons hA
  obtain ⟨v1, vs1, d1, ds1, p1, q1, rfl, rfl, rfl, h1, r1⟩ := trodAll_cons r0
  obtain ⟨rfl, rfl, rfl⟩ := trodAll_nil r1
  obtain rfl : args = #[v0, v1] := by cases args; simp_all
  obtain ⟨rfl, rfl⟩ := trodVars_none hV
  have k0 := h0
  have lt0 : ∀ x ∈ p0, x.block < W.heap.size := by obtain ⟨m, hm⟩ := k0; exact DataW.trod_lt m _ _ _ hm
  have wt0 : ∀ y ∈ d0.weights Try.prog 24, y ≤ 140737488351232 := fun y hy => of_decide_eq_true (List.all_eq_true.1 hsz y (DataW.weights_mem_each (j := 0) (t := 24) rfl rfl y hy))
  obtain ⟨n0, s0, ws0, rfl, hr0, hl0⟩ := openNumber (hval 0 24 v0 rfl rfl) h0
  have hl0 := hl0 _ wt0
  have k1 := h1
  have lt1 : ∀ x ∈ p1, x.block < W.heap.size := by obtain ⟨m, hm⟩ := k1; exact DataW.trod_lt m _ _ _ hm
  have wt1 : ∀ y ∈ d1.weights Try.prog 24, y ≤ 140737488351232 := fun y hy => of_decide_eq_true (List.all_eq_true.1 hsz y (DataW.weights_mem_each (j := 1) (t := 24) rfl rfl y hy))
  obtain ⟨n1, s1, ws1, rfl, hr1, hl1⟩ := openNumber (hval 1 24 v1 rfl rfl) h1
  have hl1 := hl1 _ wt1
  clear hA0 hval0
  refine (fnWrittenElse_walk n0 s0 ws0 n1 s1 ws1 W hr0 (by omega) hr1 (by omega)).mono fun e W' ⟨bel, he⟩ => ?_
  subst he
  exact ⟨_, rfl, _, _, _, [], _, [], hW', trodAll_mk1 (shut_bool Try.underlying4 _), (trodAll_cons_mk (Below.trod laidOut (by kernel_rfl) (of_decide_eq_true (by kernel_rfl)) k0 bel lt0) (trodAll_cons_mk (Below.trod laidOut (by kernel_rfl) (of_decide_eq_true (by kernel_rfl)) k1 bel lt1) trodAll_mk0)), rfl, Below.frame bel _, fun h => by cases h⟩

theorem proved : Rows.FnWrittenElseSaid :=
  OpenClaim.holds_of_wide 3 Try.f3 rfl rfl rfl rfl rfl rfl rfl ⟨rfl, rfl, rfl, rfl, rfl⟩ rfl rfl rfl rfl rfl (by kernel_rfl) Try.func3 (by kernel_rfl)
    (of_decide_eq_true (by kernel_rfl)) (by unfold Func.isWrapper; first | (rw [if_pos (by decide +kernel)]; kernel_rfl) | (rw [if_neg (by decide +kernel)]; exact ⟨rfl, rfl⟩))
    (fun os started H enc _ => lifted os started H enc)

end Go.Proofs.Ytdfknmplpjmemaa.fnWrittenElse
