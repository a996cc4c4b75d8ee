/- FnReceiverHeld: the law FnReceiverHeld returns true for every input, and leaves its arguments as they were. No condition beyond the form's own reach. -/
import Derived.Test.YtacmojhladdalaaRow
import Derived.Test.YtacmojhladdalaaLaw36
set_option linter.unusedSimpArgs false
set_option linter.unusedVariables false
namespace Go.Proofs.Ytacmojhladdalaa.fnReceiverHeld
open Go.ChangeShapes Go.WideShapes Go.ChangeAt Go.RowKit
open Go.ChangeMaps (open_string shut_string)

set_option maxRecDepth 100000 in
theorem lifted (os : Os) (started : os.Started) (H : Type) (enc : TypeId × Value → H) :
    ReturnsInHanded {} Try.checked os 9 .any (Rows.fnReceiverHeldSpec.pre6 enc Try.prog Try.f9 Rows.fnReceiverHeldRow.domain false) (Rows.fnReceiverHeldSpec.post enc Try.prog Try.f9 false true false false) := by
  refine returnsInHanded_of_change_sized (C := Try.checked) ownRow started (by kernel_rfl) Try.func9
    (ChangeSpec.witness6 (enc := enc) (C := Try.checked) false ⟨#[], #[.int .i64 0, .agg #[.bool false, .slice none 0 0], .agg #[.bool false, .slice none 0 0], .agg #[.bool false, .slice none 0 0]], []⟩ 8 (by kernel_rfl) (by kernel_rfl) (by kernel_rfl) (by kernel_rfl)) ?_
  intro W base args ds gs before hval0 hW hcnd hsz0 _
  have hval : ∀ (j : Nat) t v, Try.f9.params[j]? = some t → args[j]? = some v → Value.okWide Try.prog W .any base t v := hval0
  have hW' := hW
  obtain ⟨p, q, hA0, hV, rfl, hfz, hnd⟩ := hW
  have hA : DataW.TrodAll enc Try.prog W 0 (fun _ => true) true Try.f9.params.toList args.toList ds p := hA0
  have hsz : (DataW.weightsEach Try.prog (Try.f9.params.toList ++ Rows.fnReceiverHeldSpec.plain.varTypes Try.prog) (ds ++ gs)).all (· ≤ reachBytes) = true := hsz0
  rw [Try.params9] at hA hval hsz
  obtain ⟨v0, vs0, d0, ds0, p0, q0, hargs, rfl, rfl, h0, r0⟩ := trodAll_cons hA
  obtain ⟨v1, vs1, d1, ds1, p1, q1, rfl, rfl, rfl, h1, r1⟩ := trodAll_cons r0
  obtain ⟨v2, vs2, d2, ds2, p2, q2, rfl, rfl, rfl, h2, r2⟩ := trodAll_cons r1
  obtain ⟨v3, vs3, d3, ds3, p3, q3, rfl, rfl, rfl, h3, r3⟩ := trodAll_cons r2
  obtain ⟨rfl, rfl, rfl⟩ := trodAll_nil r3
  obtain rfl : args = #[v0, v1, v2, v3] := by cases args; simp_all
  obtain ⟨rfl, rfl⟩ := trodVars_none hV
  obtain ⟨a0, rfl, rfl, rfl, w0⟩ := open_int Try.underlying3 (hval 0 3 v0 rfl rfl) h0
  have k1 := h1
  have lt1 : ∀ x ∈ p1, x.block < W.heap.size := by obtain ⟨m, hm⟩ := k1; exact DataW.trod_lt m _ _ _ hm
  have wt1 : ∀ y ∈ d1.weights Try.prog 24, y ≤ 140737488351232 := fun y hy => of_decide_eq_true (List.all_eq_true.1 hsz y (DataW.weights_mem_each (j := 1) (t := 24) rfl rfl y hy))
  obtain ⟨n1, s1, ws1, rfl, hr1, hl1⟩ := openNumber (hval 1 24 v1 rfl rfl) h1
  have hl1 := hl1 _ wt1
  have k2 := h2
  have lt2 : ∀ x ∈ p2, x.block < W.heap.size := by obtain ⟨m, hm⟩ := k2; exact DataW.trod_lt m _ _ _ hm
  have wt2 : ∀ y ∈ d2.weights Try.prog 24, y ≤ 140737488351232 := fun y hy => of_decide_eq_true (List.all_eq_true.1 hsz y (DataW.weights_mem_each (j := 2) (t := 24) rfl rfl y hy))
  obtain ⟨n2, s2, ws2, rfl, hr2, hl2⟩ := openNumber (hval 2 24 v2 rfl rfl) h2
  have hl2 := hl2 _ wt2
  have k3 := h3
  have lt3 : ∀ x ∈ p3, x.block < W.heap.size := by obtain ⟨m, hm⟩ := k3; exact DataW.trod_lt m _ _ _ hm
  have wt3 : ∀ y ∈ d3.weights Try.prog 24, y ≤ 140737488351232 := fun y hy => of_decide_eq_true (List.all_eq_true.1 hsz y (DataW.weights_mem_each (j := 3) (t := 24) rfl rfl y hy))
  obtain ⟨n3, s3, ws3, rfl, hr3, hl3⟩ := openNumber (hval 3 24 v3 rfl rfl) h3
  have hl3 := hl3 _ wt3
  clear hA0 hval0
  refine (fnReceiverHeld_walk a0 n1 s1 ws1 n2 s2 ws2 n3 s3 ws3 W w0 hr1 (by omega) hr2 (by omega) hr3 (by omega)).mono fun e W' ⟨bel, he⟩ => ?_
  subst he
  exact ⟨_, rfl, _, _, _, [], _, [], hW', trodAll_mk1 (shut_bool Try.underlying4 _), (trodAll_cons_mk (shut_int Try.underlying3 w0) (trodAll_cons_mk (Below.trod laidOut (by kernel_rfl) (of_decide_eq_true (by kernel_rfl)) k1 bel lt1) (trodAll_cons_mk (Below.trod laidOut (by kernel_rfl) (of_decide_eq_true (by kernel_rfl)) k2 bel lt2) (trodAll_cons_mk (Below.trod laidOut (by kernel_rfl) (of_decide_eq_true (by kernel_rfl)) k3 bel lt3) trodAll_mk0)))), rfl, Below.frame bel _, fun h => by cases h⟩

theorem proved : Rows.FnReceiverHeldSaid :=
  OpenClaim.holds_of_wide 9 Try.f9 rfl rfl rfl rfl rfl rfl rfl ⟨rfl, rfl, rfl, rfl, rfl⟩ rfl rfl rfl rfl rfl (by kernel_rfl) Try.func9 (by kernel_rfl)
    (of_decide_eq_true (by kernel_rfl)) (by unfold Func.isWrapper; first | (rw [if_pos (by decide +kernel)]; kernel_rfl) | (rw [if_neg (by decide +kernel)]; exact ⟨rfl, rfl⟩))
    (fun os started H enc _ => lifted os started H enc)

end Go.Proofs.Ytacmojhladdalaa.fnReceiverHeld
