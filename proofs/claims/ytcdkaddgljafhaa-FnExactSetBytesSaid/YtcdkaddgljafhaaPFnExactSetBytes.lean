/- FnExactSetBytes: the law FnExactSetBytes returns true for every input, and leaves its arguments as they were. No condition beyond the form's own reach. -/
import Derived.Test.YtcdkaddgljafhaaRow
import Derived.Test.YtcdkaddgljafhaaLaw27
set_option linter.unusedSimpArgs false
set_option linter.unusedVariables false
namespace Go.Proofs.Ytcdkaddgljafhaa.fnExactSetBytes
open Go.ChangeShapes Go.WideShapes Go.ChangeAt Go.RowKit
open Go.ChangeMaps (open_string shut_string)

set_option maxRecDepth 100000 in
theorem lifted (os : Os) (started : os.Started) (H : Type) (enc : TypeId × Value → H) :
    ReturnsInHanded {} Try.checked os 12 .any (Rows.fnExactSetBytesSpec.pre6 enc Try.prog Try.f12 Rows.fnExactSetBytesRow.domain false) (Rows.fnExactSetBytesSpec.post enc Try.prog Try.f12 false true false false) := by
  refine returnsInHanded_of_change_sized (C := Try.checked) ownRow started (by kernel_rfl) Try.func12
    (ChangeSpec.witness6 (enc := enc) (C := Try.checked) false ⟨#[], #[.slice none 0 0], []⟩ 8 (by kernel_rfl) (by kernel_rfl) (by kernel_rfl) (by kernel_rfl)) ?_
  intro W base args ds gs before hval0 hW hcnd hsz0 _
  have hval : ∀ (j : Nat) t v, Try.f12.params[j]? = some t → args[j]? = some v → Value.okWide Try.prog W .any base t v := hval0
  have hW' := hW
  obtain ⟨p, q, hA0, hV, rfl, hfz, hnd⟩ := hW
  have hA : DataW.TrodAll enc Try.prog W 0 (fun _ => true) true Try.f12.params.toList args.toList ds p := hA0
  have hsz : (DataW.weightsEach Try.prog (Try.f12.params.toList ++ Rows.fnExactSetBytesSpec.plain.varTypes Try.prog) (ds ++ gs)).all (· ≤ reachBytes) = true := hsz0
  rw [Try.params12] at hA hval hsz
  obtain ⟨v0, vs0, d0, ds0, p0, q0, hargs, rfl, rfl, h0, r0⟩ := trodAll_cons hA
  obtain ⟨rfl, rfl, rfl⟩ := trodAll_nil r0
  obtain rfl : args = #[v0] := by cases args; simp_all
  obtain ⟨rfl, rfl⟩ := trodVars_none hV
  have k0 := h0
  have lt0 : ∀ x ∈ p0, x.block < W.heap.size := by obtain ⟨m, hm⟩ := k0; exact DataW.trod_lt m _ _ _ hm
  have wt0 : ∀ y ∈ d0.weights Try.prog 53, y ≤ 140737488351232 := fun y hy => of_decide_eq_true (List.all_eq_true.1 hsz y (DataW.weights_mem_each (j := 0) (t := 53) rfl rfl y hy))
  obtain ⟨sa0, slen0, scap0, rfl⟩ := okWide_slice Try.underlying53 (hval 0 53 v0 rfl rfl)
  obtain ⟨ws0, hr0, hl0⟩ : ∃ ws, Rd .u8 W (.slice sa0 slen0 scap0) ws ∧ ws.length * Try.prog.bytesOf 5 ≤ 140737488351232 := by
    obtain ⟨fuel, hf⟩ := h0
    obtain ⟨ws, q1, q2⟩ := openWords Try.underlying53 Try.underlying5 (by kernel_rfl) (fun n h => wf_u8 h) hf
    exact ⟨ws, q1, q2 _ wt0⟩
  rw [bytesByte] at hl0
  clear hA0 hval0
  refine (fnExactSetBytes_walk _ ws0 W hr0 (by omega)).mono fun e W' ⟨bel, he⟩ => ?_
  subst he
  exact ⟨_, rfl, _, _, _, [], _, [], hW', trodAll_mk1 (shut_bool Try.underlying4 _), (trodAll_cons_mk (Below.trod laidOut (by kernel_rfl) (of_decide_eq_true (by kernel_rfl)) k0 bel lt0) trodAll_mk0), rfl, Below.frame bel _, fun h => by cases h⟩

theorem proved : Rows.FnExactSetBytesSaid :=
  OpenClaim.holds_of_wide 12 Try.f12 rfl rfl rfl rfl rfl rfl rfl ⟨rfl, rfl, rfl, rfl, rfl⟩ rfl rfl rfl rfl rfl (by kernel_rfl) Try.func12 (by kernel_rfl)
    (of_decide_eq_true (by kernel_rfl)) (by unfold Func.isWrapper; first | (rw [if_pos (by decide +kernel)]; kernel_rfl) | (rw [if_neg (by decide +kernel)]; exact ⟨rfl, rfl⟩))
    (fun os started H enc _ => lifted os started H enc)

end Go.Proofs.Ytcdkaddgljafhaa.fnExactSetBytes
