/- FnStringUnder: the law returns true for every input, and leaves its arguments as they were. No condition beyond the form's own reach; fmt's text told, the three sentinels tied (the walk never comes to fmt). -/
import Derived.Test.YtocadbghhoibnaaFmtTied
import Derived.Test.YtocadbghhoibnaaFmtStrLA
set_option linter.unusedSimpArgs false
set_option linter.unusedVariables false
namespace Go.Proofs.YtocadbghhoibnaaFmt.fnStringUnder
open Go.ChangeShapes Go.WideShapes Go.ChangeAt Go.RowKit
open Go.ChangeMaps (open_string shut_string)
open Go.Extern.Stop Go.Stop Go.Extern

theorem witness_row (os : Os) {H : Type} (enc : TypeId × Value → H) :
    (OpenSpec.ofChange Rows.fnStringUnderSpec).preRow enc Tryf.prog Tryf.f10 Rows.fnStringUnderRow.domain false Rows.fnStringUnderRow.laid ((doorW os).forCall (fun _ _ => 0) ⟨#[], #[.string ⟨#[]⟩, .int .i64 0], []⟩).memory #[.string ⟨#[]⟩, .int .i64 0] :=
  ⟨⟨ChangeSpec.pre_of_preB (fuel := 8) (by kernel_rfl), door_met os _⟩, sizedMet_of_sizedB (fuel := 8) (by kernel_rfl)⟩

set_option maxRecDepth 100000 in
theorem lifted (os : Os) (started : os.Started) (H : Type) (enc : TypeId × Value → H) :
    ReturnsInTold none {} Tryf.checked os 10 .any Input.okWide ((OpenSpec.ofChange Rows.fnStringUnderSpec).preRow enc Tryf.prog Tryf.f10 Rows.fnStringUnderRow.domain false Rows.fnStringUnderRow.laid) (fun F => ((OpenSpec.ofChange Rows.fnStringUnderSpec).at F).post enc Tryf.prog Tryf.f10 false true false false) (aloneAtReturn Tryf.prog) nothingAlways := by
  refine returnsInTold_of_row (C := Tryf.checked) (s := (OpenSpec.ofChange Rows.fnStringUnderSpec)) (by kernel_rfl) ownRow started (by kernel_rfl) Tryf.func10
    (OpenSpec.witness_stopped_atRef (enc := enc) (C := Tryf.checked) false (doorW os) #[.string ⟨#[]⟩, .int .i64 0] rfl (by kernel_rfl) (by kernel_rfl) (by kernel_rfl) (witness_row os enc)) ?_
  intro F W base args ds gs before _ hF hval0 hW hcnd _ hsz0 hL _
  obtain ⟨ea0, ea1, ea2, hS⟩ := sent_of_laid hL
  have hval : ∀ (j : Nat) t v, Tryf.f10.params[j]? = some t → args[j]? = some v → Value.okWide Tryf.prog W .any base t v := hval0
  have hW' := hW
  obtain ⟨p, q, hA0, hV, rfl, hfz, hnd⟩ := hW
  have hA : DataW.TrodAll enc Tryf.prog W 0 (fun _ => true) true Tryf.f10.params.toList args.toList ds p := hA0
  have hsz : (DataW.weightsEach Tryf.prog (Tryf.f10.params.toList ++ Rows.fnStringUnderSpec.plain.varTypes Tryf.prog) (ds ++ gs)).all (· ≤ reachBytes) = true := hsz0
  rw [Tryf.params10] at hA hval hsz
  obtain ⟨v0, vs0, d0, ds0, p0, q0, hargs, rfl, rfl, h0, r0⟩ := trodAll_cons hA
  obtain ⟨v1, vs1, d1, ds1, p1, q1, rfl, rfl, rfl, h1, r1⟩ := trodAll_cons r0
  obtain ⟨rfl, rfl, rfl⟩ := trodAll_nil r1
  obtain rfl : args = #[v0, v1] := by cases args; simp_all
  obtain ⟨rfl, rfl⟩ := trodVars_none hV
  have wt0 : ∀ (bs : List UInt8), d0 = .lit (.string bs) → bs.length ≤ reachBytes := fun bs e => by subst e; exact sized_string hsz (j := 0) (t := 9) rfl rfl
  obtain ⟨a0, rfl, rfl, rfl, w0⟩ := open_string Tryf.underlying9 (hval 0 9 v0 rfl rfl) h0
  obtain ⟨a1, rfl, rfl, rfl, w1⟩ := open_int Tryf.underlying3 (hval 1 3 v1 rfl rfl) h1
  clear hA0 hval0
  refine (fnStringUnder_walk a0 a1 ea0 ea1 ea2 W hS (by have := wt0 _ rfl; simpa [reachBytes] using this) w1).mono fun e W' ⟨bel, he⟩ => ?_
  subst he
  exact ⟨_, rfl, _, _, _, [], _, [], hW', trodAll_mk1 (shut_bool Tryf.underlying4 _), (trodAll_cons_mk (shut_string Tryf.underlying9 w0) (trodAll_cons_mk (shut_int Tryf.underlying3 w1) trodAll_mk0)), rfl, Below.frame bel _, fun h => by cases h⟩

theorem proved : Rows.FnStringUnderToldSaid :=
  Claim7.holds_of_told_tied_any_at .later 10 Tryf.f10 "fmt.Sprintf" [] [] (true, "26a02684ddd6460339357efde55fc0281aba99bc5bf478659eaff723ca1d5faf") true false [.sentinel, .sentinel, .sentinel] true (by kernel_rfl) rfl rfl rfl laidOut (by kernel_rfl) rfl ⟨rfl, rfl, rfl, rfl, rfl, rfl, rfl⟩ rfl rfl (by kernel_rfl) (by kernel_rfl) Tryf.func10 (by kernel_rfl)
    (of_decide_eq_true (by kernel_rfl)) (by unfold Func.isWrapper; first | (rw [if_pos (by decide +kernel)]; kernel_rfl) | (rw [if_neg (by decide +kernel)]; exact ⟨rfl, rfl⟩)) toldStops.symm rfl toldKnobs.symm (by kernel_rfl)
    (by kernel_rfl) (by kernel_rfl) (by kernel_rfl) (by kernel_rfl) (by kernel_rfl) (by kernel_rfl) (by kernel_rfl) (by kernel_rfl) (by kernel_rfl) rfl (by kernel_rfl) rfl rfl
    rfl rfl
    rfl (by kernel_rfl) (by kernel_rfl) (by kernel_rfl) (by decide) (by kernel_rfl) fnStringUnder_row_tie
    (OpenClaim.moreEntering_of (by kernel_rfl) (by kernel_rfl) (by kernel_rfl) (by kernel_rfl) (by kernel_rfl) (by kernel_rfl) (by kernel_rfl) (by kernel_rfl) (by kernel_rfl) (by kernel_rfl))
    ⟨_, WideRow.started_initial, toldQuiet _⟩
    (fun os started _ H enc _ => lifted os started H enc)

end Go.Proofs.YtocadbghhoibnaaFmt.fnStringUnder
