/- FnStringJoined: the law returns true for every input, and leaves its arguments as they were. No condition beyond the form's own reach; fmt's text told, the three sentinels tied (the walk never comes to fmt). -/
import Derived.Test.YtocadbghhoibnaaFmtTied
import Derived.Test.YtocadbghhoibnaaFmtStrL9
set_option linter.unusedSimpArgs false
set_option linter.unusedVariables false
namespace Go.Proofs.YtocadbghhoibnaaFmt.fnStringJoined
open Go.ChangeShapes Go.WideShapes Go.ChangeAt Go.RowKit
open Go.ChangeMaps (open_string shut_string)
open Go.Extern.Stop Go.Stop Go.Extern

theorem witness_row (os : Os) {H : Type} (enc : TypeId × Value → H) :
    (OpenSpec.ofChange Rows.fnStringJoinedSpec).preRow enc Tryf.prog Tryf.f4 Rows.fnStringJoinedRow.domain false Rows.fnStringJoinedRow.laid ((doorW os).forCall (fun _ _ => 0) ⟨#[], #[.string ⟨#[]⟩, .string ⟨#[]⟩, .int .u64 0], []⟩).memory #[.string ⟨#[]⟩, .string ⟨#[]⟩, .int .u64 0] :=
  ⟨⟨ChangeSpec.pre_of_preB (fuel := 8) (by kernel_rfl), door_met os _⟩, sizedMet_of_sizedB (fuel := 8) (by kernel_rfl)⟩

set_option maxRecDepth 100000 in
theorem lifted (os : Os) (started : os.Started) (H : Type) (enc : TypeId × Value → H) :
    ReturnsInTold none {} Tryf.checked os 4 .any Input.okWide ((OpenSpec.ofChange Rows.fnStringJoinedSpec).preRow enc Tryf.prog Tryf.f4 Rows.fnStringJoinedRow.domain false Rows.fnStringJoinedRow.laid) (fun F => ((OpenSpec.ofChange Rows.fnStringJoinedSpec).at F).post enc Tryf.prog Tryf.f4 false true false false) (aloneAtReturn Tryf.prog) nothingAlways := by
  refine returnsInTold_of_row (C := Tryf.checked) (s := (OpenSpec.ofChange Rows.fnStringJoinedSpec)) (by kernel_rfl) ownRow started (by kernel_rfl) Tryf.func4
    (OpenSpec.witness_stopped_atRef (enc := enc) (C := Tryf.checked) false (doorW os) #[.string ⟨#[]⟩, .string ⟨#[]⟩, .int .u64 0] rfl (by kernel_rfl) (by kernel_rfl) (by kernel_rfl) (witness_row os enc)) ?_
  intro F W base args ds gs before _ hF hval0 hW hcnd _ hsz0 hL _
  obtain ⟨ea0, ea1, ea2, hS⟩ := sent_of_laid hL
  have hval : ∀ (j : Nat) t v, Tryf.f4.params[j]? = some t → args[j]? = some v → Value.okWide Tryf.prog W .any base t v := hval0
  have hW' := hW
  obtain ⟨p, q, hA0, hV, rfl, hfz, hnd⟩ := hW
  have hA : DataW.TrodAll enc Tryf.prog W 0 (fun _ => true) true Tryf.f4.params.toList args.toList ds p := hA0
  have hsz : (DataW.weightsEach Tryf.prog (Tryf.f4.params.toList ++ Rows.fnStringJoinedSpec.plain.varTypes Tryf.prog) (ds ++ gs)).all (· ≤ reachBytes) = true := hsz0
  rw [Tryf.params4] at hA hval hsz
  obtain ⟨v0, vs0, d0, ds0, p0, q0, hargs, rfl, rfl, h0, r0⟩ := trodAll_cons hA
  obtain ⟨v1, vs1, d1, ds1, p1, q1, rfl, rfl, rfl, h1, r1⟩ := trodAll_cons r0
  obtain ⟨v2, vs2, d2, ds2, p2, q2, rfl, rfl, rfl, h2, r2⟩ := trodAll_cons r1
  obtain ⟨rfl, rfl, rfl⟩ := trodAll_nil r2
  obtain rfl : args = #[v0, v1, v2] := by cases args; simp_all
  obtain ⟨rfl, rfl⟩ := trodVars_none hV
  have wt0 : ∀ (bs : List UInt8), d0 = .lit (.string bs) → bs.length ≤ reachBytes := fun bs e => by subst e; exact sized_string hsz (j := 0) (t := 9) rfl rfl
  obtain ⟨a0, rfl, rfl, rfl, w0⟩ := open_string Tryf.underlying9 (hval 0 9 v0 rfl rfl) h0
  have wt1 : ∀ (bs : List UInt8), d1 = .lit (.string bs) → bs.length ≤ reachBytes := fun bs e => by subst e; exact sized_string hsz (j := 1) (t := 9) rfl rfl
  obtain ⟨a1, rfl, rfl, rfl, w1⟩ := open_string Tryf.underlying9 (hval 1 9 v1 rfl rfl) h1
  obtain ⟨a2, rfl, rfl, rfl, w2⟩ := open_int Tryf.underlying36 (hval 2 36 v2 rfl rfl) h2
  clear hA0 hval0
  refine (fnStringJoined_walk a0 a1 a2 ea0 ea1 ea2 W hS (by have := wt0 _ rfl; simpa [reachBytes] using this) (by have := wt1 _ rfl; simpa [reachBytes] using this) w2).mono fun e W' ⟨bel, he⟩ => ?_
  subst he
  exact ⟨_, rfl, _, _, _, [], _, [], hW', trodAll_mk1 (shut_bool Tryf.underlying4 _), (trodAll_cons_mk (shut_string Tryf.underlying9 w0) (trodAll_cons_mk (shut_string Tryf.underlying9 w1) (trodAll_cons_mk (shut_int Tryf.underlying36 w2) trodAll_mk0))), rfl, Below.frame bel _, fun h => by cases h⟩

theorem proved : Rows.FnStringJoinedToldSaid :=
  Claim7.holds_of_told_tied_any_at .later 4 Tryf.f4 "fmt.Sprintf" [] [] (true, "26a02684ddd6460339357efde55fc0281aba99bc5bf478659eaff723ca1d5faf") true false [.sentinel, .sentinel, .sentinel] true (by kernel_rfl) rfl rfl rfl laidOut (by kernel_rfl) rfl ⟨rfl, rfl, rfl, rfl, rfl, rfl, rfl⟩ rfl rfl (by kernel_rfl) (by kernel_rfl) Tryf.func4 (by kernel_rfl)
    (of_decide_eq_true (by kernel_rfl)) (by unfold Func.isWrapper; first | (rw [if_pos (by decide +kernel)]; kernel_rfl) | (rw [if_neg (by decide +kernel)]; exact ⟨rfl, rfl⟩)) toldStops.symm rfl toldKnobs.symm (by kernel_rfl)
    (by kernel_rfl) (by kernel_rfl) (by kernel_rfl) (by kernel_rfl) (by kernel_rfl) (by kernel_rfl) (by kernel_rfl) (by kernel_rfl) (by kernel_rfl) rfl (by kernel_rfl) rfl rfl
    rfl rfl
    rfl (by kernel_rfl) (by kernel_rfl) (by kernel_rfl) (by decide) (by kernel_rfl) fnStringJoined_row_tie
    (OpenClaim.moreEntering_of (by kernel_rfl) (by kernel_rfl) (by kernel_rfl) (by kernel_rfl) (by kernel_rfl) (by kernel_rfl) (by kernel_rfl) (by kernel_rfl) (by kernel_rfl) (by kernel_rfl))
    ⟨_, WideRow.started_initial, toldQuiet _⟩
    (fun os started _ H enc _ => lifted os started H enc)

end Go.Proofs.YtocadbghhoibnaaFmt.fnStringJoined
