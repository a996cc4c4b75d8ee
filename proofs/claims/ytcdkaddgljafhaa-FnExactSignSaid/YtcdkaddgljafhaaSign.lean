/- Sign: the contracts of (*Int).Sign and of impl.Sign, and the walk of the law FnExactSign. -/
import Derived.Test.YtcdkaddgljafhaaHelp
set_option linter.unusedSimpArgs false
set_option linter.unusedVariables false
namespace Go.Proofs.Ytcdkaddgljafhaa
open Go.RowKit

theorem intSign_any (p base : Nat) (n : Bool) (ws : List Nat) (w : World) (h : IntAt w base p (decide (0 < (norm ws).length) && n) (norm ws)) (hl : ws.length ≤ 17592186044416) :
    Calls Try.prog 48 #[.pointer (some ⟨p, 0, none⟩)] w fun e w' => e = .returned (.int .i64 (sgnW n ws)) ∧ w = w' := by
  have hnl := norm_length ws
  have hnl2 := normLen_le ws
  have hz := isZ_iff ws
  generalize hq : sgnW n ws = q
  have HQ := Lib.hid hq
  unfold sgnW at hq
  generalize norm ws = m at *
  obtain ⟨a, c, hp, ho⟩ := h.cells
  have c0 := blk_cell hp 0
  have c1 := blk_cell hp 1
  simp at c0 c1
  clear hp h ho HQ
  have hm : m.length ≤ 9223372036854775807 := by omega
  clear hnl hnl2
  by_cases h0 : 0 < m.length
  · have hz' : isZ ws = false := by cases hh : isZ ws with | false => rfl | true => have := hz.1 hh; omega
    rw [hz'] at hq
    have HQ := Lib.hid hq
    clear hq hz hz'
    cases n
    all_goals
      simp [h0] at c0
      go_enter Try.func48, Try.ntmps48
      go_wp2
      go_ret
      rw [← HQ.out]
      exact ⟨rfl, rfl⟩
  · have hz' : isZ ws = true := hz.2 (by omega)
    rw [hz'] at hq
    have HQ := Lib.hid hq
    clear hq hz hz'
    go_enter Try.func48, Try.ntmps48
    go_wp2
    go_ret
    rw [← HQ.out]
    exact ⟨rfl, rfl⟩

theorem implSign_any (n : Bool) (v : Value) (ws : List Nat) (w : World) (h : Rd .u64 w v ws) (hl : ws.length ≤ 17592186044416) :
    Calls Try.prog 24 #[.agg #[.bool n, v]] w (ValR (.int .i64 (sgnW n ws)) w) := by
  obtain ⟨a, cap, rfl⟩ := h.form
  have H := Lib.hid h
  clear h
  go_enter Try.func24, Try.ntmps24
  go_wp2_with fail
  refine (integer_any n _ ws _ (H.out.ext (Ext.alloc _ _)) hl).mono ?_
  rintro e w1 ⟨he, p, rfl, hp, hI⟩
  have HE := Lib.hid ((Ext.alloc _ _).trans he)
  have HI := Lib.hid hI
  clear he hI
  go_wp2_with fail
  refine (intSign_any p _ n ws _ HI.out hl).mono ?_
  rintro e w2 ⟨rfl, rfl⟩
  go_wp2_with fail
  go_ret
  exact ⟨HE.out, rfl⟩

/-- A number as a value: its sign and its words. -/
def IsN (n : Bool) (ws : List Nat) (x : Value) (w : World) : Prop := ∃ s, x = .agg #[.bool n, s] ∧ Rd .u64 w s ws
theorem IsN.ext {n : Bool} {ws : List Nat} {x : Value} {w w' : World} (h : IsN n ws x w) (he : Ext w w') : IsN n ws x w' := by
  obtain ⟨s, h1, h2⟩ := h
  exact ⟨s, h1, h2.ext he⟩

set_option maxHeartbeats 400000 in
theorem fnExactSign_walk (n : Bool) (v : Value) (ws : List Nat) (w : World) (h : Rd .u64 w v ws) (hl : ws.length ≤ 17592186044416) :
    Calls Try.prog 5 #[.agg #[.bool n, v]] w (ValR (.bool true) w) := by
  obtain ⟨a, cap, rfl⟩ := h.form
  have H := Lib.hid h
  clear h
  go_enter Try.func5, Try.ntmps5
  go_wp2_with fail
  refine wp_region_D preExt mixed [fun x _ => x = .agg #[.bool n, .slice a ws.length cap], IsN n ws, fun x _ => x = .int .i64 (sgnW n ws), fun x _ => x = .agg #[.bool n, .slice a ws.length cap], IsN n ws, fun x _ => x = .int .i64 (sgnW n ws), fun x _ => x = .bool true] (by kernel_rfl) ?mono rfl ?steps ?last
  case mono =>
    simp only [List.forall_mem_cons, List.not_mem_nil, false_implies, implies_true, and_true]
    refine ⟨?_, ?_, ?_, ?_, ?_, ?_, ?_⟩
    all_goals first | exact fun _ _ _ _ q => q | exact fun _ _ _ he q => q.ext he
  case steps =>
    refine ⟨?_, ?_, ?_, ?_, ?_, ?_, ?_, trivial⟩
    all_goals
      intro u0 u1 u2 u3 u4 u5 u6 u7 w1 he hk
      simp [KnownD, Oper.looksAt, Op.operands, Call.operands, List.findIdx?_cons, Act.put] at hk
      simp only [Act.put, List.setIfInBounds_toArray, List.set_cons_succ, List.set_cons_zero]
    · have hc := fun a v h => Ext.cell he (a := a) (v := v) h
      go_wp2_with fail
      exact ⟨rfl, Ext.refl _, rfl⟩
    · subst hk
      have H1 := Lib.hid (H.out.ext ((Ext.alloc _ _).trans he))
      go_wp2_with fail
      refine (toImpl_any n _ ws _ H1.out hl).mono ?_
      rintro e w2 ⟨he2, s, rfl, hr⟩
      go_wp2_with fail
      exact ⟨rfl, he2, s, rfl, hr.read⟩
    · obtain ⟨s, rfl, hr⟩ := hk
      have H1 := Lib.hid hr
      clear hr
      go_wp2_with fail
      refine (implSign_any n _ ws _ H1.out hl).mono ?_
      rintro e w2 ⟨he2, rfl⟩
      go_wp2_with fail
      exact ⟨rfl, he2, rfl⟩
    · have hc := fun a v h => Ext.cell he (a := a) (v := v) h
      go_wp2_with fail
      exact ⟨rfl, Ext.refl _, rfl⟩
    · subst hk
      have H1 := Lib.hid (H.out.ext ((Ext.alloc _ _).trans he))
      go_wp2_with fail
      refine (toSpec_any n _ ws _ H1.out hl).mono ?_
      rintro e w2 ⟨he2, s, rfl, hr⟩
      go_wp2_with fail
      exact ⟨rfl, he2, s, rfl, hr.read⟩
    · obtain ⟨s, rfl, hr⟩ := hk
      have H1 := Lib.hid hr
      clear hr
      go_wp2_with fail
      refine (specSign_any n _ ws _ H1.out hl).mono ?_
      rintro e w2 ⟨he2, rfl⟩
      go_wp2_with fail
      exact ⟨rfl, he2, rfl⟩
    · obtain ⟨rfl, rfl⟩ := hk
      go_wp2_with fail
      exact ⟨rfl, Ext.refl _, by simp⟩
  case last =>
    intro w1 he u0 h0 u1 h1 u2 h2 u3 h3 u4 h4 u5 h5 u6 h6
    simp only [List.headD, List.tail] at h6
    subst h6
    simp only [LastD, Act.put, List.setIfInBounds_toArray, List.set_cons_succ, List.set_cons_zero]
    clear h0 h1 h2 h3 h4 h5
    have HE := Lib.hid ((Ext.alloc _ _).trans he)
    clear he
    go_wp2_with fail
    go_ret
    exact ⟨HE.out, rfl⟩

end Go.Proofs.Ytcdkaddgljafhaa
