/- SameNumber and 'same': whether two numbers have one value: contracts. -/
import Derived.Test.YtacmojhladdalaaSpec3
set_option linter.unusedSimpArgs false
set_option linter.unusedVariables false
namespace Go.Proofs.Ytacmojhladdalaa
open Go.RowKit

/-- A number as a value, its words in a row of its own. -/
def IsO (n : Bool) (ws : List Nat) (x : Value) (w : World) : Prop := ∃ s, x = .agg #[.bool n, s] ∧ Own .u64 w 0 63 s ws

theorem IsO.ext {n : Bool} {ws : List Nat} {x : Value} {w w' : World} (h : IsO n ws x w) (he : Ext w w') : IsO n ws x w' := by
  obtain ⟨s, h1, h2⟩ := h
  exact ⟨s, h1, h2.ext he⟩

theorem sameB (n m : Bool) (a b : List Nat) : ((decide (0 < (norm a).length) && n) == (decide (0 < (norm b).length) && m) && (cmpW (norm a) (norm b) == 0)) = decide (ival n a = ival m b) := by
  rw [← ival_norm n a, ← ival_norm m b]
  have key : ∀ (ws : List Nat) (q : Bool), (decide (0 < (norm ws).length) && q) = true → val (norm ws) ≠ 0 := by
    intro ws q h h0
    rw [val_norm, ← norm_nil_iff] at h0
    rw [h0] at h
    simp at h
  have ka := key a n
  have kb := key b m
  generalize (decide (0 < (norm a).length) && n) = p at *
  generalize (decide (0 < (norm b).length) && m) = q at *
  rw [Bool.eq_iff_iff, decide_eq_true_iff, ival_eq_iff _ _ _ _ ka kb]
  simp only [Bool.and_eq_true, beq_iff_eq]
  have : cmpW (norm a) (norm b) = 0 ↔ val (norm a) = val (norm b) := by
    unfold cmpW cmpZ
    constructor
    · intro h; split at h <;> first | omega | (split at h <;> omega)
    · intro h; rw [if_neg (by omega), if_neg (by omega)]
  rw [this]

set_option maxHeartbeats 1000000 in
theorem sameNumber_any (n m : Bool) (u v : Value) (a b : List Nat) (w : World) (ha : Rd .u64 w u a) (hb : Rd .u64 w v b) (hla : a.length ≤ 17592186044416) (hlb : b.length ≤ 17592186044416) :
    Calls Try.prog 46 #[.agg #[.bool n, u], .agg #[.bool m, v]] w (ValR (.bool (decide (ival n a = ival m b))) w) := by
  rw [← sameB n m a b]
  obtain ⟨aa, ca, rfl⟩ := ha.form
  obtain ⟨ab, cb, rfl⟩ := hb.form
  have hna := norm_length_le a
  have hnb := norm_length_le b
  have HA := Lib.hid ha
  have HB := Lib.hid hb
  clear ha hb
  generalize hp : (decide (0 < (norm a).length) && n) = p
  generalize hq : (decide (0 < (norm b).length) && m) = q
  have HP := Lib.hid hp
  have HQ := Lib.hid hq
  clear hp hq
  go_enter Try.func46, Try.ntmps46
  go_wp2_with fail
  refine (specTrim_any n _ a _ (HA.out.ext ((Ext.alloc _ _).trans (Ext.alloc _ _))) hla).mono ?_
  rintro e w1 ⟨he, v1, rfl, ho1⟩
  rw [HP.out]
  obtain ⟨a1, c1, rfl⟩ := ho1.form
  have hy0 : w1.cell? ⟨w.heap.size + 1, 0, none⟩ = some (.bool m) := by rw [blk_cell (he.block (heap_second _ _ _))]; rfl
  have hy1 : w1.cell? ⟨w.heap.size + 1, 1, none⟩ = some (.slice ab b.length cb) := by rw [blk_cell (he.block (heap_second _ _ _))]; rfl
  have hy0' := fun o => (Ext.alloc w1 o).cell hy0
  have hy1' := fun o => (Ext.alloc w1 o).cell hy1
  have HE1 := Lib.hid (((Ext.alloc _ _).trans (Ext.alloc _ _)).trans he)
  have HO1 := Lib.hid ho1
  have hs1 := he.size
  simp only [World.size_alloc] at hs1
  clear he ho1
  generalize hg1 : norm a = na at *
  have HG1 := Lib.hid hg1
  clear hg1
  go_wp2_with fail
  refine (specTrim_any m _ b _ ((HB.out.ext HE1.out).ext (Ext.alloc _ _)) hlb).mono ?_
  rintro e w2 ⟨he, v2, rfl, ho2⟩
  rw [HQ.out]
  obtain ⟨a2, c2, rfl⟩ := ho2.form
  have hx0 : w2.cell? ⟨w1.heap.size, 0, none⟩ = some (.bool p) := by rw [blk_cell (he.block (heap_alloc_new _ _))]; rfl
  have hx1 : w2.cell? ⟨w1.heap.size, 1, none⟩ = some (.slice a1 na.length c1) := by rw [blk_cell (he.block (heap_alloc_new _ _))]; rfl
  have HE2 := Lib.hid ((HE1.out.trans (Ext.alloc _ _)).trans he)
  have HO1' := Lib.hid ((HO1.out.ext (Ext.alloc _ _)).ext he)
  have HO2 := Lib.hid ho2
  have hs2 := he.size
  simp only [World.size_alloc] at hs2
  clear he ho2 hy0 hy1 hy0' hy1'
  have hx0' := fun o => (Ext.alloc w2 o).cell hx0
  have hx1' := fun o => (Ext.alloc w2 o).cell hx1
  generalize hg2 : norm b = nb at *
  have HG2 := Lib.hid hg2
  clear hg2
  by_cases hpq : p = q
  · have hpq' : (p == q) = true := by simp [hpq]
    clear hpq
    go_wp2_with fail
    refine (compare_any _ _ na nb _ (HO1'.out.read.ext (Ext.alloc _ _)) (HO2.out.read.ext (Ext.alloc _ _)) (by omega) (by omega)).mono ?_
    rintro e w3 ⟨rfl, rfl⟩
    go_wp2_with fail
    go_ret
    exact ⟨HE2.out.trans (Ext.alloc _ _), by simp [hpq']⟩
  · have hpq' : (p == q) = false := by simp [hpq]
    clear hpq
    go_wp2_with fail
    go_ret
    exact ⟨HE2.out.trans (Ext.alloc _ _), by simp [hpq']⟩

set_option maxHeartbeats 1000000 in
theorem same_any (n m : Bool) (u v : Value) (a b : List Nat) (w : World) (ha : Rd .u64 w u a) (hb : Rd .u64 w v b) (hla : a.length ≤ 17592186044416) (hlb : b.length ≤ 17592186044416) :
    Calls Try.prog 24 #[.agg #[.bool n, u], .agg #[.bool m, v]] w (ValR (.bool (decide (ival n a = ival m b))) w) := by
  obtain ⟨aa, ca, rfl⟩ := ha.form
  obtain ⟨ab, cb, rfl⟩ := hb.form
  generalize hq : decide (ival n a = ival m b) = q
  have HQ := Lib.hid hq
  have HA := Lib.hid ha
  have HB := Lib.hid hb
  clear ha hb hq
  go_enter Try.func24, Try.ntmps24
  go_wp2_with fail
  refine wp_region_D preExt mixed [fun x _ => x = .agg #[.bool n, .slice aa a.length ca], IsO n a, fun x _ => x = .agg #[.bool m, .slice ab b.length cb], IsO m b, fun x _ => x = .bool q] (by kernel_rfl) ?mono rfl ?steps ?last
  case mono =>
    simp only [List.forall_mem_cons, List.not_mem_nil, false_implies, implies_true, and_true]
    refine ⟨?_, ?_, ?_, ?_, ?_⟩
    all_goals first | exact fun _ _ _ _ q => q | exact fun _ _ _ he q => q.ext he
  case steps =>
    refine ⟨?_, ?_, ?_, ?_, ?_, trivial⟩
    all_goals
      intro u0 u1 u2 u3 u4 u5 w1 he hk
      simp [KnownD, Oper.looksAt, Op.operands, Call.operands, List.findIdx?_cons, Act.put] at hk
      simp only [Act.put, List.setIfInBounds_toArray, List.set_cons_succ, List.set_cons_zero]
    · have hc := fun a v h => Ext.cell he (a := a) (v := v) h
      go_wp2_with fail
      exact ⟨rfl, Ext.refl _, rfl⟩
    · subst hk
      have H1 := Lib.hid (HA.out.ext (((Ext.alloc _ _).trans (Ext.alloc _ _)).trans he))
      go_wp2_with fail
      refine (toSpec_any n _ a _ H1.out hla).mono ?_
      rintro e w2 ⟨he2, s, rfl, hr⟩
      go_wp2_with fail
      exact ⟨rfl, he2, s, rfl, hr⟩
    · have hc := fun a v h => Ext.cell he (a := a) (v := v) h
      go_wp2_with fail
      exact ⟨rfl, Ext.refl _, rfl⟩
    · subst hk
      have H1 := Lib.hid (HB.out.ext (((Ext.alloc _ _).trans (Ext.alloc _ _)).trans he))
      go_wp2_with fail
      refine (toSpec_any m _ b _ H1.out hlb).mono ?_
      rintro e w2 ⟨he2, s, rfl, hr⟩
      go_wp2_with fail
      exact ⟨rfl, he2, s, rfl, hr⟩
    · obtain ⟨⟨s, rfl, hr⟩, ⟨s2, rfl, hr2⟩⟩ := hk
      have H1 := Lib.hid hr.read
      have H2 := Lib.hid hr2.read
      clear hr hr2
      go_wp2_with fail
      refine (sameNumber_any n m _ _ a b _ H1.out H2.out hla hlb).mono ?_
      rw [HQ.out]
      rintro e w2 ⟨he2, rfl⟩
      go_wp2_with fail
      exact ⟨rfl, he2, rfl⟩
  case last =>
    intro w1 he u0 h0 u1 h1 u2 h2 u3 h3 u4 h4
    simp only [List.headD, List.tail] at h4
    subst h4
    simp only [LastD, Act.put, List.setIfInBounds_toArray, List.set_cons_succ, List.set_cons_zero]
    clear h0 h1 h2 h3
    have HE := Lib.hid (((Ext.alloc _ _).trans (Ext.alloc _ _)).trans he)
    clear he
    go_wp2_with fail
    go_ret
    exact ⟨HE.out, rfl⟩

end Go.Proofs.Ytacmojhladdalaa
