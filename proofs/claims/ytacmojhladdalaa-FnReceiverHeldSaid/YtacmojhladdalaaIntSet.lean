/- (*Int).Set, Neg, Abs with another receiver: contracts. -/
import Derived.Test.YtacmojhladdalaaSet
import Derived.Test.YtacmojhladdalaaReg2
set_option linter.unusedSimpArgs false
set_option linter.unusedVariables false
namespace Go.Proofs.Ytacmojhladdalaa
open Go.RowKit

theorem preUpd (S : Nat → Prop) : PreW (Upd S) := ⟨Upd.refl S, fun h k => (h.trans k).mono (fun _ _ q => q.elim id id), fun w => (Upd.refl S w).drew⟩

/-- Words in a row of their own. -/
def IsNat (ws : List Nat) (x : Value) (w : World) : Prop := Own .u64 w 0 80 x ws

set_option maxHeartbeats 1000000 in
theorem intSet_any (p q : Nat) (hpq : p ≠ q) (n0 n : Bool) (v0 u : Value) (vs xs : List Nat) (w : World) (hp : w.heap[p]? = some (.cells #[.bool n0, v0] 70 (0, 0))) (hq : w.heap[q]? = some (.cells #[.bool n, u] 70 (0, 0)))
    (hv : Own .u64 w 0 80 v0 vs) (hu : Own .u64 w 0 80 u xs) (hl : xs.length ≤ 17592186044416) :
    Calls Try.prog 85 #[.pointer (some ⟨p, 0, none⟩), .pointer (some ⟨q, 0, none⟩)] w fun e w' => e = .returned (.pointer (some ⟨p, 0, none⟩)) ∧ IntAt w' 0 p n xs ∧ Upd (fun k => k = p ∨ v0.ownBlock = some k) w w' := by
  obtain ⟨a, c, rfl⟩ := hv.form
  obtain ⟨a1, c1, rfl⟩ := hu.form
  have hnp := hv.not hp (by decide)
  have hnq := hv.not hq (by decide)
  have hne := neqOther hpq hp hq
  have HP := Lib.hid hp
  have HQ := Lib.hid hq
  have HV := Lib.hid hv
  have HU := Lib.hid hu
  have HNP := Lib.hid hnp
  have HNQ := Lib.hid hnq
  clear hp hq hv hu hnp hnq
  go_enter Try.func85, Try.ntmps85
  go_wp2_with fail
  clear hne
  refine wp_region_H preExt (preUpd (fun k => (Value.slice a vs.length c).ownBlock = some k)) (fun _ _ h => h.upd) 9 mixed [Is (.pointer (some ⟨p, 0, none⟩)), Is (.pointer (some ⟨p, 0, none⟩)), Is (.pointer (some ⟨p, 0, none⟩)), Is (.pointer (some ⟨p, 1, none⟩)), Is (.slice a vs.length c),
    Is (.pointer (some ⟨q, 0, none⟩)), Is (.pointer (some ⟨q, 0, none⟩)), Is (.pointer (some ⟨q, 1, none⟩)), Is (.slice a1 xs.length c1), IsNat xs, Is (.pointer (some ⟨p, 0, none⟩)), Is (.pointer (some ⟨p, 1, none⟩))] (by kernel_rfl) ?mono ?monoU rfl ?steps ?last
  case mono =>
    simp only [List.forall_mem_cons, List.not_mem_nil, false_implies, implies_true, and_true]
    refine ⟨?_, ?_, ?_, ?_, ?_, ?_, ?_, ?_, ?_, ?_, ?_, ?_⟩
    all_goals first | exact fun _ _ _ _ q => q | exact fun _ _ _ he q => Own.ext q he
  case monoU =>
    intro j hj
    match j, hj with
    | 0, _ => exact fun _ _ _ _ q => q
    | 1, _ => exact fun _ _ _ _ q => q
    | 2, _ => exact fun _ _ _ _ q => q
    | 3, _ => exact fun _ _ _ _ q => q
    | 4, _ => exact fun _ _ _ _ q => q
    | 5, _ => exact fun _ _ _ _ q => q
    | 6, _ => exact fun _ _ _ _ q => q
    | 7, _ => exact fun _ _ _ _ q => q
    | 8, _ => exact fun _ _ _ _ q => q
    | 9, h => exact absurd rfl h
    | 10, _ => exact fun _ _ _ _ q => q
    | 11, _ => exact fun _ _ _ _ q => q
    | j + 12, _ => exact fun _ _ _ _ q => trivial
  case steps =>
    refine ⟨?_, ?_, ?_, ?_, ?_, ?_, ?_, ?_, ?_, ?_, ?_, ?_, trivial⟩
    all_goals
      intro u0 u1 u2 u3 u4 u5 u6 u7 u8 u9 u10 u11 u12 w1 he hk
      simp [KnownD, Oper.looksAt, Op.operands, Call.operands, List.findIdx?_cons, Act.put] at hk
      simp only [Act.put, List.setIfInBounds_toArray, List.set_cons_succ, List.set_cons_zero]
    · go_wp2_with fail
      exact ⟨rfl, Ext.refl _, rfl⟩
    · go_wp2_with fail
      exact ⟨rfl, Ext.refl _, rfl⟩
    · obtain rfl : u1 = _ := hk
      go_wp2_with fail
      exact ⟨rfl, Ext.refl _, rfl⟩
    · obtain rfl : u2 = _ := hk
      go_wp2_with fail
      exact ⟨rfl, Ext.refl _, rfl⟩
    · obtain rfl : u3 = _ := hk
      have he' : Upd (fun k => (Value.slice a vs.length c).ownBlock = some k) w w1 := he
      have hc : w1.cell? ⟨p, 1, none⟩ = some (.slice a vs.length c) := by rw [blk_cell (he'.heap HP.out HNP.out)]; rfl
      go_wp2_with fail
      exact ⟨rfl, Ext.refl _, rfl⟩
    · go_wp2_with fail
      exact ⟨rfl, Ext.refl _, rfl⟩
    · obtain rfl : u5 = _ := hk
      go_wp2_with fail
      exact ⟨rfl, Ext.refl _, rfl⟩
    · obtain rfl : u6 = _ := hk
      go_wp2_with fail
      exact ⟨rfl, Ext.refl _, rfl⟩
    · obtain rfl : u7 = _ := hk
      have he' : Upd (fun k => (Value.slice a vs.length c).ownBlock = some k) w w1 := he
      have hc : w1.cell? ⟨q, 1, none⟩ = some (.slice a1 xs.length c1) := by rw [blk_cell (he'.heap HQ.out HNQ.out)]; rfl
      go_wp2_with fail
      exact ⟨rfl, Ext.refl _, rfl⟩
    · obtain ⟨k0, k1⟩ := hk
      obtain rfl : u4 = _ := k0
      obtain rfl : u8 = _ := k1
      have he' : Ext w w1 := he
      have HE := Lib.hid he'
      clear he he'
      go_wp2_with fail
      refine (natSet_any _ vs _ xs _ (HV.out.ext HE.out) (HU.out.read.ext HE.out) hl).mono ?_
      rintro e w2 ⟨v', rfl, ho, hup, hor⟩
      have H1 := Lib.hid ho
      have H2 := Lib.hid hup
      clear ho hup hor
      go_wp2_with fail
      exact ⟨rfl, H2.out, H1.out⟩
    · obtain rfl : u0 = _ := hk
      go_wp2_with fail
      exact ⟨rfl, Ext.refl _, rfl⟩
    · obtain rfl : u10 = _ := hk
      go_wp2_with fail
      exact ⟨rfl, Ext.refl _, rfl⟩
  case last =>
    intro w1 he u0 h0 u1 h1 u2 h2 u3 h3 u4 h4 u5 h5 u6 h6 u7 h7 u8 h8 u9 h9 u10 h10 u11 h11
    obtain rfl : u11 = _ := h11
    have ho : Own .u64 w1 0 80 u9 xs := h9
    clear h0 h1 h2 h3 h4 h5 h6 h7 h8 h9 h10
    have hp1 := he.heap HP.out HNP.out
    have hq1 := he.heap HQ.out HNQ.out
    obtain ⟨a', c', rfl⟩ := ho.form
    have d0 := blk_cell hp1 0
    have d1 := blk_cell hp1 1
    have f0 := blk_free hp1 0
    have f1 := blk_free hp1 1
    have g0 := blk_cell hq1 0
    simp at d0 d1 g0
    have hqp : q ≠ p := fun e => hpq e.symm
    have HP1 := Lib.hid hp1
    have HO := Lib.hid ho
    have HE := Lib.hid he
    clear hp1 hq1 ho he
    have g1 : ∀ v, (w1.setCell ⟨p, 1, none⟩ v).cell? ⟨q, 0, none⟩ = some (.bool n) := fun v => by
      rw [World.cell?_setCell_other _ _ _ _ (by simp [hqp])]; exact g0
    simp only [LastD, Act.put, List.setIfInBounds_toArray, List.set_cons_succ, List.set_cons_zero]
    go_wp2_with fail
    go_ret
    obtain ⟨i1, i2⟩ := intAt_store (n := n) HP1.out HO.out
    exact ⟨rfl, i1, (HE.out.trans i2).mono (fun k hk q => q.elim .inr .inl)⟩

end Go.Proofs.Ytacmojhladdalaa
