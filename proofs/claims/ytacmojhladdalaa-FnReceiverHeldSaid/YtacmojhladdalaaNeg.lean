/- (*Int).Neg, (*Int).Abs by values, the receiver the operand or another Int: contracts. -/
import Derived.Test.YtacmojhladdalaaIntSet
set_option linter.unusedSimpArgs false
set_option linter.unusedVariables false
namespace Go.Proofs.Ytacmojhladdalaa
open Go.RowKit

theorem neg_sign {ws : List Nat} {z : Int} (hn : norm ws = ws) (hv : val ws = z.natAbs) : (decide (0 < ws.length) && !decide (z < 0)) = decide (-z < 0) := by
  have h := len_pos_iff hn
  rw [hv] at h
  rw [Bool.eq_iff_iff]
  simp only [Bool.and_eq_true, decide_eq_true_iff, Bool.not_eq_true', decide_eq_false_iff_not, h]
  omega

theorem intNegSelf_z (L : Nat) (z : Int) (base p : Nat) (w : World) (h : IntZ L z w base p) (hL : L ≤ 17592186044416) :
    Calls Try.prog 69 #[.pointer (some ⟨p, 0, none⟩), .pointer (some ⟨p, 0, none⟩)] w fun e w' => e = .returned (.pointer (some ⟨p, 0, none⟩)) ∧ IntZ L (-z) w' base p ∧ Upd (· = p) w w' := by
  obtain ⟨ws, hI, hn, hv, hl⟩ := h
  refine (negSelf_any p base _ ws w hI (by omega)).mono ?_
  rintro e w' ⟨rfl, hI', hU⟩
  rw [neg_sign hn hv] at hI'
  exact ⟨rfl, ⟨ws, hI', hn, by rw [hv]; omega, hl⟩, hU⟩

set_option maxHeartbeats 400000 in
theorem intNegOther_z (L : Nat) (z : Int) (p q : Nat) (hpq : p ≠ q) (n0 : Bool) (v0 : Value) (vs : List Nat) (w : World) (hp : w.heap[p]? = some (.cells #[.bool n0, v0] 70 (0, 0))) (hv : Own .u64 w 0 80 v0 vs) (h : IntZ L z w 0 q) (hL : L ≤ 17592186044416) :
    Calls Try.prog 69 #[.pointer (some ⟨p, 0, none⟩), .pointer (some ⟨q, 0, none⟩)] w fun e w' => e = .returned (.pointer (some ⟨p, 0, none⟩)) ∧ IntZ L (-z) w' 0 p ∧ Upd (fun k => k = p ∨ v0.ownBlock = some k) w w' := by
  obtain ⟨a, c, ws, hq, ho, hn, hvv, hl⟩ := h.low
  have hsg := neg_sign hn hvv
  have HP := Lib.hid hp
  have HQ := Lib.hid hq
  have HV := Lib.hid hv
  have HO := Lib.hid ho
  have HN := Lib.hid hn
  have HVV := Lib.hid hvv
  have HSG := Lib.hid hsg
  clear hp hq hv ho hn hvv h hsg
  generalize hd : decide (z < 0) = nn at *
  clear hd
  go_enter Try.func69, Try.ntmps69
  go_wp2_with fail
  refine (intSet_any p q hpq n0 nn v0 _ vs ws _ HP.out HQ.out HV.out HO.out (by omega)).mono ?_
  rintro e w1 ⟨rfl, hI, hU⟩
  obtain ⟨a', c', hp1, ho1⟩ := hI.cells
  have d0 := blk_cell hp1 0
  have d1 := blk_cell hp1 1
  have f0 := blk_free hp1 0
  have f1 := blk_free hp1 1
  simp at d0 d1
  have HP1 := Lib.hid hp1
  have HO1 := Lib.hid ho1
  have HU := Lib.hid hU
  clear hp1 ho1 hU hI
  by_cases h0 : 0 < ws.length
  · go_wp2_with fail
    go_ret
    have hu : Upd (· = p) w1 (w1.setCell ⟨p, 0, none⟩ (.bool !nn)) := (Upd.refl (· = p) _).setCell (by rfl) _
    refine ⟨rfl, ⟨ws, ⟨_, ?_, HO1.out.upd HP1.out (by decide) hu⟩, HN.out, by rw [HVV.out]; omega, hl⟩, (HU.out.trans hu).mono (fun k hk q => q.elim id .inl)⟩
    rw [← HSG.out, show (decide (0 < ws.length) && !nn) = !nn by simp [h0]]
    exact blk2_set0 HP1.out _
  · have hd : decide ((0 : Int) < (ws.length : Int)) = false := decide_eq_false (by omega)
    go_wp2_with fail
    go_ret
    have hu : Upd (· = p) w1 (w1.setCell ⟨p, 0, none⟩ (.bool false)) := (Upd.refl (· = p) _).setCell (by rfl) _
    refine ⟨rfl, ⟨ws, ⟨_, ?_, HO1.out.upd HP1.out (by decide) hu⟩, HN.out, by rw [HVV.out]; omega, hl⟩, (HU.out.trans hu).mono (fun k hk q => q.elim id .inl)⟩
    rw [← HSG.out, show (decide (0 < ws.length) && !nn) = false by simp [h0]]
    exact blk2_set0 HP1.out _

theorem intAbsSelf_z (L : Nat) (z : Int) (base p : Nat) (w : World) (h : IntZ L z w base p) (hL : L ≤ 17592186044416) :
    Calls Try.prog 73 #[.pointer (some ⟨p, 0, none⟩), .pointer (some ⟨p, 0, none⟩)] w fun e w' => e = .returned (.pointer (some ⟨p, 0, none⟩)) ∧ IntZ L (z.natAbs : Int) w' base p ∧ Upd (· = p) w w' := by
  obtain ⟨a, c, ws, hp, ho, hn, hv, hl⟩ := h.low
  have hsame := neqSame ⟨p, 0, none⟩
  have d0 := blk_cell hp 0
  have f0 := blk_free hp 0
  simp at d0
  have HP := Lib.hid hp
  have HO := Lib.hid ho
  have HN := Lib.hid hn
  have HV := Lib.hid hv
  clear hp ho hn hv h
  generalize hd : decide (z < 0) = nn at *
  clear hd
  go_enter Try.func73, Try.ntmps73
  go_wp2
  go_ret
  have hu : Upd (· = p) w (w.setCell ⟨p, 0, none⟩ (.bool false)) := (Upd.refl (· = p) _).setCell (by rfl) _
  refine ⟨rfl, ⟨ws, ⟨_, ?_, HO.out.upd HP.out (by decide) hu⟩, HN.out, by rw [HV.out]; omega, hl⟩, hu⟩
  rw [show decide ((z.natAbs : Int) < 0) = false from decide_eq_false (by omega)]
  exact blk2_set0 HP.out _

theorem intAbsOther_z (L : Nat) (z : Int) (p q : Nat) (hpq : p ≠ q) (n0 : Bool) (v0 : Value) (vs : List Nat) (w : World) (hp : w.heap[p]? = some (.cells #[.bool n0, v0] 70 (0, 0))) (hv : Own .u64 w 0 80 v0 vs) (h : IntZ L z w 0 q) (hL : L ≤ 17592186044416) :
    Calls Try.prog 73 #[.pointer (some ⟨p, 0, none⟩), .pointer (some ⟨q, 0, none⟩)] w fun e w' => e = .returned (.pointer (some ⟨p, 0, none⟩)) ∧ IntZ L (z.natAbs : Int) w' 0 p ∧ Upd (fun k => k = p ∨ v0.ownBlock = some k) w w' := by
  obtain ⟨a, c, ws, hq, ho, hn, hvv, hl⟩ := h.low
  have HP := Lib.hid hp
  have HQ := Lib.hid hq
  have HV := Lib.hid hv
  have HO := Lib.hid ho
  have HN := Lib.hid hn
  have HVV := Lib.hid hvv
  clear hp hq hv ho hn hvv h
  generalize hd : decide (z < 0) = nn at *
  clear hd
  go_enter Try.func73, Try.ntmps73
  go_wp2_with fail
  refine (intSet_any p q hpq n0 nn v0 _ vs ws _ HP.out HQ.out HV.out HO.out (by omega)).mono ?_
  rintro e w1 ⟨rfl, hI, hU⟩
  obtain ⟨a', c', hp1, ho1⟩ := hI.cells
  have d0 := blk_cell hp1 0
  have f0 := blk_free hp1 0
  simp at d0
  have HP1 := Lib.hid hp1
  have HO1 := Lib.hid ho1
  have HU := Lib.hid hU
  clear hp1 ho1 hU hI
  go_wp2_with fail
  go_ret
  have hu : Upd (· = p) w1 (w1.setCell ⟨p, 0, none⟩ (.bool false)) := (Upd.refl (· = p) _).setCell (by rfl) _
  refine ⟨rfl, ⟨ws, ⟨_, ?_, HO1.out.upd HP1.out (by decide) hu⟩, HN.out, by rw [HVV.out]; omega, hl⟩, (HU.out.trans hu).mono (fun k hk q => q.elim id .inl)⟩
  rw [show decide ((z.natAbs : Int) < 0) = false from decide_eq_false (by omega)]
  exact blk2_set0 HP1.out _

end Go.Proofs.Ytacmojhladdalaa
