/- (*Int).Add, Sub and impl.Add, impl.Sub by values: contracts (printed by genas.py). -/
import Derived.Test.YtacmojhladdalaaIntAdd
import Derived.Test.YtacmojhladdalaaThree
set_option linter.unusedSimpArgs false
set_option linter.unusedVariables false
namespace Go.Proofs.Ytacmojhladdalaa
open Go.RowKit

theorem sum_sign {ws : List Nat} {z : Int} {neg : Bool} (hn : norm ws = ws) (hv : val ws = z.natAbs) (hs : z ≠ 0 → neg = decide (z < 0)) : (decide (0 < ws.length) && neg) = decide (z < 0) := by
  have h := len_pos_iff hn
  rw [hv] at h
  by_cases hz : z = 0
  · subst hz
    have : ¬ 0 < ws.length := fun q => by have := h.1 q; simp at this
    simp [this]
  · have : 0 < ws.length := h.2 (by omega)
    simp [this, hs hz]

theorem SumR.z {p : Nat} {v0 : Value} {t L : Nat} {neg : Bool} {w : World} {e : Ending} {w' : World} (z : Int) (h : SumR p v0 t L neg w e w') (hv : t = z.natAbs) (hs : z ≠ 0 → neg = decide (z < 0)) :
    e = .returned (.pointer (some ⟨p, 0, none⟩)) ∧ IntZ L z w' 0 p ∧ Upd (fun k => k = p ∨ v0.ownBlock = some k) w w' := by
  obtain ⟨h1, ws, h2, h3, h4, h5, h6⟩ := h
  refine ⟨h1, ⟨ws, ?_, h3, by rw [h4, hv], h5⟩, h6⟩
  rw [← sum_sign h3 (by rw [h4, hv]) hs]; exact h2

theorem SumR.more {p : Nat} {v0 : Value} {t L M : Nat} {neg : Bool} {w : World} {e : Ending} {w' : World} (h : SumR p v0 t L neg w e w') (hl : L ≤ M) : SumR p v0 t M neg w e w' := by
  obtain ⟨h1, ws, h2, h3, h4, h5, h6⟩ := h
  exact ⟨h1, ws, h2, h3, h4, Nat.le_trans h5 hl, h6⟩

theorem intAdd_z (L : Nat) (zx zy : Int) (p q r : Nat) (n0 : Bool) (v0 : Value) (vs : List Nat) (w : World) (hp : w.heap[p]? = some (.cells #[.bool n0, v0] 70 (0, 0))) (hv : Own .u64 w 0 80 v0 vs) (hx : IntZ L zx w 0 q) (hy : IntZ L zy w 0 r) (hL : L ≤ 17592186044416) :
    Calls Try.prog 42 #[.pointer (some ⟨p, 0, none⟩), .pointer (some ⟨q, 0, none⟩), .pointer (some ⟨r, 0, none⟩)] w fun e w' => e = .returned (.pointer (some ⟨p, 0, none⟩)) ∧ IntZ (L + 1) (zx + zy) w' 0 p ∧ Upd (fun k => k = p ∨ v0.ownBlock = some k) w w' := by
  obtain ⟨ax, cx, xs, hq, hox, hnx, hvx, hlx⟩ := hx.low
  obtain ⟨ay, cy, ys, hr, hoy, hny, hvy, hly⟩ := hy.low
  by_cases hs : (zx < 0 ↔ zy < 0)
  · refine (intAdd_A p q r n0 _ _ v0 _ _ vs xs ys L w hp hq hr hv hox hoy hnx hny hL hlx hly (by exact decide_eq_decide.2 hs)).mono fun e w' h => h.z _ (by rw [hvx, hvy]; omega) (fun h0 => ?_)
    rw [decide_eq_decide]; omega
  · by_cases hc : val ys ≤ val xs
    · refine (intAdd_B p q r n0 _ _ v0 _ _ vs xs ys L w hp hq hr hv hox hoy hnx hny hL hlx hly (by exact fun h => hs (decide_eq_decide.1 h)) hc).mono fun e w' h => (h.more (by omega)).z _ (by rw [hvx, hvy]; rw [hvx, hvy] at hc; omega) (fun h0 => ?_)
      rw [decide_eq_decide]; rw [hvx, hvy] at hc; omega
    · refine (intAdd_C p q r n0 _ _ v0 _ _ vs xs ys L w hp hq hr hv hox hoy hnx hny hL hlx hly (by exact fun h => hs (decide_eq_decide.1 h)) (by omega)).mono fun e w' h => (h.more (by omega)).z _ (by rw [hvx, hvy]; rw [hvx, hvy] at hc; omega) (fun h0 => ?_)
      rw [← decide_not, decide_eq_decide]; rw [hvx, hvy] at hc; omega

theorem intSub_z (L : Nat) (zx zy : Int) (p q r : Nat) (n0 : Bool) (v0 : Value) (vs : List Nat) (w : World) (hp : w.heap[p]? = some (.cells #[.bool n0, v0] 70 (0, 0))) (hv : Own .u64 w 0 80 v0 vs) (hx : IntZ L zx w 0 q) (hy : IntZ L zy w 0 r) (hL : L ≤ 17592186044416) :
    Calls Try.prog 45 #[.pointer (some ⟨p, 0, none⟩), .pointer (some ⟨q, 0, none⟩), .pointer (some ⟨r, 0, none⟩)] w fun e w' => e = .returned (.pointer (some ⟨p, 0, none⟩)) ∧ IntZ (L + 1) (zx - zy) w' 0 p ∧ Upd (fun k => k = p ∨ v0.ownBlock = some k) w w' := by
  obtain ⟨ax, cx, xs, hq, hox, hnx, hvx, hlx⟩ := hx.low
  obtain ⟨ay, cy, ys, hr, hoy, hny, hvy, hly⟩ := hy.low
  by_cases hs : ¬ (zx < 0 ↔ zy < 0)
  · refine (intSub_A p q r n0 _ _ v0 _ _ vs xs ys L w hp hq hr hv hox hoy hnx hny hL hlx hly (by exact fun h => hs (decide_eq_decide.1 h))).mono fun e w' h => h.z _ (by rw [hvx, hvy]; omega) (fun h0 => ?_)
    rw [decide_eq_decide]; omega
  · by_cases hc : val ys ≤ val xs
    · refine (intSub_B p q r n0 _ _ v0 _ _ vs xs ys L w hp hq hr hv hox hoy hnx hny hL hlx hly (by exact decide_eq_decide.2 (Classical.not_not.1 hs)) hc).mono fun e w' h => (h.more (by omega)).z _ (by rw [hvx, hvy]; rw [hvx, hvy] at hc; omega) (fun h0 => ?_)
      rw [decide_eq_decide]; rw [hvx, hvy] at hc; omega
    · refine (intSub_C p q r n0 _ _ v0 _ _ vs xs ys L w hp hq hr hv hox hoy hnx hny hL hlx hly (by exact decide_eq_decide.2 (Classical.not_not.1 hs)) (by omega)).mono fun e w' h => (h.more (by omega)).z _ (by rw [hvx, hvy]; rw [hvx, hvy] at hc; omega) (fun h0 => ?_)
      rw [← decide_not, decide_eq_decide]; rw [hvx, hvy] at hc; omega

set_option maxHeartbeats 1000000 in
theorem implAdd_z (k : Int) (L : Nat) (zz x y : Int) (Z X Y : Value) (w : World) (hZ : IsZ L zz Z w) (hX : IsZ L x X w) (hY : IsZ L y Y w) (hL : L + 1 ≤ 17592186044416) :
    Calls Try.prog 19 #[.int .i64 k, Z, X, Y] w (ResR (IsT (L + 1) (x + secZ k x y) (aftX k (x + secZ k x y) x) (aftY k (x + secZ k x y) (secZ k x y))) w) := by
  obtain ⟨n1, a1, l1, c1, rfl⟩ := hZ.form
  obtain ⟨n2, a2, l2, c2, rfl⟩ := hX.form
  obtain ⟨n3, a3, l3, c3, rfl⟩ := hY.form
  have HZ := Lib.hid hZ
  have HX := Lib.hid hX
  have HY := Lib.hid hY
  clear hZ hX hY
  generalize hy2 : secZ k x y = y2
  generalize hres : x + y2 = rz
  generalize haf : aftX k rz x = af
  generalize hbf : aftY k rz y2 = bf
  have HY2 := Lib.hid hy2
  have HRES := Lib.hid hres
  have HAF := Lib.hid haf
  have HBF := Lib.hid hbf
  clear hy2 hres haf hbf
  go_enter Try.func19, Try.ntmps19
  go_wp2_with fail
  refine (three_z k L zz x y _ _ _ _ (HZ.out.ext ((((Ext.alloc _ _).trans (Ext.alloc _ _)).trans (Ext.alloc _ _)).trans (Ext.alloc _ _))) (HX.out.ext ((((Ext.alloc _ _).trans (Ext.alloc _ _)).trans (Ext.alloc _ _)).trans (Ext.alloc _ _))) (HY.out.ext ((((Ext.alloc _ _).trans (Ext.alloc _ _)).trans (Ext.alloc _ _)).trans (Ext.alloc _ _))) (by omega)).mono ?_
  rintro e w1 ⟨he, p, q, r, n0, v0, vs, rfl, t1, t2, t3, t4, t5, t6, t7⟩
  rw [show (bif isOne k then x else y) = y2 from HY2.out] at t2 t7
  simp only [World.size_alloc] at t5
  have hE : Ext w w1 := ((((Ext.alloc _ _).trans (Ext.alloc _ _)).trans (Ext.alloc _ _)).trans (Ext.alloc _ _)).trans he
  have hP : w1.heap[w.heap.size + 3]? = some (.cells #[.bool false, .slice none 0 0, .bool false, .slice none 0 0, .bool false, .slice none 0 0] 32 (0, 0)) := he.block (heap_fourth _ _ _ _ _)
  have HE := Lib.hid hE
  have HP := Lib.hid hP
  have T1 := Lib.hid t1
  have T2 := Lib.hid t2
  have T3 := Lib.hid t3
  have T4 := Lib.hid t4
  have T5 := Lib.hid t5
  have T6 := Lib.hid t6
  have T7 := Lib.hid t7
  clear hE hP he t1 t2 t3 t4 t5 t6 t7
  go_wp2_with fail
  refine (intAdd_z L x y2 p q r n0 v0 vs _ T3.out T4.out T1.out T2.out (by omega)).mono ?_
  rw [HRES.out]
  rintro e w2 ⟨rfl, hI', hU⟩
  have hE2 : Ext w w2 := hU.ext HE.out (fun i hi => by have := T5.out i hi; omega)
  have hP2 : w2.heap[w.heap.size + 3]? = _ := hU.heap HP.out (fun h => by have := T5.out _ h; omega)
  have hA : IntZ (L + 1) af w2 0 q := by
    have h6 := T6.out
    rw [← HAF.out, aftX]
    cases hh : isX k
    · rw [hh] at h6; exact (h6 w2 hU).more (by omega)
    · rw [hh] at h6; obtain rfl : q = p := h6; exact hI'
  have hB : IntZ (L + 1) bf w2 0 r := by
    have h7 := T7.out
    rw [← HBF.out, aftY]
    cases hh : isY k
    · rw [hh] at h7; exact (h7 w2 hU).more (by omega)
    · rw [hh] at h7; obtain rfl : r = p := h7; exact hI'
  clear hU
  have HI' := Lib.hid hI'
  have HE2 := Lib.hid hE2
  have HA := Lib.hid hA
  have hp1 := hP2
  have HP1 := Lib.hid hp1
  have HBB := Lib.hid hB
  clear hI' hE2 hA hB hP2 hp1
  go_wp2_with fail
  refine (triple_z (L + 1) rz af bf _ _ _ _ HI'.out HA.out HBB.out hL).mono ?_
  rintro e w3 ⟨he, v, rfl, n1, s1, n2, s2, n3, s3, rfl, g1, g2, g3⟩
  obtain ⟨m1, a1, l1, c1, e1⟩ := g1.form
  obtain ⟨m2, a2, l2, c2, e2⟩ := g2.form
  obtain ⟨m3, a3, l3, c3, e3⟩ := g3.form
  simp at e1 e2 e3
  obtain ⟨rfl, rfl⟩ := e1
  obtain ⟨rfl, rfl⟩ := e2
  obtain ⟨rfl, rfl⟩ := e3
  have hp2 := he.block HP1.out
  have d0 := blk_cell hp2 0
  have d1 := blk_cell hp2 1
  have d2 := blk_cell hp2 2
  have d3 := blk_cell hp2 3
  have d4 := blk_cell hp2 4
  have d5 := blk_cell hp2 5
  have f0 := blk_free hp2 0
  have f1 := blk_free hp2 1
  have f2 := blk_free hp2 2
  have f3 := blk_free hp2 3
  have f4 := blk_free hp2 4
  have f5 := blk_free hp2 5
  simp at d0 d1 d2 d3 d4 d5
  have G1 := Lib.hid g1
  have G2 := Lib.hid g2
  have G3 := Lib.hid g3
  have HP2 := Lib.hid hp2
  have HE3 := Lib.hid (HE2.out.trans he)
  clear g1 g2 g3 hp2 he
  go_wp2_with fail
  have hh := put6_heap HP2.out (.bool m1) (.slice a1 l1 c1) (.bool m2) (.slice a2 l2 c2) (.bool m3) (.slice a3 l3 c3)
  have hu := put6_upd w3 (w.heap.size + 3) (.bool m1) (.slice a1 l1 c1) (.bool m2) (.slice a2 l2 c2) (.bool m3) (.slice a3 l3 c3)
  exact bodyPost_ret (results_triple rfl _ rfl (blk_cell hh 0) (blk_cell hh 1) (blk_cell hh 2) (blk_cell hh 3) (blk_cell hh 4) (blk_cell hh 5)) rfl
    ⟨hu.ext HE3.out (by omega), _, rfl, _, _, _, _, _, _, rfl, G1.out.upd HP2.out (by decide) hu, G2.out.upd HP2.out (by decide) hu, G3.out.upd HP2.out (by decide) hu⟩

set_option maxHeartbeats 1000000 in
theorem implSub_z (k : Int) (L : Nat) (zz x y : Int) (Z X Y : Value) (w : World) (hZ : IsZ L zz Z w) (hX : IsZ L x X w) (hY : IsZ L y Y w) (hL : L + 1 ≤ 17592186044416) :
    Calls Try.prog 23 #[.int .i64 k, Z, X, Y] w (ResR (IsT (L + 1) (x - secZ k x y) (aftX k (x - secZ k x y) x) (aftY k (x - secZ k x y) (secZ k x y))) w) := by
  obtain ⟨n1, a1, l1, c1, rfl⟩ := hZ.form
  obtain ⟨n2, a2, l2, c2, rfl⟩ := hX.form
  obtain ⟨n3, a3, l3, c3, rfl⟩ := hY.form
  have HZ := Lib.hid hZ
  have HX := Lib.hid hX
  have HY := Lib.hid hY
  clear hZ hX hY
  generalize hy2 : secZ k x y = y2
  generalize hres : x - y2 = rz
  generalize haf : aftX k rz x = af
  generalize hbf : aftY k rz y2 = bf
  have HY2 := Lib.hid hy2
  have HRES := Lib.hid hres
  have HAF := Lib.hid haf
  have HBF := Lib.hid hbf
  clear hy2 hres haf hbf
  go_enter Try.func23, Try.ntmps23
  go_wp2_with fail
  refine (three_z k L zz x y _ _ _ _ (HZ.out.ext ((((Ext.alloc _ _).trans (Ext.alloc _ _)).trans (Ext.alloc _ _)).trans (Ext.alloc _ _))) (HX.out.ext ((((Ext.alloc _ _).trans (Ext.alloc _ _)).trans (Ext.alloc _ _)).trans (Ext.alloc _ _))) (HY.out.ext ((((Ext.alloc _ _).trans (Ext.alloc _ _)).trans (Ext.alloc _ _)).trans (Ext.alloc _ _))) (by omega)).mono ?_
  rintro e w1 ⟨he, p, q, r, n0, v0, vs, rfl, t1, t2, t3, t4, t5, t6, t7⟩
  rw [show (bif isOne k then x else y) = y2 from HY2.out] at t2 t7
  simp only [World.size_alloc] at t5
  have hE : Ext w w1 := ((((Ext.alloc _ _).trans (Ext.alloc _ _)).trans (Ext.alloc _ _)).trans (Ext.alloc _ _)).trans he
  have hP : w1.heap[w.heap.size + 3]? = some (.cells #[.bool false, .slice none 0 0, .bool false, .slice none 0 0, .bool false, .slice none 0 0] 32 (0, 0)) := he.block (heap_fourth _ _ _ _ _)
  have HE := Lib.hid hE
  have HP := Lib.hid hP
  have T1 := Lib.hid t1
  have T2 := Lib.hid t2
  have T3 := Lib.hid t3
  have T4 := Lib.hid t4
  have T5 := Lib.hid t5
  have T6 := Lib.hid t6
  have T7 := Lib.hid t7
  clear hE hP he t1 t2 t3 t4 t5 t6 t7
  go_wp2_with fail
  refine (intSub_z L x y2 p q r n0 v0 vs _ T3.out T4.out T1.out T2.out (by omega)).mono ?_
  rw [HRES.out]
  rintro e w2 ⟨rfl, hI', hU⟩
  have hE2 : Ext w w2 := hU.ext HE.out (fun i hi => by have := T5.out i hi; omega)
  have hP2 : w2.heap[w.heap.size + 3]? = _ := hU.heap HP.out (fun h => by have := T5.out _ h; omega)
  have hA : IntZ (L + 1) af w2 0 q := by
    have h6 := T6.out
    rw [← HAF.out, aftX]
    cases hh : isX k
    · rw [hh] at h6; exact (h6 w2 hU).more (by omega)
    · rw [hh] at h6; obtain rfl : q = p := h6; exact hI'
  have hB : IntZ (L + 1) bf w2 0 r := by
    have h7 := T7.out
    rw [← HBF.out, aftY]
    cases hh : isY k
    · rw [hh] at h7; exact (h7 w2 hU).more (by omega)
    · rw [hh] at h7; obtain rfl : r = p := h7; exact hI'
  clear hU
  have HI' := Lib.hid hI'
  have HE2 := Lib.hid hE2
  have HA := Lib.hid hA
  have hp1 := hP2
  have HP1 := Lib.hid hp1
  have HBB := Lib.hid hB
  clear hI' hE2 hA hB hP2 hp1
  go_wp2_with fail
  refine (triple_z (L + 1) rz af bf _ _ _ _ HI'.out HA.out HBB.out hL).mono ?_
  rintro e w3 ⟨he, v, rfl, n1, s1, n2, s2, n3, s3, rfl, g1, g2, g3⟩
  obtain ⟨m1, a1, l1, c1, e1⟩ := g1.form
  obtain ⟨m2, a2, l2, c2, e2⟩ := g2.form
  obtain ⟨m3, a3, l3, c3, e3⟩ := g3.form
  simp at e1 e2 e3
  obtain ⟨rfl, rfl⟩ := e1
  obtain ⟨rfl, rfl⟩ := e2
  obtain ⟨rfl, rfl⟩ := e3
  have hp2 := he.block HP1.out
  have d0 := blk_cell hp2 0
  have d1 := blk_cell hp2 1
  have d2 := blk_cell hp2 2
  have d3 := blk_cell hp2 3
  have d4 := blk_cell hp2 4
  have d5 := blk_cell hp2 5
  have f0 := blk_free hp2 0
  have f1 := blk_free hp2 1
  have f2 := blk_free hp2 2
  have f3 := blk_free hp2 3
  have f4 := blk_free hp2 4
  have f5 := blk_free hp2 5
  simp at d0 d1 d2 d3 d4 d5
  have G1 := Lib.hid g1
  have G2 := Lib.hid g2
  have G3 := Lib.hid g3
  have HP2 := Lib.hid hp2
  have HE3 := Lib.hid (HE2.out.trans he)
  clear g1 g2 g3 hp2 he
  go_wp2_with fail
  have hh := put6_heap HP2.out (.bool m1) (.slice a1 l1 c1) (.bool m2) (.slice a2 l2 c2) (.bool m3) (.slice a3 l3 c3)
  have hu := put6_upd w3 (w.heap.size + 3) (.bool m1) (.slice a1 l1 c1) (.bool m2) (.slice a2 l2 c2) (.bool m3) (.slice a3 l3 c3)
  exact bodyPost_ret (results_triple rfl _ rfl (blk_cell hh 0) (blk_cell hh 1) (blk_cell hh 2) (blk_cell hh 3) (blk_cell hh 4) (blk_cell hh 5)) rfl
    ⟨hu.ext HE3.out (by omega), _, rfl, _, _, _, _, _, _, rfl, G1.out.upd HP2.out (by decide) hu, G2.out.upd HP2.out (by decide) hu, G3.out.upd HP2.out (by decide) hu⟩

end Go.Proofs.Ytacmojhladdalaa
