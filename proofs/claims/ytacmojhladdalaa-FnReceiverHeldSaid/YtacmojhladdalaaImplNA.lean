/- impl.Neg, impl.Abs by values: contracts (printed by gen4.py). -/
import Derived.Test.YtacmojhladdalaaTriple
set_option linter.unusedSimpArgs false
set_option linter.unusedVariables false
namespace Go.Proofs.Ytacmojhladdalaa
open Go.RowKit

/-- What the operand holds behind the call. -/
def after1 (k : Int) (new old : Int) : Int := bif decide (k = 1) then new else old


set_option maxHeartbeats 1000000 in
theorem implNeg_z (k : Int) (Lz Lx : Nat) (zz z : Int) (Z X : Value) (w : World) (hZ : IsZ Lz zz Z w) (hX : IsZ Lx z X w) (hLz : Lz ≤ 17592186044416) (hLx : Lx ≤ 17592186044416) :
    Calls Try.prog 47 #[.int .i64 k, Z, X] w (ResR (IsT Lx (-z) (after1 k (-z) z) 0) w) := by
  obtain ⟨n1, a1, l1, c1, rfl⟩ := hZ.form
  obtain ⟨n2, a2, l2, c2, rfl⟩ := hX.form
  have HZ := Lib.hid hZ
  have HX := Lib.hid hX
  clear hZ hX
  generalize haf : after1 k (-z) z = af
  have HAF := Lib.hid haf
  clear haf
  generalize hres : -z = rz at *
  have HRES := Lib.hid hres
  clear hres
  go_enter Try.func47, Try.ntmps47
  go_wp2_with fail
  refine (two_z k Lz Lx zz z _ _ _ (HZ.out.ext (((Ext.alloc _ _).trans (Ext.alloc _ _)).trans (Ext.alloc _ _))) (HX.out.ext (((Ext.alloc _ _).trans (Ext.alloc _ _)).trans (Ext.alloc _ _))) hLz hLx).mono ?_
  rintro e w1 ⟨he, p, q, rfl, hI, hqn, hor⟩
  simp only [World.size_alloc] at hqn hor
  have hE : Ext w w1 := (((Ext.alloc _ _).trans (Ext.alloc _ _)).trans (Ext.alloc _ _)).trans he
  have hP : w1.heap[w.heap.size + 2]? = some (.cells #[.bool false, .slice none 0 0, .bool false, .slice none 0 0, .bool false, .slice none 0 0] 32 (0, 0)) := he.block (heap_third _ _ _ _)
  have HI := Lib.hid hI
  have HE := Lib.hid hE
  have HP := Lib.hid hP
  clear hI hE hP he
  rcases hor with ⟨hk, rfl⟩ | ⟨hk, hpq, n0, v0, vs, q1, q2, q3, q4⟩
  · have hk1 : k = 1 := of_decide_eq_true hk
    have haf : rz = af := by rw [← HAF.out, after1, hk, cond_true]
    have HK := Lib.hid haf
    clear hk hk1 haf
    go_wp2_with fail
    refine (intNegSelf_z Lx z 0 p _ HI.out hLx).mono ?_
    rw [HRES.out]
    rintro e w2 ⟨rfl, hI', hU⟩
    have hE2 : Ext w w2 := hU.ext HE.out (by omega)
    have hP2 : w2.heap[w.heap.size + 2]? = _ := hU.heap HP.out (by omega)
    have hA : IntZ Lx af w2 0 p := HK.out ▸ hI'
    clear hU
    have HI' := Lib.hid hI'
    have HE2 := Lib.hid hE2
    have HA := Lib.hid hA
    have hp1 := hP2
    have HP1 := Lib.hid hp1
    clear hI' hE2 hA hP2 hp1
    go_wp2_with fail
    refine (pair_z Lx (rz) (af) _ _ _ HI'.out HA.out hLx).mono ?_
    rintro e w3 ⟨he, v, rfl, n1, s1, n2, s2, n3, s3, rfl, g1, g2, g3⟩
    obtain ⟨m1, a1, l1, c1, e1⟩ := g1.form
    obtain ⟨m2, a2, l2, c2, e2⟩ := g2.form
    obtain ⟨m3, a3, l3, c3, e3⟩ := g3.form
    simp at e1 e2 e3
    obtain ⟨rfl, rfl⟩ := e1
    obtain ⟨rfl, rfl⟩ := e2
    obtain ⟨rfl, rfl⟩ := e3
    have hp2 := he.block HP1.out
    have d0 := blk_cell hp2 0
    have d1 := blk_cell hp2 1
    have d2 := blk_cell hp2 2
    have d3 := blk_cell hp2 3
    have d4 := blk_cell hp2 4
    have d5 := blk_cell hp2 5
    have f0 := blk_free hp2 0
    have f1 := blk_free hp2 1
    have f2 := blk_free hp2 2
    have f3 := blk_free hp2 3
    have f4 := blk_free hp2 4
    have f5 := blk_free hp2 5
    simp at d0 d1 d2 d3 d4 d5
    have G1 := Lib.hid g1
    have G2 := Lib.hid g2
    have G3 := Lib.hid g3
    have HP2 := Lib.hid hp2
    have HE3 := Lib.hid (HE2.out.trans he)
    clear g1 g2 g3 hp2 he
    go_wp2_with fail
    have hh := put6_heap HP2.out (.bool m1) (.slice a1 l1 c1) (.bool m2) (.slice a2 l2 c2) (.bool m3) (.slice a3 l3 c3)
    have hu := put6_upd w3 (w.heap.size + 2) (.bool m1) (.slice a1 l1 c1) (.bool m2) (.slice a2 l2 c2) (.bool m3) (.slice a3 l3 c3)
    exact bodyPost_ret (results_triple rfl _ rfl (blk_cell hh 0) (blk_cell hh 1) (blk_cell hh 2) (blk_cell hh 3) (blk_cell hh 4) (blk_cell hh 5)) rfl
      ⟨hu.ext HE3.out (by omega), _, rfl, _, _, _, _, _, _, rfl, G1.out.upd HP2.out (by decide) hu, G2.out.upd HP2.out (by decide) hu, G3.out.upd HP2.out (by decide) hu⟩
  · have hk1 : ¬ k = 1 := of_decide_eq_false hk
    have haf : z = af := by rw [← HAF.out, after1, hk, cond_false]
    have HK := Lib.hid haf
    have Q1 := Lib.hid q1
    have Q2 := Lib.hid q2
    have Q3 := Lib.hid q3
    have Q4 := Lib.hid q4
    clear hk hk1 haf q1 q2 q3 q4
    go_wp2_with fail
    refine (intNegOther_z Lx z p q hpq n0 v0 vs _ Q1.out Q2.out HI.out hLx).mono ?_
    rw [HRES.out]
    rintro e w2 ⟨rfl, hI', hU⟩
    have hE2 : Ext w w2 := hU.ext HE.out (fun i hi => by have := Q4.out i hi; omega)
    have hP2 : w2.heap[w.heap.size + 2]? = _ := hU.heap HP.out (fun h => by have := Q4.out _ h; omega)
    have hA : IntZ Lx af w2 0 q := HK.out ▸ Q3.out w2 hU
    clear hU
    have HI' := Lib.hid hI'
    have HE2 := Lib.hid hE2
    have HA := Lib.hid hA
    have hp1 := hP2
    have HP1 := Lib.hid hp1
    clear hI' hE2 hA hP2 hp1
    go_wp2_with fail
    refine (pair_z Lx (rz) (af) _ _ _ HI'.out HA.out hLx).mono ?_
    rintro e w3 ⟨he, v, rfl, n1, s1, n2, s2, n3, s3, rfl, g1, g2, g3⟩
    obtain ⟨m1, a1, l1, c1, e1⟩ := g1.form
    obtain ⟨m2, a2, l2, c2, e2⟩ := g2.form
    obtain ⟨m3, a3, l3, c3, e3⟩ := g3.form
    simp at e1 e2 e3
    obtain ⟨rfl, rfl⟩ := e1
    obtain ⟨rfl, rfl⟩ := e2
    obtain ⟨rfl, rfl⟩ := e3
    have hp2 := he.block HP1.out
    have d0 := blk_cell hp2 0
    have d1 := blk_cell hp2 1
    have d2 := blk_cell hp2 2
    have d3 := blk_cell hp2 3
    have d4 := blk_cell hp2 4
    have d5 := blk_cell hp2 5
    have f0 := blk_free hp2 0
    have f1 := blk_free hp2 1
    have f2 := blk_free hp2 2
    have f3 := blk_free hp2 3
    have f4 := blk_free hp2 4
    have f5 := blk_free hp2 5
    simp at d0 d1 d2 d3 d4 d5
    have G1 := Lib.hid g1
    have G2 := Lib.hid g2
    have G3 := Lib.hid g3
    have HP2 := Lib.hid hp2
    have HE3 := Lib.hid (HE2.out.trans he)
    clear g1 g2 g3 hp2 he
    go_wp2_with fail
    have hh := put6_heap HP2.out (.bool m1) (.slice a1 l1 c1) (.bool m2) (.slice a2 l2 c2) (.bool m3) (.slice a3 l3 c3)
    have hu := put6_upd w3 (w.heap.size + 2) (.bool m1) (.slice a1 l1 c1) (.bool m2) (.slice a2 l2 c2) (.bool m3) (.slice a3 l3 c3)
    exact bodyPost_ret (results_triple rfl _ rfl (blk_cell hh 0) (blk_cell hh 1) (blk_cell hh 2) (blk_cell hh 3) (blk_cell hh 4) (blk_cell hh 5)) rfl
      ⟨hu.ext HE3.out (by omega), _, rfl, _, _, _, _, _, _, rfl, G1.out.upd HP2.out (by decide) hu, G2.out.upd HP2.out (by decide) hu, G3.out.upd HP2.out (by decide) hu⟩

set_option maxHeartbeats 1000000 in
theorem implAbs_z (k : Int) (Lz Lx : Nat) (zz z : Int) (Z X : Value) (w : World) (hZ : IsZ Lz zz Z w) (hX : IsZ Lx z X w) (hLz : Lz ≤ 17592186044416) (hLx : Lx ≤ 17592186044416) :
    Calls Try.prog 51 #[.int .i64 k, Z, X] w (ResR (IsT Lx ((z.natAbs : Int)) (after1 k ((z.natAbs : Int)) z) 0) w) := by
  obtain ⟨n1, a1, l1, c1, rfl⟩ := hZ.form
  obtain ⟨n2, a2, l2, c2, rfl⟩ := hX.form
  have HZ := Lib.hid hZ
  have HX := Lib.hid hX
  clear hZ hX
  generalize haf : after1 k ((z.natAbs : Int)) z = af
  have HAF := Lib.hid haf
  clear haf
  generalize hres : (z.natAbs : Int) = rz at *
  have HRES := Lib.hid hres
  clear hres
  go_enter Try.func51, Try.ntmps51
  go_wp2_with fail
  refine (two_z k Lz Lx zz z _ _ _ (HZ.out.ext (((Ext.alloc _ _).trans (Ext.alloc _ _)).trans (Ext.alloc _ _))) (HX.out.ext (((Ext.alloc _ _).trans (Ext.alloc _ _)).trans (Ext.alloc _ _))) hLz hLx).mono ?_
  rintro e w1 ⟨he, p, q, rfl, hI, hqn, hor⟩
  simp only [World.size_alloc] at hqn hor
  have hE : Ext w w1 := (((Ext.alloc _ _).trans (Ext.alloc _ _)).trans (Ext.alloc _ _)).trans he
  have hP : w1.heap[w.heap.size + 2]? = some (.cells #[.bool false, .slice none 0 0, .bool false, .slice none 0 0, .bool false, .slice none 0 0] 32 (0, 0)) := he.block (heap_third _ _ _ _)
  have HI := Lib.hid hI
  have HE := Lib.hid hE
  have HP := Lib.hid hP
  clear hI hE hP he
  rcases hor with ⟨hk, rfl⟩ | ⟨hk, hpq, n0, v0, vs, q1, q2, q3, q4⟩
  · have hk1 : k = 1 := of_decide_eq_true hk
    have haf : rz = af := by rw [← HAF.out, after1, hk, cond_true]
    have HK := Lib.hid haf
    clear hk hk1 haf
    go_wp2_with fail
    refine (intAbsSelf_z Lx z 0 p _ HI.out hLx).mono ?_
    rw [HRES.out]
    rintro e w2 ⟨rfl, hI', hU⟩
    have hE2 : Ext w w2 := hU.ext HE.out (by omega)
    have hP2 : w2.heap[w.heap.size + 2]? = _ := hU.heap HP.out (by omega)
    have hA : IntZ Lx af w2 0 p := HK.out ▸ hI'
    clear hU
    have HI' := Lib.hid hI'
    have HE2 := Lib.hid hE2
    have HA := Lib.hid hA
    have hp1 := hP2
    have HP1 := Lib.hid hp1
    clear hI' hE2 hA hP2 hp1
    go_wp2_with fail
    refine (pair_z Lx (rz) (af) _ _ _ HI'.out HA.out hLx).mono ?_
    rintro e w3 ⟨he, v, rfl, n1, s1, n2, s2, n3, s3, rfl, g1, g2, g3⟩
    obtain ⟨m1, a1, l1, c1, e1⟩ := g1.form
    obtain ⟨m2, a2, l2, c2, e2⟩ := g2.form
    obtain ⟨m3, a3, l3, c3, e3⟩ := g3.form
    simp at e1 e2 e3
    obtain ⟨rfl, rfl⟩ := e1
    obtain ⟨rfl, rfl⟩ := e2
    obtain ⟨rfl, rfl⟩ := e3
    have hp2 := he.block HP1.out
    have d0 := blk_cell hp2 0
    have d1 := blk_cell hp2 1
    have d2 := blk_cell hp2 2
    have d3 := blk_cell hp2 3
    have d4 := blk_cell hp2 4
    have d5 := blk_cell hp2 5
    have f0 := blk_free hp2 0
    have f1 := blk_free hp2 1
    have f2 := blk_free hp2 2
    have f3 := blk_free hp2 3
    have f4 := blk_free hp2 4
    have f5 := blk_free hp2 5
    simp at d0 d1 d2 d3 d4 d5
    have G1 := Lib.hid g1
    have G2 := Lib.hid g2
    have G3 := Lib.hid g3
    have HP2 := Lib.hid hp2
    have HE3 := Lib.hid (HE2.out.trans he)
    clear g1 g2 g3 hp2 he
    go_wp2_with fail
    have hh := put6_heap HP2.out (.bool m1) (.slice a1 l1 c1) (.bool m2) (.slice a2 l2 c2) (.bool m3) (.slice a3 l3 c3)
    have hu := put6_upd w3 (w.heap.size + 2) (.bool m1) (.slice a1 l1 c1) (.bool m2) (.slice a2 l2 c2) (.bool m3) (.slice a3 l3 c3)
    exact bodyPost_ret (results_triple rfl _ rfl (blk_cell hh 0) (blk_cell hh 1) (blk_cell hh 2) (blk_cell hh 3) (blk_cell hh 4) (blk_cell hh 5)) rfl
      ⟨hu.ext HE3.out (by omega), _, rfl, _, _, _, _, _, _, rfl, G1.out.upd HP2.out (by decide) hu, G2.out.upd HP2.out (by decide) hu, G3.out.upd HP2.out (by decide) hu⟩
  · have hk1 : ¬ k = 1 := of_decide_eq_false hk
    have haf : z = af := by rw [← HAF.out, after1, hk, cond_false]
    have HK := Lib.hid haf
    have Q1 := Lib.hid q1
    have Q2 := Lib.hid q2
    have Q3 := Lib.hid q3
    have Q4 := Lib.hid q4
    clear hk hk1 haf q1 q2 q3 q4
    go_wp2_with fail
    refine (intAbsOther_z Lx z p q hpq n0 v0 vs _ Q1.out Q2.out HI.out hLx).mono ?_
    rw [HRES.out]
    rintro e w2 ⟨rfl, hI', hU⟩
    have hE2 : Ext w w2 := hU.ext HE.out (fun i hi => by have := Q4.out i hi; omega)
    have hP2 : w2.heap[w.heap.size + 2]? = _ := hU.heap HP.out (fun h => by have := Q4.out _ h; omega)
    have hA : IntZ Lx af w2 0 q := HK.out ▸ Q3.out w2 hU
    clear hU
    have HI' := Lib.hid hI'
    have HE2 := Lib.hid hE2
    have HA := Lib.hid hA
    have hp1 := hP2
    have HP1 := Lib.hid hp1
    clear hI' hE2 hA hP2 hp1
    go_wp2_with fail
    refine (pair_z Lx (rz) (af) _ _ _ HI'.out HA.out hLx).mono ?_
    rintro e w3 ⟨he, v, rfl, n1, s1, n2, s2, n3, s3, rfl, g1, g2, g3⟩
    obtain ⟨m1, a1, l1, c1, e1⟩ := g1.form
    obtain ⟨m2, a2, l2, c2, e2⟩ := g2.form
    obtain ⟨m3, a3, l3, c3, e3⟩ := g3.form
    simp at e1 e2 e3
    obtain ⟨rfl, rfl⟩ := e1
    obtain ⟨rfl, rfl⟩ := e2
    obtain ⟨rfl, rfl⟩ := e3
    have hp2 := he.block HP1.out
    have d0 := blk_cell hp2 0
    have d1 := blk_cell hp2 1
    have d2 := blk_cell hp2 2
    have d3 := blk_cell hp2 3
    have d4 := blk_cell hp2 4
    have d5 := blk_cell hp2 5
    have f0 := blk_free hp2 0
    have f1 := blk_free hp2 1
    have f2 := blk_free hp2 2
    have f3 := blk_free hp2 3
    have f4 := blk_free hp2 4
    have f5 := blk_free hp2 5
    simp at d0 d1 d2 d3 d4 d5
    have G1 := Lib.hid g1
    have G2 := Lib.hid g2
    have G3 := Lib.hid g3
    have HP2 := Lib.hid hp2
    have HE3 := Lib.hid (HE2.out.trans he)
    clear g1 g2 g3 hp2 he
    go_wp2_with fail
    have hh := put6_heap HP2.out (.bool m1) (.slice a1 l1 c1) (.bool m2) (.slice a2 l2 c2) (.bool m3) (.slice a3 l3 c3)
    have hu := put6_upd w3 (w.heap.size + 2) (.bool m1) (.slice a1 l1 c1) (.bool m2) (.slice a2 l2 c2) (.bool m3) (.slice a3 l3 c3)
    exact bodyPost_ret (results_triple rfl _ rfl (blk_cell hh 0) (blk_cell hh 1) (blk_cell hh 2) (blk_cell hh 3) (blk_cell hh 4) (blk_cell hh 5)) rfl
      ⟨hu.ext HE3.out (by omega), _, rfl, _, _, _, _, _, _, rfl, G1.out.upd HP2.out (by decide) hu, G2.out.upd HP2.out (by decide) hu, G3.out.upd HP2.out (by decide) hu⟩

end Go.Proofs.Ytacmojhladdalaa
