/- Base texts of the seat, merged: ImplNA, Helpers, StrN. -/
import Derived.Test.YtocadbghhoibnaaFmtMa5
import Derived.Test.YtocadbghhoibnaaFmtMa1
import Derived.Laws.IdiomStrings
import Derived.Laws.BytesArg
set_option linter.unusedSimpArgs false
set_option linter.unusedVariables false

/- impl.Neg, impl.Abs by values: contracts (printed by gen4.py). -/
namespace Go.Proofs.YtocadbghhoibnaaFmt
open Go.RowKit

/-- What the operand holds behind the call. -/
def after1 (k : Int) (new old : Int) : Int := bif decide (k = 1) then new else old


set_option maxHeartbeats 1000000 in
theorem implNeg_z (k : Int) (Lz Lx : Nat) (zz z : Int) (Z X : Value) (w : World) (hZ : IsZ Lz zz Z w) (hX : IsZ Lx z X w) (hLz : Lz ≤ 17592186044416) (hLx : Lx ≤ 17592186044416) :
    Calls Tryf.prog 52 #[.int .i64 k, Z, X] w (ResR (IsT Lx (-z) (after1 k (-z) z) 0) w) := by
  obtain ⟨n1, a1, l1, c1, rfl⟩ := hZ.form
  obtain ⟨n2, a2, l2, c2, rfl⟩ := hX.form
  have HZ := Lib.hid hZ
  have HX := Lib.hid hX
  clear hZ hX
  generalize haf : after1 k (-z) z = af
  have HAF := Lib.hid haf
  clear haf
  generalize hres : -z = rz at *
  have HRES := Lib.hid hres
  clear hres
  go_enter Tryf.func52, Tryf.ntmps52
  go_wp2_with fail
  refine (two_z k Lz Lx zz z _ _ _ (HZ.out.ext (((Ext.alloc _ _).trans (Ext.alloc _ _)).trans (Ext.alloc _ _))) (HX.out.ext (((Ext.alloc _ _).trans (Ext.alloc _ _)).trans (Ext.alloc _ _))) hLz hLx).mono ?_
  rintro e w1 ⟨he, p, q, rfl, hI, hqn, hor⟩
  simp only [World.size_alloc] at hqn hor
  have hE : Ext w w1 := (((Ext.alloc _ _).trans (Ext.alloc _ _)).trans (Ext.alloc _ _)).trans he
  have hP : w1.heap[w.heap.size + 2]? = some (.cells #[.bool false, .slice none 0 0, .bool false, .slice none 0 0, .bool false, .slice none 0 0] 75 (0, 0)) := he.block (heap_third _ _ _ _)
  have HI := Lib.hid hI
  have HE := Lib.hid hE
  have HP := Lib.hid hP
  clear hI hE hP he
  rcases hor with ⟨hk, rfl⟩ | ⟨hk, hpq, n0, v0, vs, q1, q2, q3, q4⟩
  · have hk1 : k = 1 := of_decide_eq_true hk
    have haf : rz = af := by rw [← HAF.out, after1, hk, cond_true]
    have HK := Lib.hid haf
    clear hk hk1 haf
    go_wp2_with fail
    refine (intNegSelf_z Lx z 0 p _ HI.out hLx).mono ?_
    rw [HRES.out]
    rintro e w2 ⟨rfl, hI', hU⟩
    have hE2 : Ext w w2 := hU.ext HE.out (by omega)
    have hP2 : w2.heap[w.heap.size + 2]? = _ := hU.heap HP.out (by omega)
    have hA : IntZ Lx af w2 0 p := HK.out ▸ hI'
    clear hU
    have HI' := Lib.hid hI'
    have HE2 := Lib.hid hE2
    have HA := Lib.hid hA
    have hp1 := hP2
    have HP1 := Lib.hid hp1
    clear hI' hE2 hA hP2 hp1
    go_wp2_with fail
    refine (pair_z Lx (rz) (af) _ _ _ HI'.out HA.out hLx).mono ?_
    rintro e w3 ⟨he, v, rfl, n1, s1, n2, s2, n3, s3, rfl, g1, g2, g3⟩
    obtain ⟨m1, a1, l1, c1, e1⟩ := g1.form
    obtain ⟨m2, a2, l2, c2, e2⟩ := g2.form
    obtain ⟨m3, a3, l3, c3, e3⟩ := g3.form
    simp at e1 e2 e3
    obtain ⟨rfl, rfl⟩ := e1
    obtain ⟨rfl, rfl⟩ := e2
    obtain ⟨rfl, rfl⟩ := e3
    have hp2 := he.block HP1.out
    have d0 := blk_cell hp2 0
    have d1 := blk_cell hp2 1
    have d2 := blk_cell hp2 2
    have d3 := blk_cell hp2 3
    have d4 := blk_cell hp2 4
    have d5 := blk_cell hp2 5
    have f0 := blk_free hp2 0
    have f1 := blk_free hp2 1
    have f2 := blk_free hp2 2
    have f3 := blk_free hp2 3
    have f4 := blk_free hp2 4
    have f5 := blk_free hp2 5
    simp at d0 d1 d2 d3 d4 d5
    have G1 := Lib.hid g1
    have G2 := Lib.hid g2
    have G3 := Lib.hid g3
    have HP2 := Lib.hid hp2
    have HE3 := Lib.hid (HE2.out.trans he)
    clear g1 g2 g3 hp2 he
    go_wp2_with fail
    have hh := put6_heap HP2.out (.bool m1) (.slice a1 l1 c1) (.bool m2) (.slice a2 l2 c2) (.bool m3) (.slice a3 l3 c3)
    have hu := put6_upd w3 (w.heap.size + 2) (.bool m1) (.slice a1 l1 c1) (.bool m2) (.slice a2 l2 c2) (.bool m3) (.slice a3 l3 c3)
    exact bodyPost_ret (results_triple rfl _ rfl (blk_cell hh 0) (blk_cell hh 1) (blk_cell hh 2) (blk_cell hh 3) (blk_cell hh 4) (blk_cell hh 5)) rfl
      ⟨hu.ext HE3.out (by omega), _, rfl, _, _, _, _, _, _, rfl, G1.out.upd HP2.out (by decide) hu, G2.out.upd HP2.out (by decide) hu, G3.out.upd HP2.out (by decide) hu⟩
  · have hk1 : ¬ k = 1 := of_decide_eq_false hk
    have haf : z = af := by rw [← HAF.out, after1, hk, cond_false]
    have HK := Lib.hid haf
    have Q1 := Lib.hid q1
    have Q2 := Lib.hid q2
    have Q3 := Lib.hid q3
    have Q4 := Lib.hid q4
    clear hk hk1 haf q1 q2 q3 q4
    go_wp2_with fail
    refine (intNegOther_z Lx z p q hpq n0 v0 vs _ Q1.out Q2.out HI.out hLx).mono ?_
    rw [HRES.out]
    rintro e w2 ⟨rfl, hI', hU⟩
    have hE2 : Ext w w2 := hU.ext HE.out (fun i hi => by have := Q4.out i hi; omega)
    have hP2 : w2.heap[w.heap.size + 2]? = _ := hU.heap HP.out (fun h => by have := Q4.out _ h; omega)
    have hA : IntZ Lx af w2 0 q := HK.out ▸ Q3.out w2 hU
    clear hU
    have HI' := Lib.hid hI'
    have HE2 := Lib.hid hE2
    have HA := Lib.hid hA
    have hp1 := hP2
    have HP1 := Lib.hid hp1
    clear hI' hE2 hA hP2 hp1
    go_wp2_with fail
    refine (pair_z Lx (rz) (af) _ _ _ HI'.out HA.out hLx).mono ?_
    rintro e w3 ⟨he, v, rfl, n1, s1, n2, s2, n3, s3, rfl, g1, g2, g3⟩
    obtain ⟨m1, a1, l1, c1, e1⟩ := g1.form
    obtain ⟨m2, a2, l2, c2, e2⟩ := g2.form
    obtain ⟨m3, a3, l3, c3, e3⟩ := g3.form
    simp at e1 e2 e3
    obtain ⟨rfl, rfl⟩ := e1
    obtain ⟨rfl, rfl⟩ := e2
    obtain ⟨rfl, rfl⟩ := e3
    have hp2 := he.block HP1.out
    have d0 := blk_cell hp2 0
    have d1 := blk_cell hp2 1
    have d2 := blk_cell hp2 2
    have d3 := blk_cell hp2 3
    have d4 := blk_cell hp2 4
    have d5 := blk_cell hp2 5
    have f0 := blk_free hp2 0
    have f1 := blk_free hp2 1
    have f2 := blk_free hp2 2
    have f3 := blk_free hp2 3
    have f4 := blk_free hp2 4
    have f5 := blk_free hp2 5
    simp at d0 d1 d2 d3 d4 d5
    have G1 := Lib.hid g1
    have G2 := Lib.hid g2
    have G3 := Lib.hid g3
    have HP2 := Lib.hid hp2
    have HE3 := Lib.hid (HE2.out.trans he)
    clear g1 g2 g3 hp2 he
    go_wp2_with fail
    have hh := put6_heap HP2.out (.bool m1) (.slice a1 l1 c1) (.bool m2) (.slice a2 l2 c2) (.bool m3) (.slice a3 l3 c3)
    have hu := put6_upd w3 (w.heap.size + 2) (.bool m1) (.slice a1 l1 c1) (.bool m2) (.slice a2 l2 c2) (.bool m3) (.slice a3 l3 c3)
    exact bodyPost_ret (results_triple rfl _ rfl (blk_cell hh 0) (blk_cell hh 1) (blk_cell hh 2) (blk_cell hh 3) (blk_cell hh 4) (blk_cell hh 5)) rfl
      ⟨hu.ext HE3.out (by omega), _, rfl, _, _, _, _, _, _, rfl, G1.out.upd HP2.out (by decide) hu, G2.out.upd HP2.out (by decide) hu, G3.out.upd HP2.out (by decide) hu⟩

set_option maxHeartbeats 1000000 in
theorem implAbs_z (k : Int) (Lz Lx : Nat) (zz z : Int) (Z X : Value) (w : World) (hZ : IsZ Lz zz Z w) (hX : IsZ Lx z X w) (hLz : Lz ≤ 17592186044416) (hLx : Lx ≤ 17592186044416) :
    Calls Tryf.prog 56 #[.int .i64 k, Z, X] w (ResR (IsT Lx ((z.natAbs : Int)) (after1 k ((z.natAbs : Int)) z) 0) w) := by
  obtain ⟨n1, a1, l1, c1, rfl⟩ := hZ.form
  obtain ⟨n2, a2, l2, c2, rfl⟩ := hX.form
  have HZ := Lib.hid hZ
  have HX := Lib.hid hX
  clear hZ hX
  generalize haf : after1 k ((z.natAbs : Int)) z = af
  have HAF := Lib.hid haf
  clear haf
  generalize hres : (z.natAbs : Int) = rz at *
  have HRES := Lib.hid hres
  clear hres
  go_enter Tryf.func56, Tryf.ntmps56
  go_wp2_with fail
  refine (two_z k Lz Lx zz z _ _ _ (HZ.out.ext (((Ext.alloc _ _).trans (Ext.alloc _ _)).trans (Ext.alloc _ _))) (HX.out.ext (((Ext.alloc _ _).trans (Ext.alloc _ _)).trans (Ext.alloc _ _))) hLz hLx).mono ?_
  rintro e w1 ⟨he, p, q, rfl, hI, hqn, hor⟩
  simp only [World.size_alloc] at hqn hor
  have hE : Ext w w1 := (((Ext.alloc _ _).trans (Ext.alloc _ _)).trans (Ext.alloc _ _)).trans he
  have hP : w1.heap[w.heap.size + 2]? = some (.cells #[.bool false, .slice none 0 0, .bool false, .slice none 0 0, .bool false, .slice none 0 0] 75 (0, 0)) := he.block (heap_third _ _ _ _)
  have HI := Lib.hid hI
  have HE := Lib.hid hE
  have HP := Lib.hid hP
  clear hI hE hP he
  rcases hor with ⟨hk, rfl⟩ | ⟨hk, hpq, n0, v0, vs, q1, q2, q3, q4⟩
  · have hk1 : k = 1 := of_decide_eq_true hk
    have haf : rz = af := by rw [← HAF.out, after1, hk, cond_true]
    have HK := Lib.hid haf
    clear hk hk1 haf
    go_wp2_with fail
    refine (intAbsSelf_z Lx z 0 p _ HI.out hLx).mono ?_
    rw [HRES.out]
    rintro e w2 ⟨rfl, hI', hU⟩
    have hE2 : Ext w w2 := hU.ext HE.out (by omega)
    have hP2 : w2.heap[w.heap.size + 2]? = _ := hU.heap HP.out (by omega)
    have hA : IntZ Lx af w2 0 p := HK.out ▸ hI'
    clear hU
    have HI' := Lib.hid hI'
    have HE2 := Lib.hid hE2
    have HA := Lib.hid hA
    have hp1 := hP2
    have HP1 := Lib.hid hp1
    clear hI' hE2 hA hP2 hp1
    go_wp2_with fail
    refine (pair_z Lx (rz) (af) _ _ _ HI'.out HA.out hLx).mono ?_
    rintro e w3 ⟨he, v, rfl, n1, s1, n2, s2, n3, s3, rfl, g1, g2, g3⟩
    obtain ⟨m1, a1, l1, c1, e1⟩ := g1.form
    obtain ⟨m2, a2, l2, c2, e2⟩ := g2.form
    obtain ⟨m3, a3, l3, c3, e3⟩ := g3.form
    simp at e1 e2 e3
    obtain ⟨rfl, rfl⟩ := e1
    obtain ⟨rfl, rfl⟩ := e2
    obtain ⟨rfl, rfl⟩ := e3
    have hp2 := he.block HP1.out
    have d0 := blk_cell hp2 0
    have d1 := blk_cell hp2 1
    have d2 := blk_cell hp2 2
    have d3 := blk_cell hp2 3
    have d4 := blk_cell hp2 4
    have d5 := blk_cell hp2 5
    have f0 := blk_free hp2 0
    have f1 := blk_free hp2 1
    have f2 := blk_free hp2 2
    have f3 := blk_free hp2 3
    have f4 := blk_free hp2 4
    have f5 := blk_free hp2 5
    simp at d0 d1 d2 d3 d4 d5
    have G1 := Lib.hid g1
    have G2 := Lib.hid g2
    have G3 := Lib.hid g3
    have HP2 := Lib.hid hp2
    have HE3 := Lib.hid (HE2.out.trans he)
    clear g1 g2 g3 hp2 he
    go_wp2_with fail
    have hh := put6_heap HP2.out (.bool m1) (.slice a1 l1 c1) (.bool m2) (.slice a2 l2 c2) (.bool m3) (.slice a3 l3 c3)
    have hu := put6_upd w3 (w.heap.size + 2) (.bool m1) (.slice a1 l1 c1) (.bool m2) (.slice a2 l2 c2) (.bool m3) (.slice a3 l3 c3)
    exact bodyPost_ret (results_triple rfl _ rfl (blk_cell hh 0) (blk_cell hh 1) (blk_cell hh 2) (blk_cell hh 3) (blk_cell hh 4) (blk_cell hh 5)) rfl
      ⟨hu.ext HE3.out (by omega), _, rfl, _, _, _, _, _, _, rfl, G1.out.upd HP2.out (by decide) hu, G2.out.upd HP2.out (by decide) hu, G3.out.upd HP2.out (by decide) hu⟩
  · have hk1 : ¬ k = 1 := of_decide_eq_false hk
    have haf : z = af := by rw [← HAF.out, after1, hk, cond_false]
    have HK := Lib.hid haf
    have Q1 := Lib.hid q1
    have Q2 := Lib.hid q2
    have Q3 := Lib.hid q3
    have Q4 := Lib.hid q4
    clear hk hk1 haf q1 q2 q3 q4
    go_wp2_with fail
    refine (intAbsOther_z Lx z p q hpq n0 v0 vs _ Q1.out Q2.out HI.out hLx).mono ?_
    rw [HRES.out]
    rintro e w2 ⟨rfl, hI', hU⟩
    have hE2 : Ext w w2 := hU.ext HE.out (fun i hi => by have := Q4.out i hi; omega)
    have hP2 : w2.heap[w.heap.size + 2]? = _ := hU.heap HP.out (fun h => by have := Q4.out _ h; omega)
    have hA : IntZ Lx af w2 0 q := HK.out ▸ Q3.out w2 hU
    clear hU
    have HI' := Lib.hid hI'
    have HE2 := Lib.hid hE2
    have HA := Lib.hid hA
    have hp1 := hP2
    have HP1 := Lib.hid hp1
    clear hI' hE2 hA hP2 hp1
    go_wp2_with fail
    refine (pair_z Lx (rz) (af) _ _ _ HI'.out HA.out hLx).mono ?_
    rintro e w3 ⟨he, v, rfl, n1, s1, n2, s2, n3, s3, rfl, g1, g2, g3⟩
    obtain ⟨m1, a1, l1, c1, e1⟩ := g1.form
    obtain ⟨m2, a2, l2, c2, e2⟩ := g2.form
    obtain ⟨m3, a3, l3, c3, e3⟩ := g3.form
    simp at e1 e2 e3
    obtain ⟨rfl, rfl⟩ := e1
    obtain ⟨rfl, rfl⟩ := e2
    obtain ⟨rfl, rfl⟩ := e3
    have hp2 := he.block HP1.out
    have d0 := blk_cell hp2 0
    have d1 := blk_cell hp2 1
    have d2 := blk_cell hp2 2
    have d3 := blk_cell hp2 3
    have d4 := blk_cell hp2 4
    have d5 := blk_cell hp2 5
    have f0 := blk_free hp2 0
    have f1 := blk_free hp2 1
    have f2 := blk_free hp2 2
    have f3 := blk_free hp2 3
    have f4 := blk_free hp2 4
    have f5 := blk_free hp2 5
    simp at d0 d1 d2 d3 d4 d5
    have G1 := Lib.hid g1
    have G2 := Lib.hid g2
    have G3 := Lib.hid g3
    have HP2 := Lib.hid hp2
    have HE3 := Lib.hid (HE2.out.trans he)
    clear g1 g2 g3 hp2 he
    go_wp2_with fail
    have hh := put6_heap HP2.out (.bool m1) (.slice a1 l1 c1) (.bool m2) (.slice a2 l2 c2) (.bool m3) (.slice a3 l3 c3)
    have hu := put6_upd w3 (w.heap.size + 2) (.bool m1) (.slice a1 l1 c1) (.bool m2) (.slice a2 l2 c2) (.bool m3) (.slice a3 l3 c3)
    exact bodyPost_ret (results_triple rfl _ rfl (blk_cell hh 0) (blk_cell hh 1) (blk_cell hh 2) (blk_cell hh 3) (blk_cell hh 4) (blk_cell hh 5)) rfl
      ⟨hu.ext HE3.out (by omega), _, rfl, _, _, _, _, _, _, rfl, G1.out.upd HP2.out (by decide) hu, G2.out.upd HP2.out (by decide) hu, G3.out.upd HP2.out (by decide) hu⟩

end Go.Proofs.YtocadbghhoibnaaFmt

/- The helpers of the laws by values (printed by lawgen.py). -/
namespace Go.Proofs.YtocadbghhoibnaaFmt
open Go.RowKit

set_option maxHeartbeats 1000000 in
theorem neg_z (L : Nat) (z : Int) (x0 : Value) (w : World) (hz0 : IsZ (L) (z) x0 w) (hL : L ≤ 17592186044416) :
    Calls Tryf.prog 32 #[x0] w (ResR (IsC L (-z)) w) := by
  obtain ⟨n0, a0, l0, c0, rfl⟩ := hz0.form
  have HZ0 := Lib.hid hz0
  clear hz0
  go_enter Tryf.func32, Tryf.ntmps32
  go_wp2_with fail
  refine (toImpl_z (L) (z) _ _ ((HZ0.out.ext ((Ext.alloc _ _).trans (Ext.alloc _ _)))) (by omega)).mono ?_
  rintro e w1 ⟨he, y1, rfl, hy⟩
  have HB := Lib.hid he
  have HE := Lib.hid (((Ext.alloc _ _).trans (Ext.alloc _ _)).trans he)
  clear he
  have HY1 := Lib.hid hy
  clear hy
  have hcc := fun a v h => Ext.cell HB.out (a := a) (v := v) h
  go_wp2_with fail
  refine (implNeg_z (0) (0) (L) (0) (z) _ _ _ ((IsZ.zeroN _)) (HY1.out.z) (by omega) (by omega)).mono ?_
  clear hcc
  rintro e w2 ⟨he, y2, rfl, hy⟩
  replace HY1 := Lib.hid (HY1.out.ext he)
  replace HB := Lib.hid (HB.out.trans he)
  replace HE := Lib.hid (HE.out.trans he)
  clear he
  obtain ⟨m1, s1, m2, s2, m3, s3, rfl, t1, t2, t3⟩ := hy
  have HT1 := Lib.hid t1
  have HT2 := Lib.hid t2
  have HT3 := Lib.hid t3
  clear t1 t2 t3
  have hfz := field_z m1 s1 m2 s2 m3 s3
  have hcc := fun a v h => Ext.cell HB.out (a := a) (v := v) h
  go_wp2_with fail
  refine (fromImpl_z (L) (-(z)) _ _ HT1.out).mono ?_
  clear hcc
  rintro e w3 ⟨he, y3, rfl, hy⟩
  replace HY1 := Lib.hid (HY1.out.ext he)
  replace HT1 := Lib.hid (HT1.out.ext he)
  replace HT2 := Lib.hid (HT2.out.ext he)
  replace HT3 := Lib.hid (HT3.out.ext he)
  replace HB := Lib.hid (HB.out.trans he)
  replace HE := Lib.hid (HE.out.trans he)
  clear he
  have HY3 := Lib.hid hy
  clear hy
  obtain ⟨m, aa, ll, cc, rfl⟩ := HY3.out.form
  have hp : w3.heap[w.heap.size + 1]? = some (.cells #[.bool false, .slice none 0 0] 26 (0, 0)) := HB.out.block (heap_second _ _ _)
  have d0 := blk_cell hp 0
  have d1 := blk_cell hp 1
  have f0 := blk_free hp 0
  have f1 := blk_free hp 1
  simp at d0 d1
  have HP := Lib.hid hp
  clear hp
  try clear hfz
  go_wp2_with fail
  obtain ⟨e0, e1, hu⟩ := set2 HP.out (.bool m) (.slice aa ll cc)
  exact bodyPost_ret (results_laws rfl _ rfl e0 e1) rfl ⟨hu.ext HE.out (by omega), _, rfl, HY3.out.upd HP.out (by decide) hu⟩

set_option maxHeartbeats 1000000 in
theorem abs_z (L : Nat) (z : Int) (x0 : Value) (w : World) (hz0 : IsZ (L) (z) x0 w) (hL : L ≤ 17592186044416) :
    Calls Tryf.prog 36 #[x0] w (ResR (IsC L (z.natAbs : Int)) w) := by
  obtain ⟨n0, a0, l0, c0, rfl⟩ := hz0.form
  have HZ0 := Lib.hid hz0
  clear hz0
  go_enter Tryf.func36, Tryf.ntmps36
  go_wp2_with fail
  refine (toImpl_z (L) (z) _ _ ((HZ0.out.ext ((Ext.alloc _ _).trans (Ext.alloc _ _)))) (by omega)).mono ?_
  rintro e w1 ⟨he, y1, rfl, hy⟩
  have HB := Lib.hid he
  have HE := Lib.hid (((Ext.alloc _ _).trans (Ext.alloc _ _)).trans he)
  clear he
  have HY1 := Lib.hid hy
  clear hy
  have hcc := fun a v h => Ext.cell HB.out (a := a) (v := v) h
  go_wp2_with fail
  refine (implAbs_z (0) (0) (L) (0) (z) _ _ _ ((IsZ.zeroN _)) (HY1.out.z) (by omega) (by omega)).mono ?_
  clear hcc
  rintro e w2 ⟨he, y2, rfl, hy⟩
  replace HY1 := Lib.hid (HY1.out.ext he)
  replace HB := Lib.hid (HB.out.trans he)
  replace HE := Lib.hid (HE.out.trans he)
  clear he
  obtain ⟨m1, s1, m2, s2, m3, s3, rfl, t1, t2, t3⟩ := hy
  have HT1 := Lib.hid t1
  have HT2 := Lib.hid t2
  have HT3 := Lib.hid t3
  clear t1 t2 t3
  have hfz := field_z m1 s1 m2 s2 m3 s3
  have hcc := fun a v h => Ext.cell HB.out (a := a) (v := v) h
  go_wp2_with fail
  refine (fromImpl_z (L) (((z).natAbs : Int)) _ _ HT1.out).mono ?_
  clear hcc
  rintro e w3 ⟨he, y3, rfl, hy⟩
  replace HY1 := Lib.hid (HY1.out.ext he)
  replace HT1 := Lib.hid (HT1.out.ext he)
  replace HT2 := Lib.hid (HT2.out.ext he)
  replace HT3 := Lib.hid (HT3.out.ext he)
  replace HB := Lib.hid (HB.out.trans he)
  replace HE := Lib.hid (HE.out.trans he)
  clear he
  have HY3 := Lib.hid hy
  clear hy
  obtain ⟨m, aa, ll, cc, rfl⟩ := HY3.out.form
  have hp : w3.heap[w.heap.size + 1]? = some (.cells #[.bool false, .slice none 0 0] 26 (0, 0)) := HB.out.block (heap_second _ _ _)
  have d0 := blk_cell hp 0
  have d1 := blk_cell hp 1
  have f0 := blk_free hp 0
  have f1 := blk_free hp 1
  simp at d0 d1
  have HP := Lib.hid hp
  clear hp
  try clear hfz
  go_wp2_with fail
  obtain ⟨e0, e1, hu⟩ := set2 HP.out (.bool m) (.slice aa ll cc)
  exact bodyPost_ret (results_laws rfl _ rfl e0 e1) rfl ⟨hu.ext HE.out (by omega), _, rfl, HY3.out.upd HP.out (by decide) hu⟩

set_option maxHeartbeats 1000000 in
theorem isUint_z (L : Nat) (z : Int) (x0 : Value) (w : World) (hz0 : IsZ (L) (z) x0 w) (hL : L ≤ 17592186044416) :
    Calls Tryf.prog 18 #[x0] w (ResR (Is (.bool (isU z))) w) := by
  obtain ⟨n0, a0, l0, c0, rfl⟩ := hz0.form
  have HZ0 := Lib.hid hz0
  clear hz0
  go_enter Tryf.func18, Tryf.ntmps18
  go_wp2_with fail
  refine (toImpl_z (L) (z) _ _ ((HZ0.out.ext (Ext.alloc _ _))) (by omega)).mono ?_
  rintro e w1 ⟨he, y1, rfl, hy⟩
  have HB := Lib.hid he
  have HE := Lib.hid ((Ext.alloc _ _).trans he)
  clear he
  have HY1 := Lib.hid hy
  clear hy
  have hcc := fun a v h => Ext.cell HB.out (a := a) (v := v) h
  go_wp2_with fail
  refine (implIsUint64_z (L) (z) _ _ (HY1.out.z) (by omega)).mono ?_
  clear hcc
  rintro e w2 ⟨he, y2, rfl, hy⟩
  replace HY1 := Lib.hid (HY1.out.ext he)
  replace HB := Lib.hid (HB.out.trans he)
  replace HE := Lib.hid (HE.out.trans he)
  clear he
  obtain rfl : y2 = .bool (isU (z)) := hy
  go_wp2_with fail
  go_ret
  exact ⟨HE.out, _, rfl, rfl⟩

set_option maxHeartbeats 1000000 in
theorem setUint_z (x : Nat)  (w : World)  (hx : x < 18446744073709551616) :
    Calls Tryf.prog 17 #[.int .u64 (x : Nat)] w (ResR (IsC 1 (x : Int)) w) := by
  have HX := Lib.hid hx
  clear hx
  go_enter Tryf.func17, Tryf.ntmps17
  go_wp2_with fail
  refine (implSetUint64_z x _ HX.out).mono ?_
  rintro e w1 ⟨he, y1, rfl, hy⟩
  have HB := Lib.hid he
  have HE := Lib.hid ((Ext.alloc _ _).trans he)
  clear he
  have HY1 := Lib.hid hy
  clear hy
  have hcc := fun a v h => Ext.cell HB.out (a := a) (v := v) h
  go_wp2_with fail
  refine (fromImpl_z (1) ((x : Int)) _ _ HY1.out).mono ?_
  clear hcc
  rintro e w2 ⟨he, y2, rfl, hy⟩
  replace HY1 := Lib.hid (HY1.out.ext he)
  replace HB := Lib.hid (HB.out.trans he)
  replace HE := Lib.hid (HE.out.trans he)
  clear he
  have HY2 := Lib.hid hy
  clear hy
  obtain ⟨m, aa, ll, cc, rfl⟩ := HY2.out.form
  have hp : w2.heap[w.heap.size]? = some (.cells #[.bool false, .slice none 0 0] 26 (0, 0)) := HB.out.block (heap_alloc_new _ _)
  have d0 := blk_cell hp 0
  have d1 := blk_cell hp 1
  have f0 := blk_free hp 0
  have f1 := blk_free hp 1
  simp at d0 d1
  have HP := Lib.hid hp
  clear hp
  go_wp2_with fail
  obtain ⟨e0, e1, hu⟩ := set2 HP.out (.bool m) (.slice aa ll cc)
  exact bodyPost_ret (results_laws rfl _ rfl e0 e1) rfl ⟨hu.ext HE.out (by omega), _, rfl, HY2.out.upd HP.out (by decide) hu⟩

end Go.Proofs.YtocadbghhoibnaaFmt

/- string(b): a slice of bytes as a text. -/
namespace Go.Proofs.YtocadbghhoibnaaFmt
open Go.RowKit

/-- The text of these bytes. -/
def strN (bs : List Nat) : ByteArray := ⟨(bs.map UInt8.ofNat).toArray⟩

theorem conv_rd (bs : List Nat) (v : Value) (w : World) (h : Rd .u8 w v bs) : (convert 23 9 v).run Tryf.prog w = .ok (.string (strN bs)) w := by
  have hb : ∀ x ∈ bs, x < 256 := h.1
  rcases h.shape with ⟨rfl, a, cap, rfl, _, hn⟩ | ⟨h0, b, off, cap, rfl, h1, h2, h3⟩
  · cases a with
    | none => exact run_convert_bytes_nil w 23 5 Tryf.underlying23 Tryf.underlying5 0 cap 9 Tryf.underlying9
    | some ad => exact run_convert_bytes_back (P := Tryf.prog) w 23 9 5 ad cap [] Tryf.underlying23 Tryf.underlying5 Tryf.underlying9 (by simp)
  · have := run_convert_bytes_back (P := Tryf.prog) w 23 9 5 ⟨b, off, none⟩ cap (bs.map UInt8.ofNat) Tryf.underlying23 Tryf.underlying5 Tryf.underlying9 (fun j hj => by
      have hj' : j < bs.length := by simpa using hj
      have e : (⟨b, off, none⟩ : Addr).add j = ⟨b, off + j, none⟩ := by unfold Addr.add; split <;> simp_all
      rw [e, h3 j hj', List.getD_eq_getElem?_getD, List.getElem?_eq_getElem hj', List.getElem_map]
      have hx := hb bs[j] (List.getElem_mem hj')
      simp [Nat.mod_eq_of_lt hx])
    rw [List.length_map] at this
    exact this

end Go.Proofs.YtocadbghhoibnaaFmt
