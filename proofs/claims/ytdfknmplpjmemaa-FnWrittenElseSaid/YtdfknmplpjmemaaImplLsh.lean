/- impl.two, with what a shift must know of it; (*Int).Lsh, impl.Lsh by values: contracts. -/
import Derived.Test.YtdfknmplpjmemaaIntLsh
set_option linter.unusedSimpArgs false
set_option linter.unusedVariables false
namespace Go.Proofs.Ytdfknmplpjmemaa
open Go.RowKit

theorem sep_apart {Lx Lz : Nat} {zx zz : Int} {w1 w2 : World} {B0 p q : Nat} {n0 n : Bool} {v0 s : Value} (hx : IntZ Lx zx w1 B0 q) (he : Ext w1 w2) (hz : IntZ Lz zz w2 w1.heap.size p) (h1 : w2.heap[p]? = some (.cells #[.bool n0, v0] 80 (0, 0))) (h2 : w2.heap[q]? = some (.cells #[.bool n, s] 80 (0, 0))) : Apart v0 s := by
  intro k hk hs
  obtain ⟨nx, sx, vx, hxq, hxo⟩ := hx.blk
  rw [he.block hxq] at h2
  simp at h2
  obtain ⟨_, rfl⟩ := h2
  have a := (hx.own hxq hs).2.1
  have b := (hz.own h1 hk).1
  omega

/-- Two Ints: one and the same, or two that share nothing. -/
def TwoA (one : Bool) (L : Nat) (z : Int) (w : World) (e : Ending) (w' : World) : Prop :=
  Ext w w' ∧ ∃ p q, e = .returned (.tuple #[.pointer (some ⟨p, 0, none⟩), .pointer (some ⟨q, 0, none⟩)]) ∧ IntZ L z w' 0 q ∧ w.heap.size ≤ q ∧
    ((one = true ∧ p = q ∧ ∃ n0 v0 vs, w'.heap[p]? = some (.cells #[.bool n0, v0] 80 (0, 0)) ∧ Own .u64 w' w.heap.size 83 v0 vs) ∨ (one = false ∧ p ≠ q ∧ ∃ n0 v0 vs, w'.heap[p]? = some (.cells #[.bool n0, v0] 80 (0, 0)) ∧ Own .u64 w' 0 83 v0 vs ∧
      (∀ w'', Upd (fun k => k = p ∨ v0.ownBlock = some k) w' w'' → IntZ L z w'' 0 q) ∧ (∀ k, (k = p ∨ v0.ownBlock = some k) → w.heap.size ≤ k) ∧ (∀ n s, w'.heap[q]? = some (.cells #[.bool n, s] 80 (0, 0)) → Apart v0 s)))

set_option maxHeartbeats 400000 in
theorem two_a (k : Int) (Lz Lx : Nat) (zz zx : Int) (Z X : Value) (w : World) (hZ : IsZ Lz zz Z w) (hX : IsZ Lx zx X w) (hLz : Lz ≤ 17592186044416) (hLx : Lx ≤ 17592186044416) :
    Calls Try.prog 54 #[.int .i64 k, Z, X] w (TwoA (decide (k = 1)) Lx zx w) := by
  obtain ⟨n1, a1, l1, c1, rfl⟩ := hZ.form
  obtain ⟨n2, a2, l2, c2, rfl⟩ := hX.form
  have HZ := Lib.hid hZ
  have HX := Lib.hid hX
  clear hZ hX
  by_cases hk : k = 1
  · subst hk
    rw [show decide ((1 : Int) = 1) = true by simp]
    go_enter Try.func54, Try.ntmps54
    go_wp2_with fail
    refine (integer_z Lx zx _ _ (HX.out.ext ((Ext.alloc _ _).trans (Ext.alloc _ _))) hLx).mono ?_
    rintro e w1 ⟨he, p, rfl, hp, hI⟩
    simp only [World.size_alloc] at hp hI
    have HE := Lib.hid (((Ext.alloc _ _).trans (Ext.alloc _ _)).trans he)
    have HI := Lib.hid hI
    clear he hI
    go_wp2_with fail
    go_ret2
    obtain ⟨n0, v0, vs, b1, b2⟩ := HI.out.blk
    exact ⟨HE.out, p, p, rfl, HI.out.mono (Nat.zero_le _), by omega, .inl ⟨rfl, rfl, n0, v0, vs, b1, b2.mono (by omega)⟩⟩
  · rw [show decide (k = 1) = false by simp [hk]]
    have hb : (k == 1) = false := by simp [hk]
    clear hk
    go_enter Try.func54, Try.ntmps54
    go_wp2_with fail
    refine (integer_z Lx zx _ _ (HX.out.ext ((Ext.alloc _ _).trans (Ext.alloc _ _))) hLx).mono ?_
    rintro e w1 ⟨he, q, rfl, hq, hI⟩
    simp only [World.size_alloc] at hq hI
    have hcc := fun a v h => Ext.cell he (a := a) (v := v) h
    have HE := Lib.hid (((Ext.alloc _ _).trans (Ext.alloc _ _)).trans he)
    have HI := Lib.hid hI
    have hs1 := he.size
    simp only [World.size_alloc] at hs1
    clear he hI
    go_wp2_with fail
    refine (integer_z Lz zz _ _ (HZ.out.ext HE.out) hLz).mono ?_
    rintro e w2 ⟨he, p, rfl, hp, hI2⟩
    have hsep := sep_two HI.out he hI2 hp
    have HE2 := Lib.hid (HE.out.trans he)
    have HI2 := Lib.hid (HI.out.ext he)
    have HS := Lib.hid hsep
    have HAP := Lib.hid (fun n0 v0 n s h1 h2 => sep_apart (n0 := n0) (v0 := v0) (n := n) (s := s) HI.out he hI2 h1 h2)
    clear he hI2 hcc hsep
    go_wp2_with fail
    go_ret2
    obtain ⟨hpq, n0, v0, vs, q1, q2, q3, q4⟩ := HS.out
    exact ⟨HE2.out, p, q, rfl, HI2.out.mono (Nat.zero_le _), by omega, .inr ⟨rfl, hpq, n0, v0, vs, q1, q2, q3, fun k hk => (by have := q4 k hk; omega), fun n s h => HAP.out _ _ _ _ q1 h⟩⟩

theorem intLsh_z (L : Nat) (z : Int) (s p q : Nat) (n0 : Bool) (v0 : Value) (vs : List Nat) (w : World) (hp : w.heap[p]? = some (.cells #[.bool n0, v0] 80 (0, 0))) (hv : Own .u64 w 0 83 v0 vs) (hx : IntZ L z w 0 q) (hs : s < 18446744073709551616) (hL : L + s / 64 + 1 ≤ 17592186044416) (hsep : ∀ n t, w.heap[q]? = some (.cells #[.bool n, t] 80 (0, 0)) → v0 = t ∨ Apart v0 t) :
    Calls Try.prog 55 #[.pointer (some ⟨p, 0, none⟩), .pointer (some ⟨q, 0, none⟩), .int .u64 (s : Nat)] w fun e w' => e = .returned (.pointer (some ⟨p, 0, none⟩)) ∧ IntZ (L + s / 64 + 1) (z * 2 ^ s) w' 0 p ∧ Upd (fun k => k = p ∨ v0.ownBlock = some k) w w' := by
  obtain ⟨ax, cx, xs, hq, hox, hnx, hvx, hlx⟩ := hx.low
  refine (intLsh_any p q n0 _ v0 _ vs xs s L w hp hq hv hox hnx hs hL hlx (hsep _ _ hq)).mono ?_
  rintro e w' ⟨h1, ws, h2, h3, h4, h5, h6⟩
  have hpos : (0 : Int) < 2 ^ s := Int.pow_pos (by decide)
  refine ⟨h1, ⟨ws, ?_, h3, ?_, h5⟩, h6⟩
  · rw [show decide (z * 2 ^ s < 0) = decide (z < 0) from decide_eq_decide.2 ⟨fun h => by
      rcases Int.lt_or_le z 0 with h0 | h0
      · exact h0
      · have := Int.mul_nonneg h0 (Int.le_of_lt hpos); omega, fun h => Int.mul_neg_of_neg_of_pos h hpos⟩]
    exact h2
  · rw [h4, hvx, Int.natAbs_mul, Int.natAbs_pow]; rfl

set_option maxHeartbeats 1000000 in
theorem implLsh_z (k : Int) (L : Nat) (zz z : Int) (s : Nat) (Z X : Value) (w : World) (hZ : IsZ L zz Z w) (hX : IsZ L z X w) (hs : s < 18446744073709551616) (hL : L + s / 64 + 1 ≤ 17592186044416) :
    Calls Try.prog 35 #[.int .i64 k, Z, X, .int .u64 (s : Nat)] w (ResR (IsT (L + s / 64 + 1) (z * 2 ^ s) (after1 k (z * 2 ^ s) z) 0) w) := by
  obtain ⟨n1, a1, l1, c1, rfl⟩ := hZ.form
  obtain ⟨n2, a2, l2, c2, rfl⟩ := hX.form
  have HZ := Lib.hid hZ
  have HX := Lib.hid hX
  have HS := Lib.hid hs
  clear hZ hX hs
  generalize haf : after1 k (z * 2 ^ s) z = af
  have HAF := Lib.hid haf
  clear haf
  generalize hres : z * 2 ^ s = rz at *
  have HRES := Lib.hid hres
  clear hres
  go_enter Try.func35, Try.ntmps35
  go_wp2_with fail
  refine (two_a k L L zz z _ _ _ (HZ.out.ext (((Ext.alloc _ _).trans (Ext.alloc _ _)).trans (Ext.alloc _ _))) (HX.out.ext (((Ext.alloc _ _).trans (Ext.alloc _ _)).trans (Ext.alloc _ _))) (by omega) (by omega)).mono ?_
  rintro e w1 ⟨he, p, q, rfl, hI, hqn, hor⟩
  simp only [World.size_alloc] at hqn hor
  have hE : Ext w w1 := (((Ext.alloc _ _).trans (Ext.alloc _ _)).trans (Ext.alloc _ _)).trans he
  have hP : w1.heap[w.heap.size + 2]? = some (.cells #[.bool false, .slice none 0 0, .bool false, .slice none 0 0, .bool false, .slice none 0 0] 49 (0, 0)) := he.block (heap_third _ _ _ _)
  have HI := Lib.hid hI
  have HE := Lib.hid hE
  have HP := Lib.hid hP
  clear hI hE hP he
  rcases hor with ⟨hk, rfl, n0, v0, vs, q1, q2⟩ | ⟨hk, hpq, n0, v0, vs, q1, q2, q3, q4, q5⟩
  · have hk1 : k = 1 := of_decide_eq_true hk
    have haf : rz = af := by rw [← HAF.out, after1, hk, cond_true]
    have HK := Lib.hid haf
    have Q1 := Lib.hid q1
    have Q2 := Lib.hid q2
    have hown : ∀ i, v0.ownBlock = some i → w.heap.size + 3 ≤ i := by
      intro i hi
      rcases q2.2.2 with ⟨rfl, _⟩ | ⟨g', cap, cur, rfl, hb', _⟩
      · simp [Value.ownBlock] at hi
      · simp [Value.ownBlock] at hi; omega
    have HOW := Lib.hid hown
    clear hk hk1 haf q1 q2 hown
    go_wp2_with fail
    refine (intLsh_z L z s p p n0 v0 vs _ Q1.out (Q2.out.mono (Nat.zero_le _)) HI.out HS.out hL (fun n t h => by rw [Q1.out] at h; simp at h; exact .inl h.2)).mono ?_
    rw [HRES.out]
    rintro e w2 ⟨rfl, hI', hU⟩
    have hE2 : Ext w w2 := hU.ext HE.out (fun i hi => by rcases hi with rfl | hi; omega; have := HOW.out i hi; omega)
    have hP2 : w2.heap[w.heap.size + 2]? = _ := hU.heap HP.out (fun h => by rcases h with h | h; omega; have := HOW.out _ h; omega)
    have hA : IntZ (L + s / 64 + 1) af w2 0 p := HK.out ▸ hI'
    clear hU
    have HI' := Lib.hid hI'
    have HE2 := Lib.hid hE2
    have HA := Lib.hid hA
    have hp1 := hP2
    have HP1 := Lib.hid hp1
    clear hI' hE2 hA hP2 hp1
    go_wp2_with fail
    refine (pair_z (L + s / 64 + 1) (rz) (af) _ _ _ HI'.out HA.out hL).mono ?_
    rintro e w3 ⟨he, v, rfl, n1, s1, n2, s2, n3, s3, rfl, g1, g2, g3⟩
    obtain ⟨m1, a1, l1, c1, e1⟩ := g1.form
    obtain ⟨m2, a2, l2, c2, e2⟩ := g2.form
    obtain ⟨m3, a3, l3, c3, e3⟩ := g3.form
    simp at e1 e2 e3
    obtain ⟨rfl, rfl⟩ := e1
    obtain ⟨rfl, rfl⟩ := e2
    obtain ⟨rfl, rfl⟩ := e3
    have hp2 := he.block HP1.out
    have d0 := blk_cell hp2 0
    have d1 := blk_cell hp2 1
    have d2 := blk_cell hp2 2
    have d3 := blk_cell hp2 3
    have d4 := blk_cell hp2 4
    have d5 := blk_cell hp2 5
    have f0 := blk_free hp2 0
    have f1 := blk_free hp2 1
    have f2 := blk_free hp2 2
    have f3 := blk_free hp2 3
    have f4 := blk_free hp2 4
    have f5 := blk_free hp2 5
    simp at d0 d1 d2 d3 d4 d5
    have G1 := Lib.hid g1
    have G2 := Lib.hid g2
    have G3 := Lib.hid g3
    have HP2 := Lib.hid hp2
    have HE3 := Lib.hid (HE2.out.trans he)
    clear g1 g2 g3 hp2 he
    go_wp2_with fail
    have hh := put6_heap HP2.out (.bool m1) (.slice a1 l1 c1) (.bool m2) (.slice a2 l2 c2) (.bool m3) (.slice a3 l3 c3)
    have hu := put6_upd w3 (w.heap.size + 2) (.bool m1) (.slice a1 l1 c1) (.bool m2) (.slice a2 l2 c2) (.bool m3) (.slice a3 l3 c3)
    exact bodyPost_ret (results_triple rfl _ rfl (blk_cell hh 0) (blk_cell hh 1) (blk_cell hh 2) (blk_cell hh 3) (blk_cell hh 4) (blk_cell hh 5)) rfl
      ⟨hu.ext HE3.out (by omega), _, rfl, _, _, _, _, _, _, rfl, G1.out.upd HP2.out (by decide) hu, G2.out.upd HP2.out (by decide) hu, G3.out.upd HP2.out (by decide) hu⟩
  · have hk1 : ¬ k = 1 := of_decide_eq_false hk
    have haf : z = af := by rw [← HAF.out, after1, hk, cond_false]
    have HK := Lib.hid haf
    have Q1 := Lib.hid q1
    have Q2 := Lib.hid q2
    have Q3 := Lib.hid q3
    have Q4 := Lib.hid q4
    have Q5 := Lib.hid q5
    clear hk hk1 haf q1 q2 q3 q4 q5
    go_wp2_with fail
    refine (intLsh_z L z s p q n0 v0 vs _ Q1.out Q2.out HI.out HS.out hL (fun n t h => .inr (Q5.out n t h))).mono ?_
    rw [HRES.out]
    rintro e w2 ⟨rfl, hI', hU⟩
    have hE2 : Ext w w2 := hU.ext HE.out (fun i hi => by have := Q4.out i hi; omega)
    have hP2 : w2.heap[w.heap.size + 2]? = _ := hU.heap HP.out (fun h => by have := Q4.out _ h; omega)
    have hA : IntZ (L + s / 64 + 1) af w2 0 q := HK.out ▸ (Q3.out w2 hU).more (by omega)
    clear hU
    have HI' := Lib.hid hI'
    have HE2 := Lib.hid hE2
    have HA := Lib.hid hA
    have hp1 := hP2
    have HP1 := Lib.hid hp1
    clear hI' hE2 hA hP2 hp1
    go_wp2_with fail
    refine (pair_z (L + s / 64 + 1) (rz) (af) _ _ _ HI'.out HA.out hL).mono ?_
    rintro e w3 ⟨he, v, rfl, n1, s1, n2, s2, n3, s3, rfl, g1, g2, g3⟩
    obtain ⟨m1, a1, l1, c1, e1⟩ := g1.form
    obtain ⟨m2, a2, l2, c2, e2⟩ := g2.form
    obtain ⟨m3, a3, l3, c3, e3⟩ := g3.form
    simp at e1 e2 e3
    obtain ⟨rfl, rfl⟩ := e1
    obtain ⟨rfl, rfl⟩ := e2
    obtain ⟨rfl, rfl⟩ := e3
    have hp2 := he.block HP1.out
    have d0 := blk_cell hp2 0
    have d1 := blk_cell hp2 1
    have d2 := blk_cell hp2 2
    have d3 := blk_cell hp2 3
    have d4 := blk_cell hp2 4
    have d5 := blk_cell hp2 5
    have f0 := blk_free hp2 0
    have f1 := blk_free hp2 1
    have f2 := blk_free hp2 2
    have f3 := blk_free hp2 3
    have f4 := blk_free hp2 4
    have f5 := blk_free hp2 5
    simp at d0 d1 d2 d3 d4 d5
    have G1 := Lib.hid g1
    have G2 := Lib.hid g2
    have G3 := Lib.hid g3
    have HP2 := Lib.hid hp2
    have HE3 := Lib.hid (HE2.out.trans he)
    clear g1 g2 g3 hp2 he
    go_wp2_with fail
    have hh := put6_heap HP2.out (.bool m1) (.slice a1 l1 c1) (.bool m2) (.slice a2 l2 c2) (.bool m3) (.slice a3 l3 c3)
    have hu := put6_upd w3 (w.heap.size + 2) (.bool m1) (.slice a1 l1 c1) (.bool m2) (.slice a2 l2 c2) (.bool m3) (.slice a3 l3 c3)
    exact bodyPost_ret (results_triple rfl _ rfl (blk_cell hh 0) (blk_cell hh 1) (blk_cell hh 2) (blk_cell hh 3) (blk_cell hh 4) (blk_cell hh 5)) rfl
      ⟨hu.ext HE3.out (by omega), _, rfl, _, _, _, _, _, _, rfl, G1.out.upd HP2.out (by decide) hu, G2.out.upd HP2.out (by decide) hu, G3.out.upd HP2.out (by decide) hu⟩

end Go.Proofs.Ytdfknmplpjmemaa
