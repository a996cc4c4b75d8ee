/- CmpAbs by values (printed by lawgen.py). -/
import Derived.Test.YtdfknmplpjmemaaCmp
set_option linter.unusedSimpArgs false
set_option linter.unusedVariables false
namespace Go.Proofs.Ytdfknmplpjmemaa
open Go.RowKit

set_option maxHeartbeats 1000000 in
theorem intCmpAbs_walk (p q : Nat) (n1 n2 : Bool) (a1 a2 : Option Addr) (l1 l2 c1 c2 : Nat) (r : Int)  (w : World)  (hp : w.heap[p]? = some (.cells #[.bool n1, .slice a1 l1 c1] 80 (0, 0))) (hq : w.heap[q]? = some (.cells #[.bool n2, .slice a2 l2 c2] 80 (0, 0))) (hcmp : ∀ w1, Ext w w1 → Calls Try.prog 77 #[.slice a1 l1 c1, .slice a2 l2 c2] w1 (ValR (.int .i64 r) w1)) :
    Calls Try.prog 58 #[.pointer (some ⟨p, 0, none⟩), .pointer (some ⟨q, 0, none⟩)] w (ValR (.int .i64 r) w) := by
  have k1 := blk_cell hp 1
  have k2 := blk_cell hq 1
  simp at k1 k2
  have HCMP := Lib.hid hcmp
  clear hcmp hp hq
  go_enter Try.func58, Try.ntmps58
  go_wp2_with fail
  refine wp_region_D preExt mixed [Is (.pointer (some ⟨p, 0, none⟩)), Is (.pointer (some ⟨p, 0, none⟩)), Is (.pointer (some ⟨p, 1, none⟩)), Is (.slice a1 l1 c1), Is (.pointer (some ⟨q, 0, none⟩)), Is (.pointer (some ⟨q, 0, none⟩)), Is (.pointer (some ⟨q, 1, none⟩)), Is (.slice a2 l2 c2), Is (.int .i64 r)] (by kernel_rfl) ?mono rfl ?steps ?last
  case mono =>
    simp only [List.forall_mem_cons, List.not_mem_nil, false_implies, implies_true, and_true]
    refine ⟨?_, ?_, ?_, ?_, ?_, ?_, ?_, ?_, ?_⟩
    all_goals first | exact fun _ _ _ _ q => q | exact fun _ _ _ he q => q.ext he
  case steps =>
    refine ⟨?_, ?_, ?_, ?_, ?_, ?_, ?_, ?_, ?_, trivial⟩
    all_goals
      intro u0 u1 u2 u3 u4 u5 u6 u7 u8 u9 w1 he hk
      simp [KnownD, Oper.looksAt, Op.operands, Call.operands, List.findIdx?_cons, Act.put] at hk
      simp only [Act.put, List.setIfInBounds_toArray, List.set_cons_succ, List.set_cons_zero]
    · go_wp2_with fail
      exact ⟨rfl, Ext.refl _, by show (_ : Value) = _; (first | rfl | simp); try rfl⟩
    · have k0 := hk
      obtain rfl : u0 = .pointer (some ⟨p, 0, none⟩) := k0
      go_wp2_with fail
      exact ⟨rfl, Ext.refl _, by show (_ : Value) = _; (first | rfl | simp); try rfl⟩
    · have k0 := hk
      obtain rfl : u1 = .pointer (some ⟨p, 0, none⟩) := k0
      go_wp2_with fail
      exact ⟨rfl, Ext.refl _, by show (_ : Value) = _; (first | rfl | simp); try rfl⟩
    · have k0 := hk
      obtain rfl : u2 = .pointer (some ⟨p, 1, none⟩) := k0
      have hc := fun a v h => Ext.cell he (a := a) (v := v) h
      go_wp2_with fail
      exact ⟨rfl, Ext.refl _, by show (_ : Value) = _; rfl⟩
    · go_wp2_with fail
      exact ⟨rfl, Ext.refl _, by show (_ : Value) = _; (first | rfl | simp); try rfl⟩
    · have k0 := hk
      obtain rfl : u4 = .pointer (some ⟨q, 0, none⟩) := k0
      go_wp2_with fail
      exact ⟨rfl, Ext.refl _, by show (_ : Value) = _; (first | rfl | simp); try rfl⟩
    · have k0 := hk
      obtain rfl : u5 = .pointer (some ⟨q, 0, none⟩) := k0
      go_wp2_with fail
      exact ⟨rfl, Ext.refl _, by show (_ : Value) = _; (first | rfl | simp); try rfl⟩
    · have k0 := hk
      obtain rfl : u6 = .pointer (some ⟨q, 1, none⟩) := k0
      have hc := fun a v h => Ext.cell he (a := a) (v := v) h
      go_wp2_with fail
      exact ⟨rfl, Ext.refl _, by show (_ : Value) = _; rfl⟩
    · obtain ⟨k0, k1⟩ := hk
      obtain rfl : u3 = .slice a1 l1 c1 := k0
      obtain rfl : u7 = .slice a2 l2 c2 := k1
      go_wp2_with fail
      refine (HCMP.out _ he).mono ?_
      rintro e w2 ⟨he2, rfl⟩
      go_wp2_with fail
      exact ⟨rfl, he2, rfl⟩
  case last =>
    intro w1 he u0 h0 u1 h1 u2 h2 u3 h3 u4 h4 u5 h5 u6 h6 u7 h7 u8 h8
    obtain rfl : u8 = .int .i64 r := h8
    clear h0 h1 h2 h3 h4 h5 h6 h7
    simp only [LastD, Act.put, List.setIfInBounds_toArray, List.set_cons_succ, List.set_cons_zero]
    have HE := Lib.hid ((Ext.refl _).trans he)
    clear he
    go_wp2_with fail
    go_ret
    exact ⟨HE.out, rfl⟩

/-- A pointer to an Int of value z. -/
def IsI (L : Nat) (z : Int) (x : Value) (w : World) : Prop := ∃ p base, x = .pointer (some ⟨p, 0, none⟩) ∧ IntZ L z w base p

theorem IsI.ext {L : Nat} {z : Int} {x : Value} {w w' : World} (h : IsI L z x w) (he : Ext w w') : IsI L z x w' := by
  obtain ⟨p, base, h1, h2⟩ := h; exact ⟨p, base, h1, h2.ext he⟩

theorem integer_i (L : Nat) (z : Int) (x : Value) (w : World) (h : IsZ L z x w) (hL : L ≤ 17592186044416) :
    Calls Try.prog 42 #[x] w (ResR (IsI L z) w) := by
  refine (integer_z L z x w h hL).mono ?_
  rintro e w' ⟨he, p, rfl, hp, hI⟩
  exact ⟨he, _, rfl, p, _, rfl, hI⟩

theorem cmp_own (b1 b2 : Nat) (u v : Value) (a b : List Nat) (w : World) (ha : Own .u64 w b1 83 u a) (hb : Own .u64 w b2 83 v b) (hna : norm a = a) (hnb : norm b = b) (hla : a.length ≤ 17592186044416) (hlb : b.length ≤ 17592186044416) :
    Calls Try.prog 77 #[u, v] w (ValR (.int .i64 (cmpW a b)) w) := by
  obtain ⟨a1, c1, rfl⟩ := ha.form
  obtain ⟨a2, c2, rfl⟩ := hb.form
  by_cases hd : a.length ≠ b.length ∨ a.length = 0
  · exact cmp_len a1 a2 a b c1 c2 w hna hnb ha.1 hb.1 hla hlb hd
  · have h1 : a.length = b.length := by omega
    have h2 : 0 < a.length := by omega
    rcases ha.read.shape with ⟨e1, _⟩ | ⟨_, x1, o1, q1, e1, _, _, k1⟩
    · subst e1; simp at h2
    rcases hb.read.shape with ⟨e2, _⟩ | ⟨_, x2, o2, q2, e2, _, _, k2⟩
    · subst e2; rw [h1] at h2; simp at h2
    simp at e1 e2
    obtain ⟨rfl, rfl⟩ := e1
    obtain ⟨rfl, rfl⟩ := e2
    have := cmp_words x1 o1 x2 o2 a b a.length c1 c2 w ha.1 hb.1 rfl h1.symm h2 hla k1 (by rw [h1]; exact k2)
    rw [← h1]
    exact this

theorem intCmpAbs_i (L M : Nat) (a b : Int) (x y : Value) (w : World) (hx : IsI L a x w) (hy : IsI M b y w) (hL : L ≤ 17592186044416) (hM : M ≤ 17592186044416) :
    Calls Try.prog 58 #[x, y] w (ResR (Is (.int .i64 (cmpZ (a.natAbs : Int) (b.natAbs : Int)))) w) := by
  obtain ⟨p, bp, rfl, hp⟩ := hx
  obtain ⟨q, bq, rfl, hq⟩ := hy
  obtain ⟨a1, c1, ws, h1, h2, h3, h4, h5⟩ := hp.low
  obtain ⟨a2, c2, vs, k1, k2, k3, k4, k5⟩ := hq.low
  have hc : cmpW ws vs = cmpZ (a.natAbs : Int) (b.natAbs : Int) := by rw [cmpW, h4, k4]
  refine (intCmpAbs_walk p q _ _ a1 a2 _ _ c1 c2 (cmpZ (a.natAbs : Int) (b.natAbs : Int)) w h1 k1 ?_).mono ?_
  · intro w1 he
    rw [← hc]
    exact cmp_own bp bq _ _ ws vs w1 (h2.ext he) (k2.ext he) h3 k3 (by omega) (by omega)
  · rintro e w' ⟨he, rfl⟩
    exact ⟨he, _, rfl, rfl⟩

set_option maxHeartbeats 1000000 in
theorem implCmpAbs_z (L M : Nat) (a b : Int) (x0 : Value) (x1 : Value) (w : World)  (hz0 : IsZ (L) (a) x0 w)  (hz1 : IsZ (M) (b) x1 w) (hL : L ≤ 17592186044416) (hM : M ≤ 17592186044416) :
    Calls Try.prog 37 #[x0, x1] w (ResR (Is (.int .i64 (cmpZ (a.natAbs : Int) (b.natAbs : Int)))) w) := by
  obtain ⟨n0, a0, l0, c0, rfl⟩ := hz0.form
  have HZ0 := Lib.hid hz0
  clear hz0
  obtain ⟨n1, a1, l1, c1, rfl⟩ := hz1.form
  have HZ1 := Lib.hid hz1
  clear hz1
  go_enter Try.func37, Try.ntmps37
  go_wp2_with fail
  refine wp_region_D preExt mixed [IsZ (L) (a), IsI (L) (a), IsZ (M) (b), IsI (M) (b), Is (.int .i64 (cmpZ ((a).natAbs : Int) ((b).natAbs : Int)))] (by kernel_rfl) ?mono rfl ?steps ?last
  case mono =>
    simp only [List.forall_mem_cons, List.not_mem_nil, false_implies, implies_true, and_true]
    refine ⟨?_, ?_, ?_, ?_, ?_⟩
    all_goals first | exact fun _ _ _ _ q => q | exact fun _ _ _ he q => q.ext he
  case steps =>
    refine ⟨?_, ?_, ?_, ?_, ?_, trivial⟩
    all_goals
      intro u0 u1 u2 u3 u4 u5 w1 he hk
      simp [KnownD, Oper.looksAt, Op.operands, Call.operands, List.findIdx?_cons, Act.put] at hk
      simp only [Act.put, List.setIfInBounds_toArray, List.set_cons_succ, List.set_cons_zero]
    · have hb := he.block ((Ext.alloc _ _).block (heap_alloc_new _ _))
      have hc0 := blk_cell hb 0
      have hc1 := blk_cell hb 1
      simp at hc0 hc1
      clear hb
      go_wp2_with fail
      exact ⟨rfl, Ext.refl _, HZ0.out.ext (((Ext.alloc _ _).trans (Ext.alloc _ _)).trans he)⟩
    · have k0 := hk
      have H0 := Lib.hid k0
      clear k0
      go_wp2_with fail
      refine (integer_i (L) (a) _ _ (H0.out) (by omega)).mono ?_
      rintro e w2 ⟨he2, x, rfl, hx⟩
      have HX := Lib.hid hx
      clear hx
      go_wp2_with fail
      exact ⟨rfl, he2, HX.out⟩
    · have hb := he.block (heap_second _ _ _)
      have hc0 := blk_cell hb 0
      have hc1 := blk_cell hb 1
      simp at hc0 hc1
      clear hb
      go_wp2_with fail
      exact ⟨rfl, Ext.refl _, HZ1.out.ext (((Ext.alloc _ _).trans (Ext.alloc _ _)).trans he)⟩
    · have k0 := hk
      have H0 := Lib.hid k0
      clear k0
      go_wp2_with fail
      refine (integer_i (M) (b) _ _ (H0.out) (by omega)).mono ?_
      rintro e w2 ⟨he2, x, rfl, hx⟩
      have HX := Lib.hid hx
      clear hx
      go_wp2_with fail
      exact ⟨rfl, he2, HX.out⟩
    · obtain ⟨k0, k1⟩ := hk
      have H0 := Lib.hid k0
      have H1 := Lib.hid k1
      clear k0 k1
      go_wp2_with fail
      refine (intCmpAbs_i (L) (M) (a) (b) _ _ _ H0.out H1.out (by omega) (by omega)).mono ?_
      rintro e w2 ⟨he2, x, rfl, hx⟩
      obtain rfl : x = .int .i64 (cmpZ ((a).natAbs : Int) ((b).natAbs : Int)) := hx
      go_wp2_with fail
      exact ⟨rfl, he2, rfl⟩
  case last =>
    intro w1 he u0 h0 u1 h1 u2 h2 u3 h3 u4 h4
    obtain rfl : u4 = .int .i64 (cmpZ ((a).natAbs : Int) ((b).natAbs : Int)) := h4
    clear h0 h1 h2 h3
    simp only [LastD, Act.put, List.setIfInBounds_toArray, List.set_cons_succ, List.set_cons_zero]
    have HE := Lib.hid (((Ext.alloc _ _).trans (Ext.alloc _ _)).trans he)
    clear he
    go_wp2_with fail
    go_ret
    exact ⟨HE.out, _, rfl, rfl⟩

end Go.Proofs.Ytdfknmplpjmemaa

