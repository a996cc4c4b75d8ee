/- (*Int).Cmp (printed by lawgen.py). -/
import Derived.Test.YtacmojhladdalaaHelpers
import Derived.Test.YtacmojhladdalaaCmp2
set_option linter.unusedSimpArgs false
set_option linter.unusedVariables false
namespace Go.Proofs.Ytacmojhladdalaa
open Go.RowKit

theorem eqlOther {p q : Nat} (hpq : p ≠ q) {w : World} {c d : Array Value} {T U : TypeId} (hp : w.heap[p]? = some (.cells c T (0, 0))) (hq : w.heap[q]? = some (.cells d U (0, 0))) :
    (binOp .eql 50 (.pointer (some ⟨p, 0, none⟩)) (.pointer (some ⟨q, 0, none⟩))).run Try.prog w = .ok (.bool false) w := by
  obtain ⟨j, h1, h2⟩ := infoInt'
  exact run_eql_ptr_other w Try.underlying50 h1 (by omega) (a := ⟨p, 0, none⟩) (b := ⟨q, 0, none⟩) (by simp [hpq]) hp hq

set_option maxHeartbeats 1000000 in
theorem intCmp_neq (p q : Nat) (hpq : p ≠ q) (n1 n2 : Bool) (a1 a2 : Option Addr) (l1 l2 c1 c2 : Nat) (w : World) (hp : w.heap[p]? = some (.cells #[.bool n1, .slice a1 l1 c1] 70 (0, 0))) (hq : w.heap[q]? = some (.cells #[.bool n2, .slice a2 l2 c2] 70 (0, 0))) (hb : (n1 == n2) = false) :
    Calls Try.prog 71 #[.pointer (some ⟨p, 0, none⟩), .pointer (some ⟨q, 0, none⟩)] w (ValR (.int .i64 (bif n1 then -1 else 1)) w) := by
  have heql := eqlOther hpq hp hq
  have k0 := blk_cell hp 0
  have k1 := blk_cell hp 1
  have j0 := blk_cell hq 0
  have j1 := blk_cell hq 1
  simp at k0 k1 j0 j1
  clear hp hq
  generalize hr : (bif n1 then (-1 : Int) else 1) = r
  have HR := Lib.hid hr
  clear hr
  go_enter Try.func71, Try.ntmps71
  go_wp2_with fail
  clear heql
  refine wp_region_D preExt mixed [Is (.pointer (some ⟨p, 0, none⟩)), Is (.pointer (some ⟨p, 0, none⟩)), Is (.pointer (some ⟨p, 0, none⟩)), Is (.bool n1), Is (.pointer (some ⟨q, 0, none⟩)), Is (.pointer (some ⟨q, 0, none⟩)), Is (.pointer (some ⟨q, 0, none⟩)), Is (.bool n2), Is (.bool false)] (by kernel_rfl) ?mono rfl ?steps ?last
  case mono =>
    simp only [List.forall_mem_cons, List.not_mem_nil, false_implies, implies_true, and_true]
    refine ⟨?_, ?_, ?_, ?_, ?_, ?_, ?_, ?_, ?_⟩
    all_goals first | exact fun _ _ _ _ q => q | exact fun _ _ _ he q => q.ext he
  case steps =>
    refine ⟨?_, ?_, ?_, ?_, ?_, ?_, ?_, ?_, ?_, trivial⟩
    all_goals
      intro u0 u1 u2 u3 u4 u5 u6 u7 u8 u9 w1 he hk
      simp [KnownD, Oper.looksAt, Op.operands, Call.operands, List.findIdx?_cons, Act.put] at hk
      simp only [Act.put, List.setIfInBounds_toArray, List.set_cons_succ, List.set_cons_zero]
    · go_wp2_with fail
      exact ⟨rfl, Ext.refl _, by show (_ : Value) = _; (first | rfl | simp); try rfl⟩
    · have k0 := hk
      obtain rfl : u0 = .pointer (some ⟨p, 0, none⟩) := k0
      go_wp2_with fail
      exact ⟨rfl, Ext.refl _, by show (_ : Value) = _; (first | rfl | simp); try rfl⟩
    · have k0 := hk
      obtain rfl : u1 = .pointer (some ⟨p, 0, none⟩) := k0
      go_wp2_with fail
      exact ⟨rfl, Ext.refl _, by show (_ : Value) = _; (first | rfl | simp); try rfl⟩
    · have k0 := hk
      obtain rfl : u2 = .pointer (some ⟨p, 0, none⟩) := k0
      have hc := fun a v h => Ext.cell he (a := a) (v := v) h
      go_wp2_with fail
      exact ⟨rfl, Ext.refl _, by show (_ : Value) = _; rfl⟩
    · go_wp2_with fail
      exact ⟨rfl, Ext.refl _, by show (_ : Value) = _; (first | rfl | simp); try rfl⟩
    · have k0 := hk
      obtain rfl : u4 = .pointer (some ⟨q, 0, none⟩) := k0
      go_wp2_with fail
      exact ⟨rfl, Ext.refl _, by show (_ : Value) = _; (first | rfl | simp); try rfl⟩
    · have k0 := hk
      obtain rfl : u5 = .pointer (some ⟨q, 0, none⟩) := k0
      go_wp2_with fail
      exact ⟨rfl, Ext.refl _, by show (_ : Value) = _; (first | rfl | simp); try rfl⟩
    · have k0 := hk
      obtain rfl : u6 = .pointer (some ⟨q, 0, none⟩) := k0
      have hc := fun a v h => Ext.cell he (a := a) (v := v) h
      go_wp2_with fail
      exact ⟨rfl, Ext.refl _, by show (_ : Value) = _; rfl⟩
    · obtain ⟨k0, k1⟩ := hk
      obtain rfl : u3 = .bool n1 := k0
      obtain rfl : u7 = .bool n2 := k1
      go_wp2_with fail
      exact ⟨rfl, Ext.refl _, by show (_ : Value) = _; (simp [hb]); try rfl⟩
  case last =>
    intro w1 he u0 h0 u1 h1 u2 h2 u3 h3 u4 h4 u5 h5 u6 h6 u7 h7 u8 h8
    obtain rfl : u8 = .bool false := h8
    clear h0 h1 h2 h3 h4 h5 h6 h7
    simp only [LastD, Act.put, List.setIfInBounds_toArray, List.set_cons_succ, List.set_cons_zero]
    have HEX := Lib.hid he
    have k0' := he.cell k0
    have k1' := he.cell k1
    have j0' := he.cell j0
    have j1' := he.cell j1
    clear he k0 k1 j0 j1
    cases n1
    all_goals
      go_wp2_with fail
      go_ret
      rw [← HR.out]
      exact ⟨HEX.out, rfl⟩

set_option maxHeartbeats 1000000 in
theorem intCmp_eq (p q : Nat) (hpq : p ≠ q) (n1 n2 : Bool) (a1 a2 : Option Addr) (l1 l2 c1 c2 : Nat) (r : Int) (w : World) (hp : w.heap[p]? = some (.cells #[.bool n1, .slice a1 l1 c1] 70 (0, 0))) (hq : w.heap[q]? = some (.cells #[.bool n2, .slice a2 l2 c2] 70 (0, 0))) (hcmp : ∀ w1, Ext w w1 → Calls Try.prog 65 #[.slice a1 l1 c1, .slice a2 l2 c2] w1 (ValR (.int .i64 r) w1)) (hb : (n1 == n2) = true) (hr : r = -1 ∨ r = 0 ∨ r = 1) :
    Calls Try.prog 71 #[.pointer (some ⟨p, 0, none⟩), .pointer (some ⟨q, 0, none⟩)] w (ValR (.int .i64 (bif n1 then -r else r)) w) := by
  have heql := eqlOther hpq hp hq
  have k0 := blk_cell hp 0
  have k1 := blk_cell hp 1
  have j0 := blk_cell hq 0
  have j1 := blk_cell hq 1
  simp at k0 k1 j0 j1
  clear hp hq
  have HCMP := Lib.hid hcmp
  clear hcmp
  generalize hr2 : (bif n1 then -r else r) = s
  have HR := Lib.hid hr2
  have hrl : -1 ≤ r := by omega
  have hrh : r ≤ 1 := by omega
  clear hr2 hr
  go_enter Try.func71, Try.ntmps71
  go_wp2_with fail
  clear heql
  refine wp_region_D preExt mixed [Is (.pointer (some ⟨p, 0, none⟩)), Is (.pointer (some ⟨p, 0, none⟩)), Is (.pointer (some ⟨p, 0, none⟩)), Is (.bool n1), Is (.pointer (some ⟨q, 0, none⟩)), Is (.pointer (some ⟨q, 0, none⟩)), Is (.pointer (some ⟨q, 0, none⟩)), Is (.bool n2), Is (.bool true)] (by kernel_rfl) ?mono rfl ?steps ?last
  case mono =>
    simp only [List.forall_mem_cons, List.not_mem_nil, false_implies, implies_true, and_true]
    refine ⟨?_, ?_, ?_, ?_, ?_, ?_, ?_, ?_, ?_⟩
    all_goals first | exact fun _ _ _ _ q => q | exact fun _ _ _ he q => q.ext he
  case steps =>
    refine ⟨?_, ?_, ?_, ?_, ?_, ?_, ?_, ?_, ?_, trivial⟩
    all_goals
      intro u0 u1 u2 u3 u4 u5 u6 u7 u8 u9 w1 he hk
      simp [KnownD, Oper.looksAt, Op.operands, Call.operands, List.findIdx?_cons, Act.put] at hk
      simp only [Act.put, List.setIfInBounds_toArray, List.set_cons_succ, List.set_cons_zero]
    · go_wp2_with fail
      exact ⟨rfl, Ext.refl _, by show (_ : Value) = _; (first | rfl | simp); try rfl⟩
    · have k0 := hk
      obtain rfl : u0 = .pointer (some ⟨p, 0, none⟩) := k0
      go_wp2_with fail
      exact ⟨rfl, Ext.refl _, by show (_ : Value) = _; (first | rfl | simp); try rfl⟩
    · have k0 := hk
      obtain rfl : u1 = .pointer (some ⟨p, 0, none⟩) := k0
      go_wp2_with fail
      exact ⟨rfl, Ext.refl _, by show (_ : Value) = _; (first | rfl | simp); try rfl⟩
    · have k0 := hk
      obtain rfl : u2 = .pointer (some ⟨p, 0, none⟩) := k0
      have hc := fun a v h => Ext.cell he (a := a) (v := v) h
      go_wp2_with fail
      exact ⟨rfl, Ext.refl _, by show (_ : Value) = _; rfl⟩
    · go_wp2_with fail
      exact ⟨rfl, Ext.refl _, by show (_ : Value) = _; (first | rfl | simp); try rfl⟩
    · have k0 := hk
      obtain rfl : u4 = .pointer (some ⟨q, 0, none⟩) := k0
      go_wp2_with fail
      exact ⟨rfl, Ext.refl _, by show (_ : Value) = _; (first | rfl | simp); try rfl⟩
    · have k0 := hk
      obtain rfl : u5 = .pointer (some ⟨q, 0, none⟩) := k0
      go_wp2_with fail
      exact ⟨rfl, Ext.refl _, by show (_ : Value) = _; (first | rfl | simp); try rfl⟩
    · have k0 := hk
      obtain rfl : u6 = .pointer (some ⟨q, 0, none⟩) := k0
      have hc := fun a v h => Ext.cell he (a := a) (v := v) h
      go_wp2_with fail
      exact ⟨rfl, Ext.refl _, by show (_ : Value) = _; rfl⟩
    · obtain ⟨k0, k1⟩ := hk
      obtain rfl : u3 = .bool n1 := k0
      obtain rfl : u7 = .bool n2 := k1
      go_wp2_with fail
      exact ⟨rfl, Ext.refl _, by show (_ : Value) = _; (simp [hb]); try rfl⟩
  case last =>
    intro w1 he u0 h0 u1 h1 u2 h2 u3 h3 u4 h4 u5 h5 u6 h6 u7 h7 u8 h8
    obtain rfl : u8 = .bool true := h8
    clear h0 h1 h2 h3 h4 h5 h6 h7
    simp only [LastD, Act.put, List.setIfInBounds_toArray, List.set_cons_succ, List.set_cons_zero]
    have HEX := Lib.hid he
    have k0' := he.cell k0
    have k1' := he.cell k1
    have j0' := he.cell j0
    have j1' := he.cell j1
    clear he k0 k1 j0 j1
    go_wp2_with fail
    obtain ⟨wb, hwb⟩ : ∃ wb : World, wb = w1 := ⟨_, rfl⟩
    rw [← hwb] at k0' k1' j0' j1' HEX ⊢
    clear hwb w1
    rename_i _
    refine wp_region_D preExt mixed [Is (.pointer (some ⟨p, 0, none⟩)), Is (.pointer (some ⟨p, 0, none⟩)), Is (.pointer (some ⟨p, 1, none⟩)), Is (.slice a1 l1 c1), Is (.pointer (some ⟨q, 0, none⟩)), Is (.pointer (some ⟨q, 0, none⟩)), Is (.pointer (some ⟨q, 1, none⟩)), Is (.slice a2 l2 c2), Is (.int .i64 r)] (by kernel_rfl) ?mono rfl ?steps ?last
    case mono =>
      simp only [List.forall_mem_cons, List.not_mem_nil, false_implies, implies_true, and_true]
      refine ⟨?_, ?_, ?_, ?_, ?_, ?_, ?_, ?_, ?_⟩
      all_goals first | exact fun _ _ _ _ q => q | exact fun _ _ _ he q => q.ext he
    case steps =>
      refine ⟨?_, ?_, ?_, ?_, ?_, ?_, ?_, ?_, ?_, trivial⟩
      all_goals
        intro u0 u1 u2 u3 u4 u5 u6 u7 u8 u9 w1 he hk
        simp [KnownD, Oper.looksAt, Op.operands, Call.operands, List.findIdx?_cons, Act.put] at hk
        simp only [Act.put, List.setIfInBounds_toArray, List.set_cons_succ, List.set_cons_zero]
      · go_wp2_with fail
        exact ⟨rfl, Ext.refl _, by show (_ : Value) = _; (first | rfl | simp); try rfl⟩
      · have k0 := hk
        obtain rfl : u0 = .pointer (some ⟨p, 0, none⟩) := k0
        go_wp2_with fail
        exact ⟨rfl, Ext.refl _, by show (_ : Value) = _; (first | rfl | simp); try rfl⟩
      · have k0 := hk
        obtain rfl : u1 = .pointer (some ⟨p, 0, none⟩) := k0
        go_wp2_with fail
        exact ⟨rfl, Ext.refl _, by show (_ : Value) = _; (first | rfl | simp); try rfl⟩
      · have k0 := hk
        obtain rfl : u2 = .pointer (some ⟨p, 1, none⟩) := k0
        have hc := fun a v h => Ext.cell he (a := a) (v := v) h
        go_wp2_with fail
        exact ⟨rfl, Ext.refl _, by show (_ : Value) = _; rfl⟩
      · go_wp2_with fail
        exact ⟨rfl, Ext.refl _, by show (_ : Value) = _; (first | rfl | simp); try rfl⟩
      · have k0 := hk
        obtain rfl : u4 = .pointer (some ⟨q, 0, none⟩) := k0
        go_wp2_with fail
        exact ⟨rfl, Ext.refl _, by show (_ : Value) = _; (first | rfl | simp); try rfl⟩
      · have k0 := hk
        obtain rfl : u5 = .pointer (some ⟨q, 0, none⟩) := k0
        go_wp2_with fail
        exact ⟨rfl, Ext.refl _, by show (_ : Value) = _; (first | rfl | simp); try rfl⟩
      · have k0 := hk
        obtain rfl : u6 = .pointer (some ⟨q, 1, none⟩) := k0
        have hc := fun a v h => Ext.cell he (a := a) (v := v) h
        go_wp2_with fail
        exact ⟨rfl, Ext.refl _, by show (_ : Value) = _; rfl⟩
      · obtain ⟨k0, k1⟩ := hk
        obtain rfl : u3 = .slice a1 l1 c1 := k0
        obtain rfl : u7 = .slice a2 l2 c2 := k1
        go_wp2_with fail
        refine (HCMP.out _ (HEX.out.trans he)).mono ?_
        rintro e w2 ⟨he2, rfl⟩
        go_wp2_with fail
        exact ⟨rfl, he2, rfl⟩
    case last =>
      intro w1 he u0 h0 u1 h1 u2 h2 u3 h3 u4 h4 u5 h5 u6 h6 u7 h7 u8 h8
      obtain rfl : u8 = .int .i64 r := h8
      clear h0 h1 h2 h3 h4 h5 h6 h7
      simp only [LastD, Act.put, List.setIfInBounds_toArray, List.set_cons_succ, List.set_cons_zero]
      have HE := Lib.hid ((Ext.refl _).trans he)
      clear he
      cases n1
      all_goals
        have k0'' := HE.out.cell k0'
        go_wp2_with fail
        go_ret
        rw [← HR.out]
        exact ⟨HEX.out.trans HE.out, rfl⟩

theorem eqlSame (a : Addr) (w : World) : (binOp .eql 50 (.pointer (some a)) (.pointer (some a))).run Try.prog w = .ok (.bool true) w := by
  obtain ⟨j, h1, _⟩ := infoInt'
  exact run_eql_ptr_same w a Try.underlying50 h1

theorem Rd.unique {k : IntKind} {w : World} {a : Option Addr} {n m c c' : Nat} {ws vs : List Nat} (h : Rd k w (.slice a n c) ws) (h' : Rd k w (.slice a m c') vs) (hl : ws.length = vs.length) : ws = vs := by
  obtain ⟨_, a1, c1, e1, _, _, _, r1⟩ := h
  obtain ⟨_, a2, c2, e2, _, _, _, r2⟩ := h'
  simp at e1 e2
  obtain ⟨rfl, _, _⟩ := e1
  obtain ⟨rfl, _, _⟩ := e2
  refine List.ext_getElem hl fun i hi hi' => ?_
  obtain ⟨b, o, q1, q2⟩ := r1 i hi
  obtain ⟨b', o', q3, q4⟩ := r2 i hi'
  rw [q1] at q3
  simp at q3
  obtain ⟨rfl, rfl⟩ := q3
  rw [q2] at q4
  simp only [Option.some.injEq, Value.int.injEq, true_and, List.getD_eq_getElem?_getD, List.getElem?_eq_getElem hi, List.getElem?_eq_getElem hi', Option.getD_some] at q4
  omega

theorem intCmp_same (p : Nat) (w : World) :
    Calls Try.prog 71 #[.pointer (some ⟨p, 0, none⟩), .pointer (some ⟨p, 0, none⟩)] w (ValR (.int .i64 0) w) := by
  have heql := eqlSame ⟨p, 0, none⟩
  go_enter Try.func71, Try.ntmps71
  go_wp2_with fail
  go_ret
  exact ⟨Ext.refl _, rfl⟩

theorem cmpZ_tri (a b : Int) : cmpZ a b = -1 ∨ cmpZ a b = 0 ∨ cmpZ a b = 1 := by
  unfold cmpZ; split
  · exact .inl rfl
  · split
    · exact .inr (.inr rfl)
    · exact .inr (.inl rfl)

theorem cmpZ_neg_abs {a b : Int} (ha : a < 0) (hb : b < 0) : -(cmpZ (a.natAbs : Int) (b.natAbs : Int)) = cmpZ a b := by
  rcases Int.lt_trichotomy a b with q | q | q
  · rw [cmpZ_lt q, cmpZ_gt (by omega)]
  · rw [cmpZ_eq q, cmpZ_eq (by omega)]; rfl
  · rw [cmpZ_gt q, cmpZ_lt (by omega)]; rfl

theorem cmpZ_pos_abs {a b : Int} (ha : ¬ a < 0) (hb : ¬ b < 0) : cmpZ (a.natAbs : Int) (b.natAbs : Int) = cmpZ a b := by
  rw [Int.natAbs_of_nonneg (by omega), Int.natAbs_of_nonneg (by omega)]

theorem intCmp_i (L M : Nat) (a b : Int) (x y : Value) (w : World) (hx : IsI L a x w) (hy : IsI M b y w) (hL : L ≤ 17592186044416) (hM : M ≤ 17592186044416) :
    Calls Try.prog 71 #[x, y] w (ResR (Is (.int .i64 (cmpZ a b))) w) := by
  obtain ⟨p, bp, rfl, hp⟩ := hx
  obtain ⟨q, bq, rfl, hq⟩ := hy
  obtain ⟨a1, c1, ws, h1, h2, h3, h4, h5⟩ := hp.low
  obtain ⟨a2, c2, vs, k1, k2, k3, k4, k5⟩ := hq.low
  have fin : ∀ (r : Int), r = cmpZ a b → ∀ e w', ValR (.int .i64 r) w e w' → ResR (Is (.int .i64 (cmpZ a b))) w e w' := by
    rintro r rfl e w' ⟨he, rfl⟩
    exact ⟨he, _, rfl, rfl⟩
  by_cases hpq : p = q
  · subst hpq
    rw [h1] at k1
    simp at k1
    obtain ⟨e1, e2, e3, e4⟩ := k1
    subst e2 e4
    have hw : ws = vs := Rd.unique h2.read k2.read e3
    subst hw
    have hab : a = b := by
      have : (a < 0 ↔ b < 0) := by
        constructor
        · intro h; have := e1; simp [h] at this; exact this
        · intro h; have := e1; simp [h] at this; exact this
      omega
    exact (intCmp_same p w).mono (fin 0 (cmpZ_eq hab).symm)
  · have hc : cmpW ws vs = cmpZ (a.natAbs : Int) (b.natAbs : Int) := by rw [cmpW, h4, k4]
    by_cases hb : (decide (a < 0) == decide (b < 0)) = true
    · refine (intCmp_eq p q hpq _ _ a1 a2 _ _ c1 c2 (cmpW ws vs) w h1 k1 ?_ hb ?_).mono (fin _ ?_)
      · intro w1 he
        exact cmp_own bp bq _ _ ws vs w1 (h2.ext he) (k2.ext he) h3 k3 (by omega) (by omega)
      · exact cmpZ_tri _ _
      · rw [hc]
        by_cases ha : a < 0
        · have hb' : b < 0 := by simpa [ha] using hb
          simp only [ha, decide_true, cond_true]
          exact cmpZ_neg_abs ha hb'
        · have hb' : ¬ b < 0 := by simpa [ha] using hb
          simp only [ha, decide_false, cond_false]
          exact cmpZ_pos_abs ha hb'
    · have hb1 : (decide (a < 0) == decide (b < 0)) = false := by simpa using hb
      refine (intCmp_neq p q hpq _ _ a1 a2 _ _ c1 c2 w h1 k1 hb1).mono (fin _ ?_)
      by_cases ha : a < 0
      · have hb' : ¬ b < 0 := by intro h; simp [ha, h] at hb1
        simp only [ha, decide_true, cond_true]
        exact (cmpZ_lt (by omega)).symm
      · have hb' : b < 0 := by
          rcases Int.lt_or_le b 0 with h | h
          · exact h
          · have : ¬ b < 0 := by omega
            simp [ha, this] at hb1
        simp only [ha, decide_false, cond_false]
        exact (cmpZ_gt (by omega)).symm

set_option maxHeartbeats 1000000 in
theorem implCmp_z (L M : Nat) (a b : Int) (x0 : Value) (x1 : Value) (w : World)  (hz0 : IsZ (L) (a) x0 w)  (hz1 : IsZ (M) (b) x1 w) (hL : L ≤ 17592186044416) (hM : M ≤ 17592186044416) :
    Calls Try.prog 49 #[x0, x1] w (ResR (Is (.int .i64 (cmpZ a b))) w) := by
  obtain ⟨n0, a0, l0, c0, rfl⟩ := hz0.form
  have HZ0 := Lib.hid hz0
  clear hz0
  obtain ⟨n1, a1, l1, c1, rfl⟩ := hz1.form
  have HZ1 := Lib.hid hz1
  clear hz1
  go_enter Try.func49, Try.ntmps49
  go_wp2_with fail
  refine wp_region_D preExt mixed [IsZ (L) (a), IsI (L) (a), IsZ (M) (b), IsI (M) (b), Is (.int .i64 (cmpZ (a) (b)))] (by kernel_rfl) ?mono rfl ?steps ?last
  case mono =>
    simp only [List.forall_mem_cons, List.not_mem_nil, false_implies, implies_true, and_true]
    refine ⟨?_, ?_, ?_, ?_, ?_⟩
    all_goals first | exact fun _ _ _ _ q => q | exact fun _ _ _ he q => q.ext he
  case steps =>
    refine ⟨?_, ?_, ?_, ?_, ?_, trivial⟩
    all_goals
      intro u0 u1 u2 u3 u4 u5 w1 he hk
      simp [KnownD, Oper.looksAt, Op.operands, Call.operands, List.findIdx?_cons, Act.put] at hk
      simp only [Act.put, List.setIfInBounds_toArray, List.set_cons_succ, List.set_cons_zero]
    · have hb := he.block ((Ext.alloc _ _).block (heap_alloc_new _ _))
      have hc0 := blk_cell hb 0
      have hc1 := blk_cell hb 1
      simp at hc0 hc1
      clear hb
      go_wp2_with fail
      exact ⟨rfl, Ext.refl _, HZ0.out.ext (((Ext.alloc _ _).trans (Ext.alloc _ _)).trans he)⟩
    · have k0 := hk
      have H0 := Lib.hid k0
      clear k0
      go_wp2_with fail
      refine (integer_i (L) (a) _ _ (H0.out) (by omega)).mono ?_
      rintro e w2 ⟨he2, x, rfl, hx⟩
      have HX := Lib.hid hx
      clear hx
      go_wp2_with fail
      exact ⟨rfl, he2, HX.out⟩
    · have hb := he.block (heap_second _ _ _)
      have hc0 := blk_cell hb 0
      have hc1 := blk_cell hb 1
      simp at hc0 hc1
      clear hb
      go_wp2_with fail
      exact ⟨rfl, Ext.refl _, HZ1.out.ext (((Ext.alloc _ _).trans (Ext.alloc _ _)).trans he)⟩
    · have k0 := hk
      have H0 := Lib.hid k0
      clear k0
      go_wp2_with fail
      refine (integer_i (M) (b) _ _ (H0.out) (by omega)).mono ?_
      rintro e w2 ⟨he2, x, rfl, hx⟩
      have HX := Lib.hid hx
      clear hx
      go_wp2_with fail
      exact ⟨rfl, he2, HX.out⟩
    · obtain ⟨k0, k1⟩ := hk
      have H0 := Lib.hid k0
      have H1 := Lib.hid k1
      clear k0 k1
      go_wp2_with fail
      refine (intCmp_i (L) (M) (a) (b) _ _ _ H0.out H1.out (by omega) (by omega)).mono ?_
      rintro e w2 ⟨he2, x, rfl, hx⟩
      obtain rfl : x = .int .i64 (cmpZ (a) (b)) := hx
      go_wp2_with fail
      exact ⟨rfl, he2, rfl⟩
  case last =>
    intro w1 he u0 h0 u1 h1 u2 h2 u3 h3 u4 h4
    obtain rfl : u4 = .int .i64 (cmpZ (a) (b)) := h4
    clear h0 h1 h2 h3
    simp only [LastD, Act.put, List.setIfInBounds_toArray, List.set_cons_succ, List.set_cons_zero]
    have HE := Lib.hid (((Ext.alloc _ _).trans (Ext.alloc _ _)).trans he)
    clear he
    go_wp2_with fail
    go_ret
    exact ⟨HE.out, _, rfl, rfl⟩

set_option maxHeartbeats 1000000 in
theorem compare_z (L M : Nat) (a b : Int) (x0 : Value) (x1 : Value) (w : World)  (hz0 : IsZ (L) (a) x0 w)  (hz1 : IsZ (M) (b) x1 w) (hL : L ≤ 17592186044416) (hM : M ≤ 17592186044416) :
    Calls Try.prog 29 #[x0, x1] w (ResR (Is (.int .i64 (cmpZ a b))) w) := by
  obtain ⟨n0, a0, l0, c0, rfl⟩ := hz0.form
  have HZ0 := Lib.hid hz0
  clear hz0
  obtain ⟨n1, a1, l1, c1, rfl⟩ := hz1.form
  have HZ1 := Lib.hid hz1
  clear hz1
  go_enter Try.func29, Try.ntmps29
  go_wp2_with fail
  refine wp_region_D preExt mixed [IsZ (L) (a), IsW (L) (a), IsZ (M) (b), IsW (M) (b), Is (.int .i64 (cmpZ (a) (b)))] (by kernel_rfl) ?mono rfl ?steps ?last
  case mono =>
    simp only [List.forall_mem_cons, List.not_mem_nil, false_implies, implies_true, and_true]
    refine ⟨?_, ?_, ?_, ?_, ?_⟩
    all_goals first | exact fun _ _ _ _ q => q | exact fun _ _ _ he q => q.ext he
  case steps =>
    refine ⟨?_, ?_, ?_, ?_, ?_, trivial⟩
    all_goals
      intro u0 u1 u2 u3 u4 u5 w1 he hk
      simp [KnownD, Oper.looksAt, Op.operands, Call.operands, List.findIdx?_cons, Act.put] at hk
      simp only [Act.put, List.setIfInBounds_toArray, List.set_cons_succ, List.set_cons_zero]
    · have hb := he.block ((Ext.alloc _ _).block (heap_alloc_new _ _))
      have hc0 := blk_cell hb 0
      have hc1 := blk_cell hb 1
      simp at hc0 hc1
      clear hb
      go_wp2_with fail
      exact ⟨rfl, Ext.refl _, HZ0.out.ext (((Ext.alloc _ _).trans (Ext.alloc _ _)).trans he)⟩
    · have k0 := hk
      have H0 := Lib.hid k0
      clear k0
      go_wp2_with fail
      refine (toImpl_z (L) (a) _ _ (H0.out) (by omega)).mono ?_
      rintro e w2 ⟨he2, x, rfl, hx⟩
      have HX := Lib.hid hx
      clear hx
      go_wp2_with fail
      exact ⟨rfl, he2, HX.out⟩
    · have hb := he.block (heap_second _ _ _)
      have hc0 := blk_cell hb 0
      have hc1 := blk_cell hb 1
      simp at hc0 hc1
      clear hb
      go_wp2_with fail
      exact ⟨rfl, Ext.refl _, HZ1.out.ext (((Ext.alloc _ _).trans (Ext.alloc _ _)).trans he)⟩
    · have k0 := hk
      have H0 := Lib.hid k0
      clear k0
      go_wp2_with fail
      refine (toImpl_z (M) (b) _ _ (H0.out) (by omega)).mono ?_
      rintro e w2 ⟨he2, x, rfl, hx⟩
      have HX := Lib.hid hx
      clear hx
      go_wp2_with fail
      exact ⟨rfl, he2, HX.out⟩
    · obtain ⟨k0, k1⟩ := hk
      have H0 := Lib.hid k0
      have H1 := Lib.hid k1
      clear k0 k1
      go_wp2_with fail
      refine (implCmp_z (L) (M) (a) (b) _ _ _ (H0.out.z) (H1.out.z) (by omega) (by omega)).mono ?_
      rintro e w2 ⟨he2, x, rfl, hx⟩
      obtain rfl : x = .int .i64 (cmpZ (a) (b)) := hx
      go_wp2_with fail
      exact ⟨rfl, he2, rfl⟩
  case last =>
    intro w1 he u0 h0 u1 h1 u2 h2 u3 h3 u4 h4
    obtain rfl : u4 = .int .i64 (cmpZ (a) (b)) := h4
    clear h0 h1 h2 h3
    simp only [LastD, Act.put, List.setIfInBounds_toArray, List.set_cons_succ, List.set_cons_zero]
    have HE := Lib.hid (((Ext.alloc _ _).trans (Ext.alloc _ _)).trans he)
    clear he
    go_wp2_with fail
    go_ret
    exact ⟨HE.out, _, rfl, rfl⟩

end Go.Proofs.Ytacmojhladdalaa

