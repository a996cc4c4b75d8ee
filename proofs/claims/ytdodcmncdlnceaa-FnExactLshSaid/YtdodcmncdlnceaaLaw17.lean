/- FnExactLsh (printed by lawgen.py). -/
import Derived.Test.YtdodcmncdlnceaaTold
import Derived.Test.YtdodcmncdlnceaaLshZ
import Derived.Test.YtdodcmncdlnceaaPow
set_option linter.unusedSimpArgs false
set_option linter.unusedVariables false
namespace Go.Proofs.Ytdodcmncdlnceaa
open Go.RowKit

def AtZ (n0 : Nat) (v : Value) (w : World) : Prop := ∃ p, v = .pointer (some ⟨p, 0, none⟩) ∧ w.heap[p]? = some (.cells #[.bool false, .slice none 0 0, .bool false, .slice none 0 0, .bool false, .slice none 0 0] 36 (0, 0)) ∧ n0 ≤ p

theorem AtZ.ext {n0 : Nat} {v : Value} {w w' : World} (h : AtZ n0 v w) (he : Ext w w') : AtZ n0 v w' := by
  obtain ⟨p, h1, h2, h3⟩ := h
  exact ⟨p, h1, he.block h2, h3⟩

theorem IsT.upd {L : Nat} {z x y : Int} {v : Value} {w w' : World} {p : Nat} {cs : Array Value} {T : TypeId} {fr : Nat × Nat} (h : IsT L z x y v w) (hp : w.heap[p]? = some (.cells cs T fr)) (hT : T ≠ 32) (hu : Upd (· = p) w w') : IsT L z x y v w' := by
  obtain ⟨n1, s1, n2, s2, n3, s3, h0, h1, h2, h3⟩ := h
  exact ⟨n1, s1, n2, s2, n3, s3, h0, h1.upd hp hT hu, h2.upd hp hT hu, h3.upd hp hT hu⟩

theorem IsT.form {L : Nat} {z x y : Int} {v : Value} {w : World} (h : IsT L z x y v w) : ∃ n1 a1 l1 c1 n2 a2 l2 c2 n3 a3 l3 c3, v = .agg #[.bool n1, .slice a1 l1 c1, .bool n2, .slice a2 l2 c2, .bool n3, .slice a3 l3 c3] := by
  obtain ⟨n1, s1, n2, s2, n3, s3, rfl, h1, h2, h3⟩ := h
  obtain ⟨m1, a1, l1, c1, e1⟩ := h1.form
  obtain ⟨m2, a2, l2, c2, e2⟩ := h2.form
  obtain ⟨m3, a3, l3, c3, e3⟩ := h3.form
  simp at e1 e2 e3
  obtain ⟨rfl, rfl⟩ := e1
  obtain ⟨rfl, rfl⟩ := e2
  obtain ⟨rfl, rfl⟩ := e3
  exact ⟨_, _, _, _, _, _, _, _, _, _, _, _, rfl⟩

theorem specLsh_n (L : Nat) (z : Int) (s : Nat) (x : Value) (w : World) (h : IsZ L z x w) (hs : s ≤ 4096) (hL : L + 66 ≤ 17592186044416) : Calls Try.prog 17 #[x, .int .u64 (s : Nat)] w (ResR (IsC (L + 65) (z * 2 ^ s)) w) :=
  (specLsh_z L z s x w h (by omega) (by omega)).mono fun e w' ⟨h1, y, h2, h3⟩ => ⟨h1, y, h2, h3.mono (by omega)⟩

theorem implLsh_n (k : Int) (L : Nat) (zz z : Int) (s : Nat) (Z X : Value) (w : World) (hZ : IsZ L zz Z w) (hX : IsZ L z X w) (hs : s ≤ 4096) (hL : L + 65 ≤ 17592186044416) :
    Calls Try.prog 18 #[.int .i64 k, Z, X, .int .u64 (s : Nat)] w (ResR (IsT (L + 65) (z * 2 ^ s) (after1 k (z * 2 ^ s) z) 0) w) :=
  (implLsh_z k L zz z s Z X w hZ hX (by omega) (by omega)).mono fun e w' ⟨h1, y, h2, n1, s1, n2, s2, n3, s3, g0, g1, g2, g3⟩ => ⟨h1, y, h2, n1, s1, n2, s2, n3, s3, g0, g1.mono (by omega), g2.mono (by omega), g3.mono (by omega)⟩

set_option maxHeartbeats 1000000 in
theorem fnExactLsh_big (k : Int) (n1 : Bool) (v1 : Value) (ws1 : List Nat) (n2 : Bool) (v2 : Value) (ws2 : List Nat) (w : World) (hr1 : Rd .u64 w v1 ws1) (hr2 : Rd .u64 w v2 ws2) (n : Nat) (hn : 4096 < n) (hn2 : n < 18446744073709551616) :
    Calls Try.prog 4 #[.int .i64 k, .agg #[.bool n1, v1], .agg #[.bool n2, v2], .int .u64 (n : Nat)] w (ValR (.bool true) w) := by
  obtain ⟨a1, c1, rfl⟩ := hr1.form
  obtain ⟨a2, c2, rfl⟩ := hr2.form
  clear hr1 hr2
  go_enter Try.func4, Try.ntmps4
  go_wp2_with fail
  go_ret
  exact ⟨(Ext.alloc _ _).trans (Ext.alloc _ _), rfl⟩

set_option maxHeartbeats 1000000 in
theorem fnExactLsh_t (k : Int) (n1 : Bool) (v1 : Value) (ws1 : List Nat) (n2 : Bool) (v2 : Value) (ws2 : List Nat) (w : World) (hr1 : Rd .u64 w v1 ws1) (hl1 : ws1.length ≤ 17592186043904) (hr2 : Rd .u64 w v2 ws2) (hl2 : ws2.length ≤ 17592186043904) (n : Nat) (hn : n ≤ 4096) (b1 : (k == 1) = true) :
    Calls Try.prog 4 #[.int .i64 k, .agg #[.bool n1, v1], .agg #[.bool n2, v2], .int .u64 (n : Nat)] w (ValR (.bool true) w) := by
  obtain ⟨a1, c1, rfl⟩ := hr1.form
  have hz1 : IsZ 17592186043904 (ival n1 ws1) (.agg #[.bool n1, .slice a1 ws1.length c1]) w := ⟨n1, _, ws1, rfl, hr1, hl1, rfl⟩
  generalize ival n1 ws1 = zz at hz1
  have HZ1 := Lib.hid hz1
  clear hz1 hr1
  obtain ⟨a2, c2, rfl⟩ := hr2.form
  have hz2 : IsZ 17592186043904 (ival n2 ws2) (.agg #[.bool n2, .slice a2 ws2.length c2]) w := ⟨n2, _, ws2, rfl, hr2, hl2, rfl⟩
  generalize ival n2 ws2 = x at hz2
  have HZ2 := Lib.hid hz2
  clear hz2 hr2
  go_enter Try.func4, Try.ntmps4
  go_wp2_with fail
  refine (toSpec_z 17592186043904 x _ _ (HZ2.out.ext ((Ext.alloc _ _).trans (Ext.alloc _ _))) (by omega)).mono ?_
  rintro e w1 ⟨he, y1, rfl, hy⟩
  have HY1 := Lib.hid hy
  have HB := Lib.hid he
  clear hy he
  go_wp2_with fail
  refine (specLsh_n 17592186043904 x n _ _ (HY1.out.z) (by omega) (by omega)).mono ?_
  rintro e w2 ⟨he, y2, rfl, hy⟩
  have HY2 := Lib.hid hy
  replace HB := Lib.hid (HB.out.trans he)
  clear hy he HY1
  go_wp2_with fail
  refine (fromSpec_z 17592186043969 ((x) * 2 ^ n) _ _ (HY2.out.w)).mono ?_
  rintro e w3 ⟨he, y3, rfl, hy⟩
  have HY3 := Lib.hid hy
  replace HB := Lib.hid (HB.out.trans he)
  clear hy he HY2
  obtain ⟨m, aa, ll, cc, rfl⟩ := HY3.out.form
  go_wp2_with fail
  have g1 := (Ext.alloc w3 (.cells #[.bool m, .slice aa ll cc] 24)).block (HB.out.block ((Ext.alloc _ _).block (heap_alloc_new w (.cells #[.bool n1, .slice a1 ws1.length c1] 24))))
  have g2 := (Ext.alloc w3 (.cells #[.bool m, .slice aa ll cc] 24)).block (HB.out.block (heap_second w (.cells #[.bool n1, .slice a1 ws1.length c1] 24) (.cells #[.bool n2, .slice a2 ws2.length c2] 24)))
  have g3 := heap_alloc_new w3 (.cells #[.bool m, .slice aa ll cc] 24)
  have hsz3 : w.heap.size + 1 + 1 ≤ w3.heap.size := by have := HB.out.size; simp at this; omega
  have hsz4 : w3.heap.size < (w3.alloc (.cells #[.bool m, .slice aa ll cc] 24)).heap.size := by simp
  have HE0 := Lib.hid ((((Ext.alloc _ _).trans (Ext.alloc _ _)).trans HB.out).trans (Ext.alloc w3 (.cells #[.bool m, .slice aa ll cc] 24)))
  replace HY3 := Lib.hid (HY3.out.ext (Ext.alloc w3 (.cells #[.bool m, .slice aa ll cc] 24)))
  clear HB
  generalize hp3 : w3.heap.size = p3 at *
  generalize w3.alloc (.cells #[.bool m, .slice aa ll cc] 24) = w4 at *
  generalize hn0 : w4.heap.size = N0 at *
  have G1 := Lib.hid g1
  have G2 := Lib.hid g2
  have G3 := Lib.hid g3
  clear g1 g2 g3
  refine wp_region_D preExt mixed [Is (.int .i64 k), IsZ (17592186043904) (zz), IsW (17592186043904) (zz), IsZ (17592186043904) (x), IsW (17592186043904) (x), Is (.int .u64 (n : Nat)), IsT (17592186043969) ((x) * 2 ^ n) (after1 k ((x) * 2 ^ n) (x)) (0), AtZ N0] (by kernel_rfl) ?mono rfl ?steps ?last
  case mono =>
    simp only [List.forall_mem_cons, List.not_mem_nil, false_implies, implies_true, and_true]
    refine ⟨?_, ?_, ?_, ?_, ?_, ?_, ?_, ?_⟩
    all_goals first | exact fun _ _ _ _ q => q | exact fun _ _ _ he q => q.ext he
  case steps =>
    refine ⟨?_, ?_, ?_, ?_, ?_, ?_, ?_, ?_, trivial⟩
    all_goals
      intro u0 u1 u2 u3 u4 u5 u6 u7 u8 w1 he hk
      simp [KnownD, Oper.looksAt, Op.operands, Call.operands, List.findIdx?_cons, Act.put] at hk
      simp only [Act.put, List.setIfInBounds_toArray, List.set_cons_succ, List.set_cons_zero]
    · go_wp2_with fail
      exact ⟨rfl, Ext.refl _, by show (_ : Value) = _; (first | rfl | simp); try rfl⟩
    · have hb := he.block G1.out
      have q0 := blk_cell hb 0
      have q1 := blk_cell hb 1
      simp at q0 q1
      clear hb
      go_wp2_with fail
      exact ⟨rfl, Ext.refl _, HZ1.out.ext (HE0.out.trans he)⟩
    · have k0 := hk
      have H0 := Lib.hid k0
      clear k0
      go_wp2_with fail
      refine (toImpl_z (17592186043904) (zz) _ _ (H0.out) (by omega)).mono ?_
      rintro e w2 ⟨he2, x, rfl, hx⟩
      have HX := Lib.hid hx
      clear hx
      go_wp2_with fail
      exact ⟨rfl, he2, HX.out⟩
    · have hb := he.block G2.out
      have q0 := blk_cell hb 0
      have q1 := blk_cell hb 1
      simp at q0 q1
      clear hb
      go_wp2_with fail
      exact ⟨rfl, Ext.refl _, HZ2.out.ext (HE0.out.trans he)⟩
    · have k0 := hk
      have H0 := Lib.hid k0
      clear k0
      go_wp2_with fail
      refine (toImpl_z (17592186043904) (x) _ _ (H0.out) (by omega)).mono ?_
      rintro e w2 ⟨he2, x, rfl, hx⟩
      have HX := Lib.hid hx
      clear hx
      go_wp2_with fail
      exact ⟨rfl, he2, HX.out⟩
    · go_wp2_with fail
      exact ⟨rfl, Ext.refl _, by show (_ : Value) = _; (first | rfl | simp); try rfl⟩
    · obtain ⟨k0, k1, k2, k3⟩ := hk
      obtain rfl : u0 = .int .i64 k := k0
      obtain rfl : u5 = .int .u64 (n : Nat) := k3
      have H1 := Lib.hid k1
      have H2 := Lib.hid k2
      clear k1 k2
      go_wp2_with fail
      refine (implLsh_n k (17592186043904) (zz) (x) n _ _ _ (H1.out.z) (H2.out.z) (by omega) (by omega)).mono ?_
      rintro e w2 ⟨he2, x, rfl, hx⟩
      have HX := Lib.hid hx
      clear hx
      go_wp2_with fail
      exact ⟨rfl, he2, HX.out⟩
    · have hsz : N0 ≤ w1.heap.size := by have := he.size; omega
      go_wp2_with fail
      exact ⟨rfl, Ext.alloc _ _, _, rfl, heap_alloc_new _ _, hsz⟩
  case last =>
    rename_i K aK
    have AK := Lib.hid aK
    clear aK
    intro w5 he u0 h0 u1 h1 u2 h2 u3 h3 u4 h4 u5 h5 u6 h6 u7 h7
    obtain ⟨p, rfl, hp, hge⟩ := h7
    clear h0 h1 h2 h3 h4 h5
    obtain ⟨r1, e1, f1, i1, r2, e2, f2, i2, r3, e3, f3, i3, rfl⟩ := h6.form
    simp only [LastD, Act.put, List.setIfInBounds_toArray, List.set_cons_succ, List.set_cons_zero]
    have d0 := blk_cell hp 0
    have d1 := blk_cell hp 1
    have d2 := blk_cell hp 2
    have d3 := blk_cell hp 3
    have d4 := blk_cell hp 4
    have d5 := blk_cell hp 5
    have f0 := blk_free hp 0
    have f1' := blk_free hp 1
    have f2' := blk_free hp 2
    have f3' := blk_free hp 3
    have f4 := blk_free hp 4
    have f5 := blk_free hp 5
    simp at d0 d1 d2 d3 d4 d5
    have HP := Lib.hid hp
    have HT := Lib.hid h6
    have HE5 := Lib.hid he
    have HGE := Lib.hid hge
    have HSZ3 := Lib.hid hsz3
    have HSZ4 := Lib.hid hsz4
    clear hp h6 he hge hsz3 hsz4
    go_wp2_with fail
    have hh := put6_heap HP.out (.bool r1) (.slice e1 f1 i1) (.bool r2) (.slice e2 f2 i2) (.bool r3) (.slice e3 f3 i3)
    have hu := put6_upd w5 p (.bool r1) (.slice e1 f1 i1) (.bool r2) (.slice e2 f2 i2) (.bool r3) (.slice e3 f3 i3)
    change K _ (put6 w5 p (.bool r1) (.slice e1 f1 i1) (.bool r2) (.slice e2 f2 i2) (.bool r3) (.slice e3 f3 i3))
    have HT7 := Lib.hid (HT.out.upd HP.out (by decide) hu)
    have HW7 := Lib.hid ((HY3.out.ext HE5.out).upd HP.out (by decide) hu)
    have HE7 := Lib.hid (hu.ext (HE0.out.trans HE5.out) (by intro i hi; subst hi; have := HGE.out; have := HSZ3.out; have := HSZ4.out; omega))
    have hq2 := hu.heap (HE5.out.block G2.out) (by have := HGE.out; have := HSZ3.out; have := HSZ4.out; omega)
    have hq3 := hu.heap (HE5.out.block G3.out) (by have := HGE.out; have := HSZ3.out; have := HSZ4.out; omega)
    generalize put6 w5 p (.bool r1) (.slice e1 f1 i1) (.bool r2) (.slice e2 f2 i2) (.bool r3) (.slice e3 f3 i3) = w7 at *
    clear d0 d1 d2 d3 d4 d5 f0 f1' f2' f3' f4 f5 HP HT HY3 HE5 HE0 G1 G2 G3 hu
    have d0 := blk_cell hh 0
    have d1 := blk_cell hh 1
    have d2 := blk_cell hh 2
    have d3 := blk_cell hh 3
    have d4 := blk_cell hh 4
    have d5 := blk_cell hh 5
    have x0 := blk_cell hq2 0
    have x1 := blk_cell hq2 1
    have v0 := blk_cell hq3 0
    have v1 := blk_cell hq3 1
    simp at d0 d1 d2 d3 d4 d5 x0 x1 v0 v1
    clear hh hq2 hq3
    refine AK.out _ _ ?_
    clear AK
    go_wp2_with fail
    refine (told_z 1 17592186043969 17592186043904 0 17592186043969 x 0 ((x) * 2 ^ n) _ _ _ _ _ (by simpa [toldA, toldB, after1, (by simpa using b1 : k = 1)] using HT7.out) (HZ2.out.ext HE7.out) (IsZ.zeroN _) (HW7.out.z) (by omega) (by omega) (by omega) (by omega)).mono ?_
    rintro e w8 ⟨he, y8, rfl, hy⟩
    obtain rfl : y8 = .bool true := hy
    replace HE7 := Lib.hid (HE7.out.trans he)
    clear he
    go_wp2_with fail
    go_ret
    exact ⟨HE7.out, rfl⟩


set_option maxHeartbeats 1000000 in
theorem fnExactLsh_f (k : Int) (n1 : Bool) (v1 : Value) (ws1 : List Nat) (n2 : Bool) (v2 : Value) (ws2 : List Nat) (w : World) (hr1 : Rd .u64 w v1 ws1) (hl1 : ws1.length ≤ 17592186043904) (hr2 : Rd .u64 w v2 ws2) (hl2 : ws2.length ≤ 17592186043904) (n : Nat) (hn : n ≤ 4096) (b1 : (k == 1) = false) :
    Calls Try.prog 4 #[.int .i64 k, .agg #[.bool n1, v1], .agg #[.bool n2, v2], .int .u64 (n : Nat)] w (ValR (.bool true) w) := by
  obtain ⟨a1, c1, rfl⟩ := hr1.form
  have hz1 : IsZ 17592186043904 (ival n1 ws1) (.agg #[.bool n1, .slice a1 ws1.length c1]) w := ⟨n1, _, ws1, rfl, hr1, hl1, rfl⟩
  generalize ival n1 ws1 = zz at hz1
  have HZ1 := Lib.hid hz1
  clear hz1 hr1
  obtain ⟨a2, c2, rfl⟩ := hr2.form
  have hz2 : IsZ 17592186043904 (ival n2 ws2) (.agg #[.bool n2, .slice a2 ws2.length c2]) w := ⟨n2, _, ws2, rfl, hr2, hl2, rfl⟩
  generalize ival n2 ws2 = x at hz2
  have HZ2 := Lib.hid hz2
  clear hz2 hr2
  go_enter Try.func4, Try.ntmps4
  go_wp2_with fail
  refine (toSpec_z 17592186043904 x _ _ (HZ2.out.ext ((Ext.alloc _ _).trans (Ext.alloc _ _))) (by omega)).mono ?_
  rintro e w1 ⟨he, y1, rfl, hy⟩
  have HY1 := Lib.hid hy
  have HB := Lib.hid he
  clear hy he
  go_wp2_with fail
  refine (specLsh_n 17592186043904 x n _ _ (HY1.out.z) (by omega) (by omega)).mono ?_
  rintro e w2 ⟨he, y2, rfl, hy⟩
  have HY2 := Lib.hid hy
  replace HB := Lib.hid (HB.out.trans he)
  clear hy he HY1
  go_wp2_with fail
  refine (fromSpec_z 17592186043969 ((x) * 2 ^ n) _ _ (HY2.out.w)).mono ?_
  rintro e w3 ⟨he, y3, rfl, hy⟩
  have HY3 := Lib.hid hy
  replace HB := Lib.hid (HB.out.trans he)
  clear hy he HY2
  obtain ⟨m, aa, ll, cc, rfl⟩ := HY3.out.form
  go_wp2_with fail
  have g1 := (Ext.alloc w3 (.cells #[.bool m, .slice aa ll cc] 24)).block (HB.out.block ((Ext.alloc _ _).block (heap_alloc_new w (.cells #[.bool n1, .slice a1 ws1.length c1] 24))))
  have g2 := (Ext.alloc w3 (.cells #[.bool m, .slice aa ll cc] 24)).block (HB.out.block (heap_second w (.cells #[.bool n1, .slice a1 ws1.length c1] 24) (.cells #[.bool n2, .slice a2 ws2.length c2] 24)))
  have g3 := heap_alloc_new w3 (.cells #[.bool m, .slice aa ll cc] 24)
  have hsz3 : w.heap.size + 1 + 1 ≤ w3.heap.size := by have := HB.out.size; simp at this; omega
  have hsz4 : w3.heap.size < (w3.alloc (.cells #[.bool m, .slice aa ll cc] 24)).heap.size := by simp
  have HE0 := Lib.hid ((((Ext.alloc _ _).trans (Ext.alloc _ _)).trans HB.out).trans (Ext.alloc w3 (.cells #[.bool m, .slice aa ll cc] 24)))
  replace HY3 := Lib.hid (HY3.out.ext (Ext.alloc w3 (.cells #[.bool m, .slice aa ll cc] 24)))
  clear HB
  generalize hp3 : w3.heap.size = p3 at *
  generalize w3.alloc (.cells #[.bool m, .slice aa ll cc] 24) = w4 at *
  generalize hn0 : w4.heap.size = N0 at *
  have G1 := Lib.hid g1
  have G2 := Lib.hid g2
  have G3 := Lib.hid g3
  clear g1 g2 g3
  refine wp_region_D preExt mixed [Is (.int .i64 k), IsZ (17592186043904) (zz), IsW (17592186043904) (zz), IsZ (17592186043904) (x), IsW (17592186043904) (x), Is (.int .u64 (n : Nat)), IsT (17592186043969) ((x) * 2 ^ n) (after1 k ((x) * 2 ^ n) (x)) (0), AtZ N0] (by kernel_rfl) ?mono rfl ?steps ?last
  case mono =>
    simp only [List.forall_mem_cons, List.not_mem_nil, false_implies, implies_true, and_true]
    refine ⟨?_, ?_, ?_, ?_, ?_, ?_, ?_, ?_⟩
    all_goals first | exact fun _ _ _ _ q => q | exact fun _ _ _ he q => q.ext he
  case steps =>
    refine ⟨?_, ?_, ?_, ?_, ?_, ?_, ?_, ?_, trivial⟩
    all_goals
      intro u0 u1 u2 u3 u4 u5 u6 u7 u8 w1 he hk
      simp [KnownD, Oper.looksAt, Op.operands, Call.operands, List.findIdx?_cons, Act.put] at hk
      simp only [Act.put, List.setIfInBounds_toArray, List.set_cons_succ, List.set_cons_zero]
    · go_wp2_with fail
      exact ⟨rfl, Ext.refl _, by show (_ : Value) = _; (first | rfl | simp); try rfl⟩
    · have hb := he.block G1.out
      have q0 := blk_cell hb 0
      have q1 := blk_cell hb 1
      simp at q0 q1
      clear hb
      go_wp2_with fail
      exact ⟨rfl, Ext.refl _, HZ1.out.ext (HE0.out.trans he)⟩
    · have k0 := hk
      have H0 := Lib.hid k0
      clear k0
      go_wp2_with fail
      refine (toImpl_z (17592186043904) (zz) _ _ (H0.out) (by omega)).mono ?_
      rintro e w2 ⟨he2, x, rfl, hx⟩
      have HX := Lib.hid hx
      clear hx
      go_wp2_with fail
      exact ⟨rfl, he2, HX.out⟩
    · have hb := he.block G2.out
      have q0 := blk_cell hb 0
      have q1 := blk_cell hb 1
      simp at q0 q1
      clear hb
      go_wp2_with fail
      exact ⟨rfl, Ext.refl _, HZ2.out.ext (HE0.out.trans he)⟩
    · have k0 := hk
      have H0 := Lib.hid k0
      clear k0
      go_wp2_with fail
      refine (toImpl_z (17592186043904) (x) _ _ (H0.out) (by omega)).mono ?_
      rintro e w2 ⟨he2, x, rfl, hx⟩
      have HX := Lib.hid hx
      clear hx
      go_wp2_with fail
      exact ⟨rfl, he2, HX.out⟩
    · go_wp2_with fail
      exact ⟨rfl, Ext.refl _, by show (_ : Value) = _; (first | rfl | simp); try rfl⟩
    · obtain ⟨k0, k1, k2, k3⟩ := hk
      obtain rfl : u0 = .int .i64 k := k0
      obtain rfl : u5 = .int .u64 (n : Nat) := k3
      have H1 := Lib.hid k1
      have H2 := Lib.hid k2
      clear k1 k2
      go_wp2_with fail
      refine (implLsh_n k (17592186043904) (zz) (x) n _ _ _ (H1.out.z) (H2.out.z) (by omega) (by omega)).mono ?_
      rintro e w2 ⟨he2, x, rfl, hx⟩
      have HX := Lib.hid hx
      clear hx
      go_wp2_with fail
      exact ⟨rfl, he2, HX.out⟩
    · have hsz : N0 ≤ w1.heap.size := by have := he.size; omega
      go_wp2_with fail
      exact ⟨rfl, Ext.alloc _ _, _, rfl, heap_alloc_new _ _, hsz⟩
  case last =>
    rename_i K aK
    have AK := Lib.hid aK
    clear aK
    intro w5 he u0 h0 u1 h1 u2 h2 u3 h3 u4 h4 u5 h5 u6 h6 u7 h7
    obtain ⟨p, rfl, hp, hge⟩ := h7
    clear h0 h1 h2 h3 h4 h5
    obtain ⟨r1, e1, f1, i1, r2, e2, f2, i2, r3, e3, f3, i3, rfl⟩ := h6.form
    simp only [LastD, Act.put, List.setIfInBounds_toArray, List.set_cons_succ, List.set_cons_zero]
    have d0 := blk_cell hp 0
    have d1 := blk_cell hp 1
    have d2 := blk_cell hp 2
    have d3 := blk_cell hp 3
    have d4 := blk_cell hp 4
    have d5 := blk_cell hp 5
    have f0 := blk_free hp 0
    have f1' := blk_free hp 1
    have f2' := blk_free hp 2
    have f3' := blk_free hp 3
    have f4 := blk_free hp 4
    have f5 := blk_free hp 5
    simp at d0 d1 d2 d3 d4 d5
    have HP := Lib.hid hp
    have HT := Lib.hid h6
    have HE5 := Lib.hid he
    have HGE := Lib.hid hge
    have HSZ3 := Lib.hid hsz3
    have HSZ4 := Lib.hid hsz4
    clear hp h6 he hge hsz3 hsz4
    go_wp2_with fail
    have hh := put6_heap HP.out (.bool r1) (.slice e1 f1 i1) (.bool r2) (.slice e2 f2 i2) (.bool r3) (.slice e3 f3 i3)
    have hu := put6_upd w5 p (.bool r1) (.slice e1 f1 i1) (.bool r2) (.slice e2 f2 i2) (.bool r3) (.slice e3 f3 i3)
    change K _ (put6 w5 p (.bool r1) (.slice e1 f1 i1) (.bool r2) (.slice e2 f2 i2) (.bool r3) (.slice e3 f3 i3))
    have HT7 := Lib.hid (HT.out.upd HP.out (by decide) hu)
    have HW7 := Lib.hid ((HY3.out.ext HE5.out).upd HP.out (by decide) hu)
    have HE7 := Lib.hid (hu.ext (HE0.out.trans HE5.out) (by intro i hi; subst hi; have := HGE.out; have := HSZ3.out; have := HSZ4.out; omega))
    have hq2 := hu.heap (HE5.out.block G2.out) (by have := HGE.out; have := HSZ3.out; have := HSZ4.out; omega)
    have hq3 := hu.heap (HE5.out.block G3.out) (by have := HGE.out; have := HSZ3.out; have := HSZ4.out; omega)
    generalize put6 w5 p (.bool r1) (.slice e1 f1 i1) (.bool r2) (.slice e2 f2 i2) (.bool r3) (.slice e3 f3 i3) = w7 at *
    clear d0 d1 d2 d3 d4 d5 f0 f1' f2' f3' f4 f5 HP HT HY3 HE5 HE0 G1 G2 G3 hu
    have d0 := blk_cell hh 0
    have d1 := blk_cell hh 1
    have d2 := blk_cell hh 2
    have d3 := blk_cell hh 3
    have d4 := blk_cell hh 4
    have d5 := blk_cell hh 5
    have x0 := blk_cell hq2 0
    have x1 := blk_cell hq2 1
    have v0 := blk_cell hq3 0
    have v1 := blk_cell hq3 1
    simp at d0 d1 d2 d3 d4 d5 x0 x1 v0 v1
    clear hh hq2 hq3
    refine AK.out _ _ ?_
    clear AK
    go_wp2_with fail
    refine (told_z 0 17592186043969 17592186043904 0 17592186043969 x 0 ((x) * 2 ^ n) _ _ _ _ _ (by simpa [toldA, toldB, after1, (by simpa using b1 : ¬ k = 1)] using HT7.out) (HZ2.out.ext HE7.out) (IsZ.zeroN _) (HW7.out.z) (by omega) (by omega) (by omega) (by omega)).mono ?_
    rintro e w8 ⟨he, y8, rfl, hy⟩
    obtain rfl : y8 = .bool true := hy
    replace HE7 := Lib.hid (HE7.out.trans he)
    clear he
    go_wp2_with fail
    go_ret
    exact ⟨HE7.out, rfl⟩


theorem fnExactLsh_walk (k : Int) (n1 : Bool) (v1 : Value) (ws1 : List Nat) (n2 : Bool) (v2 : Value) (ws2 : List Nat) (n : Int) (w : World) (hk : (Lit.int .i64 k).wf = true) (hr1 : Rd .u64 w v1 ws1) (hl1 : ws1.length ≤ 17592186043904) (hr2 : Rd .u64 w v2 ws2) (hl2 : ws2.length ≤ 17592186043904) (hn : (Lit.int .u64 n).wf = true) :
    Calls Try.prog 4 #[.int .i64 k, .agg #[.bool n1, v1], .agg #[.bool n2, v2], .int .u64 n] w (ValR (.bool true) w) := by
  obtain ⟨n, rfl, hnn⟩ := u64_nat hn
  by_cases h4 : n ≤ 4096
  · rcases h : (k == 1) with _ | _
    · exact fnExactLsh_f k n1 v1 ws1 n2 v2 ws2 w hr1 hl1 hr2 hl2 n h4 h
    · exact fnExactLsh_t k n1 v1 ws1 n2 v2 ws2 w hr1 hl1 hr2 hl2 n h4 h
  · exact fnExactLsh_big k n1 v1 ws1 n2 v2 ws2 w hr1 hr2 n (by omega) hnn

end Go.Proofs.Ytdodcmncdlnceaa

