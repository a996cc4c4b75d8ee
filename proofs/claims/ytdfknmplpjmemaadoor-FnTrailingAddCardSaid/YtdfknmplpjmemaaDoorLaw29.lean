/- FnTrailingAdd (printed by lawgen.py). -/
import Derived.Test.YtdfknmplpjmemaaDoorTzMath
import Derived.Test.YtdfknmplpjmemaaDoorAddZ
import Derived.Test.YtdfknmplpjmemaaDoorSpecAddZ
import Derived.Test.YtdfknmplpjmemaaDoorCmp3
set_option linter.unusedSimpArgs false
set_option linter.unusedVariables false
namespace Go.Proofs.YtdfknmplpjmemaaDoor
open Go.RowKit

set_option maxRecDepth 10000 in
set_option maxHeartbeats 2000000 in
theorem fnTrailingAdd_ne  (n0 : Bool) (v0 : Value) (ws0 : List Nat) (n1 : Bool) (v1 : Value) (ws1 : List Nat) (w : World) (hr0 : Rd .u64 w v0 ws0) (hl0 : ws0.length ≤ 17592186043904) (hr1 : Rd .u64 w v1 ws1) (hl1 : ws1.length ≤ 17592186043904) (ht : Tab64 w) (hza : ival n0 ws0 ≠ 0) (hzb : ival n1 ws1 ≠ 0) (hne : tzN (ival n0 ws0).natAbs ≠ tzN (ival n1 ws1).natAbs) :
    Calls Tryd.prog 3 #[.agg #[.bool n0, v0], .agg #[.bool n1, v1]] w (ValR (.bool true) w) := by
  obtain ⟨a0, c0, rfl⟩ := hr0.form
  have hz0 : IsZ 17592186043904 (ival n0 ws0) (.agg #[.bool n0, .slice a0 ws0.length c0]) w := ⟨n0, _, ws0, rfl, hr0, hl0, rfl⟩
  have HR0 := Lib.hid hr0
  generalize hg0 : ival n0 ws0 = za at hz0
  have HZ0 := Lib.hid hz0
  have HG0 := Lib.hid hg0
  clear hz0 hg0 hr0
  obtain ⟨a1, c1, rfl⟩ := hr1.form
  have hz1 : IsZ 17592186043904 (ival n1 ws1) (.agg #[.bool n1, .slice a1 ws1.length c1]) w := ⟨n1, _, ws1, rfl, hr1, hl1, rfl⟩
  have HR1 := Lib.hid hr1
  generalize hg1 : ival n1 ws1 = zb at hz1
  have HZ1 := Lib.hid hz1
  have HG1 := Lib.hid hg1
  clear hz1 hg1 hr1
  have HZC := Lib.hid (show za ≠ 0 by rw [← HG0.out]; exact hza)
  have HZD := Lib.hid (show zb ≠ 0 by rw [← HG1.out]; exact hzb)
  have HT := Lib.hid ht
  clear hza hzb ht
  have HNE := Lib.hid (show tzN za.natAbs ≠ tzN zb.natAbs by rw [← HG0.out, ← HG1.out]; exact hne)
  clear hne
  go_enter Tryd.func3, Tryd.ntmps3
  go_wp2_with fail
  have g0 := (Ext.alloc (w.alloc (.cells #[.bool n0, .slice a0 ws0.length c0] 24)) (.cells #[.bool n1, .slice a1 ws1.length c1] 24)).block (heap_alloc_new w (.cells #[.bool n0, .slice a0 ws0.length c0] 24))
  have g1 := heap_second w (.cells #[.bool n0, .slice a0 ws0.length c0] 24) (.cells #[.bool n1, .slice a1 ws1.length c1] 24)
  have hE0 : Ext w ((w.alloc (.cells #[.bool n0, .slice a0 ws0.length c0] 24)).alloc (.cells #[.bool n1, .slice a1 ws1.length c1] 24)) := (Ext.alloc _ _).trans (Ext.alloc _ _)
  have hsz3 : ((w.alloc (.cells #[.bool n0, .slice a0 ws0.length c0] 24)).alloc (.cells #[.bool n1, .slice a1 ws1.length c1] 24)).heap.size = w.heap.size + 1 + 1 := by simp
  generalize ((w.alloc (.cells #[.bool n0, .slice a0 ws0.length c0] 24)).alloc (.cells #[.bool n1, .slice a1 ws1.length c1] 24)) = w4 at *
  generalize hn0 : w4.heap.size = N0 at *
  have HE0 := Lib.hid hE0
  have G0 := Lib.hid g0
  have G1 := Lib.hid g1
  have HSZ := Lib.hid hsz3
  clear g0 g1 hE0 hsz3
  refine (zero_z 17592186043904 za _ _ (HZ0.out.ext HE0.out) (by omega)).mono ?_
  rintro e w5 ⟨he, y5, rfl, hy⟩
  obtain rfl : y5 = .bool false := hy.trans (by have := HZC.out; simp [this])
  replace HE0 := Lib.hid (HE0.out.trans he)
  replace G0 := Lib.hid (he.block G0.out)
  replace G1 := Lib.hid (he.block G1.out)
  clear he hy
  have d0 := blk_cell G1.out 0
  have d1 := blk_cell G1.out 1
  simp at d0 d1
  go_wp2_with fail
  refine (zero_z 17592186043904 zb _ _ (HZ1.out.ext HE0.out) (by omega)).mono ?_
  rintro e w6 ⟨he, y6, rfl, hy⟩
  obtain rfl : y6 = .bool false := hy.trans (by have := HZD.out; simp [this])
  replace HE0 := Lib.hid (HE0.out.trans he)
  replace G0 := Lib.hid (he.block G0.out)
  replace G1 := Lib.hid (he.block G1.out)
  clear he hy d0 d1
  have d0 := blk_cell G0.out 0
  have d1 := blk_cell G0.out 1
  simp at d0 d1
  go_wp2_with fail
  refine (trailing_z 17592186043904 za _ _ (HZ0.out.ext HE0.out) (by omega) (HT.out.ext HE0.out)).mono ?_
  rintro e w7 ⟨he, y7, rfl, hy⟩
  obtain rfl : y7 = .int .u64 (tzN (za).natAbs : Nat) := hy
  replace HE0 := Lib.hid (HE0.out.trans he)
  replace G0 := Lib.hid (he.block G0.out)
  replace G1 := Lib.hid (he.block G1.out)
  clear he d0 d1
  have d0 := blk_cell G1.out 0
  have d1 := blk_cell G1.out 1
  simp at d0 d1
  go_wp2_with fail
  refine (trailing_z 17592186043904 zb _ _ (HZ1.out.ext HE0.out) (by omega) (HT.out.ext HE0.out)).mono ?_
  rintro e w8 ⟨he, y8, rfl, hy⟩
  obtain rfl : y8 = .int .u64 (tzN (zb).natAbs : Nat) := hy
  replace HE0 := Lib.hid (HE0.out.trans he)
  replace G0 := Lib.hid (he.block G0.out)
  replace G1 := Lib.hid (he.block G1.out)
  clear he d0 d1
  have d0 := blk_cell G1.out 0
  have d1 := blk_cell G1.out 1
  have d2 := blk_cell G0.out 0
  have d3 := blk_cell G0.out 1
  simp at d0 d1 d2 d3
  go_wp2_with fail
  refine (add_z 17592186043904 za zb _ _ _ (HZ0.out.ext HE0.out) (HZ1.out.ext HE0.out) (by omega)).mono ?_
  rintro e w9 ⟨he, y9, rfl, hy⟩
  obtain ⟨m9, b9, l9, c9, rfl⟩ := hy.form
  replace HE0 := Lib.hid (HE0.out.trans (he.trans (Ext.alloc w9 (.cells #[.bool m9, .slice b9 l9 c9] 24))))
  replace G0 := Lib.hid ((he.trans (Ext.alloc w9 (.cells #[.bool m9, .slice b9 l9 c9] 24))).block G0.out)
  replace G1 := Lib.hid ((he.trans (Ext.alloc w9 (.cells #[.bool m9, .slice b9 l9 c9] 24))).block G1.out)
  have G9 := Lib.hid (heap_alloc_new w9 (.cells #[.bool m9, .slice b9 l9 c9] 24))
  have HY9 := Lib.hid (hy.ext (Ext.alloc w9 (.cells #[.bool m9, .slice b9 l9 c9] 24)))
  clear he hy d0 d1 d2 d3
  have hq : (((tzN (za).natAbs : Nat) : Int) != ((tzN (zb).natAbs : Nat) : Int)) = true := by have := HNE.out; simp; omega
  go_wp2_with fail
  refine (trailing_z 17592186043905 (za + zb) _ _ HY9.out.z (by omega) (HT.out.ext HE0.out)).mono ?_
  rintro e wa ⟨he, ya, rfl, hy⟩
  obtain rfl : ya = .int .u64 (tzN (za + zb).natAbs : Nat) := hy
  replace HE0 := Lib.hid (HE0.out.trans he)
  have hmin := tz_add_ne HZC.out HZD.out HNE.out
  have hne9 := HNE.out
  clear he hq
  generalize tzN (za + zb).natAbs = s at *
  generalize tzN (za).natAbs = ta at *
  generalize tzN (zb).natAbs = tb at *
  rcases Nat.lt_or_ge ta tb with hlt | hlt
  · obtain rfl : s = ta := by omega
    have hd : decide ((s : Int) < (tb : Int)) = true := by simp; omega
    have hd2 : decide (s < tb) = true := by simp; omega
    have he2 : min (s : Int) (tb : Int) = (s : Int) := by omega
    have hb : ((s : Int) == (s : Int)) = true := by simp
    clear hmin hne9
    go_wp2_with fail
    go_ret
    exact ⟨HE0.out, rfl⟩
  · obtain rfl : s = tb := by omega
    have hd5 : s < ta := by omega
    have hd3 : decide ((s : Int) < (ta : Int)) = true := by simp; omega
    have hd4 : decide (s < ta) = true := by simp; omega
    have hd : decide ((ta : Int) < (s : Int)) = false := by simp; omega
    have hd2 : decide (ta < s) = false := by simp; omega
    have he2 : min (ta : Int) (s : Int) = (s : Int) := by omega
    have hb : ((s : Int) == (s : Int)) = true := by simp
    clear hmin hne9
    go_wp2_with fail
    go_ret
    exact ⟨HE0.out, rfl⟩

set_option maxRecDepth 10000 in
set_option maxHeartbeats 2000000 in
theorem fnTrailingAdd_s0  (n0 : Bool) (v0 : Value) (ws0 : List Nat) (n1 : Bool) (v1 : Value) (ws1 : List Nat) (w : World) (hr0 : Rd .u64 w v0 ws0) (hl0 : ws0.length ≤ 17592186043904) (hr1 : Rd .u64 w v1 ws1) (hl1 : ws1.length ≤ 17592186043904) (ht : Tab64 w) (hza : ival n0 ws0 ≠ 0) (hzb : ival n1 ws1 ≠ 0) (heq : tzN (ival n0 ws0).natAbs = tzN (ival n1 ws1).natAbs) (hs : ival n0 ws0 + ival n1 ws1 = 0) :
    Calls Tryd.prog 3 #[.agg #[.bool n0, v0], .agg #[.bool n1, v1]] w (ValR (.bool true) w) := by
  obtain ⟨a0, c0, rfl⟩ := hr0.form
  have hz0 : IsZ 17592186043904 (ival n0 ws0) (.agg #[.bool n0, .slice a0 ws0.length c0]) w := ⟨n0, _, ws0, rfl, hr0, hl0, rfl⟩
  have HR0 := Lib.hid hr0
  generalize hg0 : ival n0 ws0 = za at hz0
  have HZ0 := Lib.hid hz0
  have HG0 := Lib.hid hg0
  clear hz0 hg0 hr0
  obtain ⟨a1, c1, rfl⟩ := hr1.form
  have hz1 : IsZ 17592186043904 (ival n1 ws1) (.agg #[.bool n1, .slice a1 ws1.length c1]) w := ⟨n1, _, ws1, rfl, hr1, hl1, rfl⟩
  have HR1 := Lib.hid hr1
  generalize hg1 : ival n1 ws1 = zb at hz1
  have HZ1 := Lib.hid hz1
  have HG1 := Lib.hid hg1
  clear hz1 hg1 hr1
  have HZC := Lib.hid (show za ≠ 0 by rw [← HG0.out]; exact hza)
  have HZD := Lib.hid (show zb ≠ 0 by rw [← HG1.out]; exact hzb)
  have HT := Lib.hid ht
  clear hza hzb ht
  have HEQ := Lib.hid (show tzN za.natAbs = tzN zb.natAbs by rw [← HG0.out, ← HG1.out]; exact heq)
  have HS := Lib.hid (show za + zb = 0 by rw [← HG0.out, ← HG1.out]; exact hs)
  clear heq hs
  go_enter Tryd.func3, Tryd.ntmps3
  go_wp2_with fail
  have g0 := (Ext.alloc (w.alloc (.cells #[.bool n0, .slice a0 ws0.length c0] 24)) (.cells #[.bool n1, .slice a1 ws1.length c1] 24)).block (heap_alloc_new w (.cells #[.bool n0, .slice a0 ws0.length c0] 24))
  have g1 := heap_second w (.cells #[.bool n0, .slice a0 ws0.length c0] 24) (.cells #[.bool n1, .slice a1 ws1.length c1] 24)
  have hE0 : Ext w ((w.alloc (.cells #[.bool n0, .slice a0 ws0.length c0] 24)).alloc (.cells #[.bool n1, .slice a1 ws1.length c1] 24)) := (Ext.alloc _ _).trans (Ext.alloc _ _)
  have hsz3 : ((w.alloc (.cells #[.bool n0, .slice a0 ws0.length c0] 24)).alloc (.cells #[.bool n1, .slice a1 ws1.length c1] 24)).heap.size = w.heap.size + 1 + 1 := by simp
  generalize ((w.alloc (.cells #[.bool n0, .slice a0 ws0.length c0] 24)).alloc (.cells #[.bool n1, .slice a1 ws1.length c1] 24)) = w4 at *
  generalize hn0 : w4.heap.size = N0 at *
  have HE0 := Lib.hid hE0
  have G0 := Lib.hid g0
  have G1 := Lib.hid g1
  have HSZ := Lib.hid hsz3
  clear g0 g1 hE0 hsz3
  refine (zero_z 17592186043904 za _ _ (HZ0.out.ext HE0.out) (by omega)).mono ?_
  rintro e w5 ⟨he, y5, rfl, hy⟩
  obtain rfl : y5 = .bool false := hy.trans (by have := HZC.out; simp [this])
  replace HE0 := Lib.hid (HE0.out.trans he)
  replace G0 := Lib.hid (he.block G0.out)
  replace G1 := Lib.hid (he.block G1.out)
  clear he hy
  have d0 := blk_cell G1.out 0
  have d1 := blk_cell G1.out 1
  simp at d0 d1
  go_wp2_with fail
  refine (zero_z 17592186043904 zb _ _ (HZ1.out.ext HE0.out) (by omega)).mono ?_
  rintro e w6 ⟨he, y6, rfl, hy⟩
  obtain rfl : y6 = .bool false := hy.trans (by have := HZD.out; simp [this])
  replace HE0 := Lib.hid (HE0.out.trans he)
  replace G0 := Lib.hid (he.block G0.out)
  replace G1 := Lib.hid (he.block G1.out)
  clear he hy d0 d1
  have d0 := blk_cell G0.out 0
  have d1 := blk_cell G0.out 1
  simp at d0 d1
  go_wp2_with fail
  refine (trailing_z 17592186043904 za _ _ (HZ0.out.ext HE0.out) (by omega) (HT.out.ext HE0.out)).mono ?_
  rintro e w7 ⟨he, y7, rfl, hy⟩
  obtain rfl : y7 = .int .u64 (tzN (za).natAbs : Nat) := hy
  replace HE0 := Lib.hid (HE0.out.trans he)
  replace G0 := Lib.hid (he.block G0.out)
  replace G1 := Lib.hid (he.block G1.out)
  clear he d0 d1
  have d0 := blk_cell G1.out 0
  have d1 := blk_cell G1.out 1
  simp at d0 d1
  go_wp2_with fail
  refine (trailing_z 17592186043904 zb _ _ (HZ1.out.ext HE0.out) (by omega) (HT.out.ext HE0.out)).mono ?_
  rintro e w8 ⟨he, y8, rfl, hy⟩
  obtain rfl : y8 = .int .u64 (tzN (zb).natAbs : Nat) := hy
  replace HE0 := Lib.hid (HE0.out.trans he)
  replace G0 := Lib.hid (he.block G0.out)
  replace G1 := Lib.hid (he.block G1.out)
  clear he d0 d1
  have d0 := blk_cell G1.out 0
  have d1 := blk_cell G1.out 1
  have d2 := blk_cell G0.out 0
  have d3 := blk_cell G0.out 1
  simp at d0 d1 d2 d3
  go_wp2_with fail
  refine (add_z 17592186043904 za zb _ _ _ (HZ0.out.ext HE0.out) (HZ1.out.ext HE0.out) (by omega)).mono ?_
  rintro e w9 ⟨he, y9, rfl, hy⟩
  obtain ⟨m9, b9, l9, c9, rfl⟩ := hy.form
  replace HE0 := Lib.hid (HE0.out.trans (he.trans (Ext.alloc w9 (.cells #[.bool m9, .slice b9 l9 c9] 24))))
  replace G0 := Lib.hid ((he.trans (Ext.alloc w9 (.cells #[.bool m9, .slice b9 l9 c9] 24))).block G0.out)
  replace G1 := Lib.hid ((he.trans (Ext.alloc w9 (.cells #[.bool m9, .slice b9 l9 c9] 24))).block G1.out)
  have G9 := Lib.hid (heap_alloc_new w9 (.cells #[.bool m9, .slice b9 l9 c9] 24))
  have HY9 := Lib.hid (hy.ext (Ext.alloc w9 (.cells #[.bool m9, .slice b9 l9 c9] 24)))
  clear he hy d0 d1 d2 d3
  have hq : (((tzN (za).natAbs : Nat) : Int) != ((tzN (zb).natAbs : Nat) : Int)) = false := by have := HEQ.out; simp; omega
  go_wp2_with fail
  generalize (w9.alloc (.cells #[.bool m9, .slice b9 l9 c9] 24)) = wb at *
  have HT9 := Lib.hid (HT.out.ext HE0.out)
  clear hq
  refine wp_region_D preExt mixed [IsZ (17592186043904) (za), IsW (17592186043904) (za), IsZ (17592186043904) (zb), IsW (17592186043904) (zb), IsC (17592186043905) (za + zb), Is (.bool true), Is (.bool true), IsC (17592186043905) (za + zb), Is (.int .i64 (sgnZ (za + zb))), Is (.bool true), Is (.bool true), Is (.bool true), Is undef, Is undef, Is undef, Is undef, Is (.bool true)] (by kernel_rfl) ?mono rfl ?steps ?last
  case mono =>
    simp only [List.forall_mem_cons, List.not_mem_nil, false_implies, implies_true, and_true]
    refine ⟨?_, ?_, ?_, ?_, ?_, ?_, ?_, ?_, ?_, ?_, ?_, ?_, ?_, ?_, ?_, ?_, ?_⟩
    all_goals first | exact fun _ _ _ _ q => q | exact fun _ _ _ he q => q.ext he
  case steps =>
    refine ⟨?_, ?_, ?_, ?_, ?_, ?_, ?_, ?_, ?_, ?_, ?_, ?_, ?_, ?_, ?_, ?_, ?_, trivial⟩
    all_goals
      intro u0 u1 u2 u3 u4 u5 u6 u7 u8 u9 u10 u11 u12 u13 u14 u15 u16 u17 w1 he hk
      simp [KnownD, Oper.looksAt, Op.operands, Call.operands, List.findIdx?_cons, Act.put] at hk
      simp only [Act.put, List.setIfInBounds_toArray, List.set_cons_succ, List.set_cons_zero]
    · have hb := he.block G0.out
      have q0 := blk_cell hb 0
      have q1 := blk_cell hb 1
      simp at q0 q1
      clear hb
      go_wp2_with fail
      exact ⟨rfl, Ext.refl _, HZ0.out.ext (HE0.out.trans he)⟩
    · have k0 := hk
      have H0 := Lib.hid k0
      clear k0
      go_wp2_with fail
      refine (toSpec_z (17592186043904) (za) _ _ (H0.out) (by omega)).mono ?_
      rintro e w2 ⟨he2, x, rfl, hx⟩
      have HX := Lib.hid hx
      clear hx
      go_wp2_with fail
      exact ⟨rfl, he2, HX.out⟩
    · have hb := he.block G1.out
      have q0 := blk_cell hb 0
      have q1 := blk_cell hb 1
      simp at q0 q1
      clear hb
      go_wp2_with fail
      exact ⟨rfl, Ext.refl _, HZ1.out.ext (HE0.out.trans he)⟩
    · have k0 := hk
      have H0 := Lib.hid k0
      clear k0
      go_wp2_with fail
      refine (toSpec_z (17592186043904) (zb) _ _ (H0.out) (by omega)).mono ?_
      rintro e w2 ⟨he2, x, rfl, hx⟩
      have HX := Lib.hid hx
      clear hx
      go_wp2_with fail
      exact ⟨rfl, he2, HX.out⟩
    · obtain ⟨k0, k1⟩ := hk
      have H0 := Lib.hid k0
      have H1 := Lib.hid k1
      clear k0 k1
      go_wp2_with fail
      refine (specAdd_z (17592186043904) za zb _ _ _ (H0.out.z) (H1.out.z) (by omega)).mono ?_
      rintro e w2 ⟨he2, x, rfl, hx⟩
      have HX := Lib.hid hx
      clear hx
      go_wp2_with fail
      exact ⟨rfl, he2, HX.out⟩
    · have k0 := hk
      have H0 : Hid (IsC (17592186043905) (za + zb) u4 w1) := Lib.hid (by first | exact k0 | simpa using k0)
      clear k0
      go_wp2_with fail
      refine (isZero_z (17592186043905) (za + zb) _ _ (H0.out.z) (by omega)).mono ?_
      rintro e w2 ⟨he2, x, rfl, hx⟩
      obtain rfl : x = .bool true := hx.trans (by have := HS.out; simpa using this)
      go_wp2_with fail
      exact ⟨rfl, he2, rfl⟩
    · have k0 := hk
      obtain rfl : u5 = .bool true := k0
      go_wp2_with fail
      exact ⟨rfl, Ext.refl _, by show (_ : Value) = _; (first | rfl | simp); try rfl⟩
    · have k0 := hk
      obtain rfl : u6 = .bool true := k0
      have hb := he.block G9.out
      have q0 := blk_cell hb 0
      have q1 := blk_cell hb 1
      simp at q0 q1
      clear hb
      go_wp2_with fail
      exact ⟨rfl, Ext.refl _, HY9.out.ext he⟩
    · obtain ⟨k0, k1⟩ := hk
      obtain rfl : u6 = .bool true := k1
      have H0 : Hid (IsC (17592186043905) (za + zb) u7 w1) := Lib.hid (by first | exact k0 | simpa using k0)
      clear k0
      go_wp2_with fail
      refine (sign_z (17592186043905) (za + zb) _ _ (H0.out.z) (by omega)).mono ?_
      rintro e w2 ⟨he2, x, rfl, hx⟩
      obtain rfl : x = .int .i64 (sgnZ (za + zb)) := hx
      go_wp2_with fail
      exact ⟨rfl, he2, rfl⟩
    · obtain ⟨k0, k1⟩ := hk
      obtain rfl : u8 = .int .i64 (sgnZ (za + zb)) := k0
      obtain rfl : u6 = .bool true := k1
      go_wp2_with fail
      exact ⟨rfl, Ext.refl _, by show (_ : Value) = _; (rw [HS.out]; simp [sgnZ]); try rfl⟩
    · obtain ⟨k0, k1⟩ := hk
      obtain rfl : u6 = .bool true := k0
      obtain rfl : u9 = .bool true := k1
      go_wp2_with fail
      exact ⟨rfl, Ext.refl _, by show (_ : Value) = _; (first | rfl | simp); try rfl⟩
    · have k0 := hk
      obtain rfl : u10 = .bool true := k0
      go_wp2_with fail
      exact ⟨rfl, Ext.refl _, by show (_ : Value) = _; (first | rfl | simp); try rfl⟩
    · have k0 := hk
      obtain rfl : u11 = .bool true := k0
      go_wp2_with fail
      exact ⟨rfl, Ext.refl _, rfl⟩
    · obtain ⟨k0, k1⟩ := hk
      obtain rfl : u12 = undef := k0
      obtain rfl : u11 = .bool true := k1
      go_wp2_with fail
      exact ⟨rfl, Ext.refl _, rfl⟩
    · have k0 := hk
      obtain rfl : u11 = .bool true := k0
      go_wp2_with fail
      exact ⟨rfl, Ext.refl _, rfl⟩
    · obtain ⟨k0, k1, k2⟩ := hk
      obtain rfl : u13 = undef := k0
      obtain rfl : u14 = undef := k1
      obtain rfl : u11 = .bool true := k2
      go_wp2_with fail
      exact ⟨rfl, Ext.refl _, rfl⟩
    · obtain ⟨k0, k1⟩ := hk
      obtain rfl : u11 = .bool true := k0
      obtain rfl : u15 = undef := k1
      go_wp2_with fail
      exact ⟨rfl, Ext.refl _, by show (_ : Value) = _; (first | rfl | simp); try rfl⟩
  case last =>
    intro w1 he u0 h0 u1 h1 u2 h2 u3 h3 u4 h4 u5 h5 u6 h6 u7 h7 u8 h8 u9 h9 u10 h10 u11 h11 u12 h12 u13 h13 u14 h14 u15 h15 u16 h16
    obtain rfl : u16 = .bool true := h16
    clear h0 h1 h2 h3 h4 h5 h6 h7 h8 h9 h10 h11 h12 h13 h14 h15
    simp only [LastD, Act.put, List.setIfInBounds_toArray, List.set_cons_succ, List.set_cons_zero]
    have HE := Lib.hid ((HE0.out).trans he)
    clear he
    go_wp2_with fail
    go_ret
    exact ⟨HE.out, rfl⟩

set_option maxRecDepth 10000 in
set_option maxHeartbeats 2000000 in
theorem fnTrailingAdd_sn  (n0 : Bool) (v0 : Value) (ws0 : List Nat) (n1 : Bool) (v1 : Value) (ws1 : List Nat) (w : World) (hr0 : Rd .u64 w v0 ws0) (hl0 : ws0.length ≤ 17592186043904) (hr1 : Rd .u64 w v1 ws1) (hl1 : ws1.length ≤ 17592186043904) (ht : Tab64 w) (hza : ival n0 ws0 ≠ 0) (hzb : ival n1 ws1 ≠ 0) (heq : tzN (ival n0 ws0).natAbs = tzN (ival n1 ws1).natAbs) (hs : ival n0 ws0 + ival n1 ws1 ≠ 0) :
    Calls Tryd.prog 3 #[.agg #[.bool n0, v0], .agg #[.bool n1, v1]] w (ValR (.bool true) w) := by
  obtain ⟨a0, c0, rfl⟩ := hr0.form
  have hz0 : IsZ 17592186043904 (ival n0 ws0) (.agg #[.bool n0, .slice a0 ws0.length c0]) w := ⟨n0, _, ws0, rfl, hr0, hl0, rfl⟩
  have HR0 := Lib.hid hr0
  generalize hg0 : ival n0 ws0 = za at hz0
  have HZ0 := Lib.hid hz0
  have HG0 := Lib.hid hg0
  clear hz0 hg0 hr0
  obtain ⟨a1, c1, rfl⟩ := hr1.form
  have hz1 : IsZ 17592186043904 (ival n1 ws1) (.agg #[.bool n1, .slice a1 ws1.length c1]) w := ⟨n1, _, ws1, rfl, hr1, hl1, rfl⟩
  have HR1 := Lib.hid hr1
  generalize hg1 : ival n1 ws1 = zb at hz1
  have HZ1 := Lib.hid hz1
  have HG1 := Lib.hid hg1
  clear hz1 hg1 hr1
  have HZC := Lib.hid (show za ≠ 0 by rw [← HG0.out]; exact hza)
  have HZD := Lib.hid (show zb ≠ 0 by rw [← HG1.out]; exact hzb)
  have HT := Lib.hid ht
  clear hza hzb ht
  have HEQ := Lib.hid (show tzN za.natAbs = tzN zb.natAbs by rw [← HG0.out, ← HG1.out]; exact heq)
  have HS := Lib.hid (show za + zb ≠ 0 by rw [← HG0.out, ← HG1.out]; exact hs)
  clear heq hs
  go_enter Tryd.func3, Tryd.ntmps3
  go_wp2_with fail
  have g0 := (Ext.alloc (w.alloc (.cells #[.bool n0, .slice a0 ws0.length c0] 24)) (.cells #[.bool n1, .slice a1 ws1.length c1] 24)).block (heap_alloc_new w (.cells #[.bool n0, .slice a0 ws0.length c0] 24))
  have g1 := heap_second w (.cells #[.bool n0, .slice a0 ws0.length c0] 24) (.cells #[.bool n1, .slice a1 ws1.length c1] 24)
  have hE0 : Ext w ((w.alloc (.cells #[.bool n0, .slice a0 ws0.length c0] 24)).alloc (.cells #[.bool n1, .slice a1 ws1.length c1] 24)) := (Ext.alloc _ _).trans (Ext.alloc _ _)
  have hsz3 : ((w.alloc (.cells #[.bool n0, .slice a0 ws0.length c0] 24)).alloc (.cells #[.bool n1, .slice a1 ws1.length c1] 24)).heap.size = w.heap.size + 1 + 1 := by simp
  generalize ((w.alloc (.cells #[.bool n0, .slice a0 ws0.length c0] 24)).alloc (.cells #[.bool n1, .slice a1 ws1.length c1] 24)) = w4 at *
  generalize hn0 : w4.heap.size = N0 at *
  have HE0 := Lib.hid hE0
  have G0 := Lib.hid g0
  have G1 := Lib.hid g1
  have HSZ := Lib.hid hsz3
  clear g0 g1 hE0 hsz3
  refine (zero_z 17592186043904 za _ _ (HZ0.out.ext HE0.out) (by omega)).mono ?_
  rintro e w5 ⟨he, y5, rfl, hy⟩
  obtain rfl : y5 = .bool false := hy.trans (by have := HZC.out; simp [this])
  replace HE0 := Lib.hid (HE0.out.trans he)
  replace G0 := Lib.hid (he.block G0.out)
  replace G1 := Lib.hid (he.block G1.out)
  clear he hy
  have d0 := blk_cell G1.out 0
  have d1 := blk_cell G1.out 1
  simp at d0 d1
  go_wp2_with fail
  refine (zero_z 17592186043904 zb _ _ (HZ1.out.ext HE0.out) (by omega)).mono ?_
  rintro e w6 ⟨he, y6, rfl, hy⟩
  obtain rfl : y6 = .bool false := hy.trans (by have := HZD.out; simp [this])
  replace HE0 := Lib.hid (HE0.out.trans he)
  replace G0 := Lib.hid (he.block G0.out)
  replace G1 := Lib.hid (he.block G1.out)
  clear he hy d0 d1
  have d0 := blk_cell G0.out 0
  have d1 := blk_cell G0.out 1
  simp at d0 d1
  go_wp2_with fail
  refine (trailing_z 17592186043904 za _ _ (HZ0.out.ext HE0.out) (by omega) (HT.out.ext HE0.out)).mono ?_
  rintro e w7 ⟨he, y7, rfl, hy⟩
  obtain rfl : y7 = .int .u64 (tzN (za).natAbs : Nat) := hy
  replace HE0 := Lib.hid (HE0.out.trans he)
  replace G0 := Lib.hid (he.block G0.out)
  replace G1 := Lib.hid (he.block G1.out)
  clear he d0 d1
  have d0 := blk_cell G1.out 0
  have d1 := blk_cell G1.out 1
  simp at d0 d1
  go_wp2_with fail
  refine (trailing_z 17592186043904 zb _ _ (HZ1.out.ext HE0.out) (by omega) (HT.out.ext HE0.out)).mono ?_
  rintro e w8 ⟨he, y8, rfl, hy⟩
  obtain rfl : y8 = .int .u64 (tzN (zb).natAbs : Nat) := hy
  replace HE0 := Lib.hid (HE0.out.trans he)
  replace G0 := Lib.hid (he.block G0.out)
  replace G1 := Lib.hid (he.block G1.out)
  clear he d0 d1
  have d0 := blk_cell G1.out 0
  have d1 := blk_cell G1.out 1
  have d2 := blk_cell G0.out 0
  have d3 := blk_cell G0.out 1
  simp at d0 d1 d2 d3
  go_wp2_with fail
  refine (add_z 17592186043904 za zb _ _ _ (HZ0.out.ext HE0.out) (HZ1.out.ext HE0.out) (by omega)).mono ?_
  rintro e w9 ⟨he, y9, rfl, hy⟩
  obtain ⟨m9, b9, l9, c9, rfl⟩ := hy.form
  replace HE0 := Lib.hid (HE0.out.trans (he.trans (Ext.alloc w9 (.cells #[.bool m9, .slice b9 l9 c9] 24))))
  replace G0 := Lib.hid ((he.trans (Ext.alloc w9 (.cells #[.bool m9, .slice b9 l9 c9] 24))).block G0.out)
  replace G1 := Lib.hid ((he.trans (Ext.alloc w9 (.cells #[.bool m9, .slice b9 l9 c9] 24))).block G1.out)
  have G9 := Lib.hid (heap_alloc_new w9 (.cells #[.bool m9, .slice b9 l9 c9] 24))
  have HY9 := Lib.hid (hy.ext (Ext.alloc w9 (.cells #[.bool m9, .slice b9 l9 c9] 24)))
  clear he hy d0 d1 d2 d3
  have hq : (((tzN (za).natAbs : Nat) : Int) != ((tzN (zb).natAbs : Nat) : Int)) = false := by have := HEQ.out; simp; omega
  go_wp2_with fail
  generalize (w9.alloc (.cells #[.bool m9, .slice b9 l9 c9] 24)) = wb at *
  have HT9 := Lib.hid (HT.out.ext HE0.out)
  clear hq
  refine wp_region_D preExt mixed [IsZ (17592186043904) (za), IsW (17592186043904) (za), IsZ (17592186043904) (zb), IsW (17592186043904) (zb), IsC (17592186043905) (za + zb), Is (.bool false), Is (.bool false), Is undef, Is undef, Is undef, Is (.bool false), Is (.bool false), IsC (17592186043905) (za + zb), Is (.int .u64 (tzN ((za + zb) : Int).natAbs : Nat)), Is (.int .u64 (tzN ((za) : Int).natAbs : Nat)), Is (.bool true), Is (.bool true)] (by kernel_rfl) ?mono rfl ?steps ?last
  case mono =>
    simp only [List.forall_mem_cons, List.not_mem_nil, false_implies, implies_true, and_true]
    refine ⟨?_, ?_, ?_, ?_, ?_, ?_, ?_, ?_, ?_, ?_, ?_, ?_, ?_, ?_, ?_, ?_, ?_⟩
    all_goals first | exact fun _ _ _ _ q => q | exact fun _ _ _ he q => q.ext he
  case steps =>
    refine ⟨?_, ?_, ?_, ?_, ?_, ?_, ?_, ?_, ?_, ?_, ?_, ?_, ?_, ?_, ?_, ?_, ?_, trivial⟩
    all_goals
      intro u0 u1 u2 u3 u4 u5 u6 u7 u8 u9 u10 u11 u12 u13 u14 u15 u16 u17 w1 he hk
      simp [KnownD, Oper.looksAt, Op.operands, Call.operands, List.findIdx?_cons, Act.put] at hk
      simp only [Act.put, List.setIfInBounds_toArray, List.set_cons_succ, List.set_cons_zero]
    · have hb := he.block G0.out
      have q0 := blk_cell hb 0
      have q1 := blk_cell hb 1
      simp at q0 q1
      clear hb
      go_wp2_with fail
      exact ⟨rfl, Ext.refl _, HZ0.out.ext (HE0.out.trans he)⟩
    · have k0 := hk
      have H0 := Lib.hid k0
      clear k0
      go_wp2_with fail
      refine (toSpec_z (17592186043904) (za) _ _ (H0.out) (by omega)).mono ?_
      rintro e w2 ⟨he2, x, rfl, hx⟩
      have HX := Lib.hid hx
      clear hx
      go_wp2_with fail
      exact ⟨rfl, he2, HX.out⟩
    · have hb := he.block G1.out
      have q0 := blk_cell hb 0
      have q1 := blk_cell hb 1
      simp at q0 q1
      clear hb
      go_wp2_with fail
      exact ⟨rfl, Ext.refl _, HZ1.out.ext (HE0.out.trans he)⟩
    · have k0 := hk
      have H0 := Lib.hid k0
      clear k0
      go_wp2_with fail
      refine (toSpec_z (17592186043904) (zb) _ _ (H0.out) (by omega)).mono ?_
      rintro e w2 ⟨he2, x, rfl, hx⟩
      have HX := Lib.hid hx
      clear hx
      go_wp2_with fail
      exact ⟨rfl, he2, HX.out⟩
    · obtain ⟨k0, k1⟩ := hk
      have H0 := Lib.hid k0
      have H1 := Lib.hid k1
      clear k0 k1
      go_wp2_with fail
      refine (specAdd_z (17592186043904) za zb _ _ _ (H0.out.z) (H1.out.z) (by omega)).mono ?_
      rintro e w2 ⟨he2, x, rfl, hx⟩
      have HX := Lib.hid hx
      clear hx
      go_wp2_with fail
      exact ⟨rfl, he2, HX.out⟩
    · have k0 := hk
      have H0 : Hid (IsC (17592186043905) (za + zb) u4 w1) := Lib.hid (by first | exact k0 | simpa using k0)
      clear k0
      go_wp2_with fail
      refine (isZero_z (17592186043905) (za + zb) _ _ (H0.out.z) (by omega)).mono ?_
      rintro e w2 ⟨he2, x, rfl, hx⟩
      obtain rfl : x = .bool false := hx.trans (by have := HS.out; simpa using this)
      go_wp2_with fail
      exact ⟨rfl, he2, rfl⟩
    · have k0 := hk
      obtain rfl : u5 = .bool false := k0
      go_wp2_with fail
      exact ⟨rfl, Ext.refl _, by show (_ : Value) = _; (first | rfl | simp); try rfl⟩
    · have k0 := hk
      obtain rfl : u6 = .bool false := k0
      go_wp2_with fail
      exact ⟨rfl, Ext.refl _, rfl⟩
    · obtain ⟨k0, k1⟩ := hk
      obtain rfl : u7 = undef := k0
      obtain rfl : u6 = .bool false := k1
      go_wp2_with fail
      exact ⟨rfl, Ext.refl _, rfl⟩
    · obtain ⟨k0, k1⟩ := hk
      obtain rfl : u8 = undef := k0
      obtain rfl : u6 = .bool false := k1
      go_wp2_with fail
      exact ⟨rfl, Ext.refl _, rfl⟩
    · obtain ⟨k0, k1⟩ := hk
      obtain rfl : u6 = .bool false := k0
      obtain rfl : u9 = undef := k1
      go_wp2_with fail
      exact ⟨rfl, Ext.refl _, by show (_ : Value) = _; (first | rfl | simp); try rfl⟩
    · have k0 := hk
      obtain rfl : u10 = .bool false := k0
      go_wp2_with fail
      exact ⟨rfl, Ext.refl _, by show (_ : Value) = _; (first | rfl | simp); try rfl⟩
    · have k0 := hk
      obtain rfl : u11 = .bool false := k0
      have hb := he.block G9.out
      have q0 := blk_cell hb 0
      have q1 := blk_cell hb 1
      simp at q0 q1
      clear hb
      go_wp2_with fail
      exact ⟨rfl, Ext.refl _, HY9.out.ext he⟩
    · obtain ⟨k0, k1⟩ := hk
      obtain rfl : u11 = .bool false := k1
      have H0 : Hid (IsC (17592186043905) (za + zb) u12 w1) := Lib.hid (by first | exact k0 | simpa using k0)
      clear k0
      go_wp2_with fail
      refine (trailing_z (17592186043905) (za + zb) _ _ (H0.out.z) (by omega) (HT9.out.ext he)).mono ?_
      rintro e w2 ⟨he2, x, rfl, hx⟩
      obtain rfl : x = .int .u64 (tzN ((za + zb) : Int).natAbs : Nat) := hx
      go_wp2_with fail
      exact ⟨rfl, he2, rfl⟩
    · have k0 := hk
      obtain rfl : u11 = .bool false := k0
      go_wp2_with fail
      exact ⟨rfl, Ext.refl _, by show (_ : Value) = _; (first | rfl | simp); try rfl⟩
    · obtain ⟨k0, k1, k2⟩ := hk
      obtain rfl : u13 = .int .u64 (tzN ((za + zb) : Int).natAbs : Nat) := k0
      obtain rfl : u14 = .int .u64 (tzN ((za) : Int).natAbs : Nat) := k1
      obtain rfl : u11 = .bool false := k2
      go_wp2_with fail
      exact ⟨rfl, Ext.refl _, by show (_ : Value) = _; (have := tz_add_eq HZC.out HZD.out HEQ.out HS.out; simp; omega); try rfl⟩
    · obtain ⟨k0, k1⟩ := hk
      obtain rfl : u11 = .bool false := k0
      obtain rfl : u15 = .bool true := k1
      go_wp2_with fail
      exact ⟨rfl, Ext.refl _, by show (_ : Value) = _; (first | rfl | simp); try rfl⟩
  case last =>
    intro w1 he u0 h0 u1 h1 u2 h2 u3 h3 u4 h4 u5 h5 u6 h6 u7 h7 u8 h8 u9 h9 u10 h10 u11 h11 u12 h12 u13 h13 u14 h14 u15 h15 u16 h16
    obtain rfl : u16 = .bool true := h16
    clear h0 h1 h2 h3 h4 h5 h6 h7 h8 h9 h10 h11 h12 h13 h14 h15
    simp only [LastD, Act.put, List.setIfInBounds_toArray, List.set_cons_succ, List.set_cons_zero]
    have HE := Lib.hid ((HE0.out).trans he)
    clear he
    go_wp2_with fail
    go_ret
    exact ⟨HE.out, rfl⟩

theorem fnTrailingAdd_z0 (n0 : Bool) (v0 : Value) (ws0 : List Nat) (n1 : Bool) (v1 : Value) (ws1 : List Nat) (w : World) (hr0 : Rd .u64 w v0 ws0) (hl0 : ws0.length ≤ 17592186043904) (hr1 : Rd .u64 w v1 ws1) (hl1 : ws1.length ≤ 17592186043904) (hz : ival n0 ws0 = 0) :
    Calls Tryd.prog 3 #[.agg #[.bool n0, v0], .agg #[.bool n1, v1]] w (ValR (.bool true) w) := by
  obtain ⟨a0, c0, rfl⟩ := hr0.form
  obtain ⟨a1, c1, rfl⟩ := hr1.form
  have hz0 : IsZ 17592186043904 0 (.agg #[.bool n0, .slice a0 ws0.length c0]) w := ⟨n0, _, ws0, rfl, hr0, hl0, hz⟩
  have HZ := Lib.hid hz0
  clear hr0 hr1 hz hz0
  go_enter Tryd.func3, Tryd.ntmps3
  go_wp2_with fail
  refine (zero_z 17592186043904 0 _ _ (HZ.out.ext ((Ext.alloc _ _).trans (Ext.alloc _ _))) (by omega)).mono ?_
  rintro e w5 ⟨he, y5, rfl, hy⟩
  obtain rfl : y5 = .bool true := hy.trans (by simp)
  have HE := Lib.hid (((Ext.alloc _ _).trans (Ext.alloc _ _)).trans he)
  clear he hy
  go_wp2_with fail
  go_ret
  exact ⟨HE.out, rfl⟩

set_option maxRecDepth 10000 in
set_option maxHeartbeats 2000000 in
theorem fnTrailingAdd_z1  (n0 : Bool) (v0 : Value) (ws0 : List Nat) (n1 : Bool) (v1 : Value) (ws1 : List Nat) (w : World) (hr0 : Rd .u64 w v0 ws0) (hl0 : ws0.length ≤ 17592186043904) (hr1 : Rd .u64 w v1 ws1) (hl1 : ws1.length ≤ 17592186043904) (hza : ival n0 ws0 ≠ 0) (hzb : ival n1 ws1 = 0) :
    Calls Tryd.prog 3 #[.agg #[.bool n0, v0], .agg #[.bool n1, v1]] w (ValR (.bool true) w) := by
  obtain ⟨a0, c0, rfl⟩ := hr0.form
  have hz0 : IsZ 17592186043904 (ival n0 ws0) (.agg #[.bool n0, .slice a0 ws0.length c0]) w := ⟨n0, _, ws0, rfl, hr0, hl0, rfl⟩
  have HR0 := Lib.hid hr0
  generalize hg0 : ival n0 ws0 = za at hz0
  have HZ0 := Lib.hid hz0
  have HG0 := Lib.hid hg0
  clear hz0 hg0 hr0
  obtain ⟨a1, c1, rfl⟩ := hr1.form
  have hz1 : IsZ 17592186043904 (ival n1 ws1) (.agg #[.bool n1, .slice a1 ws1.length c1]) w := ⟨n1, _, ws1, rfl, hr1, hl1, rfl⟩
  have HR1 := Lib.hid hr1
  generalize hg1 : ival n1 ws1 = zb at hz1
  have HZ1 := Lib.hid hz1
  have HG1 := Lib.hid hg1
  clear hz1 hg1 hr1
  have HZC := Lib.hid (show za ≠ 0 by rw [← HG0.out]; exact hza)
  have HZD := Lib.hid (show zb = 0 by rw [← HG1.out]; exact hzb)
  clear hza hzb
  go_enter Tryd.func3, Tryd.ntmps3
  go_wp2_with fail
  have g0 := (Ext.alloc (w.alloc (.cells #[.bool n0, .slice a0 ws0.length c0] 24)) (.cells #[.bool n1, .slice a1 ws1.length c1] 24)).block (heap_alloc_new w (.cells #[.bool n0, .slice a0 ws0.length c0] 24))
  have g1 := heap_second w (.cells #[.bool n0, .slice a0 ws0.length c0] 24) (.cells #[.bool n1, .slice a1 ws1.length c1] 24)
  have hE0 : Ext w ((w.alloc (.cells #[.bool n0, .slice a0 ws0.length c0] 24)).alloc (.cells #[.bool n1, .slice a1 ws1.length c1] 24)) := (Ext.alloc _ _).trans (Ext.alloc _ _)
  have hsz3 : ((w.alloc (.cells #[.bool n0, .slice a0 ws0.length c0] 24)).alloc (.cells #[.bool n1, .slice a1 ws1.length c1] 24)).heap.size = w.heap.size + 1 + 1 := by simp
  generalize ((w.alloc (.cells #[.bool n0, .slice a0 ws0.length c0] 24)).alloc (.cells #[.bool n1, .slice a1 ws1.length c1] 24)) = w4 at *
  generalize hn0 : w4.heap.size = N0 at *
  have HE0 := Lib.hid hE0
  have G0 := Lib.hid g0
  have G1 := Lib.hid g1
  have HSZ := Lib.hid hsz3
  clear g0 g1 hE0 hsz3
  refine (zero_z 17592186043904 za _ _ (HZ0.out.ext HE0.out) (by omega)).mono ?_
  rintro e w5 ⟨he, y5, rfl, hy⟩
  obtain rfl : y5 = .bool false := hy.trans (by have := HZC.out; simp [this])
  replace HE0 := Lib.hid (HE0.out.trans he)
  replace G1 := Lib.hid (he.block G1.out)
  clear he hy
  have d0 := blk_cell G1.out 0
  have d1 := blk_cell G1.out 1
  simp at d0 d1
  go_wp2_with fail
  refine (zero_z 17592186043904 zb _ _ (HZ1.out.ext HE0.out) (by omega)).mono ?_
  rintro e w6 ⟨he, y6, rfl, hy⟩
  obtain rfl : y6 = .bool true := hy.trans (by have := HZD.out; simp [this])
  replace HE0 := Lib.hid (HE0.out.trans he)
  clear he hy d0 d1
  go_wp2_with fail
  go_ret
  exact ⟨HE0.out, rfl⟩

theorem fnTrailingAdd_walk (n0 : Bool) (v0 : Value) (ws0 : List Nat) (n1 : Bool) (v1 : Value) (ws1 : List Nat) (w : World) (ht : Tab64 w) (hr0 : Rd .u64 w v0 ws0) (hl0 : ws0.length ≤ 17592186043904) (hr1 : Rd .u64 w v1 ws1) (hl1 : ws1.length ≤ 17592186043904) :
    Calls Tryd.prog 3 #[.agg #[.bool n0, v0], .agg #[.bool n1, v1]] w (ValR (.bool true) w) := by
  by_cases h0 : ival n0 ws0 = 0
  · exact fnTrailingAdd_z0 n0 v0 ws0 n1 v1 ws1 w hr0 hl0 hr1 hl1 h0
  · by_cases h1 : ival n1 ws1 = 0
    · exact fnTrailingAdd_z1 n0 v0 ws0 n1 v1 ws1 w hr0 hl0 hr1 hl1 h0 h1
    · by_cases he : tzN (ival n0 ws0).natAbs = tzN (ival n1 ws1).natAbs
      · by_cases hs : ival n0 ws0 + ival n1 ws1 = 0
        · exact fnTrailingAdd_s0 n0 v0 ws0 n1 v1 ws1 w hr0 hl0 hr1 hl1 ht h0 h1 he hs
        · exact fnTrailingAdd_sn n0 v0 ws0 n1 v1 ws1 w hr0 hl0 hr1 hl1 ht h0 h1 he hs
      · exact fnTrailingAdd_ne n0 v0 ws0 n1 v1 ws1 w hr0 hl0 hr1 hl1 ht h0 h1 he

end Go.Proofs.YtdfknmplpjmemaaDoor

