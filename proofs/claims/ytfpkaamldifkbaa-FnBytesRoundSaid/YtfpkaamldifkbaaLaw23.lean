/- FnBytesRound (printed by lawgen.py). -/
import Derived.Test.YtfpkaamldifkbaaBytes6
import Derived.Test.YtfpkaamldifkbaaHelpers
import Derived.Test.YtfpkaamldifkbaaCmp3
import Derived.Test.YtfpkaamldifkbaaRow
set_option linter.unusedSimpArgs false
set_option linter.unusedVariables false
namespace Go.Proofs.Ytfpkaamldifkbaa
open Go.RowKit

theorem isz_nby {L : Nat} {z : Int} {x : Value} {w : World} (h : IsZ L z x w) : nby z.natAbs ≤ 8 * L := by
  obtain ⟨nn, s, ws, _, hr, hl, hz⟩ := h
  have hvz : z.natAbs = val ws := by rw [← hz, ival_abs]
  have : blen z ≤ 64 * ws.length := by rw [blen, blenN_le_iff, hvz, ← pow64]; exact val_lt ws hr.1
  have h2 : nby z.natAbs = (blen z + 7) / 8 := rfl
  omega

theorem setBytes_b (L v : Nat) (x : Value) (w : World) (h : IsR8 (beb (nby v) v) x w) (hn : nby v ≤ 8 * L) (hL : L ≤ 17592186044416) :
    Calls Try.prog 18 #[x] w (ResR (IsC L (v : Int)) w) := by
  refine (setBytes_z x _ w h (by rw [beb_len]; omega)).mono ?_
  rintro e w' ⟨he, y, rfl, hy⟩
  rw [bev_beb_fit (lt_nby v), beb_len] at hy
  exact ⟨he, y, rfl, hy.mono (by omega)⟩

set_option maxRecDepth 10000 in
set_option maxHeartbeats 2000000 in
theorem fnBytesRound_walk  (n0 : Bool) (v0 : Value) (ws0 : List Nat) (w : World) (hr0 : Rd .u64 w v0 ws0) (hl0 : ws0.length ≤ 17592186043904)  :
    Calls Try.prog 8 #[.agg #[.bool n0, v0]] w (ValR (.bool true) w) := by
  obtain ⟨a0, c0, rfl⟩ := hr0.form
  have hz0 : IsZ 17592186043904 (ival n0 ws0) (.agg #[.bool n0, .slice a0 ws0.length c0]) w := ⟨n0, _, ws0, rfl, hr0, hl0, rfl⟩
  have HR0 := Lib.hid hr0
  generalize hg0 : ival n0 ws0 = za at hz0
  have HZ0 := Lib.hid hz0
  have HG0 := Lib.hid hg0
  clear hz0 hg0 hr0
  have HNB : Hid (nby (za).natAbs ≤ 8 * 17592186043904) := Lib.hid (isz_nby HZ0.out)
  go_enter Try.func8, Try.ntmps8
  go_wp2_with fail
  have g0 := heap_alloc_new w (.cells #[.bool n0, .slice a0 ws0.length c0] 24)
  have hE0 : Ext w (w.alloc (.cells #[.bool n0, .slice a0 ws0.length c0] 24)) := Ext.alloc _ _
  have hsz3 : (w.alloc (.cells #[.bool n0, .slice a0 ws0.length c0] 24)).heap.size = w.heap.size + 1 := by simp
  generalize (w.alloc (.cells #[.bool n0, .slice a0 ws0.length c0] 24)) = w4 at *
  generalize hn0 : w4.heap.size = N0 at *
  have HE0 := Lib.hid hE0
  have G0 := Lib.hid g0
  have HSZ := Lib.hid hsz3
  clear g0 hE0 hsz3
  refine (toImpl_z 17592186043904 za _ _ (HZ0.out.ext HE0.out) (by omega)).mono ?_
  rintro e w5 ⟨he, y5, rfl, hy⟩
  have HE5 := Lib.hid (HE0.out.trans he)
  have HY5 := Lib.hid hy
  have Q5 := Lib.hid (he.block G0.out)
  clear he hy
  go_wp2_with fail
  refine (implBytes_z 17592186043904 za _ _ HY5.out.z (by omega)).mono ?_
  rintro e w6 ⟨he, y6, rfl, hy⟩
  obtain ⟨a6, c6, rfl⟩ := Rd.form hy
  have HE6 := Lib.hid (HE5.out.trans he)
  have HB6 := Lib.hid hy
  have Q6 := Lib.hid (he.block Q5.out)
  clear he hy HY5 HE5 Q5
  go_wp2_with fail
  refine wp_region_D preExt mixed [IsR8 (beb (nby ((za).natAbs)) ((za).natAbs)), IsC (17592186043904) ((((za).natAbs : Nat) : Int)), IsZ (17592186043904) (za), IsW (17592186043904) (za), IsC (17592186043904) (((za).natAbs : Int)), IsW (17592186043904) (((za).natAbs : Int)), Is (.bool true), Is (.bool true), IsR8 (beb (nby ((za).natAbs)) ((za).natAbs)), IsC (17592186043904) ((((za).natAbs : Nat) : Int)), IsZ (17592186043904) (za), IsC (17592186043904) (((za).natAbs : Int)), Is (.bool true), Is (.bool true), Is (.bool true), IsZ (17592186043904) (za), IsC (17592186043904) (-(za)), IsW (17592186043904) (-(za)), IsR8 (beb (nby ((-(za)).natAbs)) ((-(za)).natAbs)), IsC (17592186043904) ((((-(za)).natAbs : Nat) : Int)), IsZ (17592186043904) (za), IsC (17592186043904) (((za).natAbs : Int)), Is (.bool true), Is (.bool true)] (by kernel_rfl) ?mono rfl ?steps ?last
  case mono =>
    simp only [List.forall_mem_cons, List.not_mem_nil, false_implies, implies_true, and_true]
    refine ⟨?_, ?_, ?_, ?_, ?_, ?_, ?_, ?_, ?_, ?_, ?_, ?_, ?_, ?_, ?_, ?_, ?_, ?_, ?_, ?_, ?_, ?_, ?_, ?_⟩
    all_goals first | exact fun _ _ _ _ q => q | exact fun _ _ _ he q => q.ext he
  case steps =>
    refine ⟨?_, ?_, ?_, ?_, ?_, ?_, ?_, ?_, ?_, ?_, ?_, ?_, ?_, ?_, ?_, ?_, ?_, ?_, ?_, ?_, ?_, ?_, ?_, ?_, trivial⟩
    all_goals
      intro u0 u1 u2 u3 u4 u5 u6 u7 u8 u9 u10 u11 u12 u13 u14 u15 u16 u17 u18 u19 u20 u21 u22 u23 u24 w1 he hk
      simp [KnownD, Oper.looksAt, Op.operands, Call.operands, List.findIdx?_cons, Act.put] at hk
      simp only [Act.put, List.setIfInBounds_toArray, List.set_cons_succ, List.set_cons_zero]
    · go_wp2_with fail
      exact ⟨rfl, Ext.refl _, HB6.out.ext he⟩
    · have k0 := hk
      have H0 := Lib.hid k0
      clear k0
      go_wp2_with fail
      refine (setBytes_b (17592186043904) ((za).natAbs) _ _ (by first | exact H0.out | simpa using H0.out) (by first | exact HNB.out | (rw [Int.natAbs_neg]; exact HNB.out)) (by omega)).mono ?_
      rintro e w2 ⟨he2, x, rfl, hx⟩
      have HX := Lib.hid hx
      clear hx
      go_wp2_with fail
      exact ⟨rfl, he2, HX.out⟩
    · have hb := he.block Q6.out
      have q0 := blk_cell hb 0
      have q1 := blk_cell hb 1
      simp at q0 q1
      clear hb
      go_wp2_with fail
      exact ⟨rfl, Ext.refl _, HZ0.out.ext (HE6.out.trans he)⟩
    · have k0 := hk
      have H0 := Lib.hid k0
      clear k0
      go_wp2_with fail
      refine (toSpec_z (17592186043904) (za) _ _ (H0.out) (by omega)).mono ?_
      rintro e w2 ⟨he2, x, rfl, hx⟩
      have HX := Lib.hid hx
      clear hx
      go_wp2_with fail
      exact ⟨rfl, he2, HX.out⟩
    · have k0 := hk
      have H0 := Lib.hid k0
      clear k0
      go_wp2_with fail
      refine (specAbs_z (17592186043904) (za) _ _ (H0.out.z) (by omega)).mono ?_
      rintro e w2 ⟨he2, x, rfl, hx⟩
      have HX := Lib.hid hx
      clear hx
      go_wp2_with fail
      exact ⟨rfl, he2, HX.out⟩
    · have k0 := hk
      have H0 : Hid (IsC (17592186043904) (((za).natAbs : Int)) u4 w1) := Lib.hid (by first | exact k0 | simpa using k0)
      clear k0
      go_wp2_with fail
      refine (fromSpec_z (17592186043904) (((za).natAbs : Int)) _ _ (H0.out.w)).mono ?_
      rintro e w2 ⟨he2, x, rfl, hx⟩
      have HX := Lib.hid hx
      clear hx
      go_wp2_with fail
      exact ⟨rfl, he2, HX.out⟩
    · obtain ⟨k0, k1⟩ := hk
      have H0 : Hid (IsC (17592186043904) ((((za).natAbs : Nat) : Int)) u1 w1) := Lib.hid (by first | exact k0 | simpa using k0)
      have H1 : Hid (IsW (17592186043904) (((za).natAbs : Int)) u5 w1) := Lib.hid (by first | exact k1 | simpa using k1)
      clear k0 k1
      go_wp2_with fail
      refine (same_z (17592186043904) (17592186043904) ((((za).natAbs : Nat) : Int)) (((za).natAbs : Int)) _ _ _ (H0.out.z) (H1.out.z) (by omega) (by omega)).mono ?_
      rintro e w2 ⟨he2, x, rfl, hx⟩
      obtain rfl : x = .bool true := hx.trans (by simp)
      go_wp2_with fail
      exact ⟨rfl, he2, rfl⟩
    · have k0 := hk
      obtain rfl : u6 = .bool true := k0
      go_wp2_with fail
      exact ⟨rfl, Ext.refl _, by show (_ : Value) = _; (first | rfl | simp); try rfl⟩
    · have k0 := hk
      obtain rfl : u7 = .bool true := k0
      go_wp2_with fail
      exact ⟨rfl, Ext.refl _, HB6.out.ext he⟩
    · obtain ⟨k0, k1⟩ := hk
      obtain rfl : u7 = .bool true := k1
      have H0 := Lib.hid k0
      clear k0
      go_wp2_with fail
      refine (setBytes_b (17592186043904) ((za).natAbs) _ _ (by first | exact H0.out | simpa using H0.out) (by first | exact HNB.out | (rw [Int.natAbs_neg]; exact HNB.out)) (by omega)).mono ?_
      rintro e w2 ⟨he2, x, rfl, hx⟩
      have HX := Lib.hid hx
      clear hx
      go_wp2_with fail
      exact ⟨rfl, he2, HX.out⟩
    · have k0 := hk
      obtain rfl : u7 = .bool true := k0
      have hb := he.block Q6.out
      have q0 := blk_cell hb 0
      have q1 := blk_cell hb 1
      simp at q0 q1
      clear hb
      go_wp2_with fail
      exact ⟨rfl, Ext.refl _, HZ0.out.ext (HE6.out.trans he)⟩
    · obtain ⟨k0, k1⟩ := hk
      obtain rfl : u7 = .bool true := k1
      have H0 := Lib.hid k0
      clear k0
      go_wp2_with fail
      refine (abs_z (17592186043904) (za) _ _ (H0.out) (by omega)).mono ?_
      rintro e w2 ⟨he2, x, rfl, hx⟩
      have HX := Lib.hid hx
      clear hx
      go_wp2_with fail
      exact ⟨rfl, he2, HX.out⟩
    · obtain ⟨k0, k1, k2⟩ := hk
      obtain rfl : u7 = .bool true := k2
      have H0 : Hid (IsC (17592186043904) ((((za).natAbs : Nat) : Int)) u9 w1) := Lib.hid (by first | exact k0 | simpa using k0)
      have H1 : Hid (IsC (17592186043904) (((za).natAbs : Int)) u11 w1) := Lib.hid (by first | exact k1 | simpa using k1)
      clear k0 k1
      go_wp2_with fail
      refine (same_z (17592186043904) (17592186043904) ((((za).natAbs : Nat) : Int)) (((za).natAbs : Int)) _ _ _ (H0.out.z) (H1.out.z) (by omega) (by omega)).mono ?_
      rintro e w2 ⟨he2, x, rfl, hx⟩
      obtain rfl : x = .bool true := hx.trans (by simp)
      go_wp2_with fail
      exact ⟨rfl, he2, rfl⟩
    · obtain ⟨k0, k1⟩ := hk
      obtain rfl : u7 = .bool true := k0
      obtain rfl : u12 = .bool true := k1
      go_wp2_with fail
      exact ⟨rfl, Ext.refl _, by show (_ : Value) = _; (first | rfl | simp); try rfl⟩
    · have k0 := hk
      obtain rfl : u13 = .bool true := k0
      go_wp2_with fail
      exact ⟨rfl, Ext.refl _, by show (_ : Value) = _; (first | rfl | simp); try rfl⟩
    · have k0 := hk
      obtain rfl : u14 = .bool true := k0
      have hb := he.block Q6.out
      have q0 := blk_cell hb 0
      have q1 := blk_cell hb 1
      simp at q0 q1
      clear hb
      go_wp2_with fail
      exact ⟨rfl, Ext.refl _, HZ0.out.ext (HE6.out.trans he)⟩
    · obtain ⟨k0, k1⟩ := hk
      obtain rfl : u14 = .bool true := k1
      have H0 := Lib.hid k0
      clear k0
      go_wp2_with fail
      refine (neg_z (17592186043904) (za) _ _ (H0.out) (by omega)).mono ?_
      rintro e w2 ⟨he2, x, rfl, hx⟩
      have HX := Lib.hid hx
      clear hx
      go_wp2_with fail
      exact ⟨rfl, he2, HX.out⟩
    · obtain ⟨k0, k1⟩ := hk
      obtain rfl : u14 = .bool true := k1
      have H0 : Hid (IsC (17592186043904) (-(za)) u16 w1) := Lib.hid (by first | exact k0 | simpa using k0)
      clear k0
      go_wp2_with fail
      refine (toImpl_z (17592186043904) (-(za)) _ _ (H0.out.z) (by omega)).mono ?_
      rintro e w2 ⟨he2, x, rfl, hx⟩
      have HX := Lib.hid hx
      clear hx
      go_wp2_with fail
      exact ⟨rfl, he2, HX.out⟩
    · obtain ⟨k0, k1⟩ := hk
      obtain rfl : u14 = .bool true := k1
      have H0 : Hid (IsW (17592186043904) (-(za)) u17 w1) := Lib.hid (by first | exact k0 | simpa using k0)
      clear k0
      go_wp2_with fail
      refine (implBytes_z (17592186043904) (-(za)) _ _ (H0.out.z) (by omega)).mono ?_
      rintro e w2 ⟨he2, x, rfl, hx⟩
      have HX := Lib.hid hx
      clear hx
      go_wp2_with fail
      exact ⟨rfl, he2, HX.out⟩
    · obtain ⟨k0, k1⟩ := hk
      obtain rfl : u14 = .bool true := k1
      have H0 := Lib.hid k0
      clear k0
      go_wp2_with fail
      refine (setBytes_b (17592186043904) ((-(za)).natAbs) _ _ (by first | exact H0.out | simpa using H0.out) (by first | exact HNB.out | (rw [Int.natAbs_neg]; exact HNB.out)) (by omega)).mono ?_
      rintro e w2 ⟨he2, x, rfl, hx⟩
      have HX := Lib.hid hx
      clear hx
      go_wp2_with fail
      exact ⟨rfl, he2, HX.out⟩
    · have k0 := hk
      obtain rfl : u14 = .bool true := k0
      have hb := he.block Q6.out
      have q0 := blk_cell hb 0
      have q1 := blk_cell hb 1
      simp at q0 q1
      clear hb
      go_wp2_with fail
      exact ⟨rfl, Ext.refl _, HZ0.out.ext (HE6.out.trans he)⟩
    · obtain ⟨k0, k1⟩ := hk
      obtain rfl : u14 = .bool true := k1
      have H0 := Lib.hid k0
      clear k0
      go_wp2_with fail
      refine (abs_z (17592186043904) (za) _ _ (H0.out) (by omega)).mono ?_
      rintro e w2 ⟨he2, x, rfl, hx⟩
      have HX := Lib.hid hx
      clear hx
      go_wp2_with fail
      exact ⟨rfl, he2, HX.out⟩
    · obtain ⟨k0, k1, k2⟩ := hk
      obtain rfl : u14 = .bool true := k2
      have H0 : Hid (IsC (17592186043904) ((((-(za)).natAbs : Nat) : Int)) u19 w1) := Lib.hid (by first | exact k0 | simpa using k0)
      have H1 : Hid (IsC (17592186043904) (((za).natAbs : Int)) u21 w1) := Lib.hid (by first | exact k1 | simpa using k1)
      clear k0 k1
      go_wp2_with fail
      refine (same_z (17592186043904) (17592186043904) ((((-(za)).natAbs : Nat) : Int)) (((za).natAbs : Int)) _ _ _ (H0.out.z) (H1.out.z) (by omega) (by omega)).mono ?_
      rintro e w2 ⟨he2, x, rfl, hx⟩
      obtain rfl : x = .bool true := hx.trans (by simp)
      go_wp2_with fail
      exact ⟨rfl, he2, rfl⟩
    · obtain ⟨k0, k1⟩ := hk
      obtain rfl : u14 = .bool true := k0
      obtain rfl : u22 = .bool true := k1
      go_wp2_with fail
      exact ⟨rfl, Ext.refl _, by show (_ : Value) = _; (first | rfl | simp); try rfl⟩
  case last =>
    intro w1 he u0 h0 u1 h1 u2 h2 u3 h3 u4 h4 u5 h5 u6 h6 u7 h7 u8 h8 u9 h9 u10 h10 u11 h11 u12 h12 u13 h13 u14 h14 u15 h15 u16 h16 u17 h17 u18 h18 u19 h19 u20 h20 u21 h21 u22 h22 u23 h23
    obtain rfl : u23 = .bool true := h23
    clear h0 h1 h2 h3 h4 h5 h6 h7 h8 h9 h10 h11 h12 h13 h14 h15 h16 h17 h18 h19 h20 h21 h22
    simp only [LastD, Act.put, List.setIfInBounds_toArray, List.set_cons_succ, List.set_cons_zero]
    have HE := Lib.hid ((HE6.out).trans he)
    clear he
    go_wp2_with fail
    go_ret
    exact ⟨HE.out, rfl⟩

end Go.Proofs.Ytfpkaamldifkbaa

