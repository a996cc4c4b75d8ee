/- FnExactBytes, FnExactSetBytes, FnBytesShort (printed by lawgen.py). -/
import Derived.Test.YtcdkaddgljafhaaBytes9
import Derived.Test.YtcdkaddgljafhaaBytes6
import Derived.Test.YtcdkaddgljafhaaBits
import Derived.Test.YtcdkaddgljafhaaRow
set_option linter.unusedSimpArgs false
set_option linter.unusedVariables false
namespace Go.Proofs.Ytcdkaddgljafhaa
open Go.RowKit

theorem isz_nby {L : Nat} {z : Int} {x : Value} {w : World} (h : IsZ L z x w) : nby z.natAbs ≤ 8 * L := by
  obtain ⟨nn, s, ws, _, hr, hl, hz⟩ := h
  have hvz : z.natAbs = val ws := by rw [← hz, ival_abs]
  have : blen z ≤ 64 * ws.length := by rw [blen, blenN_le_iff, hvz, ← pow64]; exact val_lt ws hr.1
  have h2 : nby z.natAbs = (blen z + 7) / 8 := rfl
  omega

theorem specSetBytes_b (L v : Nat) (x : Value) (w : World) (h : IsR8 (beb (nby v) v) x w) (hn : nby v ≤ 8 * L) (hL : L ≤ 17592186043904) :
    Calls Try.prog 39 #[x] w (ResR (IsC L (v : Int)) w) := by
  refine (specSetBytes_z x _ w h (by rw [beb_len]; omega)).mono ?_
  rintro e w' ⟨he, y, rfl, hy⟩
  rw [bev_beb_fit (lt_nby v), beb_len] at hy
  exact ⟨he, y, rfl, hy.mono (by omega)⟩

set_option maxHeartbeats 1000000 in
theorem fnExactBytes_walk (n0 : Bool) (v0 : Value) (ws0 : List Nat) (w : World) (hr0 : Rd .u64 w v0 ws0) (hl0 : ws0.length ≤ 17592186043904)  :
    Calls Try.prog 14 #[.agg #[.bool n0, v0]] w (ValR (.bool true) w) := by
  obtain ⟨a0, c0, rfl⟩ := hr0.form
  have hz0 : IsZ 17592186043904 (ival n0 ws0) (.agg #[.bool n0, .slice a0 ws0.length c0]) w := ⟨n0, _, ws0, rfl, hr0, hl0, rfl⟩
  generalize hg0 : ival n0 ws0 = za at hz0
  have HZ0 := Lib.hid hz0
  have HG0 := Lib.hid hg0
  clear hz0 hg0 hr0
  have HNB : Hid (nby (za).natAbs ≤ 8 * 17592186043904) := Lib.hid (isz_nby HZ0.out)
  go_enter Try.func14, Try.ntmps14
  go_wp2_with fail
  refine wp_region_D preExt mixed [IsZ (17592186043904) (za), IsW (17592186043904) (za), IsR8 (beb (nby ((za).natAbs)) ((za).natAbs)), IsC (17592186043904) ((((za).natAbs : Nat) : Int)), IsW (17592186043904) ((((za).natAbs : Nat) : Int)), IsZ (17592186043904) (za), IsW (17592186043904) (za), IsC (17592186043904) (((za).natAbs : Int)), IsW (17592186043904) (((za).natAbs : Int)), Is (.bool true)] (by kernel_rfl) ?mono rfl ?steps ?last
  case mono =>
    simp only [List.forall_mem_cons, List.not_mem_nil, false_implies, implies_true, and_true]
    refine ⟨?_, ?_, ?_, ?_, ?_, ?_, ?_, ?_, ?_, ?_⟩
    all_goals first | exact fun _ _ _ _ q => q | exact fun _ _ _ he q => q.ext he
  case steps =>
    refine ⟨?_, ?_, ?_, ?_, ?_, ?_, ?_, ?_, ?_, ?_, trivial⟩
    all_goals
      intro u0 u1 u2 u3 u4 u5 u6 u7 u8 u9 u10 w1 he hk
      simp [KnownD, Oper.looksAt, Op.operands, Call.operands, List.findIdx?_cons, Act.put] at hk
      simp only [Act.put, List.setIfInBounds_toArray, List.set_cons_succ, List.set_cons_zero]
    · have hb := he.block (heap_alloc_new _ _)
      have hc0 := blk_cell hb 0
      have hc1 := blk_cell hb 1
      simp at hc0 hc1
      clear hb
      go_wp2_with fail
      exact ⟨rfl, Ext.refl _, HZ0.out.ext ((Ext.alloc _ _).trans he)⟩
    · have k0 := hk
      have H0 := Lib.hid k0
      clear k0
      go_wp2_with fail
      refine (toImpl_z (17592186043904) (za) _ _ (H0.out) (by omega)).mono ?_
      rintro e w2 ⟨he2, x, rfl, hx⟩
      have HX := Lib.hid hx
      clear hx
      go_wp2_with fail
      exact ⟨rfl, he2, HX.out⟩
    · have k0 := hk
      have H0 := Lib.hid k0
      clear k0
      go_wp2_with fail
      refine (implBytes_z (17592186043904) (za) _ _ (H0.out.z) (by omega)).mono ?_
      rintro e w2 ⟨he2, x, rfl, hx⟩
      have HX := Lib.hid hx
      clear hx
      go_wp2_with fail
      exact ⟨rfl, he2, HX.out⟩
    · have k0 := hk
      have H0 := Lib.hid k0
      clear k0
      go_wp2_with fail
      refine (specSetBytes_b (17592186043904) ((za).natAbs) _ _ H0.out HNB.out (by omega)).mono ?_
      rintro e w2 ⟨he2, x, rfl, hx⟩
      have HX := Lib.hid hx
      clear hx
      go_wp2_with fail
      exact ⟨rfl, he2, HX.out⟩
    · have k0 := hk
      have H0 : Hid (IsC (17592186043904) ((((za).natAbs : Nat) : Int)) u3 w1) := Lib.hid (by first | exact k0 | simpa using k0)
      clear k0
      go_wp2_with fail
      refine (fromSpec_z (17592186043904) ((((za).natAbs : Nat) : Int)) _ _ (H0.out.w)).mono ?_
      rintro e w2 ⟨he2, x, rfl, hx⟩
      have HX := Lib.hid hx
      clear hx
      go_wp2_with fail
      exact ⟨rfl, he2, HX.out⟩
    · have hb := he.block (heap_alloc_new _ _)
      have hc0 := blk_cell hb 0
      have hc1 := blk_cell hb 1
      simp at hc0 hc1
      clear hb
      go_wp2_with fail
      exact ⟨rfl, Ext.refl _, HZ0.out.ext ((Ext.alloc _ _).trans he)⟩
    · have k0 := hk
      have H0 := Lib.hid k0
      clear k0
      go_wp2_with fail
      refine (toSpec_z (17592186043904) (za) _ _ (H0.out) (by omega)).mono ?_
      rintro e w2 ⟨he2, x, rfl, hx⟩
      have HX := Lib.hid hx
      clear hx
      go_wp2_with fail
      exact ⟨rfl, he2, HX.out⟩
    · have k0 := hk
      have H0 := Lib.hid k0
      clear k0
      go_wp2_with fail
      refine (specAbs_z (17592186043904) (za) _ _ (H0.out.z) (by omega)).mono ?_
      rintro e w2 ⟨he2, x, rfl, hx⟩
      have HX := Lib.hid hx
      clear hx
      go_wp2_with fail
      exact ⟨rfl, he2, HX.out⟩
    · have k0 := hk
      have H0 : Hid (IsC (17592186043904) (((za).natAbs : Int)) u7 w1) := Lib.hid (by first | exact k0 | simpa using k0)
      clear k0
      go_wp2_with fail
      refine (fromSpec_z (17592186043904) (((za).natAbs : Int)) _ _ (H0.out.w)).mono ?_
      rintro e w2 ⟨he2, x, rfl, hx⟩
      have HX := Lib.hid hx
      clear hx
      go_wp2_with fail
      exact ⟨rfl, he2, HX.out⟩
    · obtain ⟨k0, k1⟩ := hk
      have H0 : Hid (IsW (17592186043904) ((((za).natAbs : Nat) : Int)) u4 w1) := Lib.hid (by first | exact k0 | simpa using k0)
      have H1 : Hid (IsW (17592186043904) (((za).natAbs : Int)) u8 w1) := Lib.hid (by first | exact k1 | simpa using k1)
      clear k0 k1
      go_wp2_with fail
      refine (same_z (17592186043904) (17592186043904) ((((za).natAbs : Nat) : Int)) (((za).natAbs : Int)) _ _ _ (H0.out.z) (H1.out.z) (by omega) (by omega)).mono ?_
      rintro e w2 ⟨he2, x, rfl, hx⟩
      obtain rfl : x = .bool true := hx.trans (by simp)
      go_wp2_with fail
      exact ⟨rfl, he2, rfl⟩
  case last =>
    intro w1 he u0 h0 u1 h1 u2 h2 u3 h3 u4 h4 u5 h5 u6 h6 u7 h7 u8 h8 u9 h9
    obtain rfl : u9 = .bool true := h9
    clear h0 h1 h2 h3 h4 h5 h6 h7 h8
    simp only [LastD, Act.put, List.setIfInBounds_toArray, List.set_cons_succ, List.set_cons_zero]
    have HE := Lib.hid ((Ext.alloc _ _).trans he)
    clear he
    go_wp2_with fail
    go_ret
    exact ⟨HE.out, rfl⟩

set_option maxHeartbeats 1000000 in
theorem fnExactSetBytes_walk (v : Value) (bs : List Nat) (w : World) (h : Rd .u8 w v bs) (hl : bs.length ≤ 140737488351232) :
    Calls Try.prog 12 #[v] w (ValR (.bool true) w) := by
  obtain ⟨a, c, rfl⟩ := h.form
  have HR := Lib.hid h
  clear h
  go_enter Try.func12, Try.ntmps12
  go_wp2_with (at_builtin; refine wpList_copy_words (k := .u8) (bytes := 1) rfl (.tmp 3) (.tmp 4) 53 rfl 5 Try.underlying53 infoByte w.heap.size w.heap.size rfl (heap_alloc_new _ _) (by omega) _ rfl bs ?r1 ?r2 ?r3 ?_)
  case r1 => exact HR.out.ext (Ext.alloc _ _)
  case r2 => omega
  case r3 => omega
  intro v' w0 ho he
  have HC := Lib.hid ho.read
  have HE := Lib.hid ((Ext.alloc _ _).trans he)
  clear he ho
  go_wp2_with fail
  refine (implSetBytes_z _ bs _ HC.out (by omega)).mono ?_
  rintro e w1 ⟨he, y1, rfl, hy⟩
  replace HE := Lib.hid (HE.out.trans he)
  have HY1 := Lib.hid hy
  clear he hy
  go_wp2_with fail
  refine (fromImpl_z ((bs.length + 7) / 8) (bev bs : Int) _ _ HY1.out).mono ?_
  rintro e w2 ⟨he, y2, rfl, hy⟩
  obtain ⟨m2, a2, l2, c2, rfl⟩ := hy.form
  replace HE := Lib.hid (HE.out.trans he)
  have HY2 := Lib.hid hy
  clear he hy HY1
  go_wp2_with fail
  refine (specSetBytes_z _ bs _ (HR.out.ext HE.out) (by omega)).mono ?_
  rintro e w3 ⟨he, y3, rfl, hy⟩
  obtain ⟨m3, a3, l3, c3, rfl⟩ := hy.form
  replace HE := Lib.hid (HE.out.trans he)
  replace HY2 := Lib.hid (HY2.out.ext he)
  have HY3 := Lib.hid hy
  clear he hy
  go_wp2_with fail
  refine (fromSpec_z ((bs.length + 7) / 8) (bev bs : Int) _ _ HY3.out.w).mono ?_
  rintro e w4 ⟨he, y4, rfl, hy⟩
  obtain ⟨m4, a4, l4, c4, rfl⟩ := hy.form
  replace HE := Lib.hid (HE.out.trans he)
  replace HY2 := Lib.hid (HY2.out.ext he)
  have HY4 := Lib.hid hy
  clear he hy HY3
  go_wp2_with fail
  refine (same_z _ _ _ _ _ _ _ HY2.out.z HY4.out.z (by omega) (by omega)).mono ?_
  rintro e w5 ⟨he, y5, rfl, hy⟩
  obtain rfl : y5 = .bool true := hy.trans (by simp)
  replace HE := Lib.hid (HE.out.trans he)
  clear he
  go_wp2_with fail
  go_ret
  exact ⟨HE.out, rfl⟩

theorem beb_first {v : Nat} (h : 0 < nby v) : (beb (nby v) v).getD 0 0 ≠ 0 := by
  rw [beb_get _ _ _ h]
  have h1 := lt_nby v
  obtain ⟨m, hm⟩ : ∃ m, nby v = m + 1 := ⟨nby v - 1, by omega⟩
  rw [hm] at h1 ⊢
  intro h0
  have h2 := lead_zero h1 (by simpa using h0)
  have := (fit_iff m v).1 h2
  omega

set_option maxRecDepth 10000 in
set_option maxHeartbeats 1000000 in
theorem fnBytesShort_walk (n0 : Bool) (v0 : Value) (ws0 : List Nat) (w : World) (hr0 : Rd .u64 w v0 ws0) (hl0 : ws0.length ≤ 17592186043904) :
    Calls Try.prog 13 #[.agg #[.bool n0, v0]] w (ValR (.bool true) w) := by
  obtain ⟨a0, c0, rfl⟩ := hr0.form
  have hz0 : IsZ 17592186043904 (ival n0 ws0) (.agg #[.bool n0, .slice a0 ws0.length c0]) w := ⟨n0, _, ws0, rfl, hr0, hl0, rfl⟩
  have hbl0 : blen (ival n0 ws0) ≤ 64 * ws0.length := by rw [blen, blenN_le_iff, ival_abs, ← pow64]; exact val_lt ws0 hr0.1
  generalize ival n0 ws0 = z at *
  have HZ := Lib.hid hz0
  have hbl : blen z ≤ 1125899906842624 := by omega
  have hnb : nby z.natAbs = (blen z + 7) / 8 := rfl
  have HNB := Lib.hid hnb
  clear hr0 hz0 hbl0 hnb
  go_enter Try.func13, Try.ntmps13
  go_wp2_with fail
  refine (toImpl_z 17592186043904 z _ _ (HZ.out.ext (Ext.alloc _ _)) (by omega)).mono ?_
  rintro e w1 ⟨he, y1, rfl, hy⟩
  have HE := Lib.hid ((Ext.alloc _ _).trans he)
  have G := Lib.hid (he.block (heap_alloc_new w (.cells #[.bool n0, .slice a0 ws0.length c0] 24)))
  have HY1 := Lib.hid hy
  clear he hy
  go_wp2_with fail
  refine (implBytes_z 17592186043904 z _ _ HY1.out.z (by omega)).mono ?_
  rintro e w2 ⟨he, y2, rfl, hy⟩
  obtain ⟨a2, c2, rfl⟩ := Rd.form hy
  rw [beb_len] at *
  replace HE := Lib.hid (HE.out.trans he)
  replace G := Lib.hid (he.block G.out)
  have HB2 := Lib.hid hy
  clear he hy HY1
  have d0 := blk_cell G.out 0
  have d1 := blk_cell G.out 1
  simp at d0 d1
  go_wp2_with fail
  refine (toSpec_z 17592186043904 z _ _ (HZ.out.ext HE.out) (by omega)).mono ?_
  rintro e w3 ⟨he, y3, rfl, hy⟩
  replace HE := Lib.hid (HE.out.trans he)
  replace HB2 := Lib.hid (HB2.out.ext he)
  have HY3 := Lib.hid hy
  clear he hy d0 d1 G
  go_wp2_with fail
  refine (specBitLen_z 17592186043904 z _ _ HY3.out.z (by omega)).mono ?_
  rintro e w4 ⟨he, y4, rfl, hy⟩
  obtain rfl : y4 = .int .i64 (blen z : Nat) := hy
  replace HE := Lib.hid (HE.out.trans he)
  have hb4 := HB2.out.ext he
  clear he HY3 HB2
  have hnn := HNB.out
  have hf0 : 0 < nby z.natAbs → (beb (nby z.natAbs) z.natAbs).getD 0 0 ≠ 0 := beb_first
  generalize z.natAbs = v at *
  generalize blen z = bl at *
  have hq : (((nby v : Nat) : Int) == ((bl : Int) + 7) / 8) = true := by simp; omega
  rcases Nat.eq_zero_or_pos (nby v) with h0 | h0
  · rw [h0] at hnn ⊢
    have hq0 : ((0 : Int) == ((bl : Int) + 7) / 8) = true := by simp; omega
    clear hb4 hf0 hnn HNB h0 hq
    go_wp2_with fail
    go_ret
    exact ⟨HE.out, rfl⟩
  · have hx := hf0 h0
    obtain ⟨_, a5, c5, q1, q2, q3, q4, q5⟩ := hb4
    rw [beb_len] at q1 q2 q5
    simp at q1
    obtain ⟨rfl, rfl⟩ := q1
    obtain ⟨b, off, rfl, hc⟩ := q5 0 h0
    rw [Nat.add_zero] at hc
    generalize (beb (nby v) v).getD 0 0 = x at *
    generalize nby v = m at *
    have hm0 : ((m : Int) == 0) = false := by simp; omega
    have hx0 : ((x : Int) != 0) = true := by simp; omega
    clear hnn HNB hf0 q5 hx
    go_wp2_with fail
    go_ret
    exact ⟨HE.out, rfl⟩

end Go.Proofs.Ytcdkaddgljafhaa

