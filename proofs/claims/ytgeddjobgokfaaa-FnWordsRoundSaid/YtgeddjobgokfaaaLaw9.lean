/- bitsOf, setBits, FnWordsRound (printed by lawgen.py). -/
import Derived.Test.YtgeddjobgokfaaaLaw4
import Derived.Test.YtgeddjobgokfaaaHelpers
import Derived.Test.YtgeddjobgokfaaaCmp3
set_option linter.unusedSimpArgs false
set_option linter.unusedVariables false
namespace Go.Proofs.Ytgeddjobgokfaaa
open Go.RowKit

set_option maxHeartbeats 1000000 in
theorem setBits_b (L : Nat) (z : Int) (v : Value) (w : World) (h : IsB L z v w) (hL : L ≤ 17592186044416) :
    Calls Try.prog 28 #[v] w (ResR (IsC L (z.natAbs : Int)) w) := by
  obtain ⟨ws, ho, hn, hv, hl⟩ := h
  obtain ⟨a, c, rfl⟩ := ho.form
  have HR := Lib.hid ho.read
  have HV := Lib.hid hv
  have HL := Lib.hid hl
  clear ho hn hv hl
  go_enter Try.func28, Try.ntmps28
  go_wp2_with (at_builtin; refine wpList_copy_words (k := .u64) (bytes := 8) rfl (.tmp 3) (.tmp 4) 22 rfl 68 Try.underlying22 infoUint w.heap.size (w.heap.size + 1) rfl (heap_second _ _ _) (by omega) _ rfl ws ?r1 ?r2 ?r3 ?_)
  case r1 => exact HR.out.ext ((Ext.alloc _ _).trans (Ext.alloc _ _))
  case r2 => have := HL.out; omega
  case r3 => have := HL.out; omega
  intro v' w0 ho he
  have HC : Hid (Rd .u64 w0 v' ws) := ho.read
  have HE := Lib.hid (((Ext.alloc _ _).trans (Ext.alloc _ _)).trans he)
  have HB := Lib.hid ((Ext.alloc _ _).trans he)
  clear he ho HR
  go_wp2_with fail
  refine (implSetBits_z ws _ _ HC.out (by have := HL.out; omega)).mono ?_
  rintro e w1 ⟨he, y1, rfl, hy⟩
  replace HE := Lib.hid (HE.out.trans he)
  replace HB := Lib.hid (HB.out.trans he)
  have HY1 := Lib.hid hy
  clear he hy
  go_wp2_with fail
  refine (fromImpl_z (ws.length) ((val ws : Int)) _ _ HY1.out).mono ?_
  rintro e w2 ⟨he, y2, rfl, hy⟩
  replace HE := Lib.hid (HE.out.trans he)
  replace HB := Lib.hid (HB.out.trans he)
  have HY2 := Lib.hid hy
  clear he hy HY1
  obtain ⟨m, aa, ll, cc, rfl⟩ := HY2.out.form
  have hp : w2.heap[w.heap.size]? = some (.cells #[.bool false, .slice none 0 0] 24 (0, 0)) := HB.out.block (heap_alloc_new _ _)
  have d0 := blk_cell hp 0
  have d1 := blk_cell hp 1
  have f0 := blk_free hp 0
  have f1 := blk_free hp 1
  simp at d0 d1
  have HP := Lib.hid hp
  clear hp
  go_wp2_with fail
  obtain ⟨e0, e1, hu⟩ := set2 HP.out (.bool m) (.slice aa ll cc)
  refine bodyPost_ret (results_laws rfl _ rfl e0 e1) rfl ⟨hu.ext HE.out (by omega), _, rfl, ?_⟩
  have h := HY2.out.upd HP.out (by decide) hu
  rw [HV.out] at h
  exact h.mono HL.out

theorem setBits_bn (L : Nat) (z : Int) (v : Value) (w : World) (h : IsB L (-z) v w) (hL : L ≤ 17592186044416) :
    Calls Try.prog 28 #[v] w (ResR (IsC L (z.natAbs : Int)) w) := by
  have := setBits_b L (-z) v w h hL
  rwa [Int.natAbs_neg] at this

set_option maxHeartbeats 1000000 in
theorem bitsOf_b (L : Nat) (z : Int) (x : Value) (w : World) (hz : IsZ L z x w) (hL : L ≤ 17592186044416) :
    Calls Try.prog 27 #[x] w (ResR (IsB L z) w) := by
  obtain ⟨n0, a0, l0, c0, rfl⟩ := hz.form
  have HZ0 := Lib.hid hz
  clear hz
  go_enter Try.func27, Try.ntmps27
  go_wp2_with fail
  refine (toImpl_z L z _ _ (HZ0.out.ext (Ext.alloc _ _)) (by omega)).mono ?_
  rintro e w1 ⟨he, y1, rfl, hy⟩
  have HY1 := Lib.hid hy
  have HE := Lib.hid ((Ext.alloc _ _).trans he)
  clear he hy
  go_wp2_with fail
  refine (implBits_b L z _ _ HY1.out.z (by omega)).mono ?_
  rintro e w2 ⟨he, y2, rfl, hy⟩
  have HY2 := Lib.hid hy
  replace HE := Lib.hid (HE.out.trans he)
  clear he hy HY1
  go_wp2_with fail
  go_ret
  exact ⟨HE.out, _, rfl, HY2.out⟩

theorem isZ_bits {L : Nat} {z : Int} {s : Value} {w : World} {n : Bool} {ws : List Nat} (hz : ival n ws = z) (hB : IsB L z s w) : IsZ L z (.agg #[.bool n, s]) w := by
  obtain ⟨us, ho, hn, hv, hl⟩ := hB
  refine ⟨n, s, us, rfl, ho.read, hl, ?_⟩
  subst hz
  cases n <;> simp [ival] at hv ⊢ <;> omega

set_option maxHeartbeats 1000000 in
theorem fnWordsRound_walk (n0 : Bool) (v0 : Value) (ws0 : List Nat) (w : World) (hr0 : Rd .u64 w v0 ws0) (hl0 : ws0.length ≤ 17592186043904) :
    Calls Try.prog 8 #[.agg #[.bool n0, v0]] w (ValR (.bool true) w) := by
  obtain ⟨a0, c0, rfl⟩ := hr0.form
  have hz0 : IsZ 17592186043904 (ival n0 ws0) (.agg #[.bool n0, .slice a0 ws0.length c0]) w := ⟨n0, _, ws0, rfl, hr0, hl0, rfl⟩
  generalize hg0 : ival n0 ws0 = z at hz0
  have HZ0 := Lib.hid hz0
  have HG0 := Lib.hid hg0
  clear hz0 hg0 hr0
  go_enter Try.func8, Try.ntmps8
  go_wp2_with fail
  refine (bitsOf_b 17592186043904 z _ _ (HZ0.out.ext (Ext.alloc _ _)) (by omega)).mono ?_
  rintro e w1' ⟨he, y1, rfl, hy⟩
  have HY1 := Lib.hid hy
  have hg := he.block (heap_alloc_new _ _)
  have G0 := Lib.hid hg
  have HE0 := Lib.hid ((Ext.alloc _ _).trans he)
  clear he hy hg
  go_wp2_with fail
  refine wp_region_D preExt mixed [IsB (17592186043904) (z), IsC (17592186043904) (((z).natAbs : Int)), IsZ (17592186043904) (z), IsC (17592186043904) (((z).natAbs : Int)), Is (.bool true), Is (.bool true), Is (.pointer (some ⟨w.heap.size, 0, none⟩)), Is (.bool n0), IsB (17592186043904) (z), IsZ (17592186043904) (z), IsZ (17592186043904) (z), Is (.bool true), Is (.bool true), Is (.bool true), IsZ (17592186043904) (z), IsC (17592186043904) (-(z)), IsB (17592186043904) (-(z)), IsC (17592186043904) (((z).natAbs : Int)), IsZ (17592186043904) (z), IsC (17592186043904) (((z).natAbs : Int)), Is (.bool true), Is (.bool true)] (by kernel_rfl) ?mono rfl ?steps ?last
  case mono =>
    simp only [List.forall_mem_cons, List.not_mem_nil, false_implies, implies_true, and_true]
    refine ⟨?_, ?_, ?_, ?_, ?_, ?_, ?_, ?_, ?_, ?_, ?_, ?_, ?_, ?_, ?_, ?_, ?_, ?_, ?_, ?_, ?_, ?_⟩
    all_goals first | exact fun _ _ _ _ q => q | exact fun _ _ _ he q => q.ext he
  case steps =>
    refine ⟨?_, ?_, ?_, ?_, ?_, ?_, ?_, ?_, ?_, ?_, ?_, ?_, ?_, ?_, ?_, ?_, ?_, ?_, ?_, ?_, ?_, ?_, trivial⟩
    all_goals
      intro u0 u1 u2 u3 u4 u5 u6 u7 u8 u9 u10 u11 u12 u13 u14 u15 u16 u17 u18 u19 u20 u21 u22 w1 he hk
      simp [KnownD, Oper.looksAt, Op.operands, Call.operands, List.findIdx?_cons, Act.put] at hk
      simp only [Act.put, List.setIfInBounds_toArray, List.set_cons_succ, List.set_cons_zero]
    · go_wp2_with fail
      exact ⟨rfl, Ext.refl _, HY1.out.ext he⟩
    · have k0 := hk
      have H0 := Lib.hid k0
      clear k0
      go_wp2_with fail
      refine (setBits_b (17592186043904) (z) _ _ (H0.out) (by omega)).mono ?_
      rintro e w2 ⟨he2, x, rfl, hx⟩
      have HX := Lib.hid hx
      clear hx
      go_wp2_with fail
      exact ⟨rfl, he2, HX.out⟩
    · have hb := he.block G0.out
      have q0 := blk_cell hb 0
      have q1 := blk_cell hb 1
      simp at q0 q1
      clear hb
      go_wp2_with fail
      exact ⟨rfl, Ext.refl _, HZ0.out.ext (HE0.out.trans he)⟩
    · have k0 := hk
      have H0 := Lib.hid k0
      clear k0
      go_wp2_with fail
      refine (abs_z (17592186043904) (z) _ _ (H0.out) (by omega)).mono ?_
      rintro e w2 ⟨he2, x, rfl, hx⟩
      have HX := Lib.hid hx
      clear hx
      go_wp2_with fail
      exact ⟨rfl, he2, HX.out⟩
    · obtain ⟨k0, k1⟩ := hk
      have H0 := Lib.hid k0
      have H1 := Lib.hid k1
      clear k0 k1
      go_wp2_with fail
      refine (same_z (17592186043904) (17592186043904) (((z).natAbs : Int)) (((z).natAbs : Int)) _ _ _ (H0.out.z) (H1.out.z) (by omega) (by omega)).mono ?_
      rintro e w2 ⟨he2, x, rfl, hx⟩
      obtain rfl : x = .bool true := hx.trans (by simp)
      go_wp2_with fail
      exact ⟨rfl, he2, rfl⟩
    · have k0 := hk
      obtain rfl : u4 = .bool true := k0
      go_wp2_with fail
      exact ⟨rfl, Ext.refl _, by show (_ : Value) = _; (first | rfl | simp); try rfl⟩
    · have k0 := hk
      obtain rfl : u5 = .bool true := k0
      go_wp2_with fail
      exact ⟨rfl, Ext.refl _, by show (_ : Value) = _; (rfl); try rfl⟩
    · obtain ⟨k0, k1⟩ := hk
      obtain rfl : u6 = .pointer (some ⟨w.heap.size, 0, none⟩) := k0
      obtain rfl : u5 = .bool true := k1
      have hb := he.block G0.out
      have q0 := blk_cell hb 0
      simp at q0
      clear hb
      go_wp2_with fail
      exact ⟨rfl, Ext.refl _, rfl⟩
    · have k0 := hk
      obtain rfl : u5 = .bool true := k0
      go_wp2_with fail
      exact ⟨rfl, Ext.refl _, HY1.out.ext he⟩
    · obtain ⟨k0, k1, k2⟩ := hk
      obtain rfl : u7 = .bool n0 := k0
      obtain rfl : u5 = .bool true := k2
      obtain ⟨ws', ho', hrest'⟩ := k1
      obtain ⟨a', c', rfl⟩ := ho'.form
      have HK : Hid (IsB 17592186043904 z _ _) := ⟨_, ho', hrest'⟩
      clear ho' hrest'
      go_wp2_with fail
      exact ⟨rfl, Ext.refl _, isZ_bits HG0.out HK.out⟩
    · have k0 := hk
      obtain rfl : u5 = .bool true := k0
      have hb := he.block G0.out
      have q0 := blk_cell hb 0
      have q1 := blk_cell hb 1
      simp at q0 q1
      clear hb
      go_wp2_with fail
      exact ⟨rfl, Ext.refl _, HZ0.out.ext (HE0.out.trans he)⟩
    · obtain ⟨k0, k1, k2⟩ := hk
      obtain rfl : u5 = .bool true := k2
      have H0 := Lib.hid k0
      have H1 := Lib.hid k1
      clear k0 k1
      go_wp2_with fail
      refine (same_z (17592186043904) (17592186043904) (z) (z) _ _ _ (H0.out) (H1.out) (by omega) (by omega)).mono ?_
      rintro e w2 ⟨he2, x, rfl, hx⟩
      obtain rfl : x = .bool true := hx.trans (by simp)
      go_wp2_with fail
      exact ⟨rfl, he2, rfl⟩
    · obtain ⟨k0, k1⟩ := hk
      obtain rfl : u5 = .bool true := k0
      obtain rfl : u11 = .bool true := k1
      go_wp2_with fail
      exact ⟨rfl, Ext.refl _, by show (_ : Value) = _; (first | rfl | simp); try rfl⟩
    · have k0 := hk
      obtain rfl : u12 = .bool true := k0
      go_wp2_with fail
      exact ⟨rfl, Ext.refl _, by show (_ : Value) = _; (first | rfl | simp); try rfl⟩
    · have k0 := hk
      obtain rfl : u13 = .bool true := k0
      have hb := he.block G0.out
      have q0 := blk_cell hb 0
      have q1 := blk_cell hb 1
      simp at q0 q1
      clear hb
      go_wp2_with fail
      exact ⟨rfl, Ext.refl _, HZ0.out.ext (HE0.out.trans he)⟩
    · obtain ⟨k0, k1⟩ := hk
      obtain rfl : u13 = .bool true := k1
      have H0 := Lib.hid k0
      clear k0
      go_wp2_with fail
      refine (neg_z (17592186043904) (z) _ _ (H0.out) (by omega)).mono ?_
      rintro e w2 ⟨he2, x, rfl, hx⟩
      have HX := Lib.hid hx
      clear hx
      go_wp2_with fail
      exact ⟨rfl, he2, HX.out⟩
    · obtain ⟨k0, k1⟩ := hk
      obtain rfl : u13 = .bool true := k1
      have H0 := Lib.hid k0
      clear k0
      go_wp2_with fail
      refine (bitsOf_b (17592186043904) (-(z)) _ _ (H0.out.z) (by omega)).mono ?_
      rintro e w2 ⟨he2, x, rfl, hx⟩
      have HX := Lib.hid hx
      clear hx
      go_wp2_with fail
      exact ⟨rfl, he2, HX.out⟩
    · obtain ⟨k0, k1⟩ := hk
      obtain rfl : u13 = .bool true := k1
      have H0 := Lib.hid k0
      clear k0
      go_wp2_with fail
      refine (setBits_bn (17592186043904) (z) _ _ (H0.out) (by omega)).mono ?_
      rintro e w2 ⟨he2, x, rfl, hx⟩
      have HX := Lib.hid hx
      clear hx
      go_wp2_with fail
      exact ⟨rfl, he2, HX.out⟩
    · have k0 := hk
      obtain rfl : u13 = .bool true := k0
      have hb := he.block G0.out
      have q0 := blk_cell hb 0
      have q1 := blk_cell hb 1
      simp at q0 q1
      clear hb
      go_wp2_with fail
      exact ⟨rfl, Ext.refl _, HZ0.out.ext (HE0.out.trans he)⟩
    · obtain ⟨k0, k1⟩ := hk
      obtain rfl : u13 = .bool true := k1
      have H0 := Lib.hid k0
      clear k0
      go_wp2_with fail
      refine (abs_z (17592186043904) (z) _ _ (H0.out) (by omega)).mono ?_
      rintro e w2 ⟨he2, x, rfl, hx⟩
      have HX := Lib.hid hx
      clear hx
      go_wp2_with fail
      exact ⟨rfl, he2, HX.out⟩
    · obtain ⟨k0, k1, k2⟩ := hk
      obtain rfl : u13 = .bool true := k2
      have H0 := Lib.hid k0
      have H1 := Lib.hid k1
      clear k0 k1
      go_wp2_with fail
      refine (same_z (17592186043904) (17592186043904) (((z).natAbs : Int)) (((z).natAbs : Int)) _ _ _ (H0.out.z) (H1.out.z) (by omega) (by omega)).mono ?_
      rintro e w2 ⟨he2, x, rfl, hx⟩
      obtain rfl : x = .bool true := hx.trans (by simp [Int.natAbs_neg])
      go_wp2_with fail
      exact ⟨rfl, he2, rfl⟩
    · obtain ⟨k0, k1⟩ := hk
      obtain rfl : u13 = .bool true := k0
      obtain rfl : u20 = .bool true := k1
      go_wp2_with fail
      exact ⟨rfl, Ext.refl _, by show (_ : Value) = _; (first | rfl | simp); try rfl⟩
  case last =>
    intro w1 he u0 h0 u1 h1 u2 h2 u3 h3 u4 h4 u5 h5 u6 h6 u7 h7 u8 h8 u9 h9 u10 h10 u11 h11 u12 h12 u13 h13 u14 h14 u15 h15 u16 h16 u17 h17 u18 h18 u19 h19 u20 h20 u21 h21
    obtain rfl : u21 = .bool true := h21
    clear h0 h1 h2 h3 h4 h5 h6 h7 h8 h9 h10 h11 h12 h13 h14 h15 h16 h17 h18 h19 h20
    simp only [LastD, Act.put, List.setIfInBounds_toArray, List.set_cons_succ, List.set_cons_zero]
    have HE := Lib.hid ((HE0.out).trans he)
    clear he
    go_wp2_with fail
    go_ret
    exact ⟨HE.out, rfl⟩

end Go.Proofs.Ytgeddjobgokfaaa

