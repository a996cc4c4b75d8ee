/- FnWrittenElse (printed by lawgen.py). -/
import Derived.Test.YtdfknmplpjmemaaWe
import Derived.Test.YtdfknmplpjmemaaAddZ
import Derived.Test.YtdfknmplpjmemaaLshZ
import Derived.Test.YtdfknmplpjmemaaOf
import Derived.Test.YtdfknmplpjmemaaCmp3
import Derived.Test.YtdfknmplpjmemaaBitLen
import Derived.Test.YtdfknmplpjmemaaHelpers
import Derived.Test.YtdfknmplpjmemaaLaw11
set_option linter.unusedSimpArgs false
set_option linter.unusedVariables false
namespace Go.Proofs.Ytdfknmplpjmemaa
open Go.RowKit

set_option maxRecDepth 100000 in
set_option maxHeartbeats 2000000 in
theorem fnWrittenElse_walk  (n0 : Bool) (v0 : Value) (ws0 : List Nat) (n1 : Bool) (v1 : Value) (ws1 : List Nat) (w : World) (hr0 : Rd .u64 w v0 ws0) (hl0 : ws0.length ≤ 17592186043904) (hr1 : Rd .u64 w v1 ws1) (hl1 : ws1.length ≤ 17592186043904)  :
    Calls Try.prog 3 #[.agg #[.bool n0, v0], .agg #[.bool n1, v1]] w (ValR (.bool true) w) := by
  obtain ⟨a0, c0, rfl⟩ := hr0.form
  have hz0 : IsZ 17592186043904 (ival n0 ws0) (.agg #[.bool n0, .slice a0 ws0.length c0]) w := ⟨n0, _, ws0, rfl, hr0, hl0, rfl⟩
  have HR0 := Lib.hid hr0
  generalize hg0 : ival n0 ws0 = za at hz0
  have HZ0 := Lib.hid hz0
  have HG0 := Lib.hid hg0
  clear hz0 hg0 hr0
  obtain ⟨a1, c1, rfl⟩ := hr1.form
  have hz1 : IsZ 17592186043904 (ival n1 ws1) (.agg #[.bool n1, .slice a1 ws1.length c1]) w := ⟨n1, _, ws1, rfl, hr1, hl1, rfl⟩
  have HR1 := Lib.hid hr1
  generalize hg1 : ival n1 ws1 = zb at hz1
  have HZ1 := Lib.hid hz1
  have HG1 := Lib.hid hg1
  clear hz1 hg1 hr1
  go_enter Try.func3, Try.ntmps3
  go_wp2_with fail
  have g0 := (Ext.alloc (w.alloc (.cells #[.bool n0, .slice a0 ws0.length c0] 24)) (.cells #[.bool n1, .slice a1 ws1.length c1] 24)).block (heap_alloc_new w (.cells #[.bool n0, .slice a0 ws0.length c0] 24))
  have g1 := heap_second w (.cells #[.bool n0, .slice a0 ws0.length c0] 24) (.cells #[.bool n1, .slice a1 ws1.length c1] 24)
  have hE0 : Ext w ((w.alloc (.cells #[.bool n0, .slice a0 ws0.length c0] 24)).alloc (.cells #[.bool n1, .slice a1 ws1.length c1] 24)) := (Ext.alloc _ _).trans (Ext.alloc _ _)
  have hsz3 : ((w.alloc (.cells #[.bool n0, .slice a0 ws0.length c0] 24)).alloc (.cells #[.bool n1, .slice a1 ws1.length c1] 24)).heap.size = w.heap.size + 1 + 1 := by simp
  generalize ((w.alloc (.cells #[.bool n0, .slice a0 ws0.length c0] 24)).alloc (.cells #[.bool n1, .slice a1 ws1.length c1] 24)) = w4 at *
  generalize hn0 : w4.heap.size = N0 at *
  have HE0 := Lib.hid hE0
  have G0 := Lib.hid g0
  have G1 := Lib.hid g1
  have HSZ := Lib.hid hsz3
  clear g0 g1 hE0 hsz3
  refine wp_region_D (preUW N0 ws0.length) mixed [Is (.pointer (some ⟨w.heap.size, 0, none⟩)), Is (.bool n0), At0 N0, Is (.pointer (some ⟨w.heap.size, 1, none⟩)), Is (.slice a0 ws0.length c0), OwnW N0 ws0, At1, OwnW N0 (ws0 ++ [0]), NumW N0 n0 (ws0 ++ [0]), AtN N0] (by kernel_rfl) ?mono rfl ?steps ?last
  case mono =>
    simp only [List.forall_mem_cons, List.not_mem_nil, false_implies, implies_true, and_true]
    refine ⟨?_, ?_, ?_, ?_, ?_, ?_, ?_, ?_, ?_, ?_⟩
    · exact fun _ _ _ _ q => q
    · exact fun _ _ _ _ q => q
    · exact fun _ _ _ he q => q.uw he
    · exact fun _ _ _ _ q => q
    · exact fun _ _ _ _ q => q
    · exact fun _ _ _ he q => Own.uw q he (fun i h1 h2 => by omega)
    · exact fun _ _ _ he q => q.uw he
    · exact fun _ _ _ he q => Own.uw q he (zeros_last ws0)
    · exact fun _ _ _ he q => by obtain ⟨s, h1, h2⟩ := q; exact ⟨s, h1, Own.uw h2 he (zeros_last ws0)⟩
    · exact fun _ _ _ he q => q.uw he
  case steps =>
    refine ⟨?_, ?_, ?_, ?_, ?_, ?_, ?_, ?_, ?_, ?_, trivial⟩
    all_goals
      intro u0 u1 u2 u3 u4 u5 u6 u7 u8 u9 u10 w1 he hk
      have hx := he.ext' (Nat.le_of_eq hn0)
      have hsz : N0 ≤ w1.heap.size := by have := hx.size; omega
      simp [KnownD, Oper.looksAt, Op.operands, Call.operands, List.findIdx?_cons, Act.put] at hk
      simp only [Act.put, List.setIfInBounds_toArray, List.set_cons_succ, List.set_cons_zero]
    · go_wp2_with fail
      exact ⟨rfl, UW.refl _ _ _, rfl⟩
    · obtain rfl : u0 = .pointer (some ⟨w.heap.size, 0, none⟩) := hk
      have hb := hx.block G0.out
      have q0 := blk_cell hb 0
      have q1 := blk_cell hb 1
      simp at q0 q1
      clear hb
      go_wp2_with fail
      exact ⟨rfl, UW.refl _ _ _, rfl⟩
    · go_wp2_with fail
      exact ⟨rfl, UW.of_ext (Ext.alloc _ _), _, rfl, hsz, heap_alloc_new _ _⟩
    · go_wp2_with fail
      exact ⟨rfl, UW.refl _ _ _, rfl⟩
    · obtain rfl : u3 = .pointer (some ⟨w.heap.size, 1, none⟩) := hk
      have hb := hx.block G0.out
      have q0 := blk_cell hb 0
      have q1 := blk_cell hb 1
      simp at q0 q1
      clear hb
      go_wp2_with fail
      exact ⟨rfl, UW.refl _ _ _, rfl⟩
    · obtain ⟨⟨g, rfl, hg, hh⟩, k1⟩ := hk
      obtain rfl : u4 = .slice a0 ws0.length c0 := k1
      have HH := Lib.hid hh
      have HX := Lib.hid hx
      clear hh hx
      go_wp2_with (at_builtin; refine wpList_copy_words (k := .u64) (bytes := 8) rfl (.tmp 8) (.tmp 10) 22 rfl 25 Try.underlying22 infoUint N0 g rfl HH.out hg _ rfl ws0 ?r1 ?r2 ?r3 ?_)
      case r1 => exact HR0.out.ext (HE0.out.trans HX.out)
      case r2 => omega
      case r3 => omega
      intro v' w2 ho he2
      exact ⟨rfl, UW.of_ext he2, ho⟩
    · go_wp2_with fail
      exact ⟨rfl, UW.of_ext (Ext.alloc _ _), _, rfl, heap_alloc_new _ _⟩
    · obtain ⟨k0, g, rfl, hh⟩ := hk
      obtain ⟨a5, c5, rfl⟩ := Own.form k0
      have hc := blk_cell hh 0
      simp at hc
      have HK := Lib.hid k0
      clear k0 hh
      go_wp2_with (at_builtin; refine wpList_append_zero rfl (.tmp 11) (.tmp 12) rfl N0 _ ws0 rfl HK.out g rfl hc hsz ?r4 ?_)
      case r4 => omega
      intro v' w2 ho hu
      exact ⟨rfl, hu, ho⟩
    · obtain ⟨k0, k1⟩ := hk
      obtain rfl : u1 = .bool n0 := k0
      obtain ⟨a7, c7, rfl⟩ := Own.form k1
      rw [List.length_append] at k1
      have HK : Hid (Own .u64 w1 N0 25 (.slice a7 (ws0.length + 1) c7) (ws0 ++ [0])) := Lib.hid k1
      clear k1
      go_wp2_with fail
      exact ⟨rfl, UW.refl _ _ _, _, rfl, HK.out⟩
    · go_wp2_with fail
      exact ⟨rfl, UW.of_ext (Ext.alloc _ _), _, rfl, heap_alloc_new _ _, hsz⟩
  case last =>
    rename_i K aK
    have AK := Lib.hid aK
    clear aK
    intro w5 he0 u0 h0 u1 h1 u2 h2 u3 h3 u4 h4 u5 h5 u6 h6 u7 h7 u8 h8 u9 h9
    have he := he0.ext' (Nat.le_of_eq hn0)
    obtain ⟨p, rfl, hp, hge⟩ := h9
    obtain ⟨s, rfl, ho⟩ := h8
    clear h0 h1 h2 h3 h4 h5 h6 h7 he0
    obtain ⟨aa, cc, rfl⟩ := ho.form
    have hy : IsW 17592186043905 za (.agg #[.bool n0, .slice aa (ws0 ++ [0]).length cc]) w5 := ⟨n0, _, ws0 ++ [0], rfl, ho.mono (Nat.zero_le _), by simp; omega, by rw [ival_app]; exact HG0.out⟩
    generalize (ws0 ++ [0]).length = ll at *
    simp only [LastD, Act.put, List.setIfInBounds_toArray, List.set_cons_succ, List.set_cons_zero]
    have d0 := blk_cell hp 0
    have d1 := blk_cell hp 1
    have f0 := blk_free hp 0
    have f1 := blk_free hp 1
    simp at d0 d1
    have HP := Lib.hid hp
    have HY := Lib.hid hy
    have HE5 := Lib.hid he
    have HGE := Lib.hid hge
    clear hp hy he hge ho
    go_wp2_with fail
    obtain ⟨e0, e1, hu⟩ := set2 HP.out (.bool n0) (.slice aa ll cc)
    have q9 := blk2_set1 (blk2_set0 HP.out (.bool n0)) (.slice aa ll cc)
    change K _ ((w5.setCell ⟨p, 0, none⟩ (.bool n0)).setCell ⟨p, 1, none⟩ (.slice aa ll cc))
    have HV7 := Lib.hid (HY.out.upd HP.out (by decide) hu)
    have HE7 := Lib.hid (hu.ext (HE0.out.trans HE5.out) (by intro i hi; subst hi; have := HGE.out; have := HSZ.out; omega))
    have q0 := hu.heap (HE5.out.block G0.out) (by have := HGE.out; have := HSZ.out; omega)
    have q1 := hu.heap (HE5.out.block G1.out) (by have := HGE.out; have := HSZ.out; omega)
    generalize ((w5.setCell ⟨p, 0, none⟩ (.bool n0)).setCell ⟨p, 1, none⟩ (.slice aa ll cc)) = w7 at *
    have Q0 := Lib.hid q0
    have Q1 := Lib.hid q1
    have Q9 := Lib.hid q9
    clear q0 q1 q9 e0 e1 hu d0 d1 f0 f1 HP HY HE5 HE0 G0 G1
    refine AK.out _ _ ?_
    clear AK
    go_wp2_with fail

    refine wp_region_D preExt mixed [IsW (17592186043905) (za), IsW (1) (0), IsC (17592186043906) ((za) + (0)), IsZ (17592186043904) (za), Is (.bool true), Is (.bool true), IsW (17592186043905) (za), IsZ (17592186043904) (zb), IsC (17592186043906) ((za) + (zb)), IsZ (17592186043904) (za), IsZ (17592186043904) (zb), IsC (17592186043905) ((za) + (zb)), Is (.bool true), Is (.bool true), Is (.bool true), IsZ (17592186043904) (zb), IsW (17592186043905) (za), IsC (17592186043906) ((zb) - (za)), IsZ (17592186043904) (zb), IsZ (17592186043904) (za), IsC (17592186043905) ((zb) - (za)), Is (.bool true), Is (.bool true), Is (.bool true), IsW (17592186043905) (za), IsC (17592186043970) ((za) * 2 ^ (1)), IsZ (17592186043904) (za), IsC (17592186043969) ((za) * 2 ^ (1)), Is (.bool true), Is (.bool true), Is (.bool true), IsW (17592186043905) (za), IsZ (17592186043904) (zb), Is (.int .i64 (cmpZ (za) (zb))), IsZ (17592186043904) (za), IsZ (17592186043904) (zb), Is (.int .i64 (cmpZ (za) (zb))), Is (.bool true), Is (.bool true), Is (.bool true), IsW (17592186043905) (za), IsZ (17592186043904) (zb), Is (.int .i64 (cmpZ ((za).natAbs : Int) ((zb).natAbs : Int))), IsZ (17592186043904) (za), IsZ (17592186043904) (zb), Is (.int .i64 (cmpZ ((za).natAbs : Int) ((zb).natAbs : Int))), Is (.bool true), Is (.bool true), Is (.bool true), IsW (17592186043905) (za), Is (.int .i64 (blen (za) : Nat)), IsZ (17592186043904) (za), Is (.int .i64 (blen (za) : Nat)), Is (.bool true), Is (.bool true), Is (.bool true), IsW (17592186043905) (za), Is (.int .i64 (sgnZ (za))), IsZ (17592186043904) (za), Is (.int .i64 (sgnZ (za))), Is (.bool true), Is (.bool true)] (by kernel_rfl) ?mono rfl ?steps ?last
    case mono =>
      simp only [List.forall_mem_cons, List.not_mem_nil, false_implies, implies_true, and_true]
      refine ⟨?_, ?_, ?_, ?_, ?_, ?_, ?_, ?_, ?_, ?_, ?_, ?_, ?_, ?_, ?_, ?_, ?_, ?_, ?_, ?_, ?_, ?_, ?_, ?_, ?_, ?_, ?_, ?_, ?_, ?_, ?_, ?_, ?_, ?_, ?_, ?_, ?_, ?_, ?_, ?_, ?_, ?_, ?_, ?_, ?_, ?_, ?_, ?_, ?_, ?_, ?_, ?_, ?_, ?_, ?_, ?_, ?_, ?_, ?_, ?_, ?_, ?_⟩
      all_goals first | exact fun _ _ _ _ q => q | exact fun _ _ _ he q => q.ext he
    case steps =>
      refine ⟨?_, ?_, ?_, ?_, ?_, ?_, ?_, ?_, ?_, ?_, ?_, ?_, ?_, ?_, ?_, ?_, ?_, ?_, ?_, ?_, ?_, ?_, ?_, ?_, ?_, ?_, ?_, ?_, ?_, ?_, ?_, ?_, ?_, ?_, ?_, ?_, ?_, ?_, ?_, ?_, ?_, ?_, ?_, ?_, ?_, ?_, ?_, ?_, ?_, ?_, ?_, ?_, ?_, ?_, ?_, ?_, ?_, ?_, ?_, ?_, ?_, ?_, trivial⟩
      all_goals
        intro u0 u1 u2 u3 u4 u5 u6 u7 u8 u9 u10 u11 u12 u13 u14 u15 u16 u17 u18 u19 u20 u21 u22 u23 u24 u25 u26 u27 u28 u29 u30 u31 u32 u33 u34 u35 u36 u37 u38 u39 u40 u41 u42 u43 u44 u45 u46 u47 u48 u49 u50 u51 u52 u53 u54 u55 u56 u57 u58 u59 u60 u61 u62 w1 he hk
        simp [KnownD, Oper.looksAt, Op.operands, Call.operands, List.findIdx?_cons, Act.put] at hk
        simp only [Act.put, List.setIfInBounds_toArray, List.set_cons_succ, List.set_cons_zero]
      · have hb := he.block Q9.out
        have q0 := blk_cell hb 0
        have q1 := blk_cell hb 1
        simp at q0 q1
        clear hb
        go_wp2_with fail
        exact ⟨rfl, Ext.refl _, HV7.out.ext he⟩
      · go_wp2_with fail
        refine (of_z (0) _ (by decide) (by decide)).mono ?_
        rintro e w2 ⟨he2, x, rfl, hx⟩
        have HX := Lib.hid hx
        clear hx
        go_wp2_with fail
        exact ⟨rfl, he2, HX.out⟩
      · obtain ⟨k0, k1⟩ := hk
        have H0 := Lib.hid k0
        have H1 := Lib.hid k1
        clear k0 k1
        go_wp2_with fail
        refine (add_z (17592186043905) (za) (0) _ _ _ ((H0.out.z).mono (by omega)) ((H1.out.z).mono (by omega)) (by omega)).mono ?_
        rintro e w2 ⟨he2, x, rfl, hx⟩
        have HX := Lib.hid hx
        clear hx
        go_wp2_with fail
        exact ⟨rfl, he2, HX.out⟩
      · have hb := he.block Q0.out
        have q0 := blk_cell hb 0
        have q1 := blk_cell hb 1
        simp at q0 q1
        clear hb
        go_wp2_with fail
        exact ⟨rfl, Ext.refl _, HZ0.out.ext (HE7.out.trans he)⟩
      · obtain ⟨k0, k1⟩ := hk
        have H0 : Hid (IsC (17592186043906) ((za) + (0)) u2 w1) := Lib.hid (by first | exact k0 | simpa using k0)
        have H1 := Lib.hid k1
        clear k0 k1
        go_wp2_with fail
        refine (same_z (17592186043906) (17592186043904) ((za) + (0)) (za) _ _ _ (H0.out.z) (H1.out) (by omega) (by omega)).mono ?_
        rintro e w2 ⟨he2, x, rfl, hx⟩
        obtain rfl : x = .bool true := hx.trans (by simp)
        go_wp2_with fail
        exact ⟨rfl, he2, rfl⟩
      · have k0 := hk
        obtain rfl : u4 = .bool true := k0
        go_wp2_with fail
        exact ⟨rfl, Ext.refl _, by show (_ : Value) = _; (first | rfl | simp); try rfl⟩
      · have k0 := hk
        obtain rfl : u5 = .bool true := k0
        have hb := he.block Q9.out
        have q0 := blk_cell hb 0
        have q1 := blk_cell hb 1
        simp at q0 q1
        clear hb
        go_wp2_with fail
        exact ⟨rfl, Ext.refl _, HV7.out.ext he⟩
      · have k0 := hk
        obtain rfl : u5 = .bool true := k0
        have hb := he.block Q1.out
        have q0 := blk_cell hb 0
        have q1 := blk_cell hb 1
        simp at q0 q1
        clear hb
        go_wp2_with fail
        exact ⟨rfl, Ext.refl _, HZ1.out.ext (HE7.out.trans he)⟩
      · obtain ⟨k0, k1, k2⟩ := hk
        obtain rfl : u5 = .bool true := k2
        have H0 := Lib.hid k0
        have H1 := Lib.hid k1
        clear k0 k1
        go_wp2_with fail
        refine (add_z (17592186043905) (za) (zb) _ _ _ ((H0.out.z).mono (by omega)) ((H1.out).mono (by omega)) (by omega)).mono ?_
        rintro e w2 ⟨he2, x, rfl, hx⟩
        have HX := Lib.hid hx
        clear hx
        go_wp2_with fail
        exact ⟨rfl, he2, HX.out⟩
      · have k0 := hk
        obtain rfl : u5 = .bool true := k0
        have hb := he.block Q0.out
        have q0 := blk_cell hb 0
        have q1 := blk_cell hb 1
        simp at q0 q1
        clear hb
        go_wp2_with fail
        exact ⟨rfl, Ext.refl _, HZ0.out.ext (HE7.out.trans he)⟩
      · have k0 := hk
        obtain rfl : u5 = .bool true := k0
        have hb := he.block Q1.out
        have q0 := blk_cell hb 0
        have q1 := blk_cell hb 1
        simp at q0 q1
        clear hb
        go_wp2_with fail
        exact ⟨rfl, Ext.refl _, HZ1.out.ext (HE7.out.trans he)⟩
      · obtain ⟨k0, k1, k2⟩ := hk
        obtain rfl : u5 = .bool true := k2
        have H0 := Lib.hid k0
        have H1 := Lib.hid k1
        clear k0 k1
        go_wp2_with fail
        refine (add_z (17592186043904) (za) (zb) _ _ _ ((H0.out).mono (by omega)) ((H1.out).mono (by omega)) (by omega)).mono ?_
        rintro e w2 ⟨he2, x, rfl, hx⟩
        have HX := Lib.hid hx
        clear hx
        go_wp2_with fail
        exact ⟨rfl, he2, HX.out⟩
      · obtain ⟨k0, k1, k2⟩ := hk
        obtain rfl : u5 = .bool true := k2
        have H0 : Hid (IsC (17592186043906) ((za) + (zb)) u8 w1) := Lib.hid (by first | exact k0 | simpa using k0)
        have H1 : Hid (IsC (17592186043905) ((za) + (zb)) u11 w1) := Lib.hid (by first | exact k1 | simpa using k1)
        clear k0 k1
        go_wp2_with fail
        refine (same_z (17592186043906) (17592186043905) ((za) + (zb)) ((za) + (zb)) _ _ _ (H0.out.z) (H1.out.z) (by omega) (by omega)).mono ?_
        rintro e w2 ⟨he2, x, rfl, hx⟩
        obtain rfl : x = .bool true := hx.trans (by simp)
        go_wp2_with fail
        exact ⟨rfl, he2, rfl⟩
      · obtain ⟨k0, k1⟩ := hk
        obtain rfl : u5 = .bool true := k0
        obtain rfl : u12 = .bool true := k1
        go_wp2_with fail
        exact ⟨rfl, Ext.refl _, by show (_ : Value) = _; (first | rfl | simp); try rfl⟩
      · have k0 := hk
        obtain rfl : u13 = .bool true := k0
        go_wp2_with fail
        exact ⟨rfl, Ext.refl _, by show (_ : Value) = _; (first | rfl | simp); try rfl⟩
      · have k0 := hk
        obtain rfl : u14 = .bool true := k0
        have hb := he.block Q1.out
        have q0 := blk_cell hb 0
        have q1 := blk_cell hb 1
        simp at q0 q1
        clear hb
        go_wp2_with fail
        exact ⟨rfl, Ext.refl _, HZ1.out.ext (HE7.out.trans he)⟩
      · have k0 := hk
        obtain rfl : u14 = .bool true := k0
        have hb := he.block Q9.out
        have q0 := blk_cell hb 0
        have q1 := blk_cell hb 1
        simp at q0 q1
        clear hb
        go_wp2_with fail
        exact ⟨rfl, Ext.refl _, HV7.out.ext he⟩
      · obtain ⟨k0, k1, k2⟩ := hk
        obtain rfl : u14 = .bool true := k2
        have H0 := Lib.hid k0
        have H1 := Lib.hid k1
        clear k0 k1
        go_wp2_with fail
        refine (sub_z (17592186043905) (zb) (za) _ _ _ ((H0.out).mono (by omega)) ((H1.out.z).mono (by omega)) (by omega)).mono ?_
        rintro e w2 ⟨he2, x, rfl, hx⟩
        have HX := Lib.hid hx
        clear hx
        go_wp2_with fail
        exact ⟨rfl, he2, HX.out⟩
      · have k0 := hk
        obtain rfl : u14 = .bool true := k0
        have hb := he.block Q1.out
        have q0 := blk_cell hb 0
        have q1 := blk_cell hb 1
        simp at q0 q1
        clear hb
        go_wp2_with fail
        exact ⟨rfl, Ext.refl _, HZ1.out.ext (HE7.out.trans he)⟩
      · have k0 := hk
        obtain rfl : u14 = .bool true := k0
        have hb := he.block Q0.out
        have q0 := blk_cell hb 0
        have q1 := blk_cell hb 1
        simp at q0 q1
        clear hb
        go_wp2_with fail
        exact ⟨rfl, Ext.refl _, HZ0.out.ext (HE7.out.trans he)⟩
      · obtain ⟨k0, k1, k2⟩ := hk
        obtain rfl : u14 = .bool true := k2
        have H0 := Lib.hid k0
        have H1 := Lib.hid k1
        clear k0 k1
        go_wp2_with fail
        refine (sub_z (17592186043904) (zb) (za) _ _ _ ((H0.out).mono (by omega)) ((H1.out).mono (by omega)) (by omega)).mono ?_
        rintro e w2 ⟨he2, x, rfl, hx⟩
        have HX := Lib.hid hx
        clear hx
        go_wp2_with fail
        exact ⟨rfl, he2, HX.out⟩
      · obtain ⟨k0, k1, k2⟩ := hk
        obtain rfl : u14 = .bool true := k2
        have H0 : Hid (IsC (17592186043906) ((zb) - (za)) u17 w1) := Lib.hid (by first | exact k0 | simpa using k0)
        have H1 : Hid (IsC (17592186043905) ((zb) - (za)) u20 w1) := Lib.hid (by first | exact k1 | simpa using k1)
        clear k0 k1
        go_wp2_with fail
        refine (same_z (17592186043906) (17592186043905) ((zb) - (za)) ((zb) - (za)) _ _ _ (H0.out.z) (H1.out.z) (by omega) (by omega)).mono ?_
        rintro e w2 ⟨he2, x, rfl, hx⟩
        obtain rfl : x = .bool true := hx.trans (by simp)
        go_wp2_with fail
        exact ⟨rfl, he2, rfl⟩
      · obtain ⟨k0, k1⟩ := hk
        obtain rfl : u14 = .bool true := k0
        obtain rfl : u21 = .bool true := k1
        go_wp2_with fail
        exact ⟨rfl, Ext.refl _, by show (_ : Value) = _; (first | rfl | simp); try rfl⟩
      · have k0 := hk
        obtain rfl : u22 = .bool true := k0
        go_wp2_with fail
        exact ⟨rfl, Ext.refl _, by show (_ : Value) = _; (first | rfl | simp); try rfl⟩
      · have k0 := hk
        obtain rfl : u23 = .bool true := k0
        have hb := he.block Q9.out
        have q0 := blk_cell hb 0
        have q1 := blk_cell hb 1
        simp at q0 q1
        clear hb
        go_wp2_with fail
        exact ⟨rfl, Ext.refl _, HV7.out.ext he⟩
      · obtain ⟨k0, k1⟩ := hk
        obtain rfl : u23 = .bool true := k1
        have H0 := Lib.hid k0
        clear k0
        go_wp2_with fail
        refine (lsh_n (17592186043905) (za) (1) _ _ (H0.out.z) (by omega) (by omega)).mono ?_
        rintro e w2 ⟨he2, x, rfl, hx⟩
        have HX := Lib.hid hx
        clear hx
        go_wp2_with fail
        exact ⟨rfl, he2, HX.out⟩
      · have k0 := hk
        obtain rfl : u23 = .bool true := k0
        have hb := he.block Q0.out
        have q0 := blk_cell hb 0
        have q1 := blk_cell hb 1
        simp at q0 q1
        clear hb
        go_wp2_with fail
        exact ⟨rfl, Ext.refl _, HZ0.out.ext (HE7.out.trans he)⟩
      · obtain ⟨k0, k1⟩ := hk
        obtain rfl : u23 = .bool true := k1
        have H0 := Lib.hid k0
        clear k0
        go_wp2_with fail
        refine (lsh_n (17592186043904) (za) (1) _ _ (H0.out) (by omega) (by omega)).mono ?_
        rintro e w2 ⟨he2, x, rfl, hx⟩
        have HX := Lib.hid hx
        clear hx
        go_wp2_with fail
        exact ⟨rfl, he2, HX.out⟩
      · obtain ⟨k0, k1, k2⟩ := hk
        obtain rfl : u23 = .bool true := k2
        have H0 : Hid (IsC (17592186043970) ((za) * 2 ^ (1)) u25 w1) := Lib.hid (by first | exact k0 | simpa using k0)
        have H1 : Hid (IsC (17592186043969) ((za) * 2 ^ (1)) u27 w1) := Lib.hid (by first | exact k1 | simpa using k1)
        clear k0 k1
        go_wp2_with fail
        refine (same_z (17592186043970) (17592186043969) ((za) * 2 ^ (1)) ((za) * 2 ^ (1)) _ _ _ (H0.out.z) (H1.out.z) (by omega) (by omega)).mono ?_
        rintro e w2 ⟨he2, x, rfl, hx⟩
        obtain rfl : x = .bool true := hx.trans (by simp)
        go_wp2_with fail
        exact ⟨rfl, he2, rfl⟩
      · obtain ⟨k0, k1⟩ := hk
        obtain rfl : u23 = .bool true := k0
        obtain rfl : u28 = .bool true := k1
        go_wp2_with fail
        exact ⟨rfl, Ext.refl _, by show (_ : Value) = _; (first | rfl | simp); try rfl⟩
      · have k0 := hk
        obtain rfl : u29 = .bool true := k0
        go_wp2_with fail
        exact ⟨rfl, Ext.refl _, by show (_ : Value) = _; (first | rfl | simp); try rfl⟩
      · have k0 := hk
        obtain rfl : u30 = .bool true := k0
        have hb := he.block Q9.out
        have q0 := blk_cell hb 0
        have q1 := blk_cell hb 1
        simp at q0 q1
        clear hb
        go_wp2_with fail
        exact ⟨rfl, Ext.refl _, HV7.out.ext he⟩
      · have k0 := hk
        obtain rfl : u30 = .bool true := k0
        have hb := he.block Q1.out
        have q0 := blk_cell hb 0
        have q1 := blk_cell hb 1
        simp at q0 q1
        clear hb
        go_wp2_with fail
        exact ⟨rfl, Ext.refl _, HZ1.out.ext (HE7.out.trans he)⟩
      · obtain ⟨k0, k1, k2⟩ := hk
        obtain rfl : u30 = .bool true := k2
        have H0 := Lib.hid k0
        have H1 := Lib.hid k1
        clear k0 k1
        go_wp2_with fail
        refine (compare_z (17592186043905) (17592186043904) (za) (zb) _ _ _ (H0.out.z) (H1.out) (by omega) (by omega)).mono ?_
        rintro e w2 ⟨he2, x, rfl, hx⟩
        obtain rfl : x = .int .i64 (cmpZ (za) (zb)) := hx
        go_wp2_with fail
        exact ⟨rfl, he2, rfl⟩
      · have k0 := hk
        obtain rfl : u30 = .bool true := k0
        have hb := he.block Q0.out
        have q0 := blk_cell hb 0
        have q1 := blk_cell hb 1
        simp at q0 q1
        clear hb
        go_wp2_with fail
        exact ⟨rfl, Ext.refl _, HZ0.out.ext (HE7.out.trans he)⟩
      · have k0 := hk
        obtain rfl : u30 = .bool true := k0
        have hb := he.block Q1.out
        have q0 := blk_cell hb 0
        have q1 := blk_cell hb 1
        simp at q0 q1
        clear hb
        go_wp2_with fail
        exact ⟨rfl, Ext.refl _, HZ1.out.ext (HE7.out.trans he)⟩
      · obtain ⟨k0, k1, k2⟩ := hk
        obtain rfl : u30 = .bool true := k2
        have H0 := Lib.hid k0
        have H1 := Lib.hid k1
        clear k0 k1
        go_wp2_with fail
        refine (compare_z (17592186043904) (17592186043904) (za) (zb) _ _ _ (H0.out) (H1.out) (by omega) (by omega)).mono ?_
        rintro e w2 ⟨he2, x, rfl, hx⟩
        obtain rfl : x = .int .i64 (cmpZ (za) (zb)) := hx
        go_wp2_with fail
        exact ⟨rfl, he2, rfl⟩
      · obtain ⟨k0, k1, k2⟩ := hk
        obtain rfl : u33 = .int .i64 (cmpZ (za) (zb)) := k0
        obtain rfl : u36 = .int .i64 (cmpZ (za) (zb)) := k1
        obtain rfl : u30 = .bool true := k2
        go_wp2_with fail
        exact ⟨rfl, Ext.refl _, by show (_ : Value) = _; (simp); try rfl⟩
      · obtain ⟨k0, k1⟩ := hk
        obtain rfl : u30 = .bool true := k0
        obtain rfl : u37 = .bool true := k1
        go_wp2_with fail
        exact ⟨rfl, Ext.refl _, by show (_ : Value) = _; (first | rfl | simp); try rfl⟩
      · have k0 := hk
        obtain rfl : u38 = .bool true := k0
        go_wp2_with fail
        exact ⟨rfl, Ext.refl _, by show (_ : Value) = _; (first | rfl | simp); try rfl⟩
      · have k0 := hk
        obtain rfl : u39 = .bool true := k0
        have hb := he.block Q9.out
        have q0 := blk_cell hb 0
        have q1 := blk_cell hb 1
        simp at q0 q1
        clear hb
        go_wp2_with fail
        exact ⟨rfl, Ext.refl _, HV7.out.ext he⟩
      · have k0 := hk
        obtain rfl : u39 = .bool true := k0
        have hb := he.block Q1.out
        have q0 := blk_cell hb 0
        have q1 := blk_cell hb 1
        simp at q0 q1
        clear hb
        go_wp2_with fail
        exact ⟨rfl, Ext.refl _, HZ1.out.ext (HE7.out.trans he)⟩
      · obtain ⟨k0, k1, k2⟩ := hk
        obtain rfl : u39 = .bool true := k2
        have H0 := Lib.hid k0
        have H1 := Lib.hid k1
        clear k0 k1
        go_wp2_with fail
        refine (cmpAbs_z (17592186043905) (17592186043904) (za) (zb) _ _ _ (H0.out.z) (H1.out) (by omega) (by omega)).mono ?_
        rintro e w2 ⟨he2, x, rfl, hx⟩
        obtain rfl : x = .int .i64 (cmpZ ((za).natAbs : Int) ((zb).natAbs : Int)) := hx
        go_wp2_with fail
        exact ⟨rfl, he2, rfl⟩
      · have k0 := hk
        obtain rfl : u39 = .bool true := k0
        have hb := he.block Q0.out
        have q0 := blk_cell hb 0
        have q1 := blk_cell hb 1
        simp at q0 q1
        clear hb
        go_wp2_with fail
        exact ⟨rfl, Ext.refl _, HZ0.out.ext (HE7.out.trans he)⟩
      · have k0 := hk
        obtain rfl : u39 = .bool true := k0
        have hb := he.block Q1.out
        have q0 := blk_cell hb 0
        have q1 := blk_cell hb 1
        simp at q0 q1
        clear hb
        go_wp2_with fail
        exact ⟨rfl, Ext.refl _, HZ1.out.ext (HE7.out.trans he)⟩
      · obtain ⟨k0, k1, k2⟩ := hk
        obtain rfl : u39 = .bool true := k2
        have H0 := Lib.hid k0
        have H1 := Lib.hid k1
        clear k0 k1
        go_wp2_with fail
        refine (cmpAbs_z (17592186043904) (17592186043904) (za) (zb) _ _ _ (H0.out) (H1.out) (by omega) (by omega)).mono ?_
        rintro e w2 ⟨he2, x, rfl, hx⟩
        obtain rfl : x = .int .i64 (cmpZ ((za).natAbs : Int) ((zb).natAbs : Int)) := hx
        go_wp2_with fail
        exact ⟨rfl, he2, rfl⟩
      · obtain ⟨k0, k1, k2⟩ := hk
        obtain rfl : u42 = .int .i64 (cmpZ ((za).natAbs : Int) ((zb).natAbs : Int)) := k0
        obtain rfl : u45 = .int .i64 (cmpZ ((za).natAbs : Int) ((zb).natAbs : Int)) := k1
        obtain rfl : u39 = .bool true := k2
        go_wp2_with fail
        exact ⟨rfl, Ext.refl _, by show (_ : Value) = _; (simp); try rfl⟩
      · obtain ⟨k0, k1⟩ := hk
        obtain rfl : u39 = .bool true := k0
        obtain rfl : u46 = .bool true := k1
        go_wp2_with fail
        exact ⟨rfl, Ext.refl _, by show (_ : Value) = _; (first | rfl | simp); try rfl⟩
      · have k0 := hk
        obtain rfl : u47 = .bool true := k0
        go_wp2_with fail
        exact ⟨rfl, Ext.refl _, by show (_ : Value) = _; (first | rfl | simp); try rfl⟩
      · have k0 := hk
        obtain rfl : u48 = .bool true := k0
        have hb := he.block Q9.out
        have q0 := blk_cell hb 0
        have q1 := blk_cell hb 1
        simp at q0 q1
        clear hb
        go_wp2_with fail
        exact ⟨rfl, Ext.refl _, HV7.out.ext he⟩
      · obtain ⟨k0, k1⟩ := hk
        obtain rfl : u48 = .bool true := k1
        have H0 := Lib.hid k0
        clear k0
        go_wp2_with fail
        refine (bitLen_z (17592186043905) (za) _ _ (H0.out.z) (by omega)).mono ?_
        rintro e w2 ⟨he2, x, rfl, hx⟩
        obtain rfl : x = .int .i64 (blen (za) : Nat) := hx
        go_wp2_with fail
        exact ⟨rfl, he2, rfl⟩
      · have k0 := hk
        obtain rfl : u48 = .bool true := k0
        have hb := he.block Q0.out
        have q0 := blk_cell hb 0
        have q1 := blk_cell hb 1
        simp at q0 q1
        clear hb
        go_wp2_with fail
        exact ⟨rfl, Ext.refl _, HZ0.out.ext (HE7.out.trans he)⟩
      · obtain ⟨k0, k1⟩ := hk
        obtain rfl : u48 = .bool true := k1
        have H0 := Lib.hid k0
        clear k0
        go_wp2_with fail
        refine (bitLen_z (17592186043904) (za) _ _ (H0.out) (by omega)).mono ?_
        rintro e w2 ⟨he2, x, rfl, hx⟩
        obtain rfl : x = .int .i64 (blen (za) : Nat) := hx
        go_wp2_with fail
        exact ⟨rfl, he2, rfl⟩
      · obtain ⟨k0, k1, k2⟩ := hk
        obtain rfl : u50 = .int .i64 (blen (za) : Nat) := k0
        obtain rfl : u52 = .int .i64 (blen (za) : Nat) := k1
        obtain rfl : u48 = .bool true := k2
        go_wp2_with fail
        exact ⟨rfl, Ext.refl _, by show (_ : Value) = _; (simp); try rfl⟩
      · obtain ⟨k0, k1⟩ := hk
        obtain rfl : u48 = .bool true := k0
        obtain rfl : u53 = .bool true := k1
        go_wp2_with fail
        exact ⟨rfl, Ext.refl _, by show (_ : Value) = _; (first | rfl | simp); try rfl⟩
      · have k0 := hk
        obtain rfl : u54 = .bool true := k0
        go_wp2_with fail
        exact ⟨rfl, Ext.refl _, by show (_ : Value) = _; (first | rfl | simp); try rfl⟩
      · have k0 := hk
        obtain rfl : u55 = .bool true := k0
        have hb := he.block Q9.out
        have q0 := blk_cell hb 0
        have q1 := blk_cell hb 1
        simp at q0 q1
        clear hb
        go_wp2_with fail
        exact ⟨rfl, Ext.refl _, HV7.out.ext he⟩
      · obtain ⟨k0, k1⟩ := hk
        obtain rfl : u55 = .bool true := k1
        have H0 := Lib.hid k0
        clear k0
        go_wp2_with fail
        refine (sign_z (17592186043905) (za) _ _ (H0.out.z) (by omega)).mono ?_
        rintro e w2 ⟨he2, x, rfl, hx⟩
        obtain rfl : x = .int .i64 (sgnZ (za)) := hx
        go_wp2_with fail
        exact ⟨rfl, he2, rfl⟩
      · have k0 := hk
        obtain rfl : u55 = .bool true := k0
        have hb := he.block Q0.out
        have q0 := blk_cell hb 0
        have q1 := blk_cell hb 1
        simp at q0 q1
        clear hb
        go_wp2_with fail
        exact ⟨rfl, Ext.refl _, HZ0.out.ext (HE7.out.trans he)⟩
      · obtain ⟨k0, k1⟩ := hk
        obtain rfl : u55 = .bool true := k1
        have H0 := Lib.hid k0
        clear k0
        go_wp2_with fail
        refine (sign_z (17592186043904) (za) _ _ (H0.out) (by omega)).mono ?_
        rintro e w2 ⟨he2, x, rfl, hx⟩
        obtain rfl : x = .int .i64 (sgnZ (za)) := hx
        go_wp2_with fail
        exact ⟨rfl, he2, rfl⟩
      · obtain ⟨k0, k1, k2⟩ := hk
        obtain rfl : u57 = .int .i64 (sgnZ (za)) := k0
        obtain rfl : u59 = .int .i64 (sgnZ (za)) := k1
        obtain rfl : u55 = .bool true := k2
        go_wp2_with fail
        exact ⟨rfl, Ext.refl _, by show (_ : Value) = _; (simp); try rfl⟩
      · obtain ⟨k0, k1⟩ := hk
        obtain rfl : u55 = .bool true := k0
        obtain rfl : u60 = .bool true := k1
        go_wp2_with fail
        exact ⟨rfl, Ext.refl _, by show (_ : Value) = _; (first | rfl | simp); try rfl⟩
    case last =>
      intro w1 he u0 h0 u1 h1 u2 h2 u3 h3 u4 h4 u5 h5 u6 h6 u7 h7 u8 h8 u9 h9 u10 h10 u11 h11 u12 h12 u13 h13 u14 h14 u15 h15 u16 h16 u17 h17 u18 h18 u19 h19 u20 h20 u21 h21 u22 h22 u23 h23 u24 h24 u25 h25 u26 h26 u27 h27 u28 h28 u29 h29 u30 h30 u31 h31 u32 h32 u33 h33 u34 h34 u35 h35 u36 h36 u37 h37 u38 h38 u39 h39 u40 h40 u41 h41 u42 h42 u43 h43 u44 h44 u45 h45 u46 h46 u47 h47 u48 h48 u49 h49 u50 h50 u51 h51 u52 h52 u53 h53 u54 h54 u55 h55 u56 h56 u57 h57 u58 h58 u59 h59 u60 h60 u61 h61
      obtain rfl : u61 = .bool true := h61
      clear h0 h1 h2 h3 h4 h5 h6 h7 h8 h9 h10 h11 h12 h13 h14 h15 h16 h17 h18 h19 h20 h21 h22 h23 h24 h25 h26 h27 h28 h29 h30 h31 h32 h33 h34 h35 h36 h37 h38 h39 h40 h41 h42 h43 h44 h45 h46 h47 h48 h49 h50 h51 h52 h53 h54 h55 h56 h57 h58 h59 h60
      simp only [LastD, Act.put, List.setIfInBounds_toArray, List.set_cons_succ, List.set_cons_zero]
      have HE := Lib.hid ((HE7.out).trans he)
      clear he
      go_wp2_with fail
      go_ret
      exact ⟨HE.out, rfl⟩


end Go.Proofs.Ytdfknmplpjmemaa

