/- FnStringRound (printed by lawgen.py). -/
import Derived.Test.YtocadbghhoibnaaFmtStrR
import Derived.Test.YtocadbghhoibnaaFmtMa6
import Derived.Test.YtocadbghhoibnaaFmtMa1
set_option linter.unusedSimpArgs false
set_option linter.unusedVariables false
namespace Go.Proofs.YtocadbghhoibnaaFmt
open Go.RowKit

set_option maxRecDepth 100000 in
set_option maxHeartbeats 4000000 in
theorem fnStringRound_walk (n0 : Bool) (v0 : Value) (ws0 : List Nat) (n : Int) (a0 a1 a2 : Addr) (w : World) (hS : Sent a0 a1 a2 w) (hr0 : Rd .u64 w v0 ws0) (hl0 : ws0.length ≤ 17592186043904) (hn : (Lit.int .i64 n).wf = true) :
    Calls Tryf.prog 14 #[.agg #[.bool n0, v0], .int .i64 n] w (ValR (.bool true) w) := by
  obtain ⟨ad, cd, rfl⟩ := hr0.form
  have hz0 : IsZ 17592186043904 (ival n0 ws0) (.agg #[.bool n0, .slice ad ws0.length cd]) w := ⟨n0, _, ws0, rfl, hr0, hl0, rfl⟩
  generalize ival n0 ws0 = z at hz0
  have HZ0 := Lib.hid hz0
  have HS := Lib.hid hS
  clear hS hn hz0 hr0
  by_cases h2 : n < 2
  · have e2 : decide (n < 2) = true := decide_eq_true h2
    go_enter Tryf.func14, Tryf.ntmps14
    go_wp2_with fail
    go_ret
    exact ⟨Ext.alloc _ _, rfl⟩
  have e2 : decide (n < 2) = false := decide_eq_false h2
  by_cases h62 : 62 < n
  · have e62 : decide (62 < n) = true := decide_eq_true h62
    go_enter Tryf.func14, Tryf.ntmps14
    go_wp2_with fail
    go_ret
    exact ⟨Ext.alloc _ _, rfl⟩
  have e62 : decide (62 < n) = false := decide_eq_false h62
  obtain ⟨b, rfl, hb, hb2⟩ : ∃ b : Nat, n = (b : Int) ∧ 2 ≤ b ∧ b ≤ 62 := ⟨n.toNat, by omega, by omega, by omega⟩
  have e2' : decide (b < 2) = false := decide_eq_false (by omega)
  have e62' : decide (62 < b) = false := decide_eq_false (by omega)
  go_enter Tryf.func14, Tryf.ntmps14
  go_wp2_with fail
  refine (toSpec_z 17592186043904 z _ _ (HZ0.out.ext (Ext.alloc _ _)) (by omega)).mono ?_
  rintro e w1 ⟨he1, y, rfl, n1, s1, ws1, rfl, ho1, hl1, hv1⟩
  have hg01 : w1.heap[w.heap.size]? = some (.cells #[.bool n0, .slice ad ws0.length cd] 26 (0, 0)) := he1.block (heap_alloc_new _ _)
  have HG01 := Lib.hid hg01
  have HE1 := Lib.hid ((Ext.alloc w (.cells #[.bool n0, .slice ad ws0.length cd] 26)).trans he1)
  have hva : val ws1 = z.natAbs := by rw [← hv1, ival_abs]
  have hvlt := val_lt ws1 ho1.read.1
  have HVA := Lib.hid hva
  obtain ⟨LR, hLR1, hLR2⟩ : ∃ L : Nat, 17592186043904 ≤ L ∧ L ≤ 17592186043904 := ⟨_, Nat.le_refl _, Nat.le_refl _⟩
  have HVLT : Hid (z.natAbs < 18446744073709551616 ^ LR) := Lib.hid (by rw [← hva]; exact Nat.lt_of_lt_of_le hvlt (Nat.pow_le_pow_right (by decide) (Nat.le_trans hl1 hLR1)))
  have HO1 := Lib.hid ho1
  obtain ⟨ad1, cd1, rfl⟩ := ho1.form
  clear he1 hg01 hv1 hva hvlt ho1
  go_wp2_with fail
  refine (specText_any n1 _ ws1 b _ HO1.out.read (by omega) hb hb2).mono ?_
  rintro e w2 ⟨he2, t, rfl, htp⟩
  rw [HVA.out] at htp
  obtain ⟨hts, hfit⟩ := text_fit htp HVLT.out (by omega) hb
  have HNUM := Lib.hid (htp.num hb)
  have HFIT := Lib.hid hfit
  have HE2 := Lib.hid (HE1.out.trans he2)
  have HG02 := Lib.hid (he2.block HG01.out)
  clear he2 htp hfit
  go_wp2_with fail
  refine (setString_any t b LR a0 a1 a2 _ (by omega) (HS.out.ext HE2.out) (.inr hb) hb2 (by omega) HFIT.out).mono ?_
  rintro e w3 ⟨he3, y, rfl, n3, b3, l3, c3, rfl, hy⟩
  rw [HNUM.out] at hy ⊢
  simp only [Option.isSome, Option.getD] at hy ⊢
  have HE3 := Lib.hid (HE2.out.trans he3)
  have HG03 := Lib.hid (he3.block HG02.out)
  have HY := Lib.hid hy
  clear he3 hy
  go_wp2_with fail
  have g1 : (w3.alloc (.cells #[.bool n3, .slice b3 l3 c3] 26)).heap[w3.heap.size]? = some (.cells #[.bool n3, .slice b3 l3 c3] 26) := heap_alloc_new _ _
  have g0 : (w3.alloc (.cells #[.bool n3, .slice b3 l3 c3] 26)).heap[w.heap.size]? = some (.cells #[.bool n0, .slice ad ws0.length cd] 26 (0, 0)) := (Ext.alloc _ _).block HG03.out
  have z1 := HY.out.ext (Ext.alloc _ (.cells #[.bool n3, .slice b3 l3 c3] 26))
  have hW : Ext w (w3.alloc (.cells #[.bool n3, .slice b3 l3 c3] 26)) := HE3.out.trans (Ext.alloc _ _)
  generalize w3.alloc (.cells #[.bool n3, .slice b3 l3 c3] 26) = W at *
  have G1 := Lib.hid g1
  have G2 := Lib.hid g0
  have HZ1 := Lib.hid z1
  have HZ2 := Lib.hid (HZ0.out.ext hW)
  have HW := Lib.hid hW
  clear g1 g0 z1 hW
  generalize w3.heap.size = p1 at *
  generalize w.heap.size = p2 at *

  refine wp_region_D preExt mixed [Is (.bool true), Is (.bool true), IsC (LR) (((z).natAbs : Int)), IsZ (17592186043904) (z), IsC (17592186043904) (((z).natAbs : Int)), Is (.bool true), Is (.bool true), Is (.bool true), IsC (LR) (((z).natAbs : Int)), IsZ (17592186043904) (z), IsW (17592186043904) (z), IsC (17592186043904) (((z).natAbs : Int)), IsW (17592186043904) (((z).natAbs : Int)), Is (.bool true), Is (.bool true)] (by kernel_rfl) ?mono rfl ?steps ?last
  case mono =>
    simp only [List.forall_mem_cons, List.not_mem_nil, false_implies, implies_true, and_true]
    refine ⟨?_, ?_, ?_, ?_, ?_, ?_, ?_, ?_, ?_, ?_, ?_, ?_, ?_, ?_, ?_⟩
    all_goals first | exact fun _ _ _ _ q => q | exact fun _ _ _ he q => q.ext he
  case steps =>
    refine ⟨?_, ?_, ?_, ?_, ?_, ?_, ?_, ?_, ?_, ?_, ?_, ?_, ?_, ?_, ?_, trivial⟩
    all_goals
      intro u0 u1 u2 u3 u4 u5 u6 u7 u8 u9 u10 u11 u12 u13 u14 u15 w1 he hk
      simp [KnownD, Oper.looksAt, Op.operands, Call.operands, List.findIdx?_cons, Act.put] at hk
      simp only [Act.put, List.setIfInBounds_toArray, List.set_cons_succ, List.set_cons_zero]
    · go_wp2_with fail
      exact ⟨rfl, Ext.refl _, by show (_ : Value) = _; (first | rfl | simp); try rfl⟩
    · have k0 := hk
      obtain rfl : u0 = .bool true := k0
      go_wp2_with fail
      exact ⟨rfl, Ext.refl _, by show (_ : Value) = _; (first | rfl | simp); try rfl⟩
    · have k0 := hk
      obtain rfl : u1 = .bool true := k0
      have hb := he.block G1.out
      have q0 := blk_cell hb 0
      have q1 := blk_cell hb 1
      simp at q0 q1
      clear hb
      go_wp2_with fail
      exact ⟨rfl, Ext.refl _, HZ1.out.ext he⟩
    · have k0 := hk
      obtain rfl : u1 = .bool true := k0
      have hb := he.block G2.out
      have q0 := blk_cell hb 0
      have q1 := blk_cell hb 1
      simp at q0 q1
      clear hb
      go_wp2_with fail
      exact ⟨rfl, Ext.refl _, HZ2.out.ext he⟩
    · obtain ⟨k0, k1⟩ := hk
      obtain rfl : u1 = .bool true := k1
      have H0 := Lib.hid k0
      clear k0
      go_wp2_with fail
      refine (abs_z (17592186043904) (z) _ _ (H0.out) (by omega)).mono ?_
      rintro e w2 ⟨he2, x, rfl, hx⟩
      have HX := Lib.hid hx
      clear hx
      go_wp2_with fail
      exact ⟨rfl, he2, HX.out⟩
    · obtain ⟨k0, k1, k2⟩ := hk
      obtain rfl : u1 = .bool true := k2
      have H0 : Hid (IsC (LR) (((z).natAbs : Int)) u2 w1) := Lib.hid (by first | exact k0 | simpa using k0)
      have H1 : Hid (IsC (17592186043904) (((z).natAbs : Int)) u4 w1) := Lib.hid (by first | exact k1 | simpa using k1)
      clear k0 k1
      go_wp2_with fail
      refine (same_z (LR) (17592186043904) (((z).natAbs : Int)) (((z).natAbs : Int)) _ _ _ (H0.out.z) (H1.out.z) (by omega) (by omega)).mono ?_
      rintro e w2 ⟨he2, x, rfl, hx⟩
      obtain rfl : x = .bool true := hx.trans (by simp)
      go_wp2_with fail
      exact ⟨rfl, he2, rfl⟩
    · obtain ⟨k0, k1⟩ := hk
      obtain rfl : u1 = .bool true := k0
      obtain rfl : u5 = .bool true := k1
      go_wp2_with fail
      exact ⟨rfl, Ext.refl _, by show (_ : Value) = _; (first | rfl | simp); try rfl⟩
    · have k0 := hk
      obtain rfl : u6 = .bool true := k0
      go_wp2_with fail
      exact ⟨rfl, Ext.refl _, by show (_ : Value) = _; (first | rfl | simp); try rfl⟩
    · have k0 := hk
      obtain rfl : u7 = .bool true := k0
      have hb := he.block G1.out
      have q0 := blk_cell hb 0
      have q1 := blk_cell hb 1
      simp at q0 q1
      clear hb
      go_wp2_with fail
      exact ⟨rfl, Ext.refl _, HZ1.out.ext he⟩
    · have k0 := hk
      obtain rfl : u7 = .bool true := k0
      have hb := he.block G2.out
      have q0 := blk_cell hb 0
      have q1 := blk_cell hb 1
      simp at q0 q1
      clear hb
      go_wp2_with fail
      exact ⟨rfl, Ext.refl _, HZ2.out.ext he⟩
    · obtain ⟨k0, k1⟩ := hk
      obtain rfl : u7 = .bool true := k1
      have H0 := Lib.hid k0
      clear k0
      go_wp2_with fail
      refine (toSpec_z (17592186043904) (z) _ _ (H0.out) (by omega)).mono ?_
      rintro e w2 ⟨he2, x, rfl, hx⟩
      have HX := Lib.hid hx
      clear hx
      go_wp2_with fail
      exact ⟨rfl, he2, HX.out⟩
    · obtain ⟨k0, k1⟩ := hk
      obtain rfl : u7 = .bool true := k1
      have H0 := Lib.hid k0
      clear k0
      go_wp2_with fail
      refine (specAbs_z (17592186043904) (z) _ _ (H0.out.z) (by omega)).mono ?_
      rintro e w2 ⟨he2, x, rfl, hx⟩
      have HX := Lib.hid hx
      clear hx
      go_wp2_with fail
      exact ⟨rfl, he2, HX.out⟩
    · obtain ⟨k0, k1⟩ := hk
      obtain rfl : u7 = .bool true := k1
      have H0 : Hid (IsC (17592186043904) (((z).natAbs : Int)) u11 w1) := Lib.hid (by first | exact k0 | simpa using k0)
      clear k0
      go_wp2_with fail
      refine (fromSpec_z (17592186043904) (((z).natAbs : Int)) _ _ (H0.out.w)).mono ?_
      rintro e w2 ⟨he2, x, rfl, hx⟩
      have HX := Lib.hid hx
      clear hx
      go_wp2_with fail
      exact ⟨rfl, he2, HX.out⟩
    · obtain ⟨k0, k1, k2⟩ := hk
      obtain rfl : u7 = .bool true := k2
      have H0 : Hid (IsC (LR) (((z).natAbs : Int)) u8 w1) := Lib.hid (by first | exact k0 | simpa using k0)
      have H1 : Hid (IsW (17592186043904) (((z).natAbs : Int)) u12 w1) := Lib.hid (by first | exact k1 | simpa using k1)
      clear k0 k1
      go_wp2_with fail
      refine (same_z (LR) (17592186043904) (((z).natAbs : Int)) (((z).natAbs : Int)) _ _ _ (H0.out.z) (H1.out.z) (by omega) (by omega)).mono ?_
      rintro e w2 ⟨he2, x, rfl, hx⟩
      obtain rfl : x = .bool true := hx.trans (by simp)
      go_wp2_with fail
      exact ⟨rfl, he2, rfl⟩
    · obtain ⟨k0, k1⟩ := hk
      obtain rfl : u7 = .bool true := k0
      obtain rfl : u13 = .bool true := k1
      go_wp2_with fail
      exact ⟨rfl, Ext.refl _, by show (_ : Value) = _; (first | rfl | simp); try rfl⟩
  case last =>
    intro w1 he u0 h0 u1 h1 u2 h2 u3 h3 u4 h4 u5 h5 u6 h6 u7 h7 u8 h8 u9 h9 u10 h10 u11 h11 u12 h12 u13 h13 u14 h14
    obtain rfl : u14 = .bool true := h14
    clear h0 h1 h2 h3 h4 h5 h6 h7 h8 h9 h10 h11 h12 h13
    simp only [LastD, Act.put, List.setIfInBounds_toArray, List.set_cons_succ, List.set_cons_zero]
    have HE := Lib.hid ((HW.out).trans he)
    clear he
    go_wp2_with fail
    go_ret
    exact ⟨HE.out, rfl⟩

end Go.Proofs.YtocadbghhoibnaaFmt

