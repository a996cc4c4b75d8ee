/- FnUint64Bytes (printed by lawgen.py). -/
import Derived.Test.YtfpkaamldifkbaaBytes8
import Derived.Test.YtfpkaamldifkbaaSetB
import Derived.Test.YtfpkaamldifkbaaHelpers
import Derived.Test.YtfpkaamldifkbaaRow
import Derived.Test.YtfpkaamldifkbaaSpec5
set_option linter.unusedSimpArgs false
set_option linter.unusedVariables false
namespace Go.Proofs.Ytfpkaamldifkbaa
open Go.RowKit

theorem setBytes_8 (n : Nat) (x : Value) (w : World) (h : IsR8 (beb 8 n) x w) (hn : n < 18446744073709551616) :
    Calls Try.prog 18 #[x] w (ResR (IsC 1 (n : Int)) w) := by
  refine (setBytes_z x _ w h (by rw [beb_len]; omega)).mono ?_
  rintro e w' ⟨he, y, rfl, hy⟩
  rw [bev_beb_fit (show n < 256 ^ 8 from hn), beb_len] at hy
  exact ⟨he, y, rfl, hy⟩

theorem setBits_1 (n : Nat) (x : Value) (w : World) (h : IsR [n] x w) :
    Calls Try.prog 22 #[x] w (ResR (IsC 1 (n : Int)) w) := by
  refine (setBits_rd [n] x w h (by simp)).mono ?_
  rintro e w' ⟨he, y, rfl, hy⟩
  refine ⟨he, y, rfl, ?_⟩
  simpa [val] using hy

/-- The bytes laid till now. -/
def UbL (w0 : World) (n : Nat) (v3 v4 : Value) (wr : World) : Prop :=
  ∃ (t : Nat) (i : Int), t ≤ 8 ∧ v4 = .int .i64 i ∧ i + t = 7 ∧ wr.ownsRow w0.heap.size 5 1 v3 t (words .u8 ((beb 8 n).take t)) ∧ Below w0.heap.size w0 wr

theorem sgn_nat (n : Nat) : Value.bool (sgnZ (n : Int) == 0) = .bool (decide (n = 0)) := by
  congr 1
  rw [Bool.eq_iff_iff]
  rcases sgnZ_cases (n : Int) with ⟨h1, h2, h3⟩ | ⟨h1, h3⟩ | ⟨h1, h2, h3⟩ <;> rw [h3] <;> simp <;> omega

theorem eq0_nat (n : Nat) : Value.bool ((n : Int) == 0) = .bool (decide (n = 0)) := by
  congr 1
  rw [Bool.eq_iff_iff]
  simp

set_option maxRecDepth 10000 in
set_option maxHeartbeats 2000000 in
theorem fnUint64Bytes_n (n : Nat) (w : World) (hn : n < 18446744073709551616) :
    Calls Try.prog 6 #[.int .u64 (n : Nat)] w (ValR (.bool true) w) := by
  obtain ⟨i0, hi, hz0, hz1, hz2⟩ := info_parts infoByte
  have HI := Lib.hid hi
  have HI0 := Lib.hid hz0
  have HI1 := Lib.hid hz1
  have HI2 := Lib.hid hz2
  clear hi hz0 hz1 hz2
  go_enter Try.func6, Try.ntmps6
  go_wp2_with fail
  go_loopw [3, 4] (fun v3 v4 wr => UbL w n v3 v4 wr) (fun _ v4 _ => (intOf v4 + 1).toNat)
  case atStart => exact ⟨0, 7, by omega, rfl, by omega, World.ownsRow_nil _ _ _ _, Below.refl _ _⟩
  case round =>
    obtain ⟨t, i, ht, rfl, hit, hown, hbel⟩ := hrel
    by_cases hpos : 0 ≤ i
    · obtain ⟨m, rfl⟩ : ∃ m : Nat, i = (m : Int) := ⟨i.toNat, by omega⟩
      have HBEL := Lib.hid hbel
      have hsz := hbel.size
      have HTM : Hid (m + t + 1 = 8) := Lib.hid (by omega)
      have hm7 : m ≤ 7 := by omega
      obtain ⟨bb, hb0⟩ : ∃ bb, n / 256 ^ m % 256 = bb := ⟨_, rfl⟩
      have hbb : ((n : Int) / 2 ^ (8 * m) % 256) = (bb : Int) := by rw [← hb0, pow256_2]; push_cast; rfl
      have HB0 := Lib.hid hb0
      clear hb0 hit hbel
      go_wp2_with (at_builtin; refine wpList_append_own _ rfl _ _ 26 rfl w.heap.size 5 i0 (.int .u8 0) 1 1 Try.underlying26 HI.out HI0.out HI1.out HI2.out rfl (by decide) _ _ _ rfl (hown.alloc _) ⟨wr.heap.size, 0, none⟩ 1 1 [.int .u8 (bb : Nat)] rfl rfl ?c1 ?c2 ?c3 ?c4 ?c5 ?_)
      case c1 => exact cell_one_new _ _ _
      case c2 => simp [Value.oneCell']
      case c3 => simp only [maxLen]; omega
      case c4 => omega
      case c5 => simp; omega
      intro v' w3 hown' hgrow _
      have hbel1 := ((HBEL.out.alloc hsz (.cells #[.int .u8 (bb : Nat)] 5)).grown hgrow (by simp; omega) (fun j hj => (hown.lt j hj).1))
      have hrel' : UbL w n v' (.int .i64 ((m : Int) - 1)) w3 := by
        refine ⟨t + 1, (m : Int) - 1, by have := HTM.out; omega, rfl, by have := HTM.out; omega, ?_, hbel1⟩
        rw [beb_take 8 n t m HTM.out, HB0.out, words_app]
        exact hown'
      have HR' := Lib.hid hrel'
      clear hrel' hown' hgrow hown hbel1 hbb
      go_wp2_with fail
      go_roundw
      case rel => exact HR'.out
      case measure => simp [intOf]
    · obtain rfl : t = 8 := by omega
      rw [List.take_of_length_le (by rw [beb_len]; omega)] at hown
      have hrd : Rd .u8 wr u3 (beb 8 n) := ownsRow.read hown (beb_lt _ _)
      have HE0 : Hid (Ext w wr) := Lib.hid hbel
      obtain ⟨a3, c3, rfl⟩ := hrd.form
      have HRD := Lib.hid hrd
      clear hown hbel hrd hit
      go_wp2_with fail
      refine (setUint_z n _ hn).mono ?_
      rintro e w5 ⟨he, y5, rfl, hy⟩
      obtain ⟨m5, b5, l5, d5, rfl⟩ := hy.form
      have HE5 := Lib.hid (HE0.out.trans (he.trans (Ext.alloc w5 (.cells #[.bool m5, .slice b5 l5 d5] 24))))
      have HB5 := Lib.hid (HRD.out.ext (he.trans (Ext.alloc w5 (.cells #[.bool m5, .slice b5 l5 d5] 24))))
      have HY5 := Lib.hid (hy.ext (Ext.alloc w5 (.cells #[.bool m5, .slice b5 l5 d5] 24)))
      have G5 := Lib.hid (heap_alloc_new w5 (.cells #[.bool m5, .slice b5 l5 d5] 24))
      clear he hy HE0 HRD
      go_wp2_with fail
      generalize (w5.alloc (.cells #[.bool m5, .slice b5 l5 d5] 24)) = w7 at *

      refine wp_region_D preExt mixed [IsC (1) ((n : Int)), Is (.int .u64 (n : Nat)), IsR ([n]), IsC (1) ((n : Int)), Is (.bool true), Is (.bool true), IsC (1) ((n : Int)), IsR8 (beb 8 n), IsC (1) ((n : Int)), Is (.bool true), Is (.bool true), Is (.bool true), IsC (1) ((n : Int)), Is (.int .i64 (sgnZ ((n : Int)))), Is (.bool (decide (n = 0))), Is (.int .u64 (n : Nat)), Is (.bool (decide (n = 0))), Is (.bool true), Is (.bool true)] (by kernel_rfl) ?mono rfl ?steps ?last
      case mono =>
        simp only [List.forall_mem_cons, List.not_mem_nil, false_implies, implies_true, and_true]
        refine ⟨?_, ?_, ?_, ?_, ?_, ?_, ?_, ?_, ?_, ?_, ?_, ?_, ?_, ?_, ?_, ?_, ?_, ?_, ?_⟩
        all_goals first | exact fun _ _ _ _ q => q | exact fun _ _ _ he q => q.ext he
      case steps =>
        refine ⟨?_, ?_, ?_, ?_, ?_, ?_, ?_, ?_, ?_, ?_, ?_, ?_, ?_, ?_, ?_, ?_, ?_, ?_, ?_, trivial⟩
        all_goals
          intro u0 u1 u2 u3 u4 u5 u6 u7 u8 u9 u10 u11 u12 u13 u14 u15 u16 u17 u18 u19 w1 he hk
          simp [KnownD, Oper.looksAt, Op.operands, Call.operands, List.findIdx?_cons, Act.put] at hk
          simp only [Act.put, List.setIfInBounds_toArray, List.set_cons_succ, List.set_cons_zero]
        · have hb := he.block G5.out
          have q0 := blk_cell hb 0
          have q1 := blk_cell hb 1
          simp at q0 q1
          clear hb
          go_wp2_with fail
          exact ⟨rfl, Ext.refl _, HY5.out.ext he⟩
        · go_wp2_with fail
          exact ⟨rfl, Ext.refl _, by show (_ : Value) = _; (first | rfl | simp); try rfl⟩
        · have k0 := hk
          obtain rfl : u1 = .int .u64 (n : Nat) := k0
          go_wp2_with fail
          exact ⟨rfl, Ext.alloc _ _, rd_one _ _ (by omega)⟩
        · have k0 := hk
          have H0 := Lib.hid k0
          clear k0
          go_wp2_with fail
          refine (setBits_1 n _ _ H0.out).mono ?_
          rintro e w2 ⟨he2, x, rfl, hx⟩
          have HX := Lib.hid hx
          clear hx
          go_wp2_with fail
          exact ⟨rfl, he2, HX.out⟩
        · obtain ⟨k0, k1⟩ := hk
          have H0 : Hid (IsC (1) ((n : Int)) u0 w1) := Lib.hid (by first | exact k0 | simpa using k0)
          have H1 : Hid (IsC (1) ((n : Int)) u3 w1) := Lib.hid (by first | exact k1 | simpa using k1)
          clear k0 k1
          go_wp2_with fail
          refine (same_z (1) (1) ((n : Int)) ((n : Int)) _ _ _ (H0.out.z) (H1.out.z) (by omega) (by omega)).mono ?_
          rintro e w2 ⟨he2, x, rfl, hx⟩
          obtain rfl : x = .bool true := hx.trans (by simp)
          go_wp2_with fail
          exact ⟨rfl, he2, rfl⟩
        · have k0 := hk
          obtain rfl : u4 = .bool true := k0
          go_wp2_with fail
          exact ⟨rfl, Ext.refl _, by show (_ : Value) = _; (first | rfl | simp); try rfl⟩
        · have k0 := hk
          obtain rfl : u5 = .bool true := k0
          have hb := he.block G5.out
          have q0 := blk_cell hb 0
          have q1 := blk_cell hb 1
          simp at q0 q1
          clear hb
          go_wp2_with fail
          exact ⟨rfl, Ext.refl _, HY5.out.ext he⟩
        · have k0 := hk
          obtain rfl : u5 = .bool true := k0
          go_wp2_with fail
          exact ⟨rfl, Ext.refl _, HB5.out.ext he⟩
        · obtain ⟨k0, k1⟩ := hk
          obtain rfl : u5 = .bool true := k1
          have H0 := Lib.hid k0
          clear k0
          go_wp2_with fail
          refine (setBytes_8 n _ _ H0.out (by omega)).mono ?_
          rintro e w2 ⟨he2, x, rfl, hx⟩
          have HX := Lib.hid hx
          clear hx
          go_wp2_with fail
          exact ⟨rfl, he2, HX.out⟩
        · obtain ⟨k0, k1, k2⟩ := hk
          obtain rfl : u5 = .bool true := k2
          have H0 : Hid (IsC (1) ((n : Int)) u6 w1) := Lib.hid (by first | exact k0 | simpa using k0)
          have H1 : Hid (IsC (1) ((n : Int)) u8 w1) := Lib.hid (by first | exact k1 | simpa using k1)
          clear k0 k1
          go_wp2_with fail
          refine (same_z (1) (1) ((n : Int)) ((n : Int)) _ _ _ (H0.out.z) (H1.out.z) (by omega) (by omega)).mono ?_
          rintro e w2 ⟨he2, x, rfl, hx⟩
          obtain rfl : x = .bool true := hx.trans (by simp)
          go_wp2_with fail
          exact ⟨rfl, he2, rfl⟩
        · obtain ⟨k0, k1⟩ := hk
          obtain rfl : u5 = .bool true := k0
          obtain rfl : u9 = .bool true := k1
          go_wp2_with fail
          exact ⟨rfl, Ext.refl _, by show (_ : Value) = _; (first | rfl | simp); try rfl⟩
        · have k0 := hk
          obtain rfl : u10 = .bool true := k0
          go_wp2_with fail
          exact ⟨rfl, Ext.refl _, by show (_ : Value) = _; (first | rfl | simp); try rfl⟩
        · have k0 := hk
          obtain rfl : u11 = .bool true := k0
          have hb := he.block G5.out
          have q0 := blk_cell hb 0
          have q1 := blk_cell hb 1
          simp at q0 q1
          clear hb
          go_wp2_with fail
          exact ⟨rfl, Ext.refl _, HY5.out.ext he⟩
        · obtain ⟨k0, k1⟩ := hk
          obtain rfl : u11 = .bool true := k1
          have H0 : Hid (IsC (1) ((n : Int)) u12 w1) := Lib.hid (by first | exact k0 | simpa using k0)
          clear k0
          go_wp2_with fail
          refine (sign_z (1) ((n : Int)) _ _ (H0.out.z) (by omega)).mono ?_
          rintro e w2 ⟨he2, x, rfl, hx⟩
          obtain rfl : x = .int .i64 (sgnZ ((n : Int))) := hx
          go_wp2_with fail
          exact ⟨rfl, he2, rfl⟩
        · obtain ⟨k0, k1⟩ := hk
          obtain rfl : u13 = .int .i64 (sgnZ ((n : Int))) := k0
          obtain rfl : u11 = .bool true := k1
          go_wp2_with fail
          exact ⟨rfl, Ext.refl _, by show (_ : Value) = _; (exact sgn_nat n); try rfl⟩
        · have k0 := hk
          obtain rfl : u11 = .bool true := k0
          go_wp2_with fail
          exact ⟨rfl, Ext.refl _, by show (_ : Value) = _; (first | rfl | simp); try rfl⟩
        · obtain ⟨k0, k1⟩ := hk
          obtain rfl : u15 = .int .u64 (n : Nat) := k0
          obtain rfl : u11 = .bool true := k1
          go_wp2_with fail
          exact ⟨rfl, Ext.refl _, by show (_ : Value) = _; (exact eq0_nat n); try rfl⟩
        · obtain ⟨k0, k1, k2⟩ := hk
          obtain rfl : u14 = .bool (decide (n = 0)) := k0
          obtain rfl : u16 = .bool (decide (n = 0)) := k1
          obtain rfl : u11 = .bool true := k2
          go_wp2_with fail
          exact ⟨rfl, Ext.refl _, by show (_ : Value) = _; (simp); try rfl⟩
        · obtain ⟨k0, k1⟩ := hk
          obtain rfl : u11 = .bool true := k0
          obtain rfl : u17 = .bool true := k1
          go_wp2_with fail
          exact ⟨rfl, Ext.refl _, by show (_ : Value) = _; (first | rfl | simp); try rfl⟩
      case last =>
        intro w1 he u0 h0 u1 h1 u2 h2 u3 h3 u4 h4 u5 h5 u6 h6 u7 h7 u8 h8 u9 h9 u10 h10 u11 h11 u12 h12 u13 h13 u14 h14 u15 h15 u16 h16 u17 h17 u18 h18
        obtain rfl : u18 = .bool true := h18
        clear h0 h1 h2 h3 h4 h5 h6 h7 h8 h9 h10 h11 h12 h13 h14 h15 h16 h17
        simp only [LastD, Act.put, List.setIfInBounds_toArray, List.set_cons_succ, List.set_cons_zero]
        have HE := Lib.hid ((HE5.out).trans he)
        clear he
        go_wp2_with fail
        go_ret
        exact ⟨HE.out, rfl⟩

theorem u64_natU {x : Int} (hx : (Lit.int .u64 x).wf = true) : ∃ n : Nat, x = n ∧ n < 18446744073709551616 := by
  have h : 0 ≤ x ∧ x ≤ 18446744073709551615 := by simpa [Lit.wf, IntKind.min, IntKind.max, IntKind.signed, IntKind.bits] using hx
  exact ⟨x.toNat, by omega, by omega⟩

theorem fnUint64Bytes_walk (n : Int) (w : World) (hn : (Lit.int .u64 n).wf = true) :
    Calls Try.prog 6 #[.int .u64 n] w (ValR (.bool true) w) := by
  obtain ⟨m, rfl, hm⟩ := u64_natU hn
  exact fnUint64Bytes_n m w hm

end Go.Proofs.Ytfpkaamldifkbaa

