/- laws.setBits, laws.tidy, FnTidyWords (printed by lawgen.py). -/
import Derived.Test.YtdfknmplpjmemaaAddZ
import Derived.Test.YtdfknmplpjmemaaLshZ
import Derived.Test.YtdfknmplpjmemaaSpecUp
import Derived.Test.YtdfknmplpjmemaaHelpers
import Derived.Test.YtdfknmplpjmemaaSetU
import Derived.Test.YtdfknmplpjmemaaSetB
import Derived.Test.YtdfknmplpjmemaaSpec5
set_option linter.unusedSimpArgs false
set_option linter.unusedVariables false
namespace Go.Proofs.Ytdfknmplpjmemaa
open Go.RowKit

theorem field_lawsW (n : Bool) (a : Option Addr) (l c : Nat) (w : World) : (Instr.field 24 (.agg #[.bool n, .slice a l c]) 1).run Try.prog w = .ok (.slice a l c) w := by kernel_rfl

theorem field_specW (n : Bool) (a : Option Addr) (l c : Nat) (w : World) : (Instr.field 42 (.agg #[.bool n, .slice a l c]) 1).run Try.prog w = .ok (.slice a l c) w := by kernel_rfl

/-- n is how many words a number of value t has. -/
def Wl (t n : Nat) : Prop := ∃ ws : List Nat, ws.length = n ∧ norm ws = ws ∧ (∀ x ∈ ws, x < 18446744073709551616) ∧ val ws = t ∧ n ≤ 17592186044416

theorem Wl.eq {t n m : Nat} (h : Wl t n) (k : Wl t m) : n = m := by
  obtain ⟨ws, rfl, h2, h3, h4, _⟩ := h
  obtain ⟨vs, rfl, k2, k3, k4, _⟩ := k
  have a1 := len_of_val (m := vs.length) h2 (by rw [h4, ← k4]; exact val_lt vs k3)
  have a2 := len_of_val (m := ws.length) k2 (by rw [k4, ← h4]; exact val_lt ws h3)
  omega

def IsLenS (t : Nat) (v : Value) (_ : World) : Prop := ∃ a n c, v = .slice a n c ∧ Wl t n
def IsLenN (t : Nat) (v : Value) (_ : World) : Prop := ∃ n : Nat, v = .int .i64 (n : Nat) ∧ Wl t n

theorem IsLenS.ext {t : Nat} {v : Value} {w w' : World} (h : IsLenS t v w) (he : Ext w w') : IsLenS t v w' := h
theorem IsLenN.ext {t : Nat} {v : Value} {w w' : World} (h : IsLenN t v w) (he : Ext w w') : IsLenN t v w' := h

theorem tidy_z (L : Nat) (z : Int) (x : Value) (w : World) (h : IsC L z x w) (hL : L ≤ 17592186044416) :
    Calls Try.prog 26 #[x] w (ResR (Is (.bool true)) w) := by
  obtain ⟨s, ws, rfl, ho, hn, hv, hl⟩ := h
  have hrd := ho.read
  obtain ⟨a, c, rfl⟩ := ho.form
  have HE : Hid (∀ o, Ext w (w.alloc o)) := Lib.hid (fun o => Ext.alloc _ _)
  rcases Nat.eq_zero_or_pos ws.length with h0 | h0
  · have hz : z = 0 := by
      have := List.eq_nil_of_length_eq_zero h0
      subst this
      simp [val] at hv
      omega
    subst hz
    rw [h0]
    have hd : decide ((0 : Int) < 0) = false := by decide
    rw [hd]
    clear hrd ho hn hv hd h0 hl
    go_enter Try.func26, Try.ntmps26
    go_wp2_with fail
    go_ret
    exact ⟨HE.out _, _, rfl, rfl⟩
  · have hlast := norm_last hn (by intro e; rw [e] at h0; simp at h0)
    obtain ⟨_, a', c', q1, q2, q3, q4, q5⟩ := hrd
    simp at q1
    obtain ⟨rfl, rfl⟩ := q1
    obtain ⟨b, off, rfl, hc⟩ := q5 (ws.length - 1) (by omega)
    have hx0 : ws.getD (ws.length - 1) 0 ≠ 0 := last_ne hn h0
    generalize ws.getD (ws.length - 1) 0 = x at *
    have hb0 : ((x : Int) == 0) = false := by simp [hx0]
    have hb1 : ((x : Int) != 0) = true := by simp [hx0]
    have hl1 : ((ws.length : Int) == 0) = false := by rw [beq_eq_false_iff_ne]; omega
    have hpos : decide ((0 : Int) < (ws.length : Int)) = true := by rw [decide_eq_true_iff]; omega
    have hpos2 : decide (0 < ws.length) = true := by rw [decide_eq_true_iff]; omega
    generalize decide (z < 0) = nn
    have hlw : ws.length ≤ 17592186044416 := by omega
    have hca := fun o => (Ext.alloc w o).cell hc
    clear hlast q5 ho hn hv hx0 hc
    go_enter Try.func26, Try.ntmps26
    go_wp2_with fail
    go_ret
    exact ⟨HE.out _, _, rfl, rfl⟩

set_option maxRecDepth 10000 in
set_option maxHeartbeats 2000000 in
theorem fnTidyWords_walk  (n0 : Bool) (v0 : Value) (ws0 : List Nat) (n1 : Bool) (v1 : Value) (ws1 : List Nat) (w : World) (hr0 : Rd .u64 w v0 ws0) (hl0 : ws0.length ≤ 17592186043904) (hr1 : Rd .u64 w v1 ws1) (hl1 : ws1.length ≤ 17592186043904)  :
    Calls Try.prog 8 #[.agg #[.bool n0, v0], .agg #[.bool n1, v1]] w (ValR (.bool true) w) := by
  obtain ⟨a0, c0, rfl⟩ := hr0.form
  have hz0 : IsZ 17592186043904 (ival n0 ws0) (.agg #[.bool n0, .slice a0 ws0.length c0]) w := ⟨n0, _, ws0, rfl, hr0, hl0, rfl⟩
  have HR0 := Lib.hid hr0
  generalize hg0 : ival n0 ws0 = za at hz0
  have HZ0 := Lib.hid hz0
  have HG0 := Lib.hid hg0
  clear hz0 hg0 hr0
  obtain ⟨a1, c1, rfl⟩ := hr1.form
  have hz1 : IsZ 17592186043904 (ival n1 ws1) (.agg #[.bool n1, .slice a1 ws1.length c1]) w := ⟨n1, _, ws1, rfl, hr1, hl1, rfl⟩
  have HR1 := Lib.hid hr1
  generalize hg1 : ival n1 ws1 = zb at hz1
  have HZ1 := Lib.hid hz1
  have HG1 := Lib.hid hg1
  clear hz1 hg1 hr1
  have HAB : Hid (za.natAbs = val ws0) := Lib.hid (by rw [← HG0.out, ival_abs])
  go_enter Try.func8, Try.ntmps8
  go_wp2_with fail
  have g0 := (Ext.alloc (w.alloc (.cells #[.bool n0, .slice a0 ws0.length c0] 24)) (.cells #[.bool n1, .slice a1 ws1.length c1] 24)).block (heap_alloc_new w (.cells #[.bool n0, .slice a0 ws0.length c0] 24))
  have g1 := heap_second w (.cells #[.bool n0, .slice a0 ws0.length c0] 24) (.cells #[.bool n1, .slice a1 ws1.length c1] 24)
  have hE0 : Ext w ((w.alloc (.cells #[.bool n0, .slice a0 ws0.length c0] 24)).alloc (.cells #[.bool n1, .slice a1 ws1.length c1] 24)) := (Ext.alloc _ _).trans (Ext.alloc _ _)
  have hsz3 : ((w.alloc (.cells #[.bool n0, .slice a0 ws0.length c0] 24)).alloc (.cells #[.bool n1, .slice a1 ws1.length c1] 24)).heap.size = w.heap.size + 1 + 1 := by simp
  generalize ((w.alloc (.cells #[.bool n0, .slice a0 ws0.length c0] 24)).alloc (.cells #[.bool n1, .slice a1 ws1.length c1] 24)) = w4 at *
  generalize hn0 : w4.heap.size = N0 at *
  have HE0 := Lib.hid hE0
  have G0 := Lib.hid g0
  have G1 := Lib.hid g1
  have HSZ := Lib.hid hsz3
  clear g0 g1 hE0 hsz3
  refine wp_region_D preExt mixed [Is (.pointer (some ⟨w.heap.size, 1, none⟩)), IsR (ws0), IsC ((ws0.length)) ((val ws0 : Int)), IsLenS (val ws0), IsLenN (val ws0), IsZ (17592186043904) (za), IsW (17592186043904) (za), IsC (17592186043904) (za), IsLenS (val ws0), IsLenN (val ws0), Is (.bool true), Is (.bool true), IsZ (17592186043904) (za), IsZ (17592186043904) (zb), IsC (17592186043905) ((za) + (zb)), Is (.bool true), Is (.bool true), Is (.bool true), IsZ (17592186043904) (za), IsZ (17592186043904) (zb), IsC (17592186043905) ((za) - (zb)), Is (.bool true), Is (.bool true), Is (.bool true), IsZ (17592186043904) (za), IsC (17592186043904) (-(za)), Is (.bool true), Is (.bool true), Is (.bool true), IsZ (17592186043904) (za), IsC (17592186043904) (((za).natAbs : Int)), Is (.bool true), Is (.bool true), Is (.bool true), IsZ (17592186043904) (za), IsC (17592186043969) ((za) * 2 ^ (3)), Is (.bool true), Is (.bool true), Is (.bool true), Is (.pointer (some ⟨w.heap.size, 1, none⟩)), IsR (ws0), IsC ((ws0.length)) ((val ws0 : Int)), Is (.bool true), Is (.bool true)] (by kernel_rfl) ?mono rfl ?steps ?last
  case mono =>
    simp only [List.forall_mem_cons, List.not_mem_nil, false_implies, implies_true, and_true]
    refine ⟨?_, ?_, ?_, ?_, ?_, ?_, ?_, ?_, ?_, ?_, ?_, ?_, ?_, ?_, ?_, ?_, ?_, ?_, ?_, ?_, ?_, ?_, ?_, ?_, ?_, ?_, ?_, ?_, ?_, ?_, ?_, ?_, ?_, ?_, ?_, ?_, ?_, ?_, ?_, ?_, ?_, ?_, ?_, ?_⟩
    all_goals first | exact fun _ _ _ _ q => q | exact fun _ _ _ he q => q.ext he
  case steps =>
    refine ⟨?_, ?_, ?_, ?_, ?_, ?_, ?_, ?_, ?_, ?_, ?_, ?_, ?_, ?_, ?_, ?_, ?_, ?_, ?_, ?_, ?_, ?_, ?_, ?_, ?_, ?_, ?_, ?_, ?_, ?_, ?_, ?_, ?_, ?_, ?_, ?_, ?_, ?_, ?_, ?_, ?_, ?_, ?_, ?_, trivial⟩
    all_goals
      intro u0 u1 u2 u3 u4 u5 u6 u7 u8 u9 u10 u11 u12 u13 u14 u15 u16 u17 u18 u19 u20 u21 u22 u23 u24 u25 u26 u27 u28 u29 u30 u31 u32 u33 u34 u35 u36 u37 u38 u39 u40 u41 u42 u43 u44 w1 he hk
      simp [KnownD, Oper.looksAt, Op.operands, Call.operands, List.findIdx?_cons, Act.put] at hk
      simp only [Act.put, List.setIfInBounds_toArray, List.set_cons_succ, List.set_cons_zero]
    · go_wp2_with fail
      exact ⟨rfl, Ext.refl _, by show (_ : Value) = _; (first | rfl | simp); try rfl⟩
    · have k0 := hk
      obtain rfl : u0 = .pointer (some ⟨w.heap.size, 1, none⟩) := k0
      have hb := he.block G0.out
      have q0 := blk_cell hb 0
      have q1 := blk_cell hb 1
      simp at q0 q1
      clear hb
      go_wp2_with fail
      exact ⟨rfl, Ext.refl _, HR0.out.ext (HE0.out.trans he)⟩
    · have k0 := hk
      have H0 := Lib.hid k0
      clear k0
      go_wp2_with fail
      refine (setBits_rd ws0 _ _ H0.out (by omega)).mono ?_
      rintro e w2 ⟨he2, x, rfl, hx⟩
      have HX := Lib.hid hx
      clear hx
      go_wp2_with fail
      exact ⟨rfl, he2, HX.out⟩
    · have k0 := hk
      obtain ⟨s, ws, rfl, ho, hn, hv, hl⟩ := k0
      obtain ⟨a', c', rfl⟩ := ho.form
      generalize decide (((val ws0 : Nat) : Int) < 0) = nn
      have hf := field_lawsW nn a' ws.length c'
      have HW : Hid (Wl (val ws0) ws.length) := Lib.hid ⟨ws, rfl, hn, ho.1, by rw [hv]; rfl, by omega⟩
      clear ho hn hv hl
      go_wp2_with fail
      exact ⟨rfl, Ext.refl _, ⟨_, _, _, rfl, HW.out⟩⟩
    · have k0 := hk
      obtain ⟨a, n, c, rfl, h⟩ := k0
      have HW := Lib.hid h
      clear h
      go_wp2_with fail
      exact ⟨rfl, Ext.refl _, ⟨_, rfl, HW.out⟩⟩
    · have hb := he.block G0.out
      have q0 := blk_cell hb 0
      have q1 := blk_cell hb 1
      simp at q0 q1
      clear hb
      go_wp2_with fail
      exact ⟨rfl, Ext.refl _, HZ0.out.ext (HE0.out.trans he)⟩
    · have k0 := hk
      have H0 := Lib.hid k0
      clear k0
      go_wp2_with fail
      refine (toSpec_z (17592186043904) (za) _ _ (H0.out) (by omega)).mono ?_
      rintro e w2 ⟨he2, x, rfl, hx⟩
      have HX := Lib.hid hx
      clear hx
      go_wp2_with fail
      exact ⟨rfl, he2, HX.out⟩
    · have k0 := hk
      have H0 := Lib.hid k0
      clear k0
      go_wp2_with fail
      refine (specTrim_z (17592186043904) (za) _ _ (H0.out.z) (by omega)).mono ?_
      rintro e w2 ⟨he2, x, rfl, hx⟩
      have HX := Lib.hid hx
      clear hx
      go_wp2_with fail
      exact ⟨rfl, he2, HX.out⟩
    · have k0 := hk
      obtain ⟨s, ws, rfl, ho, hn, hv, hl⟩ := k0
      obtain ⟨a', c', rfl⟩ := ho.form
      generalize decide (za < 0) = nn
      have hf := field_specW nn a' ws.length c'
      have HW : Hid (Wl (val ws0) ws.length) := Lib.hid ⟨ws, rfl, hn, ho.1, by rw [hv]; exact HAB.out, by omega⟩
      clear ho hn hv hl
      go_wp2_with fail
      exact ⟨rfl, Ext.refl _, ⟨_, _, _, rfl, HW.out⟩⟩
    · have k0 := hk
      obtain ⟨a, n, c, rfl, h⟩ := k0
      have HW := Lib.hid h
      clear h
      go_wp2_with fail
      exact ⟨rfl, Ext.refl _, ⟨_, rfl, HW.out⟩⟩
    · obtain ⟨k0, k1⟩ := hk
      obtain ⟨n, rfl, h1⟩ := k0
      obtain ⟨m, rfl, h2⟩ := k1
      obtain rfl := h1.eq h2
      clear h1 h2
      have hb : ((n : Int) == (n : Int)) = true := by simp
      go_wp2_with fail
      exact ⟨rfl, Ext.refl _, rfl⟩
    · have k0 := hk
      obtain rfl : u10 = .bool true := k0
      go_wp2_with fail
      exact ⟨rfl, Ext.refl _, by show (_ : Value) = _; (first | rfl | simp); try rfl⟩
    · have k0 := hk
      obtain rfl : u11 = .bool true := k0
      have hb := he.block G0.out
      have q0 := blk_cell hb 0
      have q1 := blk_cell hb 1
      simp at q0 q1
      clear hb
      go_wp2_with fail
      exact ⟨rfl, Ext.refl _, HZ0.out.ext (HE0.out.trans he)⟩
    · have k0 := hk
      obtain rfl : u11 = .bool true := k0
      have hb := he.block G1.out
      have q0 := blk_cell hb 0
      have q1 := blk_cell hb 1
      simp at q0 q1
      clear hb
      go_wp2_with fail
      exact ⟨rfl, Ext.refl _, HZ1.out.ext (HE0.out.trans he)⟩
    · obtain ⟨k0, k1, k2⟩ := hk
      obtain rfl : u11 = .bool true := k2
      have H0 := Lib.hid k0
      have H1 := Lib.hid k1
      clear k0 k1
      go_wp2_with fail
      refine (add_z (17592186043904) (za) (zb) _ _ _ ((H0.out).mono (by omega)) ((H1.out).mono (by omega)) (by omega)).mono ?_
      rintro e w2 ⟨he2, x, rfl, hx⟩
      have HX := Lib.hid hx
      clear hx
      go_wp2_with fail
      exact ⟨rfl, he2, HX.out⟩
    · obtain ⟨k0, k1⟩ := hk
      obtain rfl : u11 = .bool true := k1
      have H0 : Hid (IsC (17592186043905) ((za) + (zb)) u14 w1) := Lib.hid (by first | exact k0 | simpa using k0)
      clear k0
      go_wp2_with fail
      refine (tidy_z (17592186043905) ((za) + (zb)) _ _ H0.out (by omega)).mono ?_
      rintro e w2 ⟨he2, x, rfl, hx⟩
      obtain rfl : x = .bool true := hx
      go_wp2_with fail
      exact ⟨rfl, he2, rfl⟩
    · obtain ⟨k0, k1⟩ := hk
      obtain rfl : u11 = .bool true := k0
      obtain rfl : u15 = .bool true := k1
      go_wp2_with fail
      exact ⟨rfl, Ext.refl _, by show (_ : Value) = _; (first | rfl | simp); try rfl⟩
    · have k0 := hk
      obtain rfl : u16 = .bool true := k0
      go_wp2_with fail
      exact ⟨rfl, Ext.refl _, by show (_ : Value) = _; (first | rfl | simp); try rfl⟩
    · have k0 := hk
      obtain rfl : u17 = .bool true := k0
      have hb := he.block G0.out
      have q0 := blk_cell hb 0
      have q1 := blk_cell hb 1
      simp at q0 q1
      clear hb
      go_wp2_with fail
      exact ⟨rfl, Ext.refl _, HZ0.out.ext (HE0.out.trans he)⟩
    · have k0 := hk
      obtain rfl : u17 = .bool true := k0
      have hb := he.block G1.out
      have q0 := blk_cell hb 0
      have q1 := blk_cell hb 1
      simp at q0 q1
      clear hb
      go_wp2_with fail
      exact ⟨rfl, Ext.refl _, HZ1.out.ext (HE0.out.trans he)⟩
    · obtain ⟨k0, k1, k2⟩ := hk
      obtain rfl : u17 = .bool true := k2
      have H0 := Lib.hid k0
      have H1 := Lib.hid k1
      clear k0 k1
      go_wp2_with fail
      refine (sub_z (17592186043904) (za) (zb) _ _ _ ((H0.out).mono (by omega)) ((H1.out).mono (by omega)) (by omega)).mono ?_
      rintro e w2 ⟨he2, x, rfl, hx⟩
      have HX := Lib.hid hx
      clear hx
      go_wp2_with fail
      exact ⟨rfl, he2, HX.out⟩
    · obtain ⟨k0, k1⟩ := hk
      obtain rfl : u17 = .bool true := k1
      have H0 : Hid (IsC (17592186043905) ((za) - (zb)) u20 w1) := Lib.hid (by first | exact k0 | simpa using k0)
      clear k0
      go_wp2_with fail
      refine (tidy_z (17592186043905) ((za) - (zb)) _ _ H0.out (by omega)).mono ?_
      rintro e w2 ⟨he2, x, rfl, hx⟩
      obtain rfl : x = .bool true := hx
      go_wp2_with fail
      exact ⟨rfl, he2, rfl⟩
    · obtain ⟨k0, k1⟩ := hk
      obtain rfl : u17 = .bool true := k0
      obtain rfl : u21 = .bool true := k1
      go_wp2_with fail
      exact ⟨rfl, Ext.refl _, by show (_ : Value) = _; (first | rfl | simp); try rfl⟩
    · have k0 := hk
      obtain rfl : u22 = .bool true := k0
      go_wp2_with fail
      exact ⟨rfl, Ext.refl _, by show (_ : Value) = _; (first | rfl | simp); try rfl⟩
    · have k0 := hk
      obtain rfl : u23 = .bool true := k0
      have hb := he.block G0.out
      have q0 := blk_cell hb 0
      have q1 := blk_cell hb 1
      simp at q0 q1
      clear hb
      go_wp2_with fail
      exact ⟨rfl, Ext.refl _, HZ0.out.ext (HE0.out.trans he)⟩
    · obtain ⟨k0, k1⟩ := hk
      obtain rfl : u23 = .bool true := k1
      have H0 := Lib.hid k0
      clear k0
      go_wp2_with fail
      refine (neg_z (17592186043904) (za) _ _ (H0.out) (by omega)).mono ?_
      rintro e w2 ⟨he2, x, rfl, hx⟩
      have HX := Lib.hid hx
      clear hx
      go_wp2_with fail
      exact ⟨rfl, he2, HX.out⟩
    · obtain ⟨k0, k1⟩ := hk
      obtain rfl : u23 = .bool true := k1
      have H0 : Hid (IsC (17592186043904) (-(za)) u25 w1) := Lib.hid (by first | exact k0 | simpa using k0)
      clear k0
      go_wp2_with fail
      refine (tidy_z (17592186043904) (-(za)) _ _ H0.out (by omega)).mono ?_
      rintro e w2 ⟨he2, x, rfl, hx⟩
      obtain rfl : x = .bool true := hx
      go_wp2_with fail
      exact ⟨rfl, he2, rfl⟩
    · obtain ⟨k0, k1⟩ := hk
      obtain rfl : u23 = .bool true := k0
      obtain rfl : u26 = .bool true := k1
      go_wp2_with fail
      exact ⟨rfl, Ext.refl _, by show (_ : Value) = _; (first | rfl | simp); try rfl⟩
    · have k0 := hk
      obtain rfl : u27 = .bool true := k0
      go_wp2_with fail
      exact ⟨rfl, Ext.refl _, by show (_ : Value) = _; (first | rfl | simp); try rfl⟩
    · have k0 := hk
      obtain rfl : u28 = .bool true := k0
      have hb := he.block G0.out
      have q0 := blk_cell hb 0
      have q1 := blk_cell hb 1
      simp at q0 q1
      clear hb
      go_wp2_with fail
      exact ⟨rfl, Ext.refl _, HZ0.out.ext (HE0.out.trans he)⟩
    · obtain ⟨k0, k1⟩ := hk
      obtain rfl : u28 = .bool true := k1
      have H0 := Lib.hid k0
      clear k0
      go_wp2_with fail
      refine (abs_z (17592186043904) (za) _ _ (H0.out) (by omega)).mono ?_
      rintro e w2 ⟨he2, x, rfl, hx⟩
      have HX := Lib.hid hx
      clear hx
      go_wp2_with fail
      exact ⟨rfl, he2, HX.out⟩
    · obtain ⟨k0, k1⟩ := hk
      obtain rfl : u28 = .bool true := k1
      have H0 : Hid (IsC (17592186043904) (((za).natAbs : Int)) u30 w1) := Lib.hid (by first | exact k0 | simpa using k0)
      clear k0
      go_wp2_with fail
      refine (tidy_z (17592186043904) (((za).natAbs : Int)) _ _ H0.out (by omega)).mono ?_
      rintro e w2 ⟨he2, x, rfl, hx⟩
      obtain rfl : x = .bool true := hx
      go_wp2_with fail
      exact ⟨rfl, he2, rfl⟩
    · obtain ⟨k0, k1⟩ := hk
      obtain rfl : u28 = .bool true := k0
      obtain rfl : u31 = .bool true := k1
      go_wp2_with fail
      exact ⟨rfl, Ext.refl _, by show (_ : Value) = _; (first | rfl | simp); try rfl⟩
    · have k0 := hk
      obtain rfl : u32 = .bool true := k0
      go_wp2_with fail
      exact ⟨rfl, Ext.refl _, by show (_ : Value) = _; (first | rfl | simp); try rfl⟩
    · have k0 := hk
      obtain rfl : u33 = .bool true := k0
      have hb := he.block G0.out
      have q0 := blk_cell hb 0
      have q1 := blk_cell hb 1
      simp at q0 q1
      clear hb
      go_wp2_with fail
      exact ⟨rfl, Ext.refl _, HZ0.out.ext (HE0.out.trans he)⟩
    · obtain ⟨k0, k1⟩ := hk
      obtain rfl : u33 = .bool true := k1
      have H0 := Lib.hid k0
      clear k0
      go_wp2_with fail
      refine (lsh_n (17592186043904) (za) (3) _ _ (H0.out) (by omega) (by omega)).mono ?_
      rintro e w2 ⟨he2, x, rfl, hx⟩
      have HX := Lib.hid hx
      clear hx
      go_wp2_with fail
      exact ⟨rfl, he2, HX.out⟩
    · obtain ⟨k0, k1⟩ := hk
      obtain rfl : u33 = .bool true := k1
      have H0 : Hid (IsC (17592186043969) ((za) * 2 ^ (3)) u35 w1) := Lib.hid (by first | exact k0 | simpa using k0)
      clear k0
      go_wp2_with fail
      refine (tidy_z (17592186043969) ((za) * 2 ^ (3)) _ _ H0.out (by omega)).mono ?_
      rintro e w2 ⟨he2, x, rfl, hx⟩
      obtain rfl : x = .bool true := hx
      go_wp2_with fail
      exact ⟨rfl, he2, rfl⟩
    · obtain ⟨k0, k1⟩ := hk
      obtain rfl : u33 = .bool true := k0
      obtain rfl : u36 = .bool true := k1
      go_wp2_with fail
      exact ⟨rfl, Ext.refl _, by show (_ : Value) = _; (first | rfl | simp); try rfl⟩
    · have k0 := hk
      obtain rfl : u37 = .bool true := k0
      go_wp2_with fail
      exact ⟨rfl, Ext.refl _, by show (_ : Value) = _; (first | rfl | simp); try rfl⟩
    · have k0 := hk
      obtain rfl : u38 = .bool true := k0
      go_wp2_with fail
      exact ⟨rfl, Ext.refl _, by show (_ : Value) = _; (first | rfl | simp); try rfl⟩
    · obtain ⟨k0, k1⟩ := hk
      obtain rfl : u39 = .pointer (some ⟨w.heap.size, 1, none⟩) := k0
      obtain rfl : u38 = .bool true := k1
      have hb := he.block G0.out
      have q0 := blk_cell hb 0
      have q1 := blk_cell hb 1
      simp at q0 q1
      clear hb
      go_wp2_with fail
      exact ⟨rfl, Ext.refl _, HR0.out.ext (HE0.out.trans he)⟩
    · obtain ⟨k0, k1⟩ := hk
      obtain rfl : u38 = .bool true := k1
      have H0 := Lib.hid k0
      clear k0
      go_wp2_with fail
      refine (setBits_rd ws0 _ _ H0.out (by omega)).mono ?_
      rintro e w2 ⟨he2, x, rfl, hx⟩
      have HX := Lib.hid hx
      clear hx
      go_wp2_with fail
      exact ⟨rfl, he2, HX.out⟩
    · obtain ⟨k0, k1⟩ := hk
      obtain rfl : u38 = .bool true := k1
      have H0 : Hid (IsC ((ws0.length)) ((val ws0 : Int)) u41 w1) := Lib.hid (by first | exact k0 | simpa using k0)
      clear k0
      go_wp2_with fail
      refine (tidy_z ((ws0.length)) ((val ws0 : Int)) _ _ H0.out (by omega)).mono ?_
      rintro e w2 ⟨he2, x, rfl, hx⟩
      obtain rfl : x = .bool true := hx
      go_wp2_with fail
      exact ⟨rfl, he2, rfl⟩
    · obtain ⟨k0, k1⟩ := hk
      obtain rfl : u38 = .bool true := k0
      obtain rfl : u42 = .bool true := k1
      go_wp2_with fail
      exact ⟨rfl, Ext.refl _, by show (_ : Value) = _; (first | rfl | simp); try rfl⟩
  case last =>
    intro w1 he u0 h0 u1 h1 u2 h2 u3 h3 u4 h4 u5 h5 u6 h6 u7 h7 u8 h8 u9 h9 u10 h10 u11 h11 u12 h12 u13 h13 u14 h14 u15 h15 u16 h16 u17 h17 u18 h18 u19 h19 u20 h20 u21 h21 u22 h22 u23 h23 u24 h24 u25 h25 u26 h26 u27 h27 u28 h28 u29 h29 u30 h30 u31 h31 u32 h32 u33 h33 u34 h34 u35 h35 u36 h36 u37 h37 u38 h38 u39 h39 u40 h40 u41 h41 u42 h42 u43 h43
    obtain rfl : u43 = .bool true := h43
    clear h0 h1 h2 h3 h4 h5 h6 h7 h8 h9 h10 h11 h12 h13 h14 h15 h16 h17 h18 h19 h20 h21 h22 h23 h24 h25 h26 h27 h28 h29 h30 h31 h32 h33 h34 h35 h36 h37 h38 h39 h40 h41 h42
    simp only [LastD, Act.put, List.setIfInBounds_toArray, List.set_cons_succ, List.set_cons_zero]
    have HE := Lib.hid ((HE0.out).trans he)
    clear he
    go_wp2_with fail
    go_ret
    exact ⟨HE.out, rfl⟩

end Go.Proofs.Ytdfknmplpjmemaa

