/- nat.add, nat.sub: contracts (printed by gennat.py). -/
import Derived.Test.YtacmojhladdalaaVW
import Derived.Test.YtacmojhladdalaaIntSet
import Derived.StillTailTactics
import Derived.Test.YtacmojhladdalaaNatCom
set_option linter.unusedSimpArgs false
set_option linter.unusedVariables false
namespace Go.Proofs.Ytacmojhladdalaa
open Go.RowKit

theorem addVVR.ext {w w1 w2 : World} {bz oz : Nat} {cz : Array Value} {T : TypeId} {xs ys : List Nat} {n : Nat} {e : Ending} (h : addVVR w bz oz cz T xs ys n e w1) (he : Ext w1 w2) : addVVR w bz oz cz T xs ys n e w2 := by
  obtain ⟨ws, c, h1, h2, h3, h4, h5, h6, h7⟩ := h
  exact ⟨ws, c, h1, h2, h3, h4, h5, h6.same he.upd, he.block h7⟩
theorem addVVR.of {w w1 w2 : World} {bz oz : Nat} {cz : Array Value} {T : TypeId} {xs ys : List Nat} {n : Nat} {e : Ending} (he : Ext w w1) (h : addVVR w1 bz oz cz T xs ys n e w2) : addVVR w bz oz cz T xs ys n e w2 := by
  obtain ⟨ws, c, h1, h2, h3, h4, h5, h6, h7⟩ := h
  exact ⟨ws, c, h1, h2, h3, h4, h5, he.upd.same h6, h7⟩
theorem subVVR.ext {w w1 w2 : World} {bz oz : Nat} {cz : Array Value} {T : TypeId} {xs ys : List Nat} {n : Nat} {e : Ending} (h : subVVR w bz oz cz T xs ys n e w1) (he : Ext w1 w2) : subVVR w bz oz cz T xs ys n e w2 := by
  obtain ⟨ws, c, h1, h2, h3, h4, h5, h6, h7⟩ := h
  exact ⟨ws, c, h1, h2, h3, h4, h5, h6.same he.upd, he.block h7⟩
theorem subVVR.of {w w1 w2 : World} {bz oz : Nat} {cz : Array Value} {T : TypeId} {xs ys : List Nat} {n : Nat} {e : Ending} (he : Ext w w1) (h : subVVR w1 bz oz cz T xs ys n e w2) : subVVR w bz oz cz T xs ys n e w2 := by
  obtain ⟨ws, c, h1, h2, h3, h4, h5, h6, h7⟩ := h
  exact ⟨ws, c, h1, h2, h3, h4, h5, he.upd.same h6, h7⟩
theorem vwAddR.ext {w w1 w2 : World} {bz oz : Nat} {cz : Array Value} {T : TypeId} {xs : List Nat} {y n : Nat} {e : Ending} (h : vwAddR w bz oz cz T xs y n e w1) (he : Ext w1 w2) : vwAddR w bz oz cz T xs y n e w2 := by
  obtain ⟨ws, c, h1, h2, h3, h4, h5, h6, h7⟩ := h
  exact ⟨ws, c, h1, h2, h3, h4, h5, h6.same he.upd, he.block h7⟩
theorem vwAddR.of {w w1 w2 : World} {bz oz : Nat} {cz : Array Value} {T : TypeId} {xs : List Nat} {y n : Nat} {e : Ending} (he : Ext w w1) (h : vwAddR w1 bz oz cz T xs y n e w2) : vwAddR w bz oz cz T xs y n e w2 := by
  obtain ⟨ws, c, h1, h2, h3, h4, h5, h6, h7⟩ := h
  exact ⟨ws, c, h1, h2, h3, h4, h5, he.upd.same h6, h7⟩
theorem vwSubR.ext {w w1 w2 : World} {bz oz : Nat} {cz : Array Value} {T : TypeId} {xs : List Nat} {y n : Nat} {e : Ending} (h : vwSubR w bz oz cz T xs y n e w1) (he : Ext w1 w2) : vwSubR w bz oz cz T xs y n e w2 := by
  obtain ⟨ws, c, h1, h2, h3, h4, h5, h6, h7⟩ := h
  exact ⟨ws, c, h1, h2, h3, h4, h5, h6.same he.upd, he.block h7⟩
theorem vwSubR.of {w w1 w2 : World} {bz oz : Nat} {cz : Array Value} {T : TypeId} {xs : List Nat} {y n : Nat} {e : Ending} (he : Ext w w1) (h : vwSubR w1 bz oz cz T xs y n e w2) : vwSubR w bz oz cz T xs y n e w2 := by
  obtain ⟨ws, c, h1, h2, h3, h4, h5, h6, h7⟩ := h
  exact ⟨ws, c, h1, h2, h3, h4, h5, he.upd.same h6, h7⟩

theorem addVV_call (args : Array Value) (w : World) : (callFunc 77 args).run Try.prog w = .ok (.enter 58 args) w :=
  run_callFunc_twin (P := Try.prog) (fn := Try.f77) (tw := Try.f58) (twin := "math/big.addVV_g") (by kernel_rfl) (by kernel_rfl) (by kernel_rfl) (by kernel_rfl) (by kernel_rfl) (by kernel_rfl) (by kernel_rfl) (by kernel_rfl) (by kernel_rfl) args w

theorem subVV_call (args : Array Value) (w : World) : (callFunc 81 args).run Try.prog w = .ok (.enter 59 args) w :=
  run_callFunc_twin (P := Try.prog) (fn := Try.f81) (tw := Try.f59) (twin := "math/big.subVV_g") (by kernel_rfl) (by kernel_rfl) (by kernel_rfl) (by kernel_rfl) (by kernel_rfl) (by kernel_rfl) (by kernel_rfl) (by kernel_rfl) (by kernel_rfl) args w

theorem len_mono {xs ys : List Nat} (hx : norm xs = xs) (hy : norm ys = ys) (hb : ∀ q ∈ xs, q < 18446744073709551616) (h : val ys ≤ val xs) : ys.length ≤ xs.length := by
  rcases Nat.lt_or_ge xs.length ys.length with h1 | h1
  · have h2 := norm_last hy (by intro e; rw [e] at h1; simp at h1)
    have h3 := val_lt xs hb
    have h4 : 18446744073709551616 ^ xs.length ≤ 18446744073709551616 ^ (ys.length - 1) := Nat.pow_le_pow_right (by decide) (by omega)
    omega
  · exact h1

theorem getD_take (xs : List Nat) (n i : Nat) (h : i < n) : (xs.take n).getD i 0 = xs.getD i 0 := by
  rw [List.getD_eq_getElem?_getD, List.getD_eq_getElem?_getD, List.getElem?_take, if_pos h]
theorem getD_drop (xs : List Nat) (n i : Nat) : (xs.drop n).getD i 0 = xs.getD (n + i) 0 := by
  rw [List.getD_eq_getElem?_getD, List.getD_eq_getElem?_getD, List.getElem?_drop]

theorem sub_zero {ws xs ys : List Nat} {m c : Nat} (h : val ws + val ys = val xs + 18446744073709551616 ^ m * c) (hge : val ys ≤ val xs) (hb : ∀ q ∈ ws, q < 18446744073709551616) (hl : ws.length = m) : c = 0 := by
  have h1 := val_lt ws hb
  rw [hl] at h1
  rcases Nat.eq_zero_or_pos c with h2 | h2
  · exact h2
  · have : 18446744073709551616 ^ m * 1 ≤ 18446744073709551616 ^ m * c := Nat.mul_le_mul_left _ h2
    omega

/-- What the row holds behind the sums of the words. -/
theorem natAdd_two {w1 w2 w3 : World} {g m n c1 c : Nat} {cur : Array Value} {T : TypeId} {xs ys ws1 ws2 : List Nat} (hm : xs.length = m) (hn : ys.length = n) (hnm : n ≤ m) (hfit : m ≤ cur.size) (h1 : ws1.length = n) (h2 : ws2.length = m - n) (hv1 : val ws1 + 18446744073709551616 ^ n * c1 = val (xs.take n) + val ys) (hv2 : val ws2 + 18446744073709551616 ^ (m - n) * c = val (xs.drop n) + c1) (hr : w3.heap[g]? = some (.cells (put (put cur 0 (words .u64 ws1)) n (words .u64 ws2)) T (0, 0))) :
    ∃ ws, ws = ws1 ++ ws2 ∧ ws.length = m ∧ (val ws + 18446744073709551616 ^ m * c = val xs + val ys) ∧ w3.heap[g]? = some (.cells (put cur 0 (words .u64 ws)) T (0, 0)) := by
  refine ⟨_, rfl, by simp; omega, ?_, ?_⟩
  · have e := val_split xs n
    have e2 : m = n + (m - n) := by omega
    rw [val_append, h1]
    rw [e2, Nat.pow_add]
    generalize hP : 18446744073709551616 ^ n = P at *
    generalize hR : 18446744073709551616 ^ (m - n) = R at *
    have e3 : P * val ws2 + P * R * c = P * val (xs.drop n) + P * c1 := by rw [Nat.mul_assoc, ← Nat.mul_add, hv2, Nat.mul_add]
    omega
  · have e : (words .u64 ws1).length = n := by rw [words_len, h1]
    rw [hr, words_app, ← put_put _ _ _ _ (by rw [words_len, words_len]; omega), e, Nat.zero_add]

set_option maxHeartbeats 1000000 in
theorem natAdd_m0 (v0 x y : Value) (vs xs ys : List Nat) (w : World) (hv : Own .u64 w 0 80 v0 vs) (hx : Own .u64 w 0 80 x xs) (hy : Own .u64 w 0 80 y ys) (hnx : norm xs = xs) (hny : norm ys = ys) (hl : xs.length ≤ 17592186044416) (hle : ys.length ≤ xs.length) (h0 : xs.length = 0) :
    Calls Try.prog 64 #[v0, x, y] w (NatVR v0 (val xs + val ys) (xs.length + 1) w) := by
  have hlx := nil_of_len h0
  have hly := nil_of_len (xs := ys) (by omega)
  rw [hlx, hly]
  obtain ⟨a, c, rfl⟩ := hv.form
  obtain ⟨ax, cx, rfl⟩ := hx.form
  obtain ⟨ay, cy, rfl⟩ := hy.form
  obtain ⟨_, k1, k2⟩ := hv.cap
  have hfin : NatVR (.slice a vs.length c) 0 (xs.length + 1) w (.returned (.slice a 0 c)) w := ⟨[], rfl, rfl, by simp, _, rfl, hv.cut, Upd.refl _ _, .inl (by cases a <;> rfl)⟩
  have hly0 : ys.length = 0 := by omega
  rw [h0] at hfin
  have HF := Lib.hid hfin
  rw [h0, hly0]
  clear hv hx hy hnx hny hfin hlx hly
  go_enter Try.func64, Try.ntmps64
  go_wp2_with fail
  go_ret
  exact HF.out

set_option maxHeartbeats 1000000 in
theorem natAdd_n0 (v0 x y : Value) (vs xs ys : List Nat) (w : World) (hv : Own .u64 w 0 80 v0 vs) (hx : Own .u64 w 0 80 x xs) (hy : Own .u64 w 0 80 y ys) (hnx : norm xs = xs) (hny : norm ys = ys) (hl : xs.length ≤ 17592186044416) (hle : ys.length ≤ xs.length) (h0 : ys.length = 0) (hpos : 0 < xs.length) :
    Calls Try.prog 64 #[v0, x, y] w (NatVR v0 (val xs + val ys) (xs.length + 1) w) := by
  have hly := nil_of_len h0
  rw [hly]
  obtain ⟨a, c, rfl⟩ := hv.form
  obtain ⟨ax, cx, rfl⟩ := hx.form
  obtain ⟨ay, cy, rfl⟩ := hy.form
  rw [h0]
  have HV := Lib.hid hv
  have HX := Lib.hid hx
  have HN := Lib.hid hnx
  have hb0 : ((xs.length : Int) == 0) = false := beq_eq_false_iff_ne.2 (by omega)
  clear hv hx hy hnx hny hly h0
  go_enter Try.func64, Try.ntmps64
  go_wp2_with fail
  refine (natSet_any _ vs _ xs _ HV.out HX.out.read (by omega)).mono ?_
  intro e w1 hR
  obtain ⟨v', rfl, q⟩ := hR
  have HQ := Lib.hid q
  clear q
  go_wp2_with fail
  go_ret
  exact ⟨xs, HN.out, by omega, by omega, _, rfl, HQ.out⟩

set_option maxRecDepth 100000 in
set_option maxHeartbeats 2000000 in
theorem natAdd_main (v0 x y : Value) (vs xs ys : List Nat) (w : World) (hv : Own .u64 w 0 80 v0 vs) (hx : Own .u64 w 0 80 x xs) (hy : Own .u64 w 0 80 y ys) (hnx : norm xs = xs) (hny : norm ys = ys) (hl : xs.length ≤ 17592186044416) (hle : ys.length ≤ xs.length) (hpos : 0 < ys.length) :
    Calls Try.prog 64 #[v0, x, y] w (NatVR v0 (val xs + val ys) (xs.length + 1) w) := by
  obtain ⟨a, c0, rfl⟩ := hv.form
  obtain ⟨gx, cx, curx, rfl, hcx1, hcx2, hgx, hsx, hxc⟩ := own_open hx (by omega)
  obtain ⟨gy, cy, cury, rfl, hcy1, hcy2, hgy, hsy, hyc⟩ := own_open hy hpos
  have hxb : ∀ q ∈ xs, q < 18446744073709551616 := hx.1
  have hyb : ∀ q ∈ ys, q < 18446744073709551616 := hy.1
  generalize hm : xs.length = m at *
  generalize hn : ys.length = n at *
  generalize hv0 : Value.slice a vs.length c0 = v0 at *
  have HV0 := Lib.hid hv0
  have HM := Lib.hid hm
  have HN := Lib.hid hn
  have HV := Lib.hid hv
  have HXB := Lib.hid hxb
  have HYB := Lib.hid hyb
  have HXC0 := Lib.hid hxc
  have HYC0 := Lib.hid hyc
  have HGX := Lib.hid hgx
  clear hv hx hy hnx hny hxb hyb hxc hyc hgx hgy hm hn hv0
  have hbm : ((m : Int) == 0) = false := by simp; omega
  have hbn : ((n : Int) == 0) = false := by simp; omega
  go_enter Try.func64, Try.ntmps64
  go_wp2_with fail
  refine (make_any v0 _ (m + 1) _ _ HV.out.2 (by omega)).mono ?_
  rintro e w1 ⟨z, zs, rfl, hown, hor⟩
  obtain ⟨g, cap, cur, rfl, hcap1, hcap2, hg, hsz⟩ := row_open hown (by omega)
  have hext : Ext w w1 := by rcases hor with ⟨rfl, _⟩ | ⟨_, h⟩; exact Ext.refl _; exact h
  have hxc1 : ∀ i, i < m → w1.cell? ⟨gx, 0 + i, none⟩ = some (.int .u64 (xs.getD i 0 : Nat)) := fun i hi => hext.cell (HXC0.out i hi)
  have hyc1 : ∀ i, i < n → w1.cell? ⟨gy, 0 + i, none⟩ = some (.int .u64 (ys.getD i 0 : Nat)) := fun i hi => hext.cell (HYC0.out i hi)
  have HXC := Lib.hid hxc1
  have HYC := Lib.hid hyc1
  have HMK := Lib.hid (MakeR.upd hor)
  have HG := Lib.hid hg
  have HGX1 := Lib.hid (hext.block HGX.out)
  clear hown hor hext hxc1 hyc1 hg HXC0 HYC0
  go_wp2_with fail
  refine wp_region_H preExt (preUpd (· = g)) (fun _ _ h => h.upd) 9 mixed [Is (.slice (some ⟨g, 0, none⟩) (m + 1) cap), Is (.int .i64 (n : Nat)), Is (.slice (some ⟨g, 0, none⟩) n cap), Is (.slice (some ⟨gx, 0, none⟩) m cx), Is (.int .i64 (n : Nat)), Is (.slice (some ⟨gx, 0, none⟩) n cx), Is (.slice (some ⟨gy, 0, none⟩) n cy), Is (.int .i64 (n : Nat)), Is (.slice (some ⟨gy, 0, none⟩) n cy), fun v wz => addVVR w1 g 0 cur 80 (xs.take n) ys n (.returned v) wz] (by kernel_rfl) ?mono ?monoU rfl ?steps ?last
  case mono =>
    simp only [List.forall_mem_cons, List.not_mem_nil, false_implies, implies_true, and_true]
    refine ⟨?_, ?_, ?_, ?_, ?_, ?_, ?_, ?_, ?_, ?_⟩
    all_goals first | exact fun _ _ _ _ q => q | exact fun _ _ _ he q => q.ext he
  case monoU =>
    intro j hj
    match j, hj with
    | 0, _ => exact fun _ _ _ _ q => q
    | 1, _ => exact fun _ _ _ _ q => q
    | 2, _ => exact fun _ _ _ _ q => q
    | 3, _ => exact fun _ _ _ _ q => q
    | 4, _ => exact fun _ _ _ _ q => q
    | 5, _ => exact fun _ _ _ _ q => q
    | 6, _ => exact fun _ _ _ _ q => q
    | 7, _ => exact fun _ _ _ _ q => q
    | 8, _ => exact fun _ _ _ _ q => q
    | 9, h => exact absurd rfl h
    | j + 10, _ => exact fun _ _ _ _ q => trivial
  case steps =>
    refine ⟨?_, ?_, ?_, ?_, ?_, ?_, ?_, ?_, ?_, ?_, trivial⟩
    all_goals
      intro u0 u1 u2 u3 u4 u5 u6 u7 u8 u9 u10 w9 he hk
      simp [KnownD, Oper.looksAt, Op.operands, Call.operands, List.findIdx?_cons, Act.put] at hk
      simp only [Act.put, List.setIfInBounds_toArray, List.set_cons_succ, List.set_cons_zero]
    · go_wp2_with fail
      exact ⟨rfl, Ext.refl _, by show (_ : Value) = _; first | rfl | simp⟩
    · go_wp2_with fail
      exact ⟨rfl, Ext.refl _, by show (_ : Value) = _; first | rfl | simp⟩
    · obtain ⟨k0, k1⟩ := hk
      obtain rfl : u0 = .slice (some ⟨g, 0, none⟩) (m + 1) cap := k0
      obtain rfl : u1 = .int .i64 (n : Nat) := k1
      go_wp2_with fail
      exact ⟨rfl, Ext.refl _, by show (_ : Value) = _; first | rfl | simp⟩
    · go_wp2_with fail
      exact ⟨rfl, Ext.refl _, by show (_ : Value) = _; first | rfl | simp⟩
    · go_wp2_with fail
      exact ⟨rfl, Ext.refl _, by show (_ : Value) = _; first | rfl | simp⟩
    · obtain ⟨k0, k1⟩ := hk
      obtain rfl : u3 = .slice (some ⟨gx, 0, none⟩) m cx := k0
      obtain rfl : u4 = .int .i64 (n : Nat) := k1
      go_wp2_with fail
      exact ⟨rfl, Ext.refl _, by show (_ : Value) = _; first | rfl | simp⟩
    · go_wp2_with fail
      exact ⟨rfl, Ext.refl _, by show (_ : Value) = _; first | rfl | simp⟩
    · go_wp2_with fail
      exact ⟨rfl, Ext.refl _, by show (_ : Value) = _; first | rfl | simp⟩
    · obtain ⟨k0, k1⟩ := hk
      obtain rfl : u6 = .slice (some ⟨gy, 0, none⟩) n cy := k0
      obtain rfl : u7 = .int .i64 (n : Nat) := k1
      go_wp2_with fail
      exact ⟨rfl, Ext.refl _, by show (_ : Value) = _; first | rfl | simp⟩
    · obtain ⟨k0, k1, k2⟩ := hk
      obtain rfl : u2 = .slice (some ⟨g, 0, none⟩) n cap := k0
      obtain rfl : u5 = .slice (some ⟨gx, 0, none⟩) n cx := k1
      obtain rfl : u8 = .slice (some ⟨gy, 0, none⟩) n cy := k2
      have he1 : Ext w1 w9 := he
      have HE9 := Lib.hid he1
      clear he he1
      have hcall := addVV_call
      go_wp2_with fail
      clear hcall
      refine (addVV_any g 0 cap gx 0 cx gy 0 cy n cur 80 (xs.take n) ys _ (HE9.out.block HG.out) (by omega) (by omega) ⟨by omega, by omega⟩ ⟨by omega, by omega⟩ ⟨by omega, by omega⟩ (by rw [List.length_take, HM.out]; omega) HN.out (fun q hq => HXB.out q (List.mem_of_mem_take hq)) HYB.out (fun i hi => by rw [getD_take _ _ _ hi]; exact HE9.out.cell (HXC.out i (by omega))) (fun i hi => HE9.out.cell (HYC.out i hi)) (fun _ => rfl) (fun _ => rfl)).mono ?_
      intro e w8 hR
      obtain ⟨ws, c, rfl, q⟩ := hR
      have HR := Lib.hid (addVVR.of (xs := xs.take n) HE9.out ⟨ws, c, rfl, q⟩)
      have HU8 := Lib.hid q.2.2.2.2.1
      clear q
      go_wp2_with fail
      exact ⟨rfl, HU8.out, HR.out⟩
  case last =>
    intro w2 he u0 h0 u1 h1 u2 h2 u3 h3 u4 h4 u5 h5 u6 h6 u7 h7 u8 h8 u9 h9
    obtain ⟨ws1, c1, e9, q1, q2, q3, q4, q5, q6⟩ := h9
    obtain rfl : u9 = .int .u64 (c1 : Nat) := Ending.returned.inj e9
    clear h0 h1 h2 h3 h4 h5 h6 h7 h8 e9 he
    simp only [LastD, Act.put, List.setIfInBounds_toArray, List.set_cons_succ, List.set_cons_zero]
    have HW1 := Lib.hid q1
    have HB1 := Lib.hid q2
    have hc1 := q3
    have HV1 := Lib.hid q4
    have HU1 := Lib.hid q5
    have HROW := Lib.hid q6
    clear q1 q2 q3 q4 q5 q6
    by_cases hmn : n < m
    · have hx2 : ∀ i, i < m - n → w2.cell? ⟨gx, n + i, none⟩ = some (.int .u64 (xs.getD (n + i) 0 : Nat)) := by
        intro i hi
        have h0 := HXC.out (n + i) (by omega)
        rw [Nat.zero_add] at h0
        by_cases hb : gx = g
        · subst hb
          rw [blk_cell HG.out] at h0
          rw [blk_cell HROW.out, put_past _ _ _ _ (by omega) (by rw [words_len, HW1.out]; omega)]
          exact h0
        · exact HU1.out.cell h0 hb
      have HXC2 := Lib.hid hx2
      obtain ⟨dx, hdx⟩ : ∃ dx, w2.heap[gx]? = some (.cells dx 80 (0, 0)) := by
        by_cases hb : gx = g
        · subst hb; exact ⟨_, HROW.out⟩
        · exact ⟨_, HU1.out.heap HGX1.out hb⟩
      have HGX2 := Lib.hid hdx
      clear hx2 hdx
      go_wp2_with fail
      have hcb : ¬ (cap = n) := by omega
      have hcxb : ¬ (cx = n) := by omega
      have hmc : m ≤ cap := by omega
      have hnm : n ≤ m := by omega
      go_still_tail 8, (by kernel_rfl)
      generalize hw9 : ({ heap := w2.heap, tape := w2.tape, drawn := w2.drawn + 1, os := w2.os, output := w2.output } : World) = w9
      have he1 : Ext w2 w9 := by rw [← hw9]; exact Ext.drew w2
      have HE9 := Lib.hid he1
      clear he1 hw9 hcb hcxb hmc hnm
      go_wp2_with fail
      refine (vwAdd_any g n (cap - n) gx n (cx - n) c1 (m - n) (put cur 0 (words .u64 ws1)) 80 (xs.drop n) _ (HE9.out.block HROW.out) (by rw [put_size _ _ _ (by rw [words_len, HW1.out]; omega)]; omega) (by omega) (by omega) (by omega) (by omega) (by omega) (by omega) hc1 (by rw [List.length_drop, HM.out]) (fun q hq => HXB.out q (List.mem_of_mem_drop hq)) (fun i hi => by rw [getD_drop]; exact HE9.out.cell (HXC2.out i hi)) (fun _ => rfl) ⟨_, _, HE9.out.block HGX2.out⟩).mono ?_
      intro e wz hR
      obtain ⟨ws2, c, rfl, q⟩ := hR
      obtain ⟨ws2, c, e9, q1, q2, q3, q4, q5, q6⟩ := vwAddR.of (xs := xs.drop n) HE9.out ⟨ws2, c, rfl, q⟩
      obtain rfl := Value.int.inj (Ending.returned.inj e9) |>.2 |> Int.ofNat.inj
      clear e9 q

      obtain ⟨ws, ews, HL1, HV2, HR2⟩ := natAdd_two (w1 := w1) (w2 := w2) (w3 := wz) HM.out HN.out (by omega) (by omega) HW1.out q1 HV1.out q4 q6
      have HB : Hid (∀ q ∈ ws, q < 18446744073709551616) := Lib.hid (by rw [ews]; exact mem_app HB1.out q2)
      have HWL := Lib.hid HL1
      have HVZ := Lib.hid HV2
      have HROWZ := Lib.hid HR2
      have HUZ := Lib.hid (HU1.out.same q5)
      clear ews HL1 HV2 HR2 q1 q2 q4 q5 q6
      have hb2 : ∀ q ∈ ws ++ [c], q < 18446744073709551616 := mem_snoc HB.out (by omega)
      have hrow2 : (wz.setCell ⟨g, m, none⟩ (.int .u64 (c : Nat))).heap[g]? = some (.cells (put cur 0 (words .u64 (ws ++ [c]))) 80 (0, 0)) := by
        have e : 0 + (words .u64 ws).length = m := by rw [words_len, HWL.out]; omega
        rw [blk_setc HROWZ.out, words_app, show words IntKind.u64 [c] = [.int .u64 (c : Nat)] from rfl, ← put_set _ _ _ _ (by omega), e]
      have hcell : wz.cell? ⟨g, m, none⟩ = some (cur[m]'(by omega)) := by
        rw [blk_cell HROWZ.out, put_past _ _ _ _ (by omega) (by rw [words_len, HWL.out]; omega)]; exact Array.getElem?_eq_getElem (by omega)
      generalize cur[m]'(by omega) = zm at hcell
      have hfr := blk_free HROWZ.out m
      have hown := own_put hrow2 (cap := cap) (by omega) (by have := HWL.out; simp; omega) (by omega) hb2
      have hfin := nat_done (v0 := v0) (w := w) HMK.out (HUZ.out.same ((Upd.refl (· = g) wz).setCell (p := ⟨g, m, none⟩) (by rfl) (.int .u64 (c : Nat)))) 
      have HOWN := Lib.hid hown
      have HFIN := Lib.hid hfin
      have HVAL : Hid (val (norm (ws ++ [c])) = val xs + val ys ∧ (norm (ws ++ [c])).length ≤ m + 1) := Lib.hid ⟨by rw [val_norm, val_snoc, HWL.out]; exact HVZ.out, by have := norm_length_le (ws ++ [c]); have := HWL.out; have := HM.out; simp at *; omega⟩
      have hlen : (ws ++ [c]).length = m + 1 := by simp [HWL.out]
      rw [hlen] at hown
      clear hown hrow2 hb2 hfin hlen
      have HOWN2 : Hid (Own .u64 (wz.setCell ⟨g, m, none⟩ (.int .u64 (c : Nat))) 0 80 (.slice (some ⟨g, 0, none⟩) (m + 1) cap) (ws ++ [c])) := Lib.hid (by have := HOWN.out; rwa [show (ws ++ [c]).length = m + 1 by simp [HWL.out]] at this)
      clear HOWN
      go_wp2_with fail
      refine (norm_own 0 80 _ (ws ++ [c]) _ HOWN2.out).mono ?_
      rintro e wn ⟨⟨v', rfl, ho, hob⟩, rfl⟩
      obtain ⟨a', c', rfl⟩ := ho.form
      have HO := Lib.hid ho
      have HOB := Lib.hid hob
      clear ho hob hcell hfr
      go_wp2_with fail
      go_ret
      exact ⟨norm (ws ++ [c]), norm_norm _, HVAL.out.1, HVAL.out.2, _, rfl, HO.out, HFIN.out.1, HFIN.out.2 _ HOB.out⟩
    · obtain rfl : m = n := by omega
      have HB := HB1
      have HWL := HW1
      have HROWZ := HROW
      have HUZ := HU1
      have HVZ : Hid (val ws1 + 18446744073709551616 ^ m * c1 = val xs + val ys) := Lib.hid (by have h := HV1.out; rw [List.take_of_length_le (by rw [HM.out]; omega)] at h; exact h)
      clear HB1 HW1 HROW HU1 HV1
      obtain ⟨ws, hws⟩ : ∃ ws, ws = ws1 := ⟨_, rfl⟩
      subst hws
      obtain ⟨c, hcc⟩ : ∃ c, c = c1 := ⟨_, rfl⟩
      subst hcc
      obtain ⟨wz, hwz⟩ : ∃ wz, wz = w2 := ⟨_, rfl⟩
      subst hwz
      have hb2 : ∀ q ∈ ws ++ [c], q < 18446744073709551616 := mem_snoc HB.out (by omega)
      have hrow2 : (wz.setCell ⟨g, m, none⟩ (.int .u64 (c : Nat))).heap[g]? = some (.cells (put cur 0 (words .u64 (ws ++ [c]))) 80 (0, 0)) := by
        have e : 0 + (words .u64 ws).length = m := by rw [words_len, HWL.out]; omega
        rw [blk_setc HROWZ.out, words_app, show words IntKind.u64 [c] = [.int .u64 (c : Nat)] from rfl, ← put_set _ _ _ _ (by omega), e]
      have hcell : wz.cell? ⟨g, m, none⟩ = some (cur[m]'(by omega)) := by
        rw [blk_cell HROWZ.out, put_past _ _ _ _ (by omega) (by rw [words_len, HWL.out]; omega)]; exact Array.getElem?_eq_getElem (by omega)
      generalize cur[m]'(by omega) = zm at hcell
      have hfr := blk_free HROWZ.out m
      have hown := own_put hrow2 (cap := cap) (by omega) (by have := HWL.out; simp; omega) (by omega) hb2
      have hfin := nat_done (v0 := v0) (w := w) HMK.out (HUZ.out.same ((Upd.refl (· = g) wz).setCell (p := ⟨g, m, none⟩) (by rfl) (.int .u64 (c : Nat)))) 
      have HOWN := Lib.hid hown
      have HFIN := Lib.hid hfin
      have HVAL : Hid (val (norm (ws ++ [c])) = val xs + val ys ∧ (norm (ws ++ [c])).length ≤ m + 1) := Lib.hid ⟨by rw [val_norm, val_snoc, HWL.out]; exact HVZ.out, by have := norm_length_le (ws ++ [c]); have := HWL.out; have := HM.out; simp at *; omega⟩
      have hlen : (ws ++ [c]).length = m + 1 := by simp [HWL.out]
      rw [hlen] at hown
      clear hown hrow2 hb2 hfin hlen
      have HOWN2 : Hid (Own .u64 (wz.setCell ⟨g, m, none⟩ (.int .u64 (c : Nat))) 0 80 (.slice (some ⟨g, 0, none⟩) (m + 1) cap) (ws ++ [c])) := Lib.hid (by have := HOWN.out; rwa [show (ws ++ [c]).length = m + 1 by simp [HWL.out]] at this)
      clear HOWN
      go_wp2_with fail
      refine (norm_own 0 80 _ (ws ++ [c]) _ HOWN2.out).mono ?_
      rintro e wn ⟨⟨v', rfl, ho, hob⟩, rfl⟩
      obtain ⟨a', c', rfl⟩ := ho.form
      have HO := Lib.hid ho
      have HOB := Lib.hid hob
      clear ho hob hcell hfr
      go_wp2_with fail
      go_ret
      exact ⟨norm (ws ++ [c]), norm_norm _, HVAL.out.1, HVAL.out.2, _, rfl, HO.out, HFIN.out.1, HFIN.out.2 _ HOB.out⟩

/-- What the row holds behind the sums of the words. -/
theorem natSub_two {w1 w2 w3 : World} {g m n c1 c : Nat} {cur : Array Value} {T : TypeId} {xs ys ws1 ws2 : List Nat} (hm : xs.length = m) (hn : ys.length = n) (hnm : n ≤ m) (hfit : m ≤ cur.size) (h1 : ws1.length = n) (h2 : ws2.length = m - n) (hv1 : val ws1 + val ys = val (xs.take n) + 18446744073709551616 ^ n * c1) (hv2 : val ws2 + c1 = val (xs.drop n) + 18446744073709551616 ^ (m - n) * c) (hr : w3.heap[g]? = some (.cells (put (put cur 0 (words .u64 ws1)) n (words .u64 ws2)) T (0, 0))) :
    ∃ ws, ws = ws1 ++ ws2 ∧ ws.length = m ∧ (val ws + val ys = val xs + 18446744073709551616 ^ m * c) ∧ w3.heap[g]? = some (.cells (put cur 0 (words .u64 ws)) T (0, 0)) := by
  refine ⟨_, rfl, by simp; omega, ?_, ?_⟩
  · have e := val_split xs n
    have e2 : m = n + (m - n) := by omega
    rw [val_append, h1]
    rw [e2, Nat.pow_add]
    generalize hP : 18446744073709551616 ^ n = P at *
    generalize hR : 18446744073709551616 ^ (m - n) = R at *
    have e3 : P * val ws2 + P * c1 = P * val (xs.drop n) + P * R * c := by rw [← Nat.mul_add, hv2, Nat.mul_add, Nat.mul_assoc]
    omega
  · have e : (words .u64 ws1).length = n := by rw [words_len, h1]
    rw [hr, words_app, ← put_put _ _ _ _ (by rw [words_len, words_len]; omega), e, Nat.zero_add]

set_option maxHeartbeats 1000000 in
theorem natSub_m0 (v0 x y : Value) (vs xs ys : List Nat) (w : World) (hv : Own .u64 w 0 80 v0 vs) (hx : Own .u64 w 0 80 x xs) (hy : Own .u64 w 0 80 y ys) (hnx : norm xs = xs) (hny : norm ys = ys) (hl : xs.length ≤ 17592186044416) (hle : ys.length ≤ xs.length) (hge : val ys ≤ val xs) (h0 : xs.length = 0) :
    Calls Try.prog 66 #[v0, x, y] w (NatVR v0 (val xs - val ys) xs.length w) := by
  have hlx := nil_of_len h0
  have hly := nil_of_len (xs := ys) (by omega)
  rw [hlx, hly]
  obtain ⟨a, c, rfl⟩ := hv.form
  obtain ⟨ax, cx, rfl⟩ := hx.form
  obtain ⟨ay, cy, rfl⟩ := hy.form
  obtain ⟨_, k1, k2⟩ := hv.cap
  have hfin : NatVR (.slice a vs.length c) 0 xs.length w (.returned (.slice a 0 c)) w := ⟨[], rfl, rfl, by simp, _, rfl, hv.cut, Upd.refl _ _, .inl (by cases a <;> rfl)⟩
  have hly0 : ys.length = 0 := by omega
  rw [h0] at hfin
  have HF := Lib.hid hfin
  rw [h0, hly0]
  clear hv hx hy hnx hny hfin hlx hly
  go_enter Try.func66, Try.ntmps66
  go_wp2_with fail
  go_ret
  exact HF.out

set_option maxHeartbeats 1000000 in
theorem natSub_n0 (v0 x y : Value) (vs xs ys : List Nat) (w : World) (hv : Own .u64 w 0 80 v0 vs) (hx : Own .u64 w 0 80 x xs) (hy : Own .u64 w 0 80 y ys) (hnx : norm xs = xs) (hny : norm ys = ys) (hl : xs.length ≤ 17592186044416) (hle : ys.length ≤ xs.length) (hge : val ys ≤ val xs) (h0 : ys.length = 0) (hpos : 0 < xs.length) :
    Calls Try.prog 66 #[v0, x, y] w (NatVR v0 (val xs - val ys) xs.length w) := by
  have hly := nil_of_len h0
  rw [hly]
  obtain ⟨a, c, rfl⟩ := hv.form
  obtain ⟨ax, cx, rfl⟩ := hx.form
  obtain ⟨ay, cy, rfl⟩ := hy.form
  rw [h0]
  have HV := Lib.hid hv
  have HX := Lib.hid hx
  have HN := Lib.hid hnx
  have hb0 : ((xs.length : Int) == 0) = false := beq_eq_false_iff_ne.2 (by omega)
  clear hv hx hy hnx hny hly h0
  go_enter Try.func66, Try.ntmps66
  go_wp2_with fail
  refine (natSet_any _ vs _ xs _ HV.out HX.out.read (by omega)).mono ?_
  intro e w1 hR
  obtain ⟨v', rfl, q⟩ := hR
  have HQ := Lib.hid q
  clear q
  go_wp2_with fail
  go_ret
  exact ⟨xs, HN.out, by omega, by omega, _, rfl, HQ.out⟩

set_option maxRecDepth 100000 in
set_option maxHeartbeats 2000000 in
theorem natSub_main (v0 x y : Value) (vs xs ys : List Nat) (w : World) (hv : Own .u64 w 0 80 v0 vs) (hx : Own .u64 w 0 80 x xs) (hy : Own .u64 w 0 80 y ys) (hnx : norm xs = xs) (hny : norm ys = ys) (hl : xs.length ≤ 17592186044416) (hle : ys.length ≤ xs.length) (hge : val ys ≤ val xs) (hpos : 0 < ys.length) :
    Calls Try.prog 66 #[v0, x, y] w (NatVR v0 (val xs - val ys) xs.length w) := by
  obtain ⟨a, c0, rfl⟩ := hv.form
  obtain ⟨gx, cx, curx, rfl, hcx1, hcx2, hgx, hsx, hxc⟩ := own_open hx (by omega)
  obtain ⟨gy, cy, cury, rfl, hcy1, hcy2, hgy, hsy, hyc⟩ := own_open hy hpos
  have hxb : ∀ q ∈ xs, q < 18446744073709551616 := hx.1
  have hyb : ∀ q ∈ ys, q < 18446744073709551616 := hy.1
  generalize hm : xs.length = m at *
  generalize hn : ys.length = n at *
  generalize hv0 : Value.slice a vs.length c0 = v0 at *
  have HV0 := Lib.hid hv0
  have HM := Lib.hid hm
  have HN := Lib.hid hn
  have HV := Lib.hid hv
  have HXB := Lib.hid hxb
  have HYB := Lib.hid hyb
  have HXC0 := Lib.hid hxc
  have HYC0 := Lib.hid hyc
  have HGX := Lib.hid hgx
  clear hv hx hy hnx hny hxb hyb hxc hyc hgx hgy hm hn hv0
  have hbm : ((m : Int) == 0) = false := by simp; omega
  have hbn : ((n : Int) == 0) = false := by simp; omega
  go_enter Try.func66, Try.ntmps66
  go_wp2_with fail
  refine (make_any v0 _ (m) _ _ HV.out.2 (by omega)).mono ?_
  rintro e w1 ⟨z, zs, rfl, hown, hor⟩
  obtain ⟨g, cap, cur, rfl, hcap1, hcap2, hg, hsz⟩ := row_open hown (by omega)
  have hext : Ext w w1 := by rcases hor with ⟨rfl, _⟩ | ⟨_, h⟩; exact Ext.refl _; exact h
  have hxc1 : ∀ i, i < m → w1.cell? ⟨gx, 0 + i, none⟩ = some (.int .u64 (xs.getD i 0 : Nat)) := fun i hi => hext.cell (HXC0.out i hi)
  have hyc1 : ∀ i, i < n → w1.cell? ⟨gy, 0 + i, none⟩ = some (.int .u64 (ys.getD i 0 : Nat)) := fun i hi => hext.cell (HYC0.out i hi)
  have HXC := Lib.hid hxc1
  have HYC := Lib.hid hyc1
  have HMK := Lib.hid (MakeR.upd hor)
  have HG := Lib.hid hg
  have HGX1 := Lib.hid (hext.block HGX.out)
  clear hown hor hext hxc1 hyc1 hg HXC0 HYC0
  go_wp2_with fail
  refine wp_region_H preExt (preUpd (· = g)) (fun _ _ h => h.upd) 9 mixed [Is (.slice (some ⟨g, 0, none⟩) (m) cap), Is (.int .i64 (n : Nat)), Is (.slice (some ⟨g, 0, none⟩) n cap), Is (.slice (some ⟨gx, 0, none⟩) m cx), Is (.int .i64 (n : Nat)), Is (.slice (some ⟨gx, 0, none⟩) n cx), Is (.slice (some ⟨gy, 0, none⟩) n cy), Is (.int .i64 (n : Nat)), Is (.slice (some ⟨gy, 0, none⟩) n cy), fun v wz => subVVR w1 g 0 cur 80 (xs.take n) ys n (.returned v) wz] (by kernel_rfl) ?mono ?monoU rfl ?steps ?last
  case mono =>
    simp only [List.forall_mem_cons, List.not_mem_nil, false_implies, implies_true, and_true]
    refine ⟨?_, ?_, ?_, ?_, ?_, ?_, ?_, ?_, ?_, ?_⟩
    all_goals first | exact fun _ _ _ _ q => q | exact fun _ _ _ he q => q.ext he
  case monoU =>
    intro j hj
    match j, hj with
    | 0, _ => exact fun _ _ _ _ q => q
    | 1, _ => exact fun _ _ _ _ q => q
    | 2, _ => exact fun _ _ _ _ q => q
    | 3, _ => exact fun _ _ _ _ q => q
    | 4, _ => exact fun _ _ _ _ q => q
    | 5, _ => exact fun _ _ _ _ q => q
    | 6, _ => exact fun _ _ _ _ q => q
    | 7, _ => exact fun _ _ _ _ q => q
    | 8, _ => exact fun _ _ _ _ q => q
    | 9, h => exact absurd rfl h
    | j + 10, _ => exact fun _ _ _ _ q => trivial
  case steps =>
    refine ⟨?_, ?_, ?_, ?_, ?_, ?_, ?_, ?_, ?_, ?_, trivial⟩
    all_goals
      intro u0 u1 u2 u3 u4 u5 u6 u7 u8 u9 u10 w9 he hk
      simp [KnownD, Oper.looksAt, Op.operands, Call.operands, List.findIdx?_cons, Act.put] at hk
      simp only [Act.put, List.setIfInBounds_toArray, List.set_cons_succ, List.set_cons_zero]
    · go_wp2_with fail
      exact ⟨rfl, Ext.refl _, by show (_ : Value) = _; first | rfl | simp⟩
    · go_wp2_with fail
      exact ⟨rfl, Ext.refl _, by show (_ : Value) = _; first | rfl | simp⟩
    · obtain ⟨k0, k1⟩ := hk
      obtain rfl : u0 = .slice (some ⟨g, 0, none⟩) (m) cap := k0
      obtain rfl : u1 = .int .i64 (n : Nat) := k1
      go_wp2_with fail
      exact ⟨rfl, Ext.refl _, by show (_ : Value) = _; first | rfl | simp⟩
    · go_wp2_with fail
      exact ⟨rfl, Ext.refl _, by show (_ : Value) = _; first | rfl | simp⟩
    · go_wp2_with fail
      exact ⟨rfl, Ext.refl _, by show (_ : Value) = _; first | rfl | simp⟩
    · obtain ⟨k0, k1⟩ := hk
      obtain rfl : u3 = .slice (some ⟨gx, 0, none⟩) m cx := k0
      obtain rfl : u4 = .int .i64 (n : Nat) := k1
      go_wp2_with fail
      exact ⟨rfl, Ext.refl _, by show (_ : Value) = _; first | rfl | simp⟩
    · go_wp2_with fail
      exact ⟨rfl, Ext.refl _, by show (_ : Value) = _; first | rfl | simp⟩
    · go_wp2_with fail
      exact ⟨rfl, Ext.refl _, by show (_ : Value) = _; first | rfl | simp⟩
    · obtain ⟨k0, k1⟩ := hk
      obtain rfl : u6 = .slice (some ⟨gy, 0, none⟩) n cy := k0
      obtain rfl : u7 = .int .i64 (n : Nat) := k1
      go_wp2_with fail
      exact ⟨rfl, Ext.refl _, by show (_ : Value) = _; first | rfl | simp⟩
    · obtain ⟨k0, k1, k2⟩ := hk
      obtain rfl : u2 = .slice (some ⟨g, 0, none⟩) n cap := k0
      obtain rfl : u5 = .slice (some ⟨gx, 0, none⟩) n cx := k1
      obtain rfl : u8 = .slice (some ⟨gy, 0, none⟩) n cy := k2
      have he1 : Ext w1 w9 := he
      have HE9 := Lib.hid he1
      clear he he1
      have hcall := subVV_call
      go_wp2_with fail
      clear hcall
      refine (subVV_any g 0 cap gx 0 cx gy 0 cy n cur 80 (xs.take n) ys _ (HE9.out.block HG.out) (by omega) (by omega) ⟨by omega, by omega⟩ ⟨by omega, by omega⟩ ⟨by omega, by omega⟩ (by rw [List.length_take, HM.out]; omega) HN.out (fun q hq => HXB.out q (List.mem_of_mem_take hq)) HYB.out (fun i hi => by rw [getD_take _ _ _ hi]; exact HE9.out.cell (HXC.out i (by omega))) (fun i hi => HE9.out.cell (HYC.out i hi)) (fun _ => rfl) (fun _ => rfl)).mono ?_
      intro e w8 hR
      obtain ⟨ws, c, rfl, q⟩ := hR
      have HR := Lib.hid (subVVR.of (xs := xs.take n) HE9.out ⟨ws, c, rfl, q⟩)
      have HU8 := Lib.hid q.2.2.2.2.1
      clear q
      go_wp2_with fail
      exact ⟨rfl, HU8.out, HR.out⟩
  case last =>
    intro w2 he u0 h0 u1 h1 u2 h2 u3 h3 u4 h4 u5 h5 u6 h6 u7 h7 u8 h8 u9 h9
    obtain ⟨ws1, c1, e9, q1, q2, q3, q4, q5, q6⟩ := h9
    obtain rfl : u9 = .int .u64 (c1 : Nat) := Ending.returned.inj e9
    clear h0 h1 h2 h3 h4 h5 h6 h7 h8 e9 he
    simp only [LastD, Act.put, List.setIfInBounds_toArray, List.set_cons_succ, List.set_cons_zero]
    have HW1 := Lib.hid q1
    have HB1 := Lib.hid q2
    have hc1 := q3
    have HV1 := Lib.hid q4
    have HU1 := Lib.hid q5
    have HROW := Lib.hid q6
    clear q1 q2 q3 q4 q5 q6
    by_cases hmn : n < m
    · have hx2 : ∀ i, i < m - n → w2.cell? ⟨gx, n + i, none⟩ = some (.int .u64 (xs.getD (n + i) 0 : Nat)) := by
        intro i hi
        have h0 := HXC.out (n + i) (by omega)
        rw [Nat.zero_add] at h0
        by_cases hb : gx = g
        · subst hb
          rw [blk_cell HG.out] at h0
          rw [blk_cell HROW.out, put_past _ _ _ _ (by omega) (by rw [words_len, HW1.out]; omega)]
          exact h0
        · exact HU1.out.cell h0 hb
      have HXC2 := Lib.hid hx2
      obtain ⟨dx, hdx⟩ : ∃ dx, w2.heap[gx]? = some (.cells dx 80 (0, 0)) := by
        by_cases hb : gx = g
        · subst hb; exact ⟨_, HROW.out⟩
        · exact ⟨_, HU1.out.heap HGX1.out hb⟩
      have HGX2 := Lib.hid hdx
      clear hx2 hdx
      go_wp2_with fail
      have hcb : ¬ (cap = n) := by omega
      have hcxb : ¬ (cx = n) := by omega
      have hmc : m ≤ cap := by omega
      have hnm : n ≤ m := by omega
      go_still_tail 7, (by kernel_rfl)
      generalize hw9 : ({ heap := w2.heap, tape := w2.tape, drawn := w2.drawn + 1, os := w2.os, output := w2.output } : World) = w9
      have he1 : Ext w2 w9 := by rw [← hw9]; exact Ext.drew w2
      have HE9 := Lib.hid he1
      clear he1 hw9 hcb hcxb hmc hnm
      go_wp2_with fail
      refine (vwSub_any g n (cap - n) gx n (cx - n) c1 (m - n) (put cur 0 (words .u64 ws1)) 80 (xs.drop n) _ (HE9.out.block HROW.out) (by rw [put_size _ _ _ (by rw [words_len, HW1.out]; omega)]; omega) (by omega) (by omega) (by omega) (by omega) (by omega) (by omega) hc1 (by rw [List.length_drop, HM.out]) (fun q hq => HXB.out q (List.mem_of_mem_drop hq)) (fun i hi => by rw [getD_drop]; exact HE9.out.cell (HXC2.out i hi)) (fun _ => rfl) ⟨_, _, HE9.out.block HGX2.out⟩).mono ?_
      intro e wz hR
      obtain ⟨ws2, c, rfl, q⟩ := hR
      obtain ⟨ws2, c, e9, q1, q2, q3, q4, q5, q6⟩ := vwSubR.of (xs := xs.drop n) HE9.out ⟨ws2, c, rfl, q⟩
      obtain rfl := Value.int.inj (Ending.returned.inj e9) |>.2 |> Int.ofNat.inj
      clear e9 q

      obtain ⟨ws, ews, HL1, HV2, HR2⟩ := natSub_two (w1 := w1) (w2 := w2) (w3 := wz) HM.out HN.out (by omega) (by omega) HW1.out q1 HV1.out q4 q6
      have HB : Hid (∀ q ∈ ws, q < 18446744073709551616) := Lib.hid (by rw [ews]; exact mem_app HB1.out q2)
      have HWL := Lib.hid HL1
      have HVZ := Lib.hid HV2
      have HROWZ := Lib.hid HR2
      have HUZ := Lib.hid (HU1.out.same q5)
      clear ews HL1 HV2 HR2 q1 q2 q4 q5 q6
      have hc0 : c = 0 := sub_zero HVZ.out hge HB.out HWL.out
      subst hc0
      have hown := own_put HROWZ.out (cap := cap) (by omega) (by have := HWL.out; omega) (by omega) HB.out
      have hfin := nat_done (v0 := v0) (w := w) HMK.out HUZ.out
      have HFIN := Lib.hid hfin
      have HVAL : Hid (val (norm ws) = val xs - val ys ∧ (norm ws).length ≤ m) := Lib.hid ⟨by rw [val_norm]; have := HVZ.out; simp at this; omega, by have := norm_length_le ws; have := HWL.out; have := HM.out; omega⟩
      have HOWN2 : Hid (Own .u64 wz 0 80 (.slice (some ⟨g, 0, none⟩) m cap) ws) := Lib.hid (by rwa [HWL.out] at hown)
      clear hown hfin
      go_wp2_with fail
      refine (norm_own 0 80 _ ws _ HOWN2.out).mono ?_
      rintro e wn ⟨⟨v', rfl, ho, hob⟩, rfl⟩
      obtain ⟨a', c', rfl⟩ := ho.form
      have HO := Lib.hid ho
      have HOB := Lib.hid hob
      clear ho hob
      go_wp2_with fail
      go_ret
      exact ⟨norm ws, norm_norm _, HVAL.out.1, HVAL.out.2, _, rfl, HO.out, HFIN.out.1, HFIN.out.2 _ HOB.out⟩
    · obtain rfl : m = n := by omega
      have HB := HB1
      have HWL := HW1
      have HROWZ := HROW
      have HUZ := HU1
      have HVZ : Hid (val ws1 + val ys = val xs + 18446744073709551616 ^ m * c1) := Lib.hid (by have h := HV1.out; rw [List.take_of_length_le (by rw [HM.out]; omega)] at h; exact h)
      clear HB1 HW1 HROW HU1 HV1
      obtain ⟨ws, hws⟩ : ∃ ws, ws = ws1 := ⟨_, rfl⟩
      subst hws
      obtain ⟨c, hcc⟩ : ∃ c, c = c1 := ⟨_, rfl⟩
      subst hcc
      obtain ⟨wz, hwz⟩ : ∃ wz, wz = w2 := ⟨_, rfl⟩
      subst hwz
      have hc0 : c = 0 := sub_zero HVZ.out hge HB.out HWL.out
      subst hc0
      have hown := own_put HROWZ.out (cap := cap) (by omega) (by have := HWL.out; omega) (by omega) HB.out
      have hfin := nat_done (v0 := v0) (w := w) HMK.out HUZ.out
      have HFIN := Lib.hid hfin
      have HVAL : Hid (val (norm ws) = val xs - val ys ∧ (norm ws).length ≤ m) := Lib.hid ⟨by rw [val_norm]; have := HVZ.out; simp at this; omega, by have := norm_length_le ws; have := HWL.out; have := HM.out; omega⟩
      have HOWN2 : Hid (Own .u64 wz 0 80 (.slice (some ⟨g, 0, none⟩) m cap) ws) := Lib.hid (by rwa [HWL.out] at hown)
      clear hown hfin
      go_wp2_with fail
      refine (norm_own 0 80 _ ws _ HOWN2.out).mono ?_
      rintro e wn ⟨⟨v', rfl, ho, hob⟩, rfl⟩
      obtain ⟨a', c', rfl⟩ := ho.form
      have HO := Lib.hid ho
      have HOB := Lib.hid hob
      clear ho hob
      go_wp2_with fail
      go_ret
      exact ⟨norm ws, norm_norm _, HVAL.out.1, HVAL.out.2, _, rfl, HO.out, HFIN.out.1, HFIN.out.2 _ HOB.out⟩

theorem natAdd_ge (v0 x y : Value) (vs xs ys : List Nat) (w : World) (hv : Own .u64 w 0 80 v0 vs) (hx : Own .u64 w 0 80 x xs) (hy : Own .u64 w 0 80 y ys) (hnx : norm xs = xs) (hny : norm ys = ys) (hl : xs.length ≤ 17592186044416) (hle : ys.length ≤ xs.length) :
    Calls Try.prog 64 #[v0, x, y] w (NatVR v0 (val xs + val ys) (xs.length + 1) w) := by
  by_cases h0 : xs.length = 0
  · exact natAdd_m0 v0 x y vs xs ys w hv hx hy hnx hny hl hle h0
  · by_cases h1 : ys.length = 0
    · exact natAdd_n0 v0 x y vs xs ys w hv hx hy hnx hny hl hle h1 (by omega)
    · exact natAdd_main v0 x y vs xs ys w hv hx hy hnx hny hl hle (by omega)

set_option maxHeartbeats 1000000 in
theorem natAdd_any (v0 x y : Value) (vs xs ys : List Nat) (w : World) (hv : Own .u64 w 0 80 v0 vs) (hx : Own .u64 w 0 80 x xs) (hy : Own .u64 w 0 80 y ys) (hnx : norm xs = xs) (hny : norm ys = ys) (L : Nat) (hL : L ≤ 17592186044416) (hlx : xs.length ≤ L) (hly : ys.length ≤ L) :
    Calls Try.prog 64 #[v0, x, y] w (NatVR v0 (val xs + val ys) (L + 1) w) := by
  by_cases hle : ys.length ≤ xs.length
  · refine (natAdd_ge v0 x y vs xs ys w hv hx hy hnx hny (by omega) hle).mono ?_
    rintro e w' ⟨ws, h1, h2, h3, h4⟩
    exact ⟨ws, h1, h2, by omega, h4⟩
  · obtain ⟨ax, cx, rfl⟩ := hx.form
    obtain ⟨ay, cy, rfl⟩ := hy.form
    obtain ⟨a, c, rfl⟩ := hv.form
    have HV := Lib.hid hv
    have HX := Lib.hid hx
    have HY := Lib.hid hy
    have HNX := Lib.hid hnx
    have HNY := Lib.hid hny
    have hlt : xs.length < ys.length := by omega
    clear hv hx hy hnx hny hle
    go_enter Try.func64, Try.ntmps64
    go_wp2_with fail
    refine (natAdd_ge _ _ _ vs ys xs _ HV.out HY.out HX.out HNY.out HNX.out (by omega) (by omega)).mono ?_
    rintro e w' ⟨ws, h1, h2, h3, v', rfl, h4⟩
    have H1 := Lib.hid h1
    have H2 := Lib.hid h2
    have H4 := Lib.hid h4
    clear h1 h2 h4
    go_wp2_with fail
    go_ret
    exact ⟨ws, H1.out, by rw [H2.out]; omega, by omega, _, rfl, H4.out⟩

theorem natSub_any (v0 x y : Value) (vs xs ys : List Nat) (w : World) (hv : Own .u64 w 0 80 v0 vs) (hx : Own .u64 w 0 80 x xs) (hy : Own .u64 w 0 80 y ys) (hnx : norm xs = xs) (hny : norm ys = ys) (L : Nat) (hL : L ≤ 17592186044416) (hlx : xs.length ≤ L) (hge : val ys ≤ val xs) :
    Calls Try.prog 66 #[v0, x, y] w (NatVR v0 (val xs - val ys) L w) := by
  have hle : ys.length ≤ xs.length := len_mono hnx hny hx.1 hge
  have key : Calls Try.prog 66 #[v0, x, y] w (NatVR v0 (val xs - val ys) xs.length w) := by
    by_cases h0 : xs.length = 0
    · exact natSub_m0 v0 x y vs xs ys w hv hx hy hnx hny (by omega) hle hge h0
    · by_cases h1 : ys.length = 0
      · exact natSub_n0 v0 x y vs xs ys w hv hx hy hnx hny (by omega) hle hge h1 (by omega)
      · exact natSub_main v0 x y vs xs ys w hv hx hy hnx hny (by omega) hle hge (by omega)
  refine key.mono ?_
  rintro e w' ⟨ws, h1, h2, h3, h4⟩
  exact ⟨ws, h1, h2, by omega, h4⟩

end Go.Proofs.Ytacmojhladdalaa
