/- nat.lsh: contract. -/
import Derived.Test.YtdfknmplpjmemaaLshVU
import Derived.Test.YtdfknmplpjmemaaSet
import Derived.Test.YtdfknmplpjmemaaIntSet
import Derived.Laws.CopyRow
import Derived.Test.YtdfknmplpjmemaaNatCom
import Derived.IntWalk
set_option linter.unusedSimpArgs false
set_option linter.unusedVariables false
namespace Go.Proofs.Ytdfknmplpjmemaa
open Go.RowKit

theorem put_front (c : Array Value) (l z : List Value) (q : Nat) (hz : z.length = q) (h : q + l.length ≤ c.size) : put (put c q l) 0 z = put c 0 (z ++ l) := by
  have hs := put_size c q l h
  apply array_ext
  intro j
  rcases Nat.lt_or_ge j q with h1 | h1
  · have a := put_in (put c q l) 0 z j (by omega) (by omega)
    have b := put_in c 0 (z ++ l) j (by omega) (by simp; omega)
    rw [Nat.zero_add] at a b
    rw [a, b, List.getElem?_append_left (by omega)]
  · obtain ⟨i, rfl⟩ : ∃ i, j = q + i := ⟨j - q, by omega⟩
    rw [put_past _ _ _ _ (by omega) (by omega)]
    rcases Nat.lt_or_ge i l.length with h2 | h2
    · have b := put_in c 0 (z ++ l) (q + i) (by omega) (by simp; omega)
      rw [Nat.zero_add] at b
      rw [put_in _ _ _ _ (by omega) h2, b, List.getElem?_append_right (by omega)]
      congr 1; omega
    · rw [put_past _ _ _ _ (by omega) (by omega), put_past _ _ _ _ (by omega) (by simp; omega)]

theorem zeroCells_word (n : Nat) : (Builtin.zeroCells #[Value.int .u64 0] n).toList = words .u64 (List.replicate n 0) := by
  apply List.ext_getElem?
  intro i
  simp [Builtin.zeroCells, words]
  by_cases h : i < n
  · simp [h, List.getElem?_replicate, Nat.mod_one]
  · simp [h, List.getElem?_replicate]

/-- 'clear(z[:n])' of words. -/
theorem run_clear_words (w : World) (ty : TypeId) (g n cap : Nat) (cur : Array Value) (T : TypeId) (hg : w.heap[g]? = some (.cells cur T (0, 0))) (hn : n ≤ cur.size) :
    ∃ w', (Builtin.clear_ #[78] ty #[.slice (some ⟨g, 0, none⟩) n cap]).run Try.prog w = .ok (.tuple #[]) w' ∧ Upd (· = g) w w' ∧ w'.heap[g]? = some (.cells (put cur 0 (words .u64 (List.replicate n 0))) T (0, 0)) := by
  refine ⟨w.setRow g (put cur 0 (words .u64 (List.replicate n 0))), ?_, updSetRow _ _ _, setRow_heap _ _ _ _ _ _ hg⟩
  have hz : (zeroValue 83).run Try.prog w = .ok (.int .u64 0) w := by kernel_rfl
  rcases Nat.eq_zero_or_pos n with rfl | hpos
  · rw [show words IntKind.u64 (List.replicate 0 0) = [] from rfl, put_nil, setRow_self w g cur T (0, 0) hg]
    simp [Builtin.clear_, run_underlying Try.underlying78]
  · obtain ⟨m, rfl⟩ : ∃ m, n = m + 1 := ⟨n - 1, by omega⟩
    have hst := run_storeCells_at (P := Try.prog) g 0 T (words .u64 (List.replicate (m + 1) 0)) 0 cur w hg (by rw [words_len]; simpa using hn) (words_one _ _)
    rw [Nat.zero_add, List.take_zero, List.nil_append] at hst
    simp [Builtin.clear_, run_underlying Try.underlying78, hz, Value.cells, zeroCells_word, hst, put]

theorem run_copy_words (w : World) (ty : TypeId) (g off dLen dCap : Nat) (ad : Addr) (sLen sCap : Nat) (cur : Array Value) (T : TypeId) (cs : List Value) (hg : w.heap[g]? = some (.cells cur T (0, 0))) (hn : cs.length = Nat.min sLen dLen) (hsrc : ∀ j v, cs[j]? = some v → w.cell? (ad.add j) = some v) (hfit : off + cs.length ≤ cur.size) (h1 : ∀ v ∈ cs, v.oneCell' = true) :
    ∃ w', (Builtin.copy_ #[78, 78] ty #[.slice (some ⟨g, off, none⟩) dLen dCap, .slice (some ad) sLen sCap]).run Try.prog w = .ok (goInt cs.length) w' ∧ Upd (· = g) w w' ∧ w'.heap[g]? = some (.cells (put cur off cs) T (0, 0)) :=
  ⟨_, run_copy_row (P := Try.prog) w 78 78 ty 83 g off dLen dCap ad sLen sCap cur T cs Try.underlying78 sizeWord hg hn hsrc hfit h1, updSetRow _ _ _, by rw [setRow_heap _ _ _ _ _ _ hg]; simp [put]⟩

theorem lsh_cell {w : World} {g q n : Nat} {cur : Array Value} {T : TypeId} {l : List Value} (hrow : w.heap[g]? = some (.cells (put cur q l) T (0, 0))) (hl : q + l.length ≤ n) (hn : n < cur.size) : w.cell? ⟨g, n, none⟩ = some (cur[n]'hn) := by
  rw [blk_cell hrow, put_past _ _ _ _ (by omega) hl]; exact Array.getElem?_eq_getElem hn

theorem lsh_set {w : World} {g q n c : Nat} {cur : Array Value} {T : TypeId} {ws : List Nat} (hrow : w.heap[g]? = some (.cells (put cur q (words .u64 ws)) T (0, 0))) (hl : q + ws.length = n) (hn : q + ws.length < cur.size) : (w.setCell ⟨g, n, none⟩ (.int .u64 (c : Nat))).heap[g]? = some (.cells (put cur q (words .u64 (ws ++ [c]))) T (0, 0)) := by
  rw [blk_setc hrow, words_app, show words IntKind.u64 [c] = [.int .u64 (c : Nat)] from rfl, ← put_set _ _ _ _ (by rw [words_len]; omega), words_len, hl]

theorem val_zeros (q : Nat) (ys : List Nat) : val (List.replicate q 0 ++ ys) = 18446744073709551616 ^ q * val ys := by
  induction q with
  | zero => simp
  | succ q ih =>
    rw [List.replicate_succ, List.cons_append, val, ih, Nat.pow_succ, Nat.mul_comm (18446744073709551616 ^ q) 18446744073709551616, Nat.mul_assoc]; omega

theorem mem_zeros {q : Nat} {ys : List Nat} (h : ∀ x ∈ ys, x < 18446744073709551616) : ∀ x ∈ List.replicate q 0 ++ ys, x < 18446744073709551616 :=
  mem_app (fun x hx => by rw [List.eq_of_mem_replicate hx]; decide) h

theorem lsh_total {s q r : Nat} (hq : s = 64 * q + r) (v : Nat) : 18446744073709551616 ^ q * (v * 2 ^ r) = v * 2 ^ s := by
  rw [pow64, hq, Nat.pow_add, ← Nat.mul_assoc, Nat.mul_comm (2 ^ (64 * q)) v, Nat.mul_assoc]

theorem lshVU_call (args : Array Value) (w : World) : (callFunc 95 args).run Try.prog w = .ok (.enter 68 args) w :=
  run_callFunc_twin (P := Try.prog) (fn := Try.f95) (tw := Try.f68) (twin := "math/big.lshVU_g") (by kernel_rfl) (by kernel_rfl) (by kernel_rfl) (by kernel_rfl) (by kernel_rfl) (by kernel_rfl) (by kernel_rfl) (by kernel_rfl) (by kernel_rfl) args w

set_option maxRecDepth 100000 in
set_option maxHeartbeats 2000000 in
theorem natLsh_r0 (v0 x : Value) (vs xs : List Nat) (s : Nat) (w : World) (hv : Own .u64 w 0 83 v0 vs) (hx : Own .u64 w 0 83 x xs) (hpos : 0 < xs.length) (hs : 0 < s) (hs2 : s < 18446744073709551616) (hl : xs.length + s / 64 + 1 ≤ 17592186044416) (hr : s % 64 ≤ 0) :
    Calls Try.prog 79 #[v0, x, .int .u64 (s : Nat)] w (NatVR v0 (val xs * 2 ^ s) (xs.length + s / 64 + 1) w) := by
  obtain ⟨a, c0, rfl⟩ := hv.form
  obtain ⟨gx, cx, curx, rfl, hcx1, hcx2, hgx, hsx, hxc⟩ := own_open hx hpos
  have hxb : ∀ q ∈ xs, q < 18446744073709551616 := hx.1
  obtain ⟨q, r, hqr, hrl⟩ : ∃ q r, s = 64 * q + r ∧ r < 64 := ⟨s / 64, s % 64, by omega, by omega⟩
  have hdiv : s / 64 = q := by omega
  have hmod : s % 64 = r := by omega
  rw [hdiv] at hl ⊢
  rw [hmod] at hr
  generalize hm : xs.length = m at *
  generalize hv0 : Value.slice a vs.length c0 = v0 at *
  obtain ⟨n, hn⟩ : ∃ n, n = m + q := ⟨_, rfl⟩
  have hsi : (s : Int) / 64 = (q : Int) := by omega
  have hsm : (s : Int) % 64 = (r : Int) := by omega
  have hni : (m : Int) + (q : Int) = (n : Int) := by omega
  have hnm : (n : Int) - (m : Int) = (q : Int) := by omega
  have HV0 := Lib.hid hv0
  have HM := Lib.hid hm
  have HV := Lib.hid hv
  have HXB := Lib.hid hxb
  have HXC0 := Lib.hid hxc
  have HGX := Lib.hid hgx
  have HQR := Lib.hid hqr
  have HN := Lib.hid hn
  have hnl : n + 1 ≤ 17592186044416 := by omega
  have hmn : m ≤ n := by omega
  have hqn : q ≤ n := by omega
  clear hv hx hxb hxc hgx hm hv0 hqr hdiv hmod hn
  have hb0 : ((s : Int) == 0) = false := by simp; omega
  have hbm : ((m : Int) == 0) = false := by simp; omega
  have hbr : ((r : Int) == 0) = true := by simp; omega
  go_enter Try.func79, Try.ntmps79
  go_wp2_with fail
  refine (make_any v0 _ (n + 1) _ _ HV.out.2 (by omega)).mono ?_
  rintro e w1 ⟨z, zs, rfl, hown, hor⟩
  obtain ⟨g, cap, cur, rfl, hcap1, hcap2, hg, hsz⟩ := row_open hown (by omega)
  have hext : Ext w w1 := by rcases hor with ⟨rfl, _⟩ | ⟨_, h⟩; exact Ext.refl _; exact h
  have HXC := Lib.hid (fun i (hi : i < m) => hext.cell (HXC0.out i hi))
  have HMK := Lib.hid (MakeR.upd hor)
  have HG := Lib.hid hg
  clear hown hor hext hg HXC0
  have hcq : ¬ (cap = q) := by omega
  have hcn : n ≤ cap := by omega
  have hcn1 : n < cap := by omega

  have hgen : ∀ (ys : List Nat) (wy : World), ys.length = m + 1 → (∀ y ∈ ys, y < 18446744073709551616) → val ys = val xs * 2 ^ r → Upd (· = g) w1 wy → wy.heap[g]? = some (.cells (put (put cur q (words .u64 ys)) 0 (words .u64 (List.replicate q 0))) 83 (0, 0)) →
      Own .u64 wy 0 83 (.slice (some ⟨g, 0, none⟩) (n + 1) cap) (List.replicate q 0 ++ ys) ∧ val (norm (List.replicate q 0 ++ ys)) = val xs * 2 ^ s ∧ (norm (List.replicate q 0 ++ ys)).length ≤ m + q + 1 := by
    intro ys wy hyl hyb hyv hu hrow
    have hnn := HN.out
    rw [put_front _ _ _ _ (by rw [words_len]; simp) (by rw [words_len]; omega), ← words_app] at hrow
    have hlen : (List.replicate q 0 ++ ys).length = n + 1 := by simp; omega
    refine ⟨?_, ?_, ?_⟩
    · have := own_put hrow (cap := cap) hsz (by omega) (by omega) (mem_zeros hyb)
      rwa [hlen] at this
    · rw [val_norm, val_zeros, hyv, lsh_total HQR.out]
    · have := norm_length_le (List.replicate q 0 ++ ys); omega
  have HGEN := Lib.hid hgen
  clear hgen
  have hsrc : ∀ j v, (words .u64 xs)[j]? = some v → w1.cell? ((⟨gx, 0, none⟩ : Addr).add j) = some v := by
    intro j v hj
    have hjl : j < xs.length := by have := (List.getElem?_eq_some_iff.1 hj).1; rwa [words_len] at this
    have := HXC.out j (by have := HM.out; omega)
    rw [Addr.add_lit, this, ← hj, words_get, List.getElem?_eq_getElem hjl, List.getD_eq_getElem?_getD, List.getElem?_eq_getElem hjl]
    rfl
  have HSRC := Lib.hid hsrc
  clear hsrc
  have hnq : n - q = m := by have := HN.out; omega
  have HNQ := Lib.hid hnq
  clear hnq
  have HYB : Hid (∀ y ∈ xs ++ [0], y < 18446744073709551616) := Lib.hid (mem_snoc HXB.out (by decide))
  have HYL : Hid ((xs ++ [0]).length = m + 1) := Lib.hid (by simp [HM.out])
  have HYV : Hid (val (xs ++ [0]) = val xs * 2 ^ r) := Lib.hid (by rw [val_snoc]; (obtain rfl : r = 0 := (by omega)); simp)
  obtain ⟨wa, hcopy, hua, hrowa⟩ := run_copy_words w1 3 g q (n - q) (cap - q) ⟨gx, 0, none⟩ m cx cur 83 (words .u64 xs) HG.out (by rw [words_len, HNQ.out, HM.out]; exact (Nat.min_self _).symm) HSRC.out (by rw [words_len, HM.out]; have := HN.out; omega) (words_one _ _)
  obtain ⟨zn, hzn⟩ : ∃ zn, wa.cell? ⟨g, n, none⟩ = some zn := ⟨_, lsh_cell hrowa (by rw [words_len, HM.out]; have := HN.out; omega) (by omega)⟩
  have hfn := blk_free hrowa n
  obtain ⟨wy, hclear, huy, hrowy⟩ := run_clear_words (wa.setCell ⟨g, n, none⟩ (.int .u64 ((0 : Nat) : Int))) 0 g q cap _ 83 (lsh_set hrowa (ws := xs) (c := 0) (by rw [HM.out]; have := HN.out; omega) (by rw [HM.out]; have := HN.out; omega)) (by rw [put_size _ _ _ (by rw [words_len]; simp [HM.out]; have := HN.out; omega)]; omega)
  rw [show ((0 : Nat) : Int) = 0 from rfl] at hclear
  have HUA := Lib.hid hua
  have HUY := Lib.hid huy
  have HROWY := Lib.hid hrowy
  clear hua hrowa huy hrowy
  go_wp2_with fail
  clear hclear hzn hfn
  have huz : Upd (· = g) w1 wy := (HUA.out.same ((Upd.refl _ _).setCell (by rfl) _)).same HUY.out
  obtain ⟨k1, k2, k3⟩ := HGEN.out (xs ++ [0]) wy HYL.out HYB.out HYV.out huz HROWY.out
  have HK1 := Lib.hid k1
  have HK2 := Lib.hid k2
  have HK3 := Lib.hid (nat_done (v0 := v0) (w := w) HMK.out huz)
  clear k1 k2 huz
  refine (norm_own 0 83 _ _ _ HK1.out).mono ?_
  rintro e wn ⟨⟨v', rfl, ho, hob⟩, rfl⟩
  obtain ⟨a', c', rfl⟩ := ho.form
  have HO := Lib.hid ho
  have HOB := Lib.hid hob
  clear ho hob
  go_wp2_with fail
  go_ret
  exact ⟨_, norm_norm _, HK2.out, k3, _, rfl, HO.out, HK3.out.1, HK3.out.2 _ HOB.out⟩

set_option maxRecDepth 100000 in
set_option maxHeartbeats 2000000 in
theorem natLsh_rp (v0 x : Value) (vs xs : List Nat) (s : Nat) (w : World) (hv : Own .u64 w 0 83 v0 vs) (hx : Own .u64 w 0 83 x xs) (hpos : 0 < xs.length) (hs : 0 < s) (hs2 : s < 18446744073709551616) (hl : xs.length + s / 64 + 1 ≤ 17592186044416) (hr : 0 < s % 64) :
    Calls Try.prog 79 #[v0, x, .int .u64 (s : Nat)] w (NatVR v0 (val xs * 2 ^ s) (xs.length + s / 64 + 1) w) := by
  obtain ⟨a, c0, rfl⟩ := hv.form
  obtain ⟨gx, cx, curx, rfl, hcx1, hcx2, hgx, hsx, hxc⟩ := own_open hx hpos
  have hxb : ∀ q ∈ xs, q < 18446744073709551616 := hx.1
  obtain ⟨q, r, hqr, hrl⟩ : ∃ q r, s = 64 * q + r ∧ r < 64 := ⟨s / 64, s % 64, by omega, by omega⟩
  have hdiv : s / 64 = q := by omega
  have hmod : s % 64 = r := by omega
  rw [hdiv] at hl ⊢
  rw [hmod] at hr
  generalize hm : xs.length = m at *
  generalize hv0 : Value.slice a vs.length c0 = v0 at *
  obtain ⟨n, hn⟩ : ∃ n, n = m + q := ⟨_, rfl⟩
  have hsi : (s : Int) / 64 = (q : Int) := by omega
  have hsm : (s : Int) % 64 = (r : Int) := by omega
  have hni : (m : Int) + (q : Int) = (n : Int) := by omega
  have hnm : (n : Int) - (m : Int) = (q : Int) := by omega
  have HV0 := Lib.hid hv0
  have HM := Lib.hid hm
  have HV := Lib.hid hv
  have HXB := Lib.hid hxb
  have HXC0 := Lib.hid hxc
  have HGX := Lib.hid hgx
  have HQR := Lib.hid hqr
  have HN := Lib.hid hn
  have hnl : n + 1 ≤ 17592186044416 := by omega
  have hmn : m ≤ n := by omega
  have hqn : q ≤ n := by omega
  clear hv hx hxb hxc hgx hm hv0 hqr hdiv hmod hn
  have hb0 : ((s : Int) == 0) = false := by simp; omega
  have hbm : ((m : Int) == 0) = false := by simp; omega
  have hbr : ((r : Int) == 0) = false := by simp; omega
  go_enter Try.func79, Try.ntmps79
  go_wp2_with fail
  refine (make_any v0 _ (n + 1) _ _ HV.out.2 (by omega)).mono ?_
  rintro e w1 ⟨z, zs, rfl, hown, hor⟩
  obtain ⟨g, cap, cur, rfl, hcap1, hcap2, hg, hsz⟩ := row_open hown (by omega)
  have hext : Ext w w1 := by rcases hor with ⟨rfl, _⟩ | ⟨_, h⟩; exact Ext.refl _; exact h
  have HXC := Lib.hid (fun i (hi : i < m) => hext.cell (HXC0.out i hi))
  have HMK := Lib.hid (MakeR.upd hor)
  have HG := Lib.hid hg
  clear hown hor hext hg HXC0
  have hcq : ¬ (cap = q) := by omega
  have hcn : n ≤ cap := by omega
  have hcn1 : n < cap := by omega

  have hgen : ∀ (ys : List Nat) (wy : World), ys.length = m + 1 → (∀ y ∈ ys, y < 18446744073709551616) → val ys = val xs * 2 ^ r → Upd (· = g) w1 wy → wy.heap[g]? = some (.cells (put (put cur q (words .u64 ys)) 0 (words .u64 (List.replicate q 0))) 83 (0, 0)) →
      Own .u64 wy 0 83 (.slice (some ⟨g, 0, none⟩) (n + 1) cap) (List.replicate q 0 ++ ys) ∧ val (norm (List.replicate q 0 ++ ys)) = val xs * 2 ^ s ∧ (norm (List.replicate q 0 ++ ys)).length ≤ m + q + 1 := by
    intro ys wy hyl hyb hyv hu hrow
    have hnn := HN.out
    rw [put_front _ _ _ _ (by rw [words_len]; simp) (by rw [words_len]; omega), ← words_app] at hrow
    have hlen : (List.replicate q 0 ++ ys).length = n + 1 := by simp; omega
    refine ⟨?_, ?_, ?_⟩
    · have := own_put hrow (cap := cap) hsz (by omega) (by omega) (mem_zeros hyb)
      rwa [hlen] at this
    · rw [val_norm, val_zeros, hyv, lsh_total HQR.out]
    · have := norm_length_le (List.replicate q 0 ++ ys); omega
  have HGEN := Lib.hid hgen
  clear hgen
  have hcall := lshVU_call
  have hnq : n - q = m := by have := HN.out; omega
  have HYB : Hid (∀ y ∈ shlL r 0 xs ++ [shlC r 0 xs], y < 18446744073709551616) := Lib.hid (mem_snoc (shl_lt r 0 (by omega) xs (Nat.pow_pos (by decide)) HXB.out) (by rw [shlC_eq r 0 xs (by rw [HM.out]; omega)]; exact Nat.lt_of_le_of_lt (Nat.div_le_self _ _) (getD_lt HXB.out (by omega) _)))
  have HYL : Hid ((shlL r 0 xs ++ [shlC r 0 xs]).length = m + 1) := Lib.hid (by simp [shl_len, HM.out])
  have HYV : Hid (val (shlL r 0 xs ++ [shlC r 0 xs]) = val xs * 2 ^ r) := Lib.hid (by rw [val_snoc, shl_len, shl_val r 0 (by omega) xs]; rfl)
  go_wp2_with fail
  clear hcall
  refine (lshVU_any g q (cap - q) gx 0 cx m r cur 83 xs _ HG.out (by have := HN.out; omega) (by omega) (by omega) (by omega) (by omega) HM.out HXB.out HXC.out (fun _ => Nat.zero_le _)).mono ?_
  rintro e wa ⟨rfl, hua, hrowa⟩
  have hzn : ∃ zn, wa.cell? ⟨g, n, none⟩ = some zn := ⟨_, lsh_cell hrowa (by rw [words_len, shl_len, HM.out]; have := HN.out; omega) (by omega)⟩
  obtain ⟨zn, hzn⟩ := hzn
  have hfn := blk_free hrowa n
  have HUA := Lib.hid hua
  have HROWA := Lib.hid hrowa
  clear hua hrowa
  obtain ⟨wy, hclear, huy, hrowy⟩ := run_clear_words (wa.setCell ⟨g, n, none⟩ (.int .u64 (shlC r 0 xs : Nat))) 0 g q cap _ 83 (lsh_set HROWA.out (ws := shlL r 0 xs) (c := shlC r 0 xs) (by rw [shl_len, HM.out]; have := HN.out; omega) (by rw [shl_len, HM.out]; have := HN.out; omega)) (by rw [put_size _ _ _ (by rw [words_len]; simp [shl_len, HM.out]; have := HN.out; omega)]; omega)
  have HUY := Lib.hid huy
  have HROWY := Lib.hid hrowy
  clear huy hrowy
  go_wp2_with fail
  clear hclear hzn hfn
  have huz : Upd (· = g) w1 wy := (HUA.out.same ((Upd.refl _ _).setCell (by rfl) _)).same HUY.out
  obtain ⟨k1, k2, k3⟩ := HGEN.out (shlL r 0 xs ++ [shlC r 0 xs]) wy HYL.out HYB.out HYV.out huz HROWY.out
  have HK1 := Lib.hid k1
  have HK2 := Lib.hid k2
  have HK3 := Lib.hid (nat_done (v0 := v0) (w := w) HMK.out huz)
  clear k1 k2 huz
  refine (norm_own 0 83 _ _ _ HK1.out).mono ?_
  rintro e wn ⟨⟨v', rfl, ho, hob⟩, rfl⟩
  obtain ⟨a', c', rfl⟩ := ho.form
  have HO := Lib.hid ho
  have HOB := Lib.hid hob
  clear ho hob
  go_wp2_with fail
  go_ret
  exact ⟨_, norm_norm _, HK2.out, k3, _, rfl, HO.out, HK3.out.1, HK3.out.2 _ HOB.out⟩

set_option maxHeartbeats 1000000 in
theorem natLsh_m0 (v0 x : Value) (vs : List Nat) (s : Nat) (w : World) (hv : Own .u64 w 0 83 v0 vs) (hx : Own .u64 w 0 83 x []) (hs : 0 < s) :
    Calls Try.prog 79 #[v0, x, .int .u64 (s : Nat)] w (NatVR v0 0 0 w) := by
  obtain ⟨a, c, rfl⟩ := hv.form
  obtain ⟨ax, cx, rfl⟩ := hx.form
  obtain ⟨_, k1, k2⟩ := hv.cap
  have hfin : NatVR (.slice a vs.length c) 0 0 w (.returned (.slice a 0 c)) w := ⟨[], rfl, rfl, by simp, _, rfl, hv.cut, Upd.refl _ _, .inl (by cases a <;> rfl)⟩
  have HF := Lib.hid hfin
  have hb0 : ((s : Int) == 0) = false := by simp; omega
  clear hv hx hfin
  go_enter Try.func79, Try.ntmps79
  go_wp2_with fail
  go_ret
  exact HF.out

theorem eqWordSame (a : Addr) (w : World) : (binOp .eql 105 (.pointer (some a)) (.pointer (some a))).run Try.prog w = .ok (.bool true) w := by
  obtain ⟨j, h1, h2⟩ := Option.map_eq_some_iff.1 sizeWord
  have h : ∀ d : Nat, (Op.equalIn (d + 1) 105 (.pointer (some a)) (.pointer (some a))).run Try.prog w = .ok true w := fun d => by
    simp [Op.equalIn, run_underlying Try.underlying105, sizeOf, typeInfo, h1, h2, run_sameAddr_same]
  simp only [binOp]
  simp [Op.equal, Op.maxDepth, h 9999]

theorem eqWordOther {p q a b : Nat} (hpq : p ≠ q) {w : World} {c d : Array Value} {T U : TypeId} (hp : w.heap[p]? = some (.cells c T (0, 0))) (hq : w.heap[q]? = some (.cells d U (0, 0))) :
    (binOp .eql 105 (.pointer (some ⟨p, a, none⟩)) (.pointer (some ⟨q, b, none⟩))).run Try.prog w = .ok (.bool false) w := by
  obtain ⟨j, h1, h2⟩ := Option.map_eq_some_iff.1 sizeWord
  have h : ∀ d : Nat, (Op.equalIn (d + 1) 105 (.pointer (some ⟨p, a, none⟩)) (.pointer (some ⟨q, b, none⟩))).run Try.prog w = .ok false w := fun d => by
    simp [Op.equalIn, run_underlying Try.underlying105, sizeOf, typeInfo, h1, h2, run_sameAddr_other w (a := ⟨p, a, none⟩) (b := ⟨q, b, none⟩) (by simp [hpq]) hp hq]
  simp only [binOp]
  simp [Op.equal, Op.maxDepth, h 9999]

/-- A plain bool comes back; the order of reading was drawn. -/
def BoolQ (b : Bool) (w : World) (e : Ending) (w' : World) : Prop := e = .returned (.bool b) ∧ ∃ n, w' = w.drewN n

set_option maxHeartbeats 1000000 in
theorem same_true (g m c : Nat) (w : World) (hm : 0 < m) (hmc : m ≤ 9223372036854775807) :
    Calls Try.prog 93 #[.slice (some ⟨g, 0, none⟩) m c, .slice (some ⟨g, 0, none⟩) m c] w (BoolQ true w) := by
  have heq := eqWordSame ⟨g, 0, none⟩
  have h0 : (0 : Int) < (m : Int) := by omega
  have hb : ((m : Int) == (m : Int)) = true := by simp
  go_enter Try.func93, Try.ntmps93
  go_wp2_with fail
  go_quiet (fail)
  go_wp2_with fail
  go_ret
  exact ⟨rfl, _, rfl⟩

set_option maxHeartbeats 1000000 in
theorem same_len (a b : Option Addr) (m n c d : Nat) (w : World) (hmn : m ≠ n) (hm : m ≤ 9223372036854775807) (hn : n ≤ 9223372036854775807) :
    Calls Try.prog 93 #[.slice a m c, .slice b n d] w (BoolQ false w) := by
  have hb : ((m : Int) == (n : Int)) = false := by simp; omega
  go_enter Try.func93, Try.ntmps93
  go_wp2_with fail
  go_quiet (fail)
  go_wp2_with fail
  go_ret
  exact ⟨rfl, _, rfl⟩

set_option maxHeartbeats 1000000 in
theorem same_zero (a b : Option Addr) (c d : Nat) (w : World) :
    Calls Try.prog 93 #[.slice a 0 c, .slice b 0 d] w (BoolQ false w) := by
  go_enter Try.func93, Try.ntmps93
  go_wp2_with fail
  go_quiet (fail)
  go_wp2_with fail
  go_ret
  exact ⟨rfl, _, rfl⟩

set_option maxHeartbeats 1000000 in
theorem same_other (g h m c d : Nat) (w : World) (hgh : g ≠ h) (hm : 0 < m) (hmc : m ≤ 9223372036854775807) (C D : Array Value) (T U : TypeId) (hg : w.heap[g]? = some (.cells C T (0, 0))) (hh : w.heap[h]? = some (.cells D U (0, 0))) :
    Calls Try.prog 93 #[.slice (some ⟨g, 0, none⟩) m c, .slice (some ⟨h, 0, none⟩) m d] w (BoolQ false w) := by
  have heq := fun n => eqWordOther (a := 0) (b := 0) (w := w.drewN n) hgh hg hh
  have h0 : (0 : Int) < (m : Int) := by omega
  have hb : ((m : Int) == (m : Int)) = true := by simp
  clear hg hh
  go_enter Try.func93, Try.ntmps93
  go_wp2_with fail
  go_quiet (fail)
  go_wp2_with fail
  go_ret
  exact ⟨rfl, _, rfl⟩

set_option maxHeartbeats 1000000 in
theorem alias_none1 (a b : Option Addr) (m n d : Nat) (w : World) :
    Calls Try.prog 94 #[.slice a m 0, .slice b n d] w (BoolQ false w) := by
  go_enter Try.func94, Try.ntmps94
  go_wp2_with fail
  go_quiet (fail)
  go_wp2_with fail
  go_ret
  exact ⟨rfl, _, rfl⟩

set_option maxHeartbeats 1000000 in
theorem alias_none2 (a b : Option Addr) (m n c : Nat) (w : World) (hc : 0 < c) (hcl : c ≤ 9223372036854775807) :
    Calls Try.prog 94 #[.slice a m c, .slice b n 0] w (BoolQ false w) := by
  have h0 : (0 : Int) < (c : Int) := by omega
  have hd : decide ((0 : Int) < (c : Int)) = true := by simp [hc]
  go_enter Try.func94, Try.ntmps94
  go_wp2_with fail
  go_quiet (fail)
  go_wp2_with fail
  go_ret
  exact ⟨rfl, _, rfl⟩

set_option maxHeartbeats 1000000 in
theorem alias_both (g h m n c d : Nat) (b : Bool) (w : World) (hc : 0 < c) (hcl : c ≤ 9223372036854775807) (hd : 0 < d) (hdl : d ≤ 9223372036854775807) (heq : ∀ k, (binOp .eql 105 (.pointer (some ⟨g, c - 1, none⟩)) (.pointer (some ⟨h, d - 1, none⟩))).run Try.prog (w.drewN k) = .ok (.bool b) (w.drewN k)) :
    Calls Try.prog 94 #[.slice (some ⟨g, 0, none⟩) m c, .slice (some ⟨h, 0, none⟩) n d] w (BoolQ b w) := by
  have h0 : (0 : Int) < (c : Int) := by omega
  have h1 : (0 : Int) < (d : Int) := by omega
  have hc0 : ¬ (c = 0) := by omega
  have hd0 : ¬ (d = 0) := by omega
  have i1 : (1 : Int) ≤ (c : Int) := by omega
  have i2 : (1 : Int) ≤ (d : Int) := by omega
  have i3 : IntKind.i64.wrap ((c : Int) - 1) = (c : Int) - 1 := IntWalk.i64_in _ (by omega)
  have i4 : IntKind.i64.wrap ((d : Int) - 1) = (d : Int) - 1 := IntWalk.i64_in _ (by omega)
  have i5 : ((c : Int) - 1).toNat = c - 1 := by omega
  have i6 : ((d : Int) - 1).toNat = d - 1 := by omega
  have i7 : (0 : Int) ≤ (c : Int) - 1 := by omega
  have i8 : (0 : Int) ≤ (d : Int) - 1 := by omega
  have i9 : (c : Int) - 1 < (c : Int) := by omega
  have i10 : (d : Int) - 1 < (d : Int) := by omega
  go_enter Try.func94, Try.ntmps94
  go_wp2_with fail
  go_quiet (fail)
  go_wp2_with fail
  go_ret
  exact ⟨rfl, _, rfl⟩

end Go.Proofs.Ytdfknmplpjmemaa
