/- spec.apart: contract. -/
import Derived.Test.YtocadbghhoibnaaFmtMa5
set_option linter.unusedSimpArgs false
set_option linter.unusedVariables false
namespace Go.Proofs.YtocadbghhoibnaaFmt
open Go.RowKit

/-- The high bits divided so far. -/
def ApL (w : World) (V n : Nat) (v6 v7 v8 : Value) (wr : World) : Prop :=
  ∃ (k left : Nat) (rs : List Nat), ((k = 0 ∧ v8 = .int .i64 (-1)) ∨ ∃ j : Nat, k = j + 1 ∧ v8 = .int .i64 (j : Nat)) ∧ k ≤ blenN V ∧ v7 = .int .u64 (left : Nat) ∧ left < n ∧ Own .u64 wr 0 36 v6 rs ∧ norm rs = rs ∧ V / 2 ^ k = val rs * n + left ∧ Ext w wr

def ApR (V n L : Nat) (w : World) (e : Ending) (w' : World) : Prop :=
  Ext w w' ∧ ∃ v rs, e = .returned (.tuple #[v, .int .u64 ((V % n : Nat) : Int)]) ∧ Own .u64 w' 0 36 v rs ∧ norm rs = rs ∧ val rs = V / n ∧ rs.length ≤ L

theorem ap_step {V k n r left low left2 : Nat} (h : V / 2 ^ (k + 1) = r * n + left) (hb : left2 + n * low = 2 * left + bitN V k) : V / 2 ^ k = (r * 2 + low) * n + left2 := by
  have e : V / 2 ^ k = 2 * (V / 2 ^ (k + 1)) + bitN V k := by
    unfold bitN
    have : V / 2 ^ (k + 1) = V / 2 ^ k / 2 := by rw [Nat.pow_succ, Nat.div_div_eq_div_mul]
    omega
  rw [e, h, Nat.add_mul, Nat.mul_comm low n]
  have : r * 2 * n = 2 * (r * n) := by rw [Nat.mul_comm r 2, Nat.mul_assoc]
  omega

set_option maxHeartbeats 1000000 in
theorem apart_any (v : Value) (ws : List Nat) (n : Nat) (w : World) (h : Rd .u64 w v ws) (hl : ws.length + 2 ≤ 17592186044416) (hn : 2 ≤ n) (hn2 : n ≤ 62) :
    Calls Tryf.prog 55 #[v, .int .u64 (n : Nat)] w (ApR (val ws) n ws.length w) := by
  have hvl := val_lt ws h.1
  have hbl : blenN (val ws) ≤ 64 * ws.length := by rw [blenN_le_iff, ← pow64]; exact hvl
  have HT : Hid (val ws / 2 ^ blenN (val ws) = 0) := Lib.hid (Nat.div_eq_of_lt ((blenN_le_iff _ _).1 (Nat.le_refl _)))
  have HBND : Hid (∀ (k : Nat) (rs : List Nat) (left : Nat), norm rs = rs → val ws / 2 ^ k = val rs * n + left → rs.length ≤ ws.length) := Lib.hid (fun k rs left h1 h2 => by
    refine len_of_val h1 (Nat.lt_of_le_of_lt ?_ hvl)
    have h3 : val ws / 2 ^ k ≤ val ws := Nat.div_le_self _ _
    have h4 : val rs * 1 ≤ val rs * n := Nat.mul_le_mul_left _ (by omega)
    omega)
  obtain ⟨a, cap, rfl⟩ := h.form
  have H := Lib.hid h
  clear h hvl
  obtain ⟨V, hV⟩ : ∃ V, val ws = V := ⟨_, rfl⟩
  rw [hV] at HT HBND hbl ⊢
  have HVV := Lib.hid hV
  clear hV
  go_enter Tryf.func55, Tryf.ntmps55
  go_wp2_with fail
  refine (length_any _ ws _ (H.out.ext (Ext.alloc _ _)) (by omega)).mono ?_
  rintro e w1 ⟨rfl, rfl⟩
  rw [HVV.out]
  obtain ⟨B, hB⟩ : ∃ B, blenN V = B := ⟨_, rfl⟩
  rw [hB] at hbl HT ⊢
  have HB := Lib.hid hB
  clear hB
  have hstart : ApL w V n (.slice (some ⟨w.heap.size, 0, none⟩) 0 0) (.int .u64 ((0 : Nat) : Int)) (.int .i64 ((B : Int) - 1)) (w.alloc (.cells #[] 36)) := by
    refine ⟨B, 0, [], ?_, by rw [HB.out]; exact Nat.le_refl _, rfl, by omega, ⟨by simp, row_start .u64 _ _ _ _ rfl (Nat.zero_le _)⟩, rfl, by rw [HT.out]; simp [val], Ext.alloc _ _⟩
    rcases B with _ | B
    · exact .inl ⟨rfl, rfl⟩
    · exact .inr ⟨B, rfl, by congr 1; omega⟩
  have HST := Lib.hid hstart
  clear hstart
  go_wp2_with fail
  go_loopw [6, 7, 8] (fun v6 v7 v8 wr => ApL w V n v6 v7 v8 wr) (fun _ _ v8 _ => (intOf v8 + 1).toNat)
  case atStart => exact HST.out
  case round =>
    obtain ⟨k, left, rs, hk, hkb, rfl, hln, hown, hnr, hvr, hext⟩ := hrel
    have hlr : rs.length ≤ ws.length := HBND.out k rs left hnr hvr
    have HO := Lib.hid hown
    have HN := Lib.hid hnr
    have HV := Lib.hid hvr
    have HE := Lib.hid hext
    obtain ⟨a6, c6, rfl⟩ := hown.form
    clear hown hnr hvr hext
    rw [HB.out] at hkb
    rcases hk with ⟨rfl, rfl⟩ | ⟨j, rfl, rfl⟩
    · go_wp2_with fail
      refine (trim_any _ rs _ HO.out.read (by omega)).mono ?_
      rintro e w2 ⟨he, v2, rfl, ho⟩
      have hv := HV.out
      rw [Nat.pow_zero, Nat.div_one] at hv
      have hmod : V % n = left := by rw [hv, Nat.mul_comm, Nat.mul_add_mod, Nat.mod_eq_of_lt hln]
      have hdiv : V / n = val rs := by rw [hv, Nat.mul_comm, Nat.mul_add_div (by omega), Nat.div_eq_of_lt hln, Nat.add_zero]
      have HFIN : Hid (ApR V n ws.length w (.returned (.tuple #[v2, .int .u64 (left : Nat)])) w2) := Lib.hid ⟨HE.out.trans he, v2, norm rs, by rw [hmod], ho.mono (Nat.zero_le _), norm_norm _, by rw [val_norm, hdiv], Nat.le_trans (norm_length_le _) hlr⟩
      clear ho he hv hmod hdiv
      go_wp2_with fail
      go_ret2
      exact HFIN.out
    · obtain ⟨x, hx⟩ : ∃ x, bitN V j = x := ⟨_, rfl⟩
      have hx2 : x ≤ 1 := by rw [← hx]; unfold bitN; omega
      have HX := Lib.hid hx
      have hxw : bitN (val ws) j = x := by rw [HVV.out, hx]
      have HXW := Lib.hid hxw
      clear hx hxw
      go_wp2_with fail
      refine (bit_any _ ws j x _ (H.out.ext HE.out) (by omega) HXW.out).mono ?_
      rintro e w1 ⟨rfl, rfl⟩
      have hlow : ∀ (low left2 : Nat), left2 + n * low = 2 * left + x → low ≤ 1 → left2 < n → ∀ v2 w2, Ext wr w2 → Own .u64 w2 0 36 v2 (norm (shlL 1 low rs ++ [shlC 1 low rs])) → ApL w V n v2 (.int .u64 (left2 : Nat)) (.int .i64 ((j : Int) - 1)) w2 := by
        intro low left2 h1 h2 h3 v2 w2 h4 h5
        refine ⟨j, left2, _, ?_, by rw [HB.out]; omega, rfl, h3, h5, norm_norm _, ?_, HE.out.trans h4⟩
        · rcases j with _ | j
          · exact .inl ⟨rfl, rfl⟩
          · exact .inr ⟨j, rfl, by congr 1; omega⟩
        · rw [val_norm, val_snoc, shl_len, shl_val 1 low (by omega)]
          exact ap_step HV.out (by rw [h1, HX.out])
      have HLOW := Lib.hid hlow
      clear hlow
      obtain ⟨y, hy⟩ : ∃ y, 2 * left + x = y := ⟨_, rfl⟩
      have hyi : (2 : Int) * (left : Int) + (x : Int) = (y : Int) := by omega
      by_cases hyn : n ≤ y
      · have e1 : decide (n ≤ y) = true := decide_eq_true hyn
        have e1' : decide ((n : Int) ≤ (y : Int)) = true := decide_eq_true (by omega)
        obtain ⟨l2, hl2⟩ : ∃ l2, y - n = l2 := ⟨_, rfl⟩
        have hli : (y : Int) - (n : Int) = (l2 : Int) := by omega
        have HLW := Lib.hid (HLOW.out 1 l2 (by omega) (by omega) (by omega))
        clear hl2 hy
        go_wp2_with fail
        refine (double_any _ rs 1 _ HO.out.read (by omega) (by omega)).mono ?_
        rintro e w2 ⟨he, v2, rfl, ho⟩
        have HREL := Lib.hid (HLW.out v2 w2 he (ho.mono (Nat.zero_le _)))
        clear he ho
        go_wp2_with fail
        go_roundw
        case rel => exact HREL.out
        case measure => simp [intOf]
      · have e1 : decide (n ≤ y) = false := decide_eq_false hyn
        have e1' : decide ((n : Int) ≤ (y : Int)) = false := decide_eq_false (by omega)
        have HLW := Lib.hid (HLOW.out 0 y (by omega) (by omega) (by omega))
        clear hy
        go_wp2_with fail
        refine (double_any _ rs 0 _ HO.out.read (by omega) (by omega)).mono ?_
        rintro e w2 ⟨he, v2, rfl, ho⟩
        have HREL := Lib.hid (HLW.out v2 w2 he (ho.mono (Nat.zero_le _)))
        clear he ho
        go_wp2_with fail
        go_roundw
        case rel => exact HREL.out
        case measure => simp [intOf]

end Go.Proofs.YtocadbghhoibnaaFmt
