/- spec.Text: contract. -/
import Derived.Test.YtocadbghhoibnaaFmtSpecX
set_option linter.unusedSimpArgs false
set_option linter.unusedVariables false
namespace Go.Proofs.YtocadbghhoibnaaFmt
open Go.RowKit

/-- The digits' letters. -/
def allD : ByteArray := { data := #[48, 49, 50, 51, 52, 53, 54, 55, 56, 57, 97, 98, 99, 100, 101, 102, 103, 104, 105, 106, 107, 108, 109, 110, 111, 112, 113, 114, 115, 116, 117, 118, 119, 120, 121, 122, 65, 66, 67, 68, 69, 70, 71, 72, 73, 74, 75, 76, 77, 78, 79, 80, 81, 82, 83, 84, 85, 86, 87, 88, 89, 90] }

theorem allD_size : allD.size = 62 := by decide

theorem bts_mid (s : ByteArray) (i : Nat) (hi : i < s.size) : bts (s.extract i (i + 1)) 0 = [s[i].toNat] := by
  unfold bts
  rw [List.drop_zero, ByteArray.data_extract, Array.toList_extract, List.extract_eq_take_drop]
  have h1 : i < s.data.toList.length := by rw [Array.length_toList]; exact hi
  rw [List.drop_eq_getElem_cons h1, show i + 1 - i = 1 by omega]
  rfl

theorem dig_letter : ∀ b : Nat, b ≤ 62 → ∀ d : Nat, d < b → ∃ c, bts (allD.extract d (d + 1)) 0 = [c] ∧ c ≠ 95 ∧ c ≠ 45 ∧ c ≠ 43 ∧ dgv c b = d := by
  intro b hb d hd
  have h62 : d < 62 := by omega
  have hs : d < allD.size := by rw [allD_size]; exact h62
  refine ⟨allD[d].toNat, bts_mid allD d hs, ?_⟩
  have key : ∀ i : Fin 62, (allD.data[i.val]!).toNat ≠ 95 ∧ (allD.data[i.val]!).toNat ≠ 45 ∧ (allD.data[i.val]!).toNat ≠ 43 ∧ (if i.val < 10 then (allD.data[i.val]!).toNat = 48 + i.val else if i.val < 36 then (allD.data[i.val]!).toNat = 97 + (i.val - 10) else (allD.data[i.val]!).toNat = 65 + (i.val - 36)) := by decide
  have hk := key ⟨d, h62⟩
  have e : allD.data[d]! = allD[d] := by
    have : d < allD.data.size := hs
    rw [getElem!_pos allD.data d this]
    rfl
  simp only [e] at hk
  obtain ⟨k1, k2, k3, k4⟩ := hk
  refine ⟨k1, k2, k3, ?_⟩
  generalize allD[d].toNat = c at *
  unfold dgv
  by_cases h10 : d < 10
  · rw [if_pos h10] at k4
    rw [if_pos (by omega)]
    omega
  · rw [if_neg h10] at k4
    by_cases h36 : d < 36
    · rw [if_pos h36] at k4
      rw [if_neg (by omega), if_pos (by omega)]
      omega
    · rw [if_neg h36] at k4
      rw [if_neg (by omega), if_neg (by omega), if_pos (by omega), if_neg (by omega)]
      omega

/-- The digits in base b so far. -/
def TDig (V b m : Nat) (l : List Nat) : Prop := V = m * b ^ l.length + dvb b 0 l ∧ ∀ c ∈ l, c ≠ 95 ∧ c ≠ 45 ∧ c ≠ 43 ∧ dgv c b < b

theorem TDig.next {V b m c : Nat} {l : List Nat} (h : TDig V b m l) (hb : 2 ≤ b) (hc : c ≠ 95 ∧ c ≠ 45 ∧ c ≠ 43 ∧ dgv c b = m % b) : TDig V b (m / b) (c :: l) := by
  refine ⟨?_, ?_⟩
  · rw [dvb_cons, hc.2.2.2, List.length_cons, ← Nat.add_assoc, Nat.pow_succ, Nat.mul_comm (b ^ l.length) b, ← Nat.mul_assoc, ← Nat.add_mul]
    have : m / b * b + m % b = m := by rw [Nat.mul_comm]; exact Nat.div_add_mod m b
    rw [this]
    exact h.1
  · intro x hx
    rcases List.mem_cons.1 hx with rfl | hx
    · exact ⟨hc.1, hc.2.1, hc.2.2.1, by rw [hc.2.2.2]; exact Nat.mod_lt _ (by omega)⟩
    · exact h.2 x hx

/-- What Text gives. -/
def TextP (V b : Nat) (t : ByteArray) : Prop := bts t 0 ≠ [] ∧ TDig V b 0 (bts t 0) ∧ (V = 0 → t.size = 1) ∧ (0 < V → b ^ (t.size - 1) ≤ V)

def TextR (V b : Nat) (w : World) (e : Ending) (w' : World) : Prop := Ext w w' ∧ ∃ t : ByteArray, e = .returned (.string t) ∧ TextP V b t

theorem TextP.num {V b : Nat} {t : ByteArray} (h : TextP V b t) (hb : 2 ≤ b) : numS (bts t 0) b = some (V : Int) := by
  obtain ⟨h1, h2, _⟩ := h
  have hun : unsg (bts t 0) := by
    cases hl : bts t 0 with
    | nil => exact absurd hl h1
    | cons c l =>
      have := h2.2 c (by rw [hl]; simp)
      exact unsg_cons this.2.1 this.2.2.1
  rw [numS_un hun, natS_digs (by omega) h1 (fun c hc => ⟨(h2.2 c hc).1, (h2.2 c hc).2.2.2⟩)]
  have := h2.1
  rw [Nat.zero_mul, Nat.zero_add] at this
  rw [← this]
  rfl

def TxL (w : World) (V b k : Nat) (v6 v7 : Value) (wr : World) : Prop :=
  ∃ (rs : List Nat) (t : ByteArray), Own .u64 wr 0 36 v6 rs ∧ norm rs = rs ∧ v7 = .string t ∧ TDig V b (val rs) (bts t 0) ∧ val rs ≤ V ∧ val rs ≤ k ∧ ((bts t 0 = [] ∧ val rs = V) ∨ b ^ (t.size - 1) ≤ V) ∧ Ext w wr

theorem tdig_le {V b m : Nat} {l : List Nat} (h : TDig V b m l) (hm : 0 < m) : b ^ l.length ≤ V := by
  rw [h.1]
  have := Nat.mul_le_mul_right (b ^ l.length) hm
  omega

set_option maxRecDepth 100000 in
set_option maxHeartbeats 1000000 in
theorem specText_any (n : Bool) (v : Value) (ws : List Nat) (b : Nat) (w : World) (h : Rd .u64 w v ws) (hl : ws.length + 2 ≤ 17592186044416) (hb : 2 ≤ b) (hb2 : b ≤ 62) :
    Calls Tryf.prog 34 #[.agg #[.bool n, v], .int .i64 (b : Nat)] w (TextR (val ws) b w) := by
  have hvl := val_lt ws h.1
  rw [pow64] at hvl
  obtain ⟨V, hV⟩ : ∃ V, val ws = V := ⟨_, rfl⟩
  have HLEN : Hid (∀ k, b ^ k ≤ V → k ≤ 1125899906842624) := Lib.hid (fun k hk => by
    rcases Nat.lt_or_ge k (64 * ws.length) with h1 | h1
    · omega
    · exfalso
      have h2 : 2 ^ k ≤ b ^ k := Nat.pow_le_pow_left hb k
      have h3 : 2 ^ (64 * ws.length) ≤ 2 ^ k := Nat.pow_le_pow_right (by decide) h1
      omega)
  have HBND : Hid (∀ rs : List Nat, norm rs = rs → val rs ≤ V → rs.length ≤ ws.length) := Lib.hid (fun rs h1 h2 => len_of_val h1 (by rw [pow64]; omega))
  obtain ⟨a, cap, rfl⟩ := h.form
  have H := Lib.hid h
  rw [hV]
  have HVV := Lib.hid hV
  clear h hvl hV
  go_enter Tryf.func34, Tryf.ntmps34
  go_wp2_with fail
  refine (trim_any _ ws _ (H.out.ext (Ext.alloc _ _)) (by omega)).mono ?_
  rintro e w1 ⟨he, v1, rfl, ho⟩
  have hn1 := norm_norm ws
  have hv1 : val (norm ws) = V := by rw [val_norm, HVV.out]
  have hl1 := norm_length_le ws
  generalize norm ws = rs1 at *
  have HO1 := Lib.hid (ho.mono (Nat.zero_le _))
  have HE1 := Lib.hid ((Ext.alloc w (.cells #[.bool n, .slice a ws.length cap] 38)).trans he)
  have HN1 := Lib.hid hn1
  have HV1 := Lib.hid hv1
  obtain ⟨a1, c1, rfl⟩ := ho.form
  clear ho he hn1 hv1
  by_cases h0 : rs1.length = 0
  · have hr0 : rs1 = [] := List.eq_nil_of_length_eq_zero h0
    have hV0 : V = 0 := by rw [← HV1.out, hr0]; rfl
    have el : ((rs1.length : Int) == 0) = true := by rw [h0]; rfl
    have HFIN : Hid (TextR V b w (.returned (.string { data := #[48] })) w1) := Lib.hid ⟨HE1.out, _, rfl, by decide, ⟨by
      have e1 : bts ({ data := #[48] } : ByteArray) 0 = [48] := rfl
      rw [e1, hV0]
      simp [dvb, dgv], by
      intro c hc
      have e1 : bts ({ data := #[48] } : ByteArray) 0 = [48] := rfl
      rw [e1] at hc
      simp at hc
      subst hc
      simp [dgv]
      omega⟩, fun _ => rfl, fun h => by omega⟩
    clear h0 hr0 hV0
    go_wp2_with fail
    go_ret
    exact HFIN.out
  · have el : ((rs1.length : Int) == 0) = false := by rw [beq_eq_false_iff_ne]; omega
    have hVp : 0 < V := by rw [← HV1.out]; exact (len_pos_iff HN1.out).1 (by omega)
    obtain ⟨A, hA⟩ : ∃ A : ByteArray, A = allD := ⟨_, rfl⟩
    have hAlit : ({ data := #[48, 49, 50, 51, 52, 53, 54, 55, 56, 57, 97, 98, 99, 100, 101, 102, 103, 104, 105, 106, 107, 108, 109, 110, 111, 112, 113, 114, 115, 116, 117, 118, 119, 120, 121, 122, 65, 66, 67, 68, 69, 70, 71, 72, 73, 74, 75, 76, 77, 78, 79, 80, 81, 82, 83, 84, 85, 86, 87, 88, 89, 90] } : ByteArray) = A := by rw [hA]; rfl
    have hAs : A.size = 62 := by rw [hA]; exact allD_size
    have hAl : ∀ d, d < b → ∃ c, bts (A.extract d (d + 1)) 0 = [c] ∧ c ≠ 95 ∧ c ≠ 45 ∧ c ≠ 43 ∧ dgv c b = d := fun d hd => by rw [hA]; exact dig_letter b hb2 d hd
    have HAS := Lib.hid hAs
    have HAL := Lib.hid hAl
    clear hA hAs hAl h0
    rw [hAlit]
    clear hAlit
    go_wp2_with fail
    go_loopg [6, 7] V (fun k v6 v7 wr => TxL w V b k v6 v7 wr)
    case atStart => exact ⟨rs1, { data := #[] }, HO1.out, HN1.out, rfl, ⟨by rw [HV1.out]; simp [bts, dvb], by simp [bts]⟩, by rw [HV1.out]; exact Nat.le_refl _, by rw [HV1.out]; exact Nat.le_refl _, .inl ⟨rfl, HV1.out⟩, HE1.out⟩
    case round =>
      obtain ⟨rs, t, hown, hnr, rfl, htd, hle, hlk, hor, hext⟩ := hrel
      have hlr := HBND.out rs hnr hle
      have hpi := len_pos_iff hnr
      have HO := Lib.hid hown
      have HN := Lib.hid hnr
      have HTD := Lib.hid htd
      have HE := Lib.hid hext
      have HOR := Lib.hid hor
      obtain ⟨a6, c6, rfl⟩ := hown.form
      clear hown hnr htd hext hor
      by_cases hr0 : 0 < rs.length
      · have e0 : decide (0 < rs.length) = true := decide_eq_true hr0
        have hmp := hpi.1 hr0
        have htl : t.size ≤ 1125899906842624 := by
          have := HLEN.out _ (tdig_le HTD.out hmp)
          rw [bts_len] at this
          omega
        clear hpi
        go_wp2_with fail
        refine (apart_any _ rs b _ HO.out.read (by omega) hb hb2).mono ?_
        rintro e w2 ⟨he2, v2, rs2, rfl, ho2, hn2, hv2, hl2⟩
        obtain ⟨d, hd⟩ : ∃ d, val rs % b = d := ⟨_, rfl⟩
        have hdb : d < b := by rw [← hd]; exact Nat.mod_lt _ (by omega)
        rw [hd]
        obtain ⟨c, hc1, hc2, hc3, hc4, hc5⟩ := HAL.out d hdb
        have hext2 : A.extract d (d + 1) = A.extract d (d + 1) := rfl
        have hx1 : d + 1 ≤ A.size := by rw [HAS.out]; omega
        have hx2 : d ≤ A.size := by omega
        have hx62 : A.size ≤ 62 := by rw [HAS.out]; exact Nat.le_refl _
        have htc : (A.extract d (d + 1)).size ≤ 1 := by
          have h1 := bts_len (A.extract d (d + 1)) 0
          rw [hc1, Nat.sub_zero] at h1
          exact Nat.le_of_eq h1.symm
        have hlt : val rs2 < val rs := by rw [hv2]; exact Nat.div_lt_self hmp (by omega)
        have hbt : bts (A.extract d (d + 1) ++ t) 0 = c :: bts t 0 := by rw [bts_append, hc1]; rfl
        have hsz : (A.extract d (d + 1) ++ t).size - 1 = (bts t 0).length := by
          have h1 := bts_len (A.extract d (d + 1) ++ t) 0
          rw [hbt, List.length_cons, Nat.sub_zero] at h1
          rw [← h1, Nat.add_sub_cancel]
        have HREL : Hid (TxL w V b (val rs2) v2 (.string (A.extract d (d + 1) ++ t)) w2) := Lib.hid ⟨rs2, _, ho2, hn2, rfl, by rw [hbt, hv2]; exact HTD.out.next hb ⟨hc2, hc3, hc4, by rw [hc5, hd]⟩, by omega, Nat.le_refl _, .inr (by rw [hsz]; exact tdig_le HTD.out hmp), HE.out.trans he2⟩
        obtain ⟨a2, c2, rfl⟩ := ho2.form
        obtain ⟨k2, hk2⟩ : ∃ k2, val rs2 = k2 := ⟨_, rfl⟩
        rw [hk2] at HREL
        have hk3 : k2 < val rs := by omega
        clear he2 ho2 hn2 hv2 hl2 hd hc1 hc2 hc3 hc4 hc5 hext2 hlt hbt hsz hk2
        go_wp2_with fail
        go_roundg k2
        case measure => omega
        case rel => exact HREL.out
      · have e0 : decide (0 < rs.length) = false := decide_eq_false hr0
        have hm0 : val rs = 0 := by
          rcases Nat.eq_zero_or_pos (val rs) with h | h
          · exact h
          · exact absurd (hpi.2 h) hr0
        have HFIN : Hid (TextR V b w (.returned (.string t)) wr) := Lib.hid ⟨HE.out, t, rfl, by
          rcases HOR.out with ⟨h1, h2⟩ | h1
          · omega
          · intro h2
            have := HTD.out.1
            rw [h2, hm0] at this
            simp [dvb] at this
            omega, by have := HTD.out; rwa [hm0] at this, fun h => by omega, fun _ => by
          rcases HOR.out with ⟨h1, h2⟩ | h1
          · omega
          · exact h1⟩
        clear hpi hm0
        go_wp2_with fail
        go_ret
        exact HFIN.out

end Go.Proofs.YtocadbghhoibnaaFmt
