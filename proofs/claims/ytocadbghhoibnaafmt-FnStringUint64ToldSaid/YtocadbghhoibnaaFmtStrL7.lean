/- FnStringUint64 (printed by lawgen.py). -/
import Derived.Test.YtocadbghhoibnaaFmtMa5
import Derived.Test.YtocadbghhoibnaaFmtMa6
import Derived.Test.YtocadbghhoibnaaFmtMa1
set_option linter.unusedSimpArgs false
set_option linter.unusedVariables false
namespace Go.Proofs.YtocadbghhoibnaaFmt
open Go.RowKit

/-- The decimal digits so far. -/
def UDig (n m : Nat) (l : List Nat) : Prop := n = m * 10 ^ l.length + dvb 10 0 l ∧ (∀ c ∈ l, 48 ≤ c ∧ c ≤ 57) ∧ (l = [] ∨ 1 ≤ m)

theorem UDig.len {n m : Nat} {l : List Nat} (h : UDig n m l) (hn : n < 18446744073709551616) : l.length ≤ 19 := by
  rcases h.2.2 with h0 | h1
  · rw [h0]; simp
  · by_cases hl : l.length ≤ 19
    · exact hl
    · exfalso
      have h2 : 10 ^ 20 ≤ 10 ^ l.length := Nat.pow_le_pow_right (by decide) (by omega)
      have h3 : 1 * 10 ^ l.length ≤ m * 10 ^ l.length := Nat.mul_le_mul_right _ h1
      have h4 := h.1
      have h5 : (10 : Nat) ^ 20 = 100000000000000000000 := by decide
      omega

theorem dgv_dec {d : Nat} (h : d < 10) : dgv (48 + d) 10 = d := by
  unfold dgv
  rw [if_pos (by omega)]
  omega

theorem udig_val {n m : Nat} {l : List Nat} (h : UDig n m l) : n = m / 10 * 10 ^ (l.length + 1) + dvb 10 0 ((48 + m % 10) :: l) := by
  rw [dvb_cons, dgv_dec (Nat.mod_lt _ (by decide)), ← Nat.add_assoc, Nat.pow_succ, Nat.mul_comm (10 ^ l.length) 10, ← Nat.mul_assoc, ← Nat.add_mul]
  have : m / 10 * 10 + m % 10 = m := by omega
  rw [this]
  exact h.1

theorem UDig.next {n m : Nat} {l : List Nat} (h : UDig n m l) (hm : 10 ≤ m) : UDig n (m / 10) ((48 + m % 10) :: l) := by
  refine ⟨by rw [List.length_cons]; exact udig_val h, ?_, .inr (by omega)⟩
  intro c hc
  rcases List.mem_cons.1 hc with rfl | hc
  · omega
  · exact h.2.1 c hc

theorem UDig.fin {n m : Nat} {l : List Nat} (h : UDig n m l) (hm : m < 10) : numS ((48 + m % 10) :: l) 10 = some (n : Int) := by
  have hd : ∀ c ∈ (48 + m % 10) :: l, 48 ≤ c ∧ c ≤ 57 := by
    intro c hc
    rcases List.mem_cons.1 hc with rfl | hc
    · omega
    · exact h.2.1 c hc
  rw [numS_un (unsg_cons (by omega) (by omega)), natS_digs (by decide) (by simp) (fun c hc => dec_dig (hd c hc))]
  have := udig_val h
  rw [show m / 10 = 0 by omega, Nat.zero_mul, Nat.zero_add] at this
  rw [← this]
  rfl

def UL (n : Nat) (w : World) (v3 v4 : Value) (wr : World) : Prop := ∃ (m : Nat) (t : ByteArray), v4 = .int .u64 (m : Nat) ∧ v3 = .string t ∧ m < 18446744073709551616 ∧ UDig n m (bts t 0) ∧ Ext w wr

theorem rd_byte (w : World) (x : Nat) (hx : x < 256) : Rd .u8 (w.alloc (.cells #[.int .u8 (x : Nat)] 5)) (.slice (some ⟨w.heap.size, 0, none⟩) 1 1) [x] := by
  refine ⟨by simp [lim]; omega, _, 1, rfl, by simp, by simp, by simp, fun i hi => ⟨_, _, rfl, ?_⟩⟩
  simp at hi
  subst hi
  rw [blk_cell (heap_alloc_new _ _)]
  rfl

theorem bts_strN1 {bs : List Nat} (h : ∀ x ∈ bs, x < 256) : bts (strN bs) 0 = bs := by
  unfold bts strN
  rw [List.drop_zero, List.map_map]
  conv => rhs; rw [← List.map_id bs]
  refine List.map_congr_left fun x hx => ?_
  have := h x hx
  simp [Nat.mod_eq_of_lt this]

set_option maxRecDepth 100000 in
set_option maxHeartbeats 4000000 in
theorem fnStringUint64_walk (nn : Int) (a0 a1 a2 : Addr) (w : World) (hS : Sent a0 a1 a2 w) (hn : (Lit.int .u64 nn).wf = true) :
    Calls Tryf.prog 3 #[.int .u64 nn] w (ValR (.bool true) w) := by
  obtain ⟨hn0, hn1⟩ := wf_u64 hn
  obtain ⟨n, rfl⟩ := Int.eq_ofNat_of_zero_le hn0
  have hnl : n < 18446744073709551616 := by omega
  have HNL := Lib.hid hnl
  have HS := Lib.hid hS
  clear hS hn hn0 hn1
  go_enter Tryf.func3, Tryf.ntmps3
  go_wp2_with fail
  go_loopw [3, 4] (fun v3 v4 wr => UL n w v3 v4 wr) (fun _ v4 _ => (intOf v4).toNat)
  case atStart => exact ⟨n, { data := #[] }, rfl, rfl, hnl, ⟨by simp [bts, dvb], by simp [bts], .inl rfl⟩, Ext.refl _⟩
  case round =>
    obtain ⟨m, t, rfl, rfl, hml, hud, hext⟩ := hrel
    have HUD := Lib.hid hud
    have HE := Lib.hid hext
    have hlen : t.size ≤ 19 := by have := hud.len HNL.out; rw [bts_len] at this; omega
    clear hud hext
    obtain ⟨d, hd⟩ : ∃ d, m % 10 = d := ⟨_, rfl⟩
    have hdl : d < 10 := by omega
    have hmi : (m : Int) % 10 = (d : Int) := by omega
    obtain ⟨c, hc⟩ : ∃ c, 48 + d = c := ⟨_, rfl⟩
    have hci : (48 : Int) + (d : Int) = (c : Int) := by omega
    have hcv := conv_rd [c] (.slice (some ⟨wr.heap.size, 0, none⟩) 1 1) (wr.alloc (.cells #[.int .u8 (c : Nat)] 5)) (rd_byte wr c (by omega))
    have hbs : bts (strN [c]) 0 = [c] := bts_strN1 (by intro x hx; simp at hx; omega)
    have htc : (strN [c]).size ≤ 1 := by
      have h1 := bts_len (strN [c]) 0
      rw [hbs] at h1
      simp at h1
      omega
    have hss : (strN [c] ++ t).size ≤ 140737488357000 := by
      rw [size_append]
      omega
    have hbt : bts (strN [c] ++ t) 0 = (48 + m % 10) :: bts t 0 := by rw [bts_append, hbs, hd, hc]; rfl
    have HBT := Lib.hid hbt
    clear hbs hbt hd hc
    generalize strN [c] = tc at *
    by_cases hm10 : m < 10
    · have em : decide (m < 10) = true := decide_eq_true hm10
      have em' : decide ((m : Int) < 10) = true := decide_eq_true (by omega)
      have HM : Hid (numS (bts (tc ++ t) 0) 10 = some (n : Int)) := Lib.hid (by rw [HBT.out]; exact HUD.out.fin hm10)
      go_wp2_with fail
      refine (setString_s _ 10 a0 a1 a2 _ hss (HS.out.ext (HE.out.trans (Ext.alloc _ _))) (.inr (by omega)) (by omega)).mono ?_
      rintro e w1 ⟨he, y, rfl, n1, b1, l1, c1, rfl, hy⟩
      rw [HM.out] at hy ⊢
      simp only [Option.isSome, Option.getD] at hy ⊢
      have HE1 := Lib.hid ((HE.out.trans (Ext.alloc _ _)).trans he)
      have HX1 := Lib.hid he
      have HY1 := Lib.hid hy
      clear he hy
      go_wp2_with fail
      have g1 : (w1.alloc (.cells #[.bool n1, .slice b1 l1 c1] 26)).heap[w1.heap.size]? = some (.cells #[.bool n1, .slice b1 l1 c1] 26) := (Ext.refl (w1.alloc (.cells #[.bool n1, .slice b1 l1 c1] 26))).block (heap_alloc_new _ _)
      have z1 := HY1.out.ext ((Ext.alloc _ (.cells #[.bool n1, .slice b1 l1 c1] 26)).trans (Ext.refl (w1.alloc (.cells #[.bool n1, .slice b1 l1 c1] 26))))
      have hW : Ext w (w1.alloc (.cells #[.bool n1, .slice b1 l1 c1] 26)) := HE1.out.trans (Ext.alloc _ _)
      generalize (w1.alloc (.cells #[.bool n1, .slice b1 l1 c1] 26)) = W at *
      have G1 := Lib.hid g1
      have HZ1 := Lib.hid z1
      have HW := Lib.hid hW
      clear hW g1 z1
      generalize w1.heap.size = p1 at *

      refine wp_region_D preExt mixed [Is (.bool true), Is (.bool true), IsC (13194139533500) ((n : Int)), Is (.int .u64 (n : Nat)), IsC (1) ((n : Int)), Is (.bool true), Is (.bool true), Is (.bool true), IsC (13194139533500) ((n : Int)), Is (.bool true), Is (.bool true), Is (.bool true), IsC (13194139533500) ((n : Int)), IsW (13194139533500) ((n : Int)), Is (.int .u64 (low ((n : Int)))), Is (.int .u64 (n : Nat)), Is (.bool true), Is (.bool true)] (by kernel_rfl) ?mono rfl ?steps ?last
      case mono =>
        simp only [List.forall_mem_cons, List.not_mem_nil, false_implies, implies_true, and_true]
        refine ⟨?_, ?_, ?_, ?_, ?_, ?_, ?_, ?_, ?_, ?_, ?_, ?_, ?_, ?_, ?_, ?_, ?_, ?_⟩
        all_goals first | exact fun _ _ _ _ q => q | exact fun _ _ _ he q => q.ext he
      case steps =>
        refine ⟨?_, ?_, ?_, ?_, ?_, ?_, ?_, ?_, ?_, ?_, ?_, ?_, ?_, ?_, ?_, ?_, ?_, ?_, trivial⟩
        all_goals
          intro u0 u1 u2 u3 u4 u5 u6 u7 u8 u9 u10 u11 u12 u13 u14 u15 u16 u17 u18 w1 he hk
          simp [KnownD, Oper.looksAt, Op.operands, Call.operands, List.findIdx?_cons, Act.put] at hk
          simp only [Act.put, List.setIfInBounds_toArray, List.set_cons_succ, List.set_cons_zero]
        · go_wp2_with fail
          exact ⟨rfl, Ext.refl _, by show (_ : Value) = _; (first | rfl | simp); try rfl⟩
        · have k0 := hk
          obtain rfl : u0 = .bool true := k0
          go_wp2_with fail
          exact ⟨rfl, Ext.refl _, by show (_ : Value) = _; (first | rfl | simp); try rfl⟩
        · have k0 := hk
          obtain rfl : u1 = .bool true := k0
          have hb := he.block G1.out
          have q0 := blk_cell hb 0
          have q1 := blk_cell hb 1
          simp at q0 q1
          clear hb
          go_wp2_with fail
          exact ⟨rfl, Ext.refl _, HZ1.out.ext he⟩
        · have k0 := hk
          obtain rfl : u1 = .bool true := k0
          go_wp2_with fail
          exact ⟨rfl, Ext.refl _, by show (_ : Value) = _; (first | rfl | simp); try rfl⟩
        · obtain ⟨k0, k1⟩ := hk
          obtain rfl : u3 = .int .u64 (n : Nat) := k0
          obtain rfl : u1 = .bool true := k1
          go_wp2_with fail
          refine (setUint_z n _ HNL.out).mono ?_
          rintro e w2 ⟨he2, x, rfl, hx⟩
          have HX := Lib.hid hx
          clear hx
          go_wp2_with fail
          exact ⟨rfl, he2, HX.out⟩
        · obtain ⟨k0, k1, k2⟩ := hk
          obtain rfl : u1 = .bool true := k2
          have H0 : Hid (IsC (13194139533500) ((n : Int)) u2 w1) := Lib.hid (by first | exact k0 | simpa using k0)
          have H1 : Hid (IsC (1) ((n : Int)) u4 w1) := Lib.hid (by first | exact k1 | simpa using k1)
          clear k0 k1
          go_wp2_with fail
          refine (same_z (13194139533500) (1) ((n : Int)) ((n : Int)) _ _ _ (H0.out.z) (H1.out.z) (by omega) (by omega)).mono ?_
          rintro e w2 ⟨he2, x, rfl, hx⟩
          obtain rfl : x = .bool true := hx.trans (by simp)
          go_wp2_with fail
          exact ⟨rfl, he2, rfl⟩
        · obtain ⟨k0, k1⟩ := hk
          obtain rfl : u1 = .bool true := k0
          obtain rfl : u5 = .bool true := k1
          go_wp2_with fail
          exact ⟨rfl, Ext.refl _, by show (_ : Value) = _; (first | rfl | simp); try rfl⟩
        · have k0 := hk
          obtain rfl : u6 = .bool true := k0
          go_wp2_with fail
          exact ⟨rfl, Ext.refl _, by show (_ : Value) = _; (first | rfl | simp); try rfl⟩
        · have k0 := hk
          obtain rfl : u7 = .bool true := k0
          have hb := he.block G1.out
          have q0 := blk_cell hb 0
          have q1 := blk_cell hb 1
          simp at q0 q1
          clear hb
          go_wp2_with fail
          exact ⟨rfl, Ext.refl _, HZ1.out.ext he⟩
        · obtain ⟨k0, k1⟩ := hk
          obtain rfl : u7 = .bool true := k1
          have H0 : Hid (IsC (13194139533500) ((n : Int)) u8 w1) := Lib.hid (by first | exact k0 | simpa using k0)
          clear k0
          go_wp2_with fail
          refine (isUint_z (13194139533500) ((n : Int)) _ _ (H0.out.z) (by omega)).mono ?_
          rintro e w2 ⟨he2, x, rfl, hx⟩
          obtain rfl : x = .bool true := hx.trans (by have := HNL.out; simp [isU]; omega)
          go_wp2_with fail
          exact ⟨rfl, he2, rfl⟩
        · obtain ⟨k0, k1⟩ := hk
          obtain rfl : u7 = .bool true := k0
          obtain rfl : u9 = .bool true := k1
          go_wp2_with fail
          exact ⟨rfl, Ext.refl _, by show (_ : Value) = _; (first | rfl | simp); try rfl⟩
        · have k0 := hk
          obtain rfl : u10 = .bool true := k0
          go_wp2_with fail
          exact ⟨rfl, Ext.refl _, by show (_ : Value) = _; (first | rfl | simp); try rfl⟩
        · have k0 := hk
          obtain rfl : u11 = .bool true := k0
          have hb := he.block G1.out
          have q0 := blk_cell hb 0
          have q1 := blk_cell hb 1
          simp at q0 q1
          clear hb
          go_wp2_with fail
          exact ⟨rfl, Ext.refl _, HZ1.out.ext he⟩
        · obtain ⟨k0, k1⟩ := hk
          obtain rfl : u11 = .bool true := k1
          have H0 : Hid (IsC (13194139533500) ((n : Int)) u12 w1) := Lib.hid (by first | exact k0 | simpa using k0)
          clear k0
          go_wp2_with fail
          refine (toImpl_z (13194139533500) ((n : Int)) _ _ (H0.out.z) (by omega)).mono ?_
          rintro e w2 ⟨he2, x, rfl, hx⟩
          have HX := Lib.hid hx
          clear hx
          go_wp2_with fail
          exact ⟨rfl, he2, HX.out⟩
        · obtain ⟨k0, k1⟩ := hk
          obtain rfl : u11 = .bool true := k1
          have H0 : Hid (IsW (13194139533500) ((n : Int)) u13 w1) := Lib.hid (by first | exact k0 | simpa using k0)
          clear k0
          go_wp2_with fail
          refine (implUint64_z (13194139533500) ((n : Int)) _ _ (H0.out.z) (by omega)).mono ?_
          rintro e w2 ⟨he2, x, rfl, hx⟩
          obtain rfl : x = .int .u64 (low ((n : Int))) := hx
          go_wp2_with fail
          exact ⟨rfl, he2, rfl⟩
        · have k0 := hk
          obtain rfl : u11 = .bool true := k0
          go_wp2_with fail
          exact ⟨rfl, Ext.refl _, by show (_ : Value) = _; (first | rfl | simp); try rfl⟩
        · obtain ⟨k0, k1, k2⟩ := hk
          obtain rfl : u14 = .int .u64 (low ((n : Int))) := k0
          obtain rfl : u15 = .int .u64 (n : Nat) := k1
          obtain rfl : u11 = .bool true := k2
          go_wp2_with fail
          exact ⟨rfl, Ext.refl _, by show (_ : Value) = _; (have := HNL.out; simp [low]; omega); try rfl⟩
        · obtain ⟨k0, k1⟩ := hk
          obtain rfl : u11 = .bool true := k0
          obtain rfl : u16 = .bool true := k1
          go_wp2_with fail
          exact ⟨rfl, Ext.refl _, by show (_ : Value) = _; (first | rfl | simp); try rfl⟩
      case last =>
        intro w1 he u0 h0 u1 h1 u2 h2 u3 h3 u4 h4 u5 h5 u6 h6 u7 h7 u8 h8 u9 h9 u10 h10 u11 h11 u12 h12 u13 h13 u14 h14 u15 h15 u16 h16 u17 h17
        obtain rfl : u17 = .bool true := h17
        clear h0 h1 h2 h3 h4 h5 h6 h7 h8 h9 h10 h11 h12 h13 h14 h15 h16
        simp only [LastD, Act.put, List.setIfInBounds_toArray, List.set_cons_succ, List.set_cons_zero]
        have HE := Lib.hid ((HW.out).trans he)
        clear he
        go_wp2_with fail
        go_ret
        exact ⟨HE.out, rfl⟩

    · have em : decide (m < 10) = false := decide_eq_false hm10
      have em' : decide ((m : Int) < 10) = false := decide_eq_false (by omega)
      have HREL : Hid (UL n w (.string (tc ++ t)) (.int .u64 ((m / 10 : Nat) : Int)) (wr.alloc (.cells #[.int .u8 (c : Nat)] 5))) := Lib.hid ⟨m / 10, tc ++ t, rfl, rfl, by omega, by rw [HBT.out]; exact HUD.out.next (by omega), HE.out.trans (Ext.alloc _ _)⟩
      have hlt : m / 10 < m := by omega
      go_wp2_with fail
      go_roundw
      case rel => exact HREL.out
      case measure => simp [intOf]; omega

end Go.Proofs.YtocadbghhoibnaaFmt

