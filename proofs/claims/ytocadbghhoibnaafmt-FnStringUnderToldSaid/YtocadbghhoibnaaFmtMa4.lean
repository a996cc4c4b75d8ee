/- Base texts of the seat, merged: ScanC. -/
import Derived.Test.YtocadbghhoibnaaFmtMa3
import Derived.Deep.CutBlock
set_option linter.unusedSimpArgs false
set_option linter.unusedVariables false

/- nat.scan: the walk. -/
namespace Go.Proofs.YtocadbghhoibnaaFmt
open Go.RowKit

theorem method_read (a : Addr) (w : World) : (method 297 107 (.pointer (some a)) "ReadByte").run Tryf.prog w = .ok (148, .pointer (some a)) w := by kernel_rfl

theorem method_unread (a : Addr) (w : World) : (method 297 107 (.pointer (some a)) "UnreadByte").run Tryf.prog w = .ok (149, .pointer (some a)) w := by kernel_rfl

theorem pfx_oct {c : Nat} (h1 : ¬ c = 98) (h2 : ¬ c = 66) (h3 : ¬ c = 111) (h4 : ¬ c = 79) (h5 : ¬ c = 120) (h6 : ¬ c = 88) (t : List Nat) : pfx (48 :: c :: t) = (8, 1) := by
  simp [pfx, h1, h2, h3, h4, h5, h6]

/-- What stands ahead of the digits: the slots 9, 10, 11, 13, 15, 16. -/
def ScPre (p : Nat) (s : ByteArray) (a0 : Addr) (base i0 : Nat) (w : World) (v9 v10 v11 v13 v15 v16 : Value) (wc : World) : Prop :=
  ∃ (b q ch j pre : Nat) (ev : Value) (st : Sc), Pre s a0 base i0 b q ch j pre ev st ∧ v9 = .int .i64 (b : Nat) ∧ v10 = .int .i64 (st.ct : Nat) ∧ v11 = ev ∧ v13 = .int .i32 (st.pv : Nat) ∧ v15 = .int .u8 (ch : Nat) ∧ v16 = .int .i64 (pre : Nat) ∧ RdrAt p s j wc ∧ Upd (· = p) w wc

set_option maxRecDepth 100000 in
set_option maxHeartbeats 4000000 in
theorem scan_any (p : Nat) (s : ByteArray) (i0 base L : Nat) (a0 a1 a2 : Addr) (w : World) (h : RdrAt p s i0 w) (hs : s.size ≤ 9223372036854775800) (hi : i0 ≤ s.size) (hS : Sent a0 a1 a2 w) (hp : 3 ≤ p) (hpw : p < w.heap.size) (hb : base = 0 ∨ 2 ≤ base) (hb2 : base ≤ 62) (hL : L ≤ 17592186044415) (hfit : FitS s base i0 L) :
    Calls Tryf.prog 108 #[.slice none 0 0, .iface 107 (.pointer (some ⟨p, 0, none⟩)), .int .i64 (base : Nat), .bool false] w (ScanR p s base i0 L a1 a2 w) := by
  obtain ⟨iw, hiw, hz0, hz1, hz2⟩ := info_parts infoWord
  have HIW := Lib.hid hiw
  have HIW0 := Lib.hid hz0
  have HIW1 := Lib.hid hz1
  have HIW2 := Lib.hid hz2
  clear hiw hz0 hz1 hz2
  have hm1 := method_read
  have hm2 := method_unread
  have HS := Lib.hid hS
  have HR := Lib.hid h
  have HF := Lib.hid hfit
  clear hS h hfit
  have b2 : decide ((base : Int) ≤ 62) = true := by simp; omega
  go_enter Tryf.func108, Tryf.ntmps108
  go_upto_region 1 with fail
  go_cut [12] from 24 to 56 (fun v12 wx => v12 = .bool true ∧ w = wx)
  case first =>
    as_aux_lemma =>
      by_cases h0 : base = 0
      · subst h0
        go_wp2_with fail
        go_meet
        case rel => exact ⟨rfl, rfl⟩
      · have b1 : decide ((2 : Int) ≤ (base : Int)) = true := by simp; omega
        have b0 : ((base : Int) == 0) = false := by simp; omega
        go_wp2_with fail
        go_meet
        case rel => exact ⟨rfl, rfl⟩
  case rest =>
    as_aux_lemma =>
      obtain ⟨rfl, rfl⟩ := hcut
      go_upto_if 71 with fail
      refine (readByte_any p s i0 a0 a1 a2 _ HR.out hs hi HS.out hp).mono ?_
      rintro e w1 ⟨c1, ev1, j1, rfl, hr1, hj1, hu1⟩
      have HR1 := Lib.hid hr1
      have HJ1 := Lib.hid hj1
      have HU1 := Lib.hid hu1
      clear hr1 hj1 hu1
      go_upto_if 71 with fail
      go_cut [9, 10, 11, 13, 15, 16] from 57 to 105 (fun v9 v10 v11 v13 v15 v16 wx => ScPre p s a0 base i0 w v9 v10 v11 v13 v15 v16 wx)
      case first =>
        as_aux_lemma =>
          --P1[
          by_cases h0 : base = 0
          · subst h0
            rcases HR1.out with ⟨hlt, hcons, hc1, hev1, hjj⟩ | ⟨hlt, hnil, hc1, hev1, hjj⟩
            · subst hev1
              by_cases hc48 : c1 = 48
              · subst hc48
                subst hjj
                have HCO := Lib.hid hcons
                clear hcons
                go_wp2_with fail
                refine (readByte_any p s (i0 + 1) a0 a1 a2 _ HJ1.out hs (by omega) (HS.out.upd HU1.out (by intro k hk; omega)) hp).mono ?_
                rintro e w2 ⟨c2, ev2, j2, rfl, hr2, hj2, hu2⟩
                have HU2 := Lib.hid (HU1.out.same hu2)
                have HS2 := Lib.hid (HS.out.upd HU2.out (by intro k hk; omega))
                rcases hr2 with ⟨hlt2, hcons2, hc2, hev2, hjj2⟩ | ⟨hlt2, hnil2, hc2, hev2, hjj2⟩
                · subst hev2
                  subst hjj2
                  have HL : Hid (bts s i0 = 48 :: c2 :: bts s (i0 + 2)) := Lib.hid (by rw [HCO.out, hcons2])
                  have HJ2 := Lib.hid hj2
                  have HC2 := Lib.hid hcons2
                  clear hu2 hj2 hcons2
                  by_cases k98 : c2 = 98
                  · subst k98
                    go_wp2_with fail
                    refine (readByte_any p s (i0 + 1 + 1) a0 a1 a2 _ HJ2.out hs (by omega) HS2.out hp).mono ?_
                    rintro e w3 ⟨c3, ev3, j3, rfl, hr3, hj3, hu3⟩
                    have HREL : Hid (ScPre p s a0 0 i0 w (.int .i64 (2 : Nat)) (.int .i64 (0 : Nat)) ev3 (.int .i32 (48 : Nat)) (.int .u8 (c3 : Nat)) (.int .i64 (98 : Nat)) w3) := Lib.hid ⟨2, i0 + 2, c3, j3, 98, ev3, ⟨48, false, 0, 0⟩, pre_pfx (k := 2) (by omega) (by omega) HL.out rfl (by omega) (by omega) hr3, rfl, rfl, rfl, rfl, rfl, rfl, hj3, HU2.out.same hu3⟩
                    clear hr3 hj3 hu3
                    go_wp2_with fail
                    go_meet
                    case rel => exact HREL.out
                  by_cases k66 : c2 = 66
                  · subst k66
                    go_wp2_with fail
                    refine (readByte_any p s (i0 + 1 + 1) a0 a1 a2 _ HJ2.out hs (by omega) HS2.out hp).mono ?_
                    rintro e w3 ⟨c3, ev3, j3, rfl, hr3, hj3, hu3⟩
                    have HREL : Hid (ScPre p s a0 0 i0 w (.int .i64 (2 : Nat)) (.int .i64 (0 : Nat)) ev3 (.int .i32 (48 : Nat)) (.int .u8 (c3 : Nat)) (.int .i64 (98 : Nat)) w3) := Lib.hid ⟨2, i0 + 2, c3, j3, 98, ev3, ⟨48, false, 0, 0⟩, pre_pfx (k := 2) (by omega) (by omega) HL.out rfl (by omega) (by omega) hr3, rfl, rfl, rfl, rfl, rfl, rfl, hj3, HU2.out.same hu3⟩
                    clear hr3 hj3 hu3
                    go_wp2_with fail
                    go_meet
                    case rel => exact HREL.out
                  by_cases k111 : c2 = 111
                  · subst k111
                    go_wp2_with fail
                    refine (readByte_any p s (i0 + 1 + 1) a0 a1 a2 _ HJ2.out hs (by omega) HS2.out hp).mono ?_
                    rintro e w3 ⟨c3, ev3, j3, rfl, hr3, hj3, hu3⟩
                    have HREL : Hid (ScPre p s a0 0 i0 w (.int .i64 (8 : Nat)) (.int .i64 (0 : Nat)) ev3 (.int .i32 (48 : Nat)) (.int .u8 (c3 : Nat)) (.int .i64 (111 : Nat)) w3) := Lib.hid ⟨8, i0 + 2, c3, j3, 111, ev3, ⟨48, false, 0, 0⟩, pre_pfx (k := 2) (by omega) (by omega) HL.out rfl (by omega) (by omega) hr3, rfl, rfl, rfl, rfl, rfl, rfl, hj3, HU2.out.same hu3⟩
                    clear hr3 hj3 hu3
                    go_wp2_with fail
                    go_meet
                    case rel => exact HREL.out
                  by_cases k79 : c2 = 79
                  · subst k79
                    go_wp2_with fail
                    refine (readByte_any p s (i0 + 1 + 1) a0 a1 a2 _ HJ2.out hs (by omega) HS2.out hp).mono ?_
                    rintro e w3 ⟨c3, ev3, j3, rfl, hr3, hj3, hu3⟩
                    have HREL : Hid (ScPre p s a0 0 i0 w (.int .i64 (8 : Nat)) (.int .i64 (0 : Nat)) ev3 (.int .i32 (48 : Nat)) (.int .u8 (c3 : Nat)) (.int .i64 (111 : Nat)) w3) := Lib.hid ⟨8, i0 + 2, c3, j3, 111, ev3, ⟨48, false, 0, 0⟩, pre_pfx (k := 2) (by omega) (by omega) HL.out rfl (by omega) (by omega) hr3, rfl, rfl, rfl, rfl, rfl, rfl, hj3, HU2.out.same hu3⟩
                    clear hr3 hj3 hu3
                    go_wp2_with fail
                    go_meet
                    case rel => exact HREL.out
                  by_cases k120 : c2 = 120
                  · subst k120
                    go_wp2_with fail
                    refine (readByte_any p s (i0 + 1 + 1) a0 a1 a2 _ HJ2.out hs (by omega) HS2.out hp).mono ?_
                    rintro e w3 ⟨c3, ev3, j3, rfl, hr3, hj3, hu3⟩
                    have HREL : Hid (ScPre p s a0 0 i0 w (.int .i64 (16 : Nat)) (.int .i64 (0 : Nat)) ev3 (.int .i32 (48 : Nat)) (.int .u8 (c3 : Nat)) (.int .i64 (120 : Nat)) w3) := Lib.hid ⟨16, i0 + 2, c3, j3, 120, ev3, ⟨48, false, 0, 0⟩, pre_pfx (k := 2) (by omega) (by omega) HL.out rfl (by omega) (by omega) hr3, rfl, rfl, rfl, rfl, rfl, rfl, hj3, HU2.out.same hu3⟩
                    clear hr3 hj3 hu3
                    go_wp2_with fail
                    go_meet
                    case rel => exact HREL.out
                  by_cases k88 : c2 = 88
                  · subst k88
                    go_wp2_with fail
                    refine (readByte_any p s (i0 + 1 + 1) a0 a1 a2 _ HJ2.out hs (by omega) HS2.out hp).mono ?_
                    rintro e w3 ⟨c3, ev3, j3, rfl, hr3, hj3, hu3⟩
                    have HREL : Hid (ScPre p s a0 0 i0 w (.int .i64 (16 : Nat)) (.int .i64 (0 : Nat)) ev3 (.int .i32 (48 : Nat)) (.int .u8 (c3 : Nat)) (.int .i64 (120 : Nat)) w3) := Lib.hid ⟨16, i0 + 2, c3, j3, 120, ev3, ⟨48, false, 0, 0⟩, pre_pfx (k := 2) (by omega) (by omega) HL.out rfl (by omega) (by omega) hr3, rfl, rfl, rfl, rfl, rfl, rfl, hj3, HU2.out.same hu3⟩
                    clear hr3 hj3 hu3
                    go_wp2_with fail
                    go_meet
                    case rel => exact HREL.out
                  have l98 : ((c2 : Int) == 98) = false := by simp; omega
                  have l66 : ((c2 : Int) == 66) = false := by simp; omega
                  have l111 : ((c2 : Int) == 111) = false := by simp; omega
                  have l79 : ((c2 : Int) == 79) = false := by simp; omega
                  have l120 : ((c2 : Int) == 120) = false := by simp; omega
                  have l88 : ((c2 : Int) == 88) = false := by simp; omega
                  have HREL : Hid (ScPre p s a0 0 i0 w (.int .i64 (8 : Nat)) (.int .i64 (0 : Nat)) .nilIface (.int .i32 (48 : Nat)) (.int .u8 (c2 : Nat)) (.int .i64 (48 : Nat)) w2) := Lib.hid ⟨8, i0 + 1, c2, i0 + 1 + 1, 48, .nilIface, ⟨48, false, 0, 0⟩, pre_pfx (k := 1) (by omega) (by omega) HL.out (pfx_oct k98 k66 k111 k79 k120 k88 _) (by omega) (fun _ => hlt2) (.inl ⟨hlt2, HC2.out, hc2, rfl, rfl⟩), rfl, rfl, rfl, rfl, rfl, rfl, HJ2.out, HU2.out⟩
                  go_wp2_with fail
                  go_meet
                  case rel => exact HREL.out
                · have HREL : Hid (ScPre p s a0 0 i0 w (.int .i64 (10 : Nat)) (.int .i64 (1 : Nat)) ev2 (.int .i32 (48 : Nat)) (.int .u8 (c2 : Nat)) (.int .i64 (0 : Nat)) w2) := Lib.hid ⟨10, i0 + 1, c2, j2, 0, ev2, ⟨48, false, 1, 0⟩, pre_zero (by omega) HCO.out hnil2 (.inr ⟨hlt2, hnil2, hc2, hev2, hjj2⟩), rfl, rfl, rfl, rfl, rfl, rfl, hj2, HU2.out⟩
                  subst hev2
                  subst hc2
                  clear hu2 hj2 hnil2
                  go_wp2_with fail
                  go_meet
                  case rel => exact HREL.out
              · have hb48 : ((c1 : Int) == 48) = false := by simp; omega
                have HREL : Hid (ScPre p s a0 0 i0 w (.int .i64 (10 : Nat)) (.int .i64 (0 : Nat)) .nilIface (.int .i32 (46 : Nat)) (.int .u8 (c1 : Nat)) (.int .i64 (0 : Nat)) w1) := Lib.hid ⟨10, i0, c1, j1, 0, .nilIface, ⟨46, false, 0, 0⟩, pre_ten hi HR1.out (by rw [hcons]; intro t ht; simp at ht; omega), rfl, rfl, rfl, rfl, rfl, rfl, HJ1.out, HU1.out⟩
                clear hcons
                go_wp2_with fail
                go_meet
                case rel => exact HREL.out
            · have HREL : Hid (ScPre p s a0 0 i0 w (.int .i64 (10 : Nat)) (.int .i64 (0 : Nat)) ev1 (.int .i32 (46 : Nat)) (.int .u8 (c1 : Nat)) (.int .i64 (0 : Nat)) w1) := Lib.hid ⟨10, i0, c1, j1, 0, ev1, ⟨46, false, 0, 0⟩, pre_ten hi HR1.out (by rw [hnil]; intro t ht; simp at ht), rfl, rfl, rfl, rfl, rfl, rfl, HJ1.out, HU1.out⟩
              subst hev1
              subst hc1
              clear hnil
              go_wp2_with fail
              go_meet
              case rel => exact HREL.out
          · have b0 : ((base : Int) == 0) = false := by simp; omega
            go_wp2_with fail
            go_meet
            case rel => exact ⟨base, i0, c1, j1, 0, ev1, ⟨46, false, 0, 0⟩, pre_base (by omega) hb2 hi HR1.out, rfl, rfl, rfl, rfl, rfl, rfl, HJ1.out, HU1.out⟩
          --P1]
      case rest =>
        as_aux_lemma =>
          obtain ⟨b, q, ch, j, pre, ev, st, hpre, rfl, rfl, rfl, rfl, rfl, rfl, hj, hu⟩ := hcut
          have HPRE := Lib.hid hpre
          have HJ := Lib.hid hj
          have HU := Lib.hid hu
          clear hpre hj hu
          have hbl : 2 ≤ b := HPRE.out.b2
          have hbh : b ≤ 62 := HPRE.out.b62
          have hbw : IntKind.u64.wrap (b : Int) = (b : Int) := by rw [IntKind.wrap_u64]; omega
          go_upto_block 1 with fail
          go_cut [18, 19] from 110 to 121 (fun v18 v19 wx => ∃ (n bn : Nat) (pk : Bool), v18 = .int .u64 (bn : Nat) ∧ v19 = .int .i64 (n : Nat) ∧ Pk b n bn pk ∧ wc = wx)
          case first =>
            as_aux_lemma =>
              --P2[
              by_cases h2 : b = 2
              · have e2 : ((b : Int) == 2) = true := by simp; omega
                have HREL : Hid (Pk b 64 0 true) := Lib.hid ⟨by omega, by omega, by rw [h2]; decide, .inl ⟨rfl, rfl, by rw [h2], .inl ⟨h2, rfl⟩⟩⟩
                clear h2
                go_wp2_with fail
                go_meet
                case rel => exact ⟨64, 0, true, rfl, rfl, HREL.out, rfl⟩
              have e2 : ((b : Int) == 2) = false := by simp; omega
              by_cases h4 : b = 4
              · have e4 : ((b : Int) == 4) = true := by simp; omega
                have HREL : Hid (Pk b 32 0 true) := Lib.hid ⟨by omega, by omega, by rw [h4]; decide, .inl ⟨rfl, rfl, by rw [h4], .inr (.inl ⟨h4, rfl⟩)⟩⟩
                clear h4
                go_wp2_with fail
                go_meet
                case rel => exact ⟨32, 0, true, rfl, rfl, HREL.out, rfl⟩
              have e4 : ((b : Int) == 4) = false := by simp; omega
              by_cases h16 : b = 16
              · have e16 : ((b : Int) == 16) = true := by simp; omega
                have HREL : Hid (Pk b 16 0 true) := Lib.hid ⟨by omega, by omega, by rw [h16]; decide, .inl ⟨rfl, rfl, by rw [h16], .inr (.inr ⟨h16, rfl⟩)⟩⟩
                clear h16
                go_wp2_with fail
                go_meet
                case rel => exact ⟨16, 0, true, rfl, rfl, HREL.out, rfl⟩
              have e16 : ((b : Int) == 16) = false := by simp; omega
              go_wp2_with fail
              refine (maxPow_any b _ hbl hbh).mono ?_
              rintro e wm ⟨n, hn1, hn2, hn3, rfl, rfl⟩
              have HREL : Hid (Pk b n (b ^ n) false) := Lib.hid ⟨hn1, hn2, by omega, .inr ⟨rfl, Nat.pow_pos (by omega), rfl, hn3, h2, h4, h16⟩⟩
              clear hn3
              generalize b ^ n = bn at *
              go_wp2_with fail
              go_meet
              case rel => exact ⟨n, bn, false, rfl, rfl, HREL.out, rfl⟩
              --P2]
          case rest =>
            as_aux_lemma =>
              obtain ⟨n, bn, pk, rfl, rfl, hpk, rfl⟩ := hcut
              have HPK := Lib.hid hpk
              clear hpk
              obtain ⟨u, hu0⟩ : ∃ u : Bool, decide (base = 0) = u := ⟨_, rfl⟩
              obtain ⟨R, hR0⟩ : ∃ R, scRun u b st (bts s q) = R := ⟨_, rfl⟩
              have HU0 := Lib.hid hu0
              have HR0 := Lib.hid hR0
              have hv0 : st.v = 0 := HPRE.out.v
              have HI0 : Hid (ScI p s u b n pk w R q j st [] 0 0 (.slice none 0 0) wc) := Lib.hid ⟨hR0, HPRE.out.qs, by have := HPRE.out.ct; omega, by have := HPRE.out.pv; omega, by rw [hv0]; exact Gat.start pk (by have := HPK.out.1; omega), by simp, ⟨by simp, rfl, .inl ⟨rfl, rfl⟩⟩, HJ.out, HU.out⟩
              have hiv0 : st.iv = false := HPRE.out.iv
              have HBP := Lib.hid (fit_pk HF.out HPRE.out HPK.out u)
              rw [hR0] at HBP
              clear hu0 hR0 hv0
              go_upto_block 2 with fail
              go_cut [0, 3, 10, 11, 13, 14, 20, 21, 22] from 122 to 210 (fun v0 v3 v10 v11 v13 v14 v20 v21 v22 wx => ScOut p s a0 u b n pk w R v0 v3 v10 v11 v13 v14 v20 v21 v22 wx)
              case first =>
                as_aux_lemma =>
                  go_wp2_with fail
                  go_loopg [0, 3, 10, 11, 13, 14, 15, 20, 21, 22] (s.size - q) (fun k v0 v3 v10 v11 v13 v14 v15 v20 v21 v22 wr => ScLoop p s a0 u b n pk w R k v0 v3 v10 v11 v13 v14 v15 v20 v21 v22 wr)
                  case atStart => exact ⟨q, ch, j, _, st, [], 0, 0, rfl, rfl, rfl, rfl, by rw [hiv0], rfl, rfl, rfl, rfl, HPRE.out.rd, HI0.out, Nat.le_refl _⟩
                  case round =>
                    obtain ⟨q1, c1', jx, evx, sx, zs, i, di, rfl, rfl, rfl, rfl, rfl, rfl, rfl, rfl, rfl, hrd, hI, hk⟩ := hrel
                    have HI := Lib.hid hI
                    clear hI
                    rcases hrd with ⟨hlt, hcons, hc1, hev, hjj⟩ | ⟨hlt, hnil, hc1, hev, hjj⟩
                    · subst hev
                      subst hjj
                      have HC := Lib.hid hcons
                      clear hcons
                      go_upto_region 47 with fail
                      go_cut [128] from 122 to 210 (fun v128 wx => v128 = .bool false ∧ wr = wx)
                      case first =>
                        as_aux_lemma =>
                          by_cases h46 : c1' = 46
                          · have e46 : ((c1' : Int) == 46) = true := by simp; omega
                            go_wp2_with fail
                            go_meet
                            case rel => exact ⟨rfl, rfl⟩
                          · have e46 : ((c1' : Int) == 46) = false := by simp; omega
                            go_wp2_with fail
                            go_meet
                            case rel => exact ⟨rfl, rfl⟩
                      case rest =>
                        as_aux_lemma =>
                          obtain ⟨rfl, rfl⟩ := hcut
                          go_upto_if 128 with fail
                          go_cut [0, 3, 10, 13, 14, 20, 21, 22] from 122 to 210 (fun v0 v3 v10 v13 v14 v20 v21 v22 wx => ScMid p s u b n pk w R q1 v0 v3 v10 v13 v14 v20 v21 v22 wx)
                          case first =>
                            as_aux_lemma =>
                              --P3[
                              by_cases hun : c1' = 95 ∧ base = 0
                              · --P6[
                                obtain ⟨hc95, hb0⟩ := hun
                                have e95 : ((c1' : Int) == 95) = true := by simp; omega
                                have eb0 : ((base : Int) == 0) = true := by simp; omega
                                have hu1 : u = true := by rw [← HU0.out]; simp [hb0]
                                have hrun := HI.out.run
                                rw [HC.out, hc95, sc_under hu1] at hrun
                                have HI' := HI.out
                                by_cases h48 : sx.pv = 48
                                · have e48 : ((sx.pv : Int) != 48) = false := by simp; omega
                                  have HN := Lib.hid (show ScI p s u b n pk w R (q1 + 1) (q1 + 1) ⟨95, sx.iv, sx.ct, sx.v⟩ zs i di _ wr from ⟨by rw [← hrun]; simp [h48], by omega, by have := HI'.ct; simp only; omega, .inr (.inr rfl), HI'.gat, HI'.len, HI'.own, HI'.rdr, HI'.upd⟩)
                                  clear hrun HI' hc95 hb0 hu1
                                  go_wp2_with fail
                                  go_meet
                                  case rel => exact ⟨⟨95, sx.iv, sx.ct, sx.v⟩, zs, i, di, rfl, rfl, rfl, rfl, rfl, rfl, rfl, HN.out⟩
                                · have e48 : ((sx.pv : Int) != 48) = true := by simp; omega
                                  have HN := Lib.hid (show ScI p s u b n pk w R (q1 + 1) (q1 + 1) ⟨95, true, sx.ct, sx.v⟩ zs i di _ wr from ⟨by rw [← hrun]; simp [h48], by omega, by have := HI'.ct; simp only; omega, .inr (.inr rfl), HI'.gat, HI'.len, HI'.own, HI'.rdr, HI'.upd⟩)
                                  clear hrun HI' hc95 hb0 hu1
                                  go_wp2_with fail
                                  go_meet
                                  case rel => exact ⟨⟨95, true, sx.ct, sx.v⟩, zs, i, di, rfl, rfl, rfl, rfl, rfl, rfl, rfl, HN.out⟩
                                --P6]
                              · have HUN : Hid (¬ (c1' = 95 ∧ u = true)) := Lib.hid (fun ⟨h1, h2⟩ => hun ⟨h1, by rw [← HU0.out] at h2; simpa using h2⟩)
                                go_upto_region 53 with fail
                                go_cut [137] from 122 to 210 (fun v137 wx => v137 = .bool false ∧ wr = wx)
                                case first =>
                                  as_aux_lemma =>
                                    by_cases h95 : c1' = 95
                                    · have e95 : ((c1' : Int) == 95) = true := by simp; omega
                                      have eb0 : ((base : Int) == 0) = false := by simp; omega
                                      go_wp2_with fail
                                      go_meet
                                      case rel => exact ⟨rfl, rfl⟩
                                    · have e95 : ((c1' : Int) == 95) = false := by simp; omega
                                      go_wp2_with fail
                                      go_meet
                                      case rel => exact ⟨rfl, rfl⟩
                                case rest =>
                                  as_aux_lemma =>
                                    obtain ⟨rfl, rfl⟩ := hcut
                                    clear hun
                                    obtain ⟨d, hd⟩ : ∃ d, dgv c1' b = d := ⟨_, rfl⟩
                                    have HD := Lib.hid hd
                                    have hd63 : d ≤ 63 := by rw [← hd]; exact dgv_le _ _
                                    clear hd
                                    go_upto_block 4 with fail
                                    go_cut [23] from 122 to 210 (fun v23 wx => v23 = .int .u64 (d : Nat) ∧ wr = wx)
                                    case first =>
                                      as_aux_lemma =>
                                        --P5[
                                        have hdd := HD.out
                                        unfold dgv at hdd
                                        by_cases k1 : 48 ≤ c1'
                                        · have f1 : decide ((48 : Int) ≤ (c1' : Int)) = true := by simp; omega
                                          by_cases k2 : c1' ≤ 57
                                          · have f2 : decide ((c1' : Int) ≤ 57) = true := by simp; omega
                                            rw [if_pos ⟨k1, k2⟩] at hdd
                                            have hdi : (c1' : Int) - 48 = (d : Int) := by omega
                                            clear hdd
                                            go_wp2_with fail
                                            go_meet
                                            case rel => exact ⟨rfl, rfl⟩
                                          have f2 : decide ((c1' : Int) ≤ 57) = false := by simp; omega
                                          rw [if_neg (by omega)] at hdd
                                          by_cases k3 : 97 ≤ c1'
                                          · have f3 : decide ((97 : Int) ≤ (c1' : Int)) = true := by simp; omega
                                            by_cases k4 : c1' ≤ 122
                                            · have f4 : decide ((c1' : Int) ≤ 122) = true := by simp; omega
                                              rw [if_pos ⟨k3, k4⟩] at hdd
                                              have hdi : (c1' : Int) - 97 + 10 = (d : Int) := by omega
                                              clear hdd
                                              go_wp2_with fail
                                              go_meet
                                              case rel => exact ⟨rfl, rfl⟩
                                            have f4 : decide ((c1' : Int) ≤ 122) = false := by simp; omega
                                            have f5 : decide ((65 : Int) ≤ (c1' : Int)) = true := by simp; omega
                                            have f6 : decide ((c1' : Int) ≤ 90) = false := by simp; omega
                                            rw [if_neg (by omega), if_neg (by omega)] at hdd
                                            subst hdd
                                            go_wp2_with fail
                                            go_meet
                                            case rel => exact ⟨rfl, rfl⟩
                                          have f3 : decide ((97 : Int) ≤ (c1' : Int)) = false := by simp; omega
                                          rw [if_neg (by omega)] at hdd
                                          by_cases k5 : 65 ≤ c1'
                                          · have f5 : decide ((65 : Int) ≤ (c1' : Int)) = true := by simp; omega
                                            by_cases k6 : c1' ≤ 90
                                            · have f6 : decide ((c1' : Int) ≤ 90) = true := by simp; omega
                                              rw [if_pos ⟨k5, k6⟩] at hdd
                                              by_cases k7 : b ≤ 36
                                              · have f7 : decide ((b : Int) ≤ 36) = true := by simp; omega
                                                rw [if_pos k7] at hdd
                                                have hdi : (c1' : Int) - 65 + 10 = (d : Int) := by omega
                                                clear hdd
                                                go_wp2_with fail
                                                go_meet
                                                case rel => exact ⟨rfl, rfl⟩
                                              · have f7 : decide ((b : Int) ≤ 36) = false := by simp; omega
                                                rw [if_neg k7] at hdd
                                                have hdi : (c1' : Int) - 65 + 36 = (d : Int) := by omega
                                                clear hdd
                                                go_wp2_with fail
                                                go_meet
                                                case rel => exact ⟨rfl, rfl⟩
                                            have f6 : decide ((c1' : Int) ≤ 90) = false := by simp; omega
                                            rw [if_neg (by omega)] at hdd
                                            subst hdd
                                            go_wp2_with fail
                                            go_meet
                                            case rel => exact ⟨rfl, rfl⟩
                                          have f5 : decide ((65 : Int) ≤ (c1' : Int)) = false := by simp; omega
                                          rw [if_neg (by omega)] at hdd
                                          subst hdd
                                          go_wp2_with fail
                                          go_meet
                                          case rel => exact ⟨rfl, rfl⟩
                                        · have f1 : decide ((48 : Int) ≤ (c1' : Int)) = false := by simp; omega
                                          have f3 : decide ((97 : Int) ≤ (c1' : Int)) = false := by simp; omega
                                          have f5 : decide ((65 : Int) ≤ (c1' : Int)) = false := by simp; omega
                                          rw [if_neg (by omega), if_neg (by omega), if_neg (by omega)] at hdd
                                          subst hdd
                                          go_wp2_with fail
                                          go_meet
                                          case rel => exact ⟨rfl, rfl⟩
                                        --P5]
                                    case rest =>
                                      as_aux_lemma =>
                                        obtain ⟨rfl, rfl⟩ := hcut
                                        by_cases hdb : b ≤ d
                                        · --P7[
                                          have HRUN : Hid (R = (sx, bts s q1)) := Lib.hid (by have h1 := HI.out.run; rw [HC.out, sc_stop HUN.out (by rw [HD.out]; exact hdb), ← HC.out] at h1; exact h1.symm)
                                          have ebd : decide ((b : Int) ≤ (d : Int)) = true := by simp; omega
                                          go_wp2_with fail
                                          refine (unreadByte_any p s q1 _ HI.out.rdr (by omega)).mono ?_
                                          rintro e w3 ⟨rfl, hj3, hu3⟩
                                          have HI' := HI.out
                                          have HN := Lib.hid (show ScI p s u b n pk w R q1 q1 sx zs i di _ w3 from ⟨HI'.run, HI'.qs, HI'.ct, HI'.pv, HI'.gat, HI'.len, HI'.own.upd2 hu3 (fun k hk q => by have := own_ge HI'.own k hk; omega), hj3, HI'.upd.same hu3⟩)
                                          clear hj3 hu3 HI'
                                          go_wp2_with fail
                                          go_meet
                                          case rel => exact ⟨q1, _, sx, zs, i, di, rfl, rfl, rfl, rfl, rfl, rfl, rfl, rfl, HN.out, HRUN.out, .inl ⟨rfl, hlt⟩⟩
                                          --P7]
                                        · --P8[
                                          have ebd : decide ((b : Int) ≤ (d : Int)) = false := by simp; omega
                                          have hrun := HI.out.run
                                          rw [HC.out, sc_dig HUN.out (by rw [HD.out]; omega), HD.out] at hrun
                                          have hsm : di * b + d < 18446744073709551616 := HI.out.gat.small (by omega) HPK.out.2.2.1 (by omega)
                                          obtain ⟨m, hm⟩ : ∃ m, di * b = m := ⟨_, rfl⟩
                                          obtain ⟨x, hx⟩ : ∃ x, m + d = x := ⟨_, rfl⟩
                                          have hmi : (di : Int) * (b : Int) = (m : Int) := by rw [← hm]; push_cast; rfl
                                          have hxi : (m : Int) + (d : Int) = (x : Int) := by omega
                                          rw [hm, hx] at hsm
                                          have hct : sx.ct ≤ 9223372036854775805 := by have := HI.out.ct; omega
                                          have hi64 : i + 1 ≤ 64 := by have h1 := HI.out.gat.1; have h2 := HPK.out.2.1; omega
                                          have hn64 : n ≤ 64 := HPK.out.2.1
                                          have HRUN := Lib.hid hrun
                                          have HX : Hid (di * b + d = x) := Lib.hid (by rw [hm, hx])
                                          have hdb' : d < b := by omega
                                          clear hrun hm hx
                                          by_cases hin : i + 1 = n
                                          · have ein : (((i : Int) + 1) == (n : Int)) = true := by simp; omega
                                            have HI' := HI.out
                                            rcases HPK.out.2.2.2 with ⟨hpt, hbn, hbp, _⟩ | ⟨hpt, hbn0, hbn, hbl2, _⟩
                                            · --P9[
                                              have hln := (HI'.lenP HPK.out.1 (HBP.out.1 hpt)).2 (.inr hlt)
                                              have hown := HI'.own
                                              subst hbn
                                              have HPT := Lib.hid hpt
                                              have HBQ := Lib.hid hbp
                                              clear hpt hbp
                                              go_wp2_with (at_builtin; refine wpList_append_own _ rfl _ _ 80 rfl w.heap.size 93 iw (.int .u64 0) 1 8 Tryf.underlying80 HIW.out HIW0.out HIW1.out HIW2.out rfl (by decide) _ _ _ rfl (hown.2.alloc _) ⟨wr.heap.size, 0, none⟩ 1 1 [.int .u64 (x : Nat)] rfl rfl ?c1 ?c2 ?c3 ?c4 ?c5 ?_)
                                              case c1 => exact cell_one_new _ _ _
                                              case c2 => simp [Value.oneCell']
                                              case c3 => simp only [maxLen]; omega
                                              case c4 => omega
                                              case c5 => have := HI.out.upd.size; simp; omega
                                              intro v' w3 hown' hgrow _
                                              have HI' := HI.out
                                              have hu4 := ((Ext.alloc wr (.cells #[.int .u64 (x : Nat)] 93)).upd (S := fun k => Value.ownBlock _ = some k)).same (grown_upd hgrow)
                                              rw [show [Value.int IntKind.u64 (x : Nat)] = words .u64 [x] from rfl, ← words_app] at hown'
                                              have hO : Own .u64 w3 w.heap.size 93 v' (zs ++ [x]) := ⟨mem_snoc HI'.own.1 hsm, by rw [List.length_append, List.length_singleton]; exact hown'⟩
                                              have hgt : Gat b n true zs i di sx.v := HPT.out ▸ HI'.gat
                                              have hln2 : (zs.length + 1) * n = zs.length * n + n := Nat.succ_mul _ _
                                              have HN := Lib.hid (show ScI p s u b n pk w R (q1 + 1) (q1 + 1) ⟨48, sx.iv, sx.ct + 1, sx.v * b + d⟩ (zs ++ [x]) 0 0 v' w3 from ⟨HRUN.out, by omega, by have := HI'.ct; simp only; omega, .inr (.inl rfl), by rw [← HX.out, HPT.out]; exact hgt.fullP hdb' hin HBQ.out, by have := HI'.len; rw [List.length_append, List.length_singleton]; simp only; omega, hO, HI'.rdr.upd hu4 (fun q => by have := own_ge HI'.own _ q; omega), (HI'.upd.trans hu4).mono (fun k hk hor => by
                                                rcases hor with q | q
                                                · exact q
                                                · have := own_ge HI'.own _ q; omega)⟩)
                                              clear hu4 hown' hO hgt hgrow hown HI'
                                              go_wp2_with fail
                                              go_meet
                                              case rel => exact ⟨⟨48, sx.iv, sx.ct + 1, sx.v * b + d⟩, zs ++ [x], 0, 0, rfl, rfl, rfl, rfl, rfl, rfl, rfl, HN.out⟩
                                              --P9]
                                            · --P10[
                                              have hln : zs.length ≤ L := ScI.lenU (hpt ▸ HI') (by omega) (HBP.out.2 hpt)
                                              have ebn : ((bn : Int) == 0) = false := by simp; omega
                                              have HPT := Lib.hid hpt
                                              have HBQ := Lib.hid hbn
                                              clear hpt hbn HI'
                                              go_wp2_with fail
                                              refine (mulAddWW_any _ zs bn x _ (own_down HI.out.own) (by omega) hbl2 hbn0 hsm).mono ?_
                                              rintro e w3 ⟨ys, hy1, hy2, hy3, hR3⟩
                                              obtain ⟨v', rfl, ho3, hu3, hu4⟩ := natR_own HI.out.upd HI.out.own hR3
                                              have HI' := HI.out
                                              have hgt : Gat b n false zs i di sx.v := HPT.out ▸ HI'.gat
                                              have hln2 : (zs.length + 1) * n = zs.length * n + n := Nat.succ_mul _ _
                                              have hln3 : ys.length * n ≤ (zs.length + 1) * n := Nat.mul_le_mul_right _ hy3
                                              have HN := Lib.hid (show ScI p s u b n pk w R (q1 + 1) (q1 + 1) ⟨48, sx.iv, sx.ct + 1, sx.v * b + d⟩ ys 0 0 v' w3 from ⟨HRUN.out, by omega, by have := HI'.ct; simp only; omega, .inr (.inl rfl), by rw [HPT.out]; exact hgt.fullU hdb' hin (by rw [hy2, HBQ.out, HX.out]) hy1, by have := HI'.len; simp only; omega, ho3, HI'.rdr.upd hu4 (fun q => by have := own_ge HI'.own _ q; omega), hu3⟩)
                                              clear hu4 hu3 ho3 hgt hR3 hy1 hy2 hy3 HI'
                                              go_wp2_with fail
                                              go_meet
                                              case rel => exact ⟨⟨48, sx.iv, sx.ct + 1, sx.v * b + d⟩, ys, 0, 0, rfl, rfl, rfl, rfl, rfl, rfl, rfl, HN.out⟩
                                              --P10]
                                          · have ein : (((i : Int) + 1) == (n : Int)) = false := by simp; omega
                                            have HI' := HI.out
                                            have HN := Lib.hid (show ScI p s u b n pk w R (q1 + 1) (q1 + 1) ⟨48, sx.iv, sx.ct + 1, sx.v * b + d⟩ zs (i + 1) x _ wr from ⟨HRUN.out, by omega, by have := HI'.ct; simp only; omega, .inr (.inl rfl), by rw [← HX.out]; exact HI'.gat.next hdb' (by have := HI'.gat.1; omega), by have := HI'.len; simp only; omega, HI'.own, HI'.rdr, HI'.upd⟩)
                                            clear HI'
                                            go_wp2_with fail
                                            go_meet
                                            case rel => exact ⟨⟨48, sx.iv, sx.ct + 1, sx.v * b + d⟩, zs, i + 1, x, rfl, rfl, rfl, rfl, rfl, rfl, rfl, HN.out⟩
                                          --P8]
                              --P3]
                          case rest =>
                            as_aux_lemma =>
                              --P4[
                              obtain ⟨s2, zs2, i2, d2, rfl, rfl, rfl, rfl, rfl, rfl, rfl, hI2⟩ := hcut
                              have HI2 := Lib.hid hI2
                              clear hI2
                              go_wp2_with fail
                              refine (readByte_any p s (q1 + 1) a0 a1 a2 _ HI2.out.rdr hs HI2.out.qs (HS.out.upd HI2.out.upd (by intro k hk; omega)) hp).mono ?_
                              rintro e w3 ⟨c3, ev3, j3, rfl, hr3, hj3, hu3⟩
                              have hI3 := HI2.out
                              have HREL := Lib.hid (show ScI p s u b n pk w R (q1 + 1) j3 s2 zs2 i2 d2 _ w3 from ⟨hI3.run, hI3.qs, hI3.ct, hI3.pv, hI3.gat, hI3.len, hI3.own.upd2 hu3 (fun k hk q => by have := own_ge hI3.own k hk; omega), hj3, hI3.upd.same hu3⟩)
                              have HRD := Lib.hid hr3
                              clear hr3 hj3 hu3 hI3
                              go_wp2_with fail
                              go_roundg (s.size - (q1 + 1))
                              case measure => omega
                              case rel => exact ⟨q1 + 1, c3, j3, ev3, s2, zs2, i2, d2, rfl, rfl, rfl, rfl, rfl, rfl, rfl, rfl, rfl, HRD.out, HREL.out, Nat.le_refl _⟩
                              --P4]
                    · subst hev
                      subst hjj
                      subst hc1
                      subst hlt
                      have HRUN : Hid (R = (sx, bts s s.size)) := Lib.hid (by have h1 := HI.out.run; rw [hnil] at h1 ⊢; rw [← h1]; rfl)
                      clear hnil
                      go_wp2_with fail
                      go_meet
                      case rel => exact ⟨s.size, _, sx, zs, i, di, rfl, rfl, rfl, rfl, rfl, rfl, rfl, rfl, HI.out, HRUN.out, .inr ⟨rfl, rfl⟩⟩
              case rest =>
                as_aux_lemma =>
                  --T0[
                  obtain ⟨jf, evf, sf, zs, i, di, rfl, rfl, rfl, rfl, rfl, rfl, rfl, rfl, hI, hRf, hend⟩ := hcut
                  have HI := Lib.hid hI
                  have HRF := Lib.hid hRf
                  have HEND := Lib.hid hend
                  clear hI hRf hend
                  obtain ⟨E, hE⟩ : ∃ E : Bool, decide (jf = s.size) = E := ⟨_, rfl⟩
                  have HE := Lib.hid hE
                  clear hE
                  obtain ⟨bad, hbad⟩ : ∃ bad : Bool, (sf.iv || decide (sf.pv = 95)) = bad := ⟨_, rfl⟩
                  have HBAD := Lib.hid hbad
                  clear hbad
                  obtain ⟨siv, hsiv⟩ : ∃ siv, sf.iv = siv := ⟨_, rfl⟩
                  rw [hsiv]
                  have HSIV := Lib.hid hsiv
                  clear hsiv
                  have HS2 := Lib.hid (HS.out.upd HI.out.upd (by intro k hk; omega))
                  go_upto_region 80 with fail
                  go_cut [213] from 211 to 212 (fun v213 wx => v213 = .bool E ∧ wc = wx)
                  case first =>
                    as_aux_lemma =>
                      have l0 := HS2.out.eof
                      have q1 := eqlErrSame a0
                      have q2 := eqlNilErr a0
                      rcases HEND.out with ⟨he, hj⟩ | ⟨he, hj⟩
                      · have hE : E = false := by rw [← HE.out]; simp; omega
                        subst he
                        subst hE
                        go_wp2_with fail
                        go_meet
                        case rel => exact ⟨rfl, rfl⟩
                      · have hE : E = true := by rw [← HE.out]; simp; omega
                        subst he
                        subst hE
                        go_wp2_with fail
                        go_meet
                        case rel => exact ⟨rfl, rfl⟩
                  case rest =>
                    as_aux_lemma =>
                      obtain ⟨rfl, rfl⟩ := hcut
                      go_upto_if 213 with fail
                      go_cut [11] from 211 to 213 (fun v11 wx => v11 = .nilIface ∧ wc = wx)
                      case first =>
                        as_aux_lemma =>
                          rcases HEND.out with ⟨he, hj⟩ | ⟨he, hj⟩
                          · have hE : E = false := by rw [← HE.out]; simp; omega
                            subst he
                            subst hE
                            go_wp2_with fail
                            go_meet
                            case rel => exact ⟨rfl, rfl⟩
                          · have hE : E = true := by rw [← HE.out]; simp; omega
                            subst he
                            subst hE
                            go_wp2_with fail
                            go_meet
                            case rel => exact ⟨rfl, rfl⟩
                      case rest =>
                        as_aux_lemma =>
                          obtain ⟨rfl, rfl⟩ := hcut
                          go_upto_region 82 with fail
                          go_cut [222] from 214 to 221 (fun v222 wx => v222 = .bool bad ∧ wc = wx)
                          case first =>
                            as_aux_lemma =>
                              --T1[
                              cases siv
                              · by_cases h95 : sf.pv = 95
                                · have e95 : ((sf.pv : Int) == 95) = true := by simp; omega
                                  have hb : bad = true := by rw [← HBAD.out, HSIV.out]; simp [h95]
                                  subst hb
                                  clear h95
                                  go_wp2_with fail
                                  go_meet
                                  case rel => exact ⟨rfl, rfl⟩
                                · have e95 : ((sf.pv : Int) == 95) = false := by simp; omega
                                  have hb : bad = false := by rw [← HBAD.out, HSIV.out]; simp [h95]
                                  subst hb
                                  go_wp2_with fail
                                  go_meet
                                  case rel => exact ⟨rfl, rfl⟩
                              · have hb : bad = true := by rw [← HBAD.out, HSIV.out]; simp
                                subst hb
                                go_wp2_with fail
                                go_meet
                                case rel => exact ⟨rfl, rfl⟩
                              --T1]
                          case rest =>
                            as_aux_lemma =>
                              obtain ⟨rfl, rfl⟩ := hcut
                              go_upto_if 222 with fail
                              go_cut [11] from 214 to 223 (fun v11 wx => ScE1 a1 bad v11 ∧ wc = wx)
                              case first =>
                                as_aux_lemma =>
                                  have l1 := HS2.out.sep
                                  cases bad
                                  · go_wp2_with fail
                                    go_meet
                                    case rel => exact ⟨.inl ⟨rfl, rfl⟩, rfl⟩
                                  · go_wp2_with fail
                                    go_meet
                                    case rel => exact ⟨.inr ⟨rfl, rfl⟩, rfl⟩
                              case rest =>
                                as_aux_lemma =>
                                  obtain ⟨hv11, rfl⟩ := hcut
                                  have HV11 := Lib.hid hv11
                                  clear hv11
                                  by_cases h48 : sf.ct = 0 ∧ pre = 48
                                  · --T2[
                                    obtain ⟨hc0, hp48⟩ := h48
                                    have ec : ((sf.ct : Int) == 0) = true := by simp; omega
                                    have ep : ((pre : Int) == 48) = true := by simp; omega
                                    have hz : zs = [] := by
                                      have h1 := HI.out.len
                                      have h2 := HPK.out.1
                                      rcases zs with _ | ⟨z, zs⟩
                                      · rfl
                                      · exfalso
                                        rw [List.length_cons, Nat.add_mul] at h1
                                        omega
                                    have hI2 := HI.out
                                    rw [hz] at hI2
                                    have hfin := fun vz ho => scan_oct (L := L) (a2 := a2) (vz := vz) HPRE.out HU0.out HR0.out HRF.out hI2.qs HBAD.out HV11.out hc0 hp48 ho hI2.upd hI2.rdr
                                    have HFIN := Lib.hid hfin
                                    rcases hI2.own.2.2 with ⟨h1, h2⟩ | ⟨g, cap, cur, h1, hb', hg, h3, h4, h5, h6⟩
                                    · have HFN := Lib.hid (HFIN.out (.slice none 0 0) ⟨by simp, rfl, .inl ⟨rfl, rfl⟩⟩ 10 1)
                                      subst h1
                                      clear hc0 hp48 hz hI2 hfin h2
                                      go_wp2_with fail
                                      exact bodyPost_ret (v := .tuple #[.slice none 0 0, .int .i64 10, .int .i64 1, _]) (by simp [results, Tryf.results108, go_sem]) rfl HFN.out
                                    · have HFN := Lib.hid (HFIN.out _ hI2.own 10 1)
                                      rw [h1] at HFN
                                      subst h1
                                      clear hc0 hp48 hz hI2 hfin h3 h5 h6 hg
                                      simp only [maxLen] at h4
                                      go_wp2_with fail
                                      exact bodyPost_ret (v := .tuple #[.slice (some ⟨g, 0, none⟩) 0 cap, .int .i64 10, .int .i64 1, _]) (by simp [results, Tryf.results108, go_sem]) rfl HFN.out
                                    --T2]
                                  · go_upto_if 225 with fail
                                    go_cut [9, 10, 11] from 224 to 231 (fun v9 v10 v11 wx => v9 = .int .i64 (b : Nat) ∧ v10 = .int .i64 (sf.ct : Nat) ∧ ScErr s base i0 a1 a2 sf bad v11 ∧ wc = wx)
                                    case first =>
                                      as_aux_lemma =>
                                        --T3[
                                        by_cases hc0 : sf.ct = 0
                                        · have ec : ((sf.ct : Int) == 0) = true := by simp; omega
                                          have ep : ((pre : Int) == 48) = false := by simp; omega
                                          have l2 := HS2.out.dig
                                          have HREL : Hid (ScErr s base i0 a1 a2 sf bad (errAt a2)) := Lib.hid (.inr ⟨.inr rfl, natS_bad HPRE.out HU0.out HR0.out HRF.out HI.out.qs (.inr hc0)⟩)
                                          clear hc0 h48
                                          go_wp2_with fail
                                          go_meet
                                          case rel => exact ⟨rfl, rfl, HREL.out, rfl⟩
                                        · have ec : ((sf.ct : Int) == 0) = false := by simp; omega
                                          have HREL : Hid (ScErr s base i0 a1 a2 sf bad u11) := Lib.hid (by
                                            rcases HV11.out with ⟨h1, h2⟩ | ⟨h1, h2⟩
                                            · exact .inl ⟨h1, h2, by omega⟩
                                            · exact .inr ⟨.inl h1, natS_bad HPRE.out HU0.out HR0.out HRF.out HI.out.qs (.inl (by rw [HBAD.out, h2]))⟩)
                                          clear hc0 h48
                                          go_wp2_with fail
                                          go_meet
                                          case rel => exact ⟨rfl, rfl, HREL.out, rfl⟩
                                        --T3]
                                    case rest =>
                                      as_aux_lemma =>
                                        obtain ⟨rfl, rfl, her, rfl⟩ := hcut
                                        have HER := Lib.hid her
                                        clear her h48
                                        have hin := HI.out.gat.1
                                        have hn64 : n ≤ 64 := HPK.out.2.1
                                        rcases HPK.out.2.2.2 with ⟨hpt, hbn, hbp, hnn⟩ | ⟨hpt, hbn0, hbn, hbl2, _⟩
                                        · subst hpt
                                          subst hbn
                                          by_cases hi0 : i = 0
                                          · --T4[
                                            subst hi0
                                            have hln := (HI.out.lenP HPK.out.1 (HBP.out.1 rfl)).1
                                            have hdi : di = 0 := by have := HI.out.gat.2.1; simp at this; exact this
                                            have HV : Hid (val zs.reverse = sf.v) := Lib.hid (by rw [HI.out.gat.2.2.1 rfl, hdi]; simp)
                                            clear hdi hbp hnn
                                            go_wp2_with fail
                                            refine (reverse_any _ zs _ (own_down HI.out.own) (by omega)).mono ?_
                                            rintro e w3 ⟨rfl, ho3, hu3⟩
                                            have HO3 := Lib.hid (own_up ho3 (own_ge HI.out.own))
                                            have HU3 := Lib.hid (upd_own HI.out.upd HI.out.own hu3)
                                            have HR3 := Lib.hid (HI.out.rdr.upd hu3 (fun q => by have := own_ge HI.out.own _ q; omega))
                                            clear ho3 hu3
                                            go_wp2_with fail
                                            refine (norm_own _ _ _ _ _ HO3.out).mono ?_
                                            rintro e w4 ⟨⟨v4, rfl, ho4, _⟩, rfl⟩
                                            have HFIN := Lib.hid (scan_fin (L := L) HPRE.out HU0.out HR0.out HRF.out HI.out.qs HI.out.pv HBAD.out HER.out ho4 (norm_norm _) (by rw [val_norm, HV.out]) (by have := norm_length_le zs.reverse; rw [List.length_reverse] at this; omega) HU3.out HR3.out b sf.ct)
                                            clear ho4
                                            go_wp2_with fail
                                            exact bodyPost_ret (v := .tuple #[v4, .int .i64 (b : Nat), .int .i64 (sf.ct : Nat), _]) (by simp [results, Tryf.results108, go_sem]) rfl HFIN.out
                                            --T4]
                                          · --T5[
                                            have hln := (HI.out.lenP HPK.out.1 (HBP.out.1 rfl)).2 (.inl (by omega))
                                            obtain ⟨m, hm⟩ : ∃ m, n - i = m := ⟨_, rfl⟩
                                            have hml : 0 < m ∧ m < n := by omega
                                            obtain ⟨t, k, hk, hk1, hk4, ht, ht0, ht64, hpow⟩ := pk_shift hnn (by omega) hin hm
                                            have hlast := gat_last HI.out.gat (by omega) hbp
                                            rw [hm] at hlast
                                            have hPle : b ^ m < 18446744073709551616 := by rw [← hbp]; exact Nat.pow_lt_pow_right (by omega) (by omega)
                                            obtain ⟨P, hP⟩ : ∃ P, b ^ m = P := ⟨_, rfl⟩
                                            have HP2 : Hid (P = 2 ^ t) := Lib.hid (by rw [← hP, hpow])
                                            rw [hP] at hlast hPle
                                            have HPM : Hid (b ^ m % 18446744073709551616 = P) := Lib.hid (by rw [hP]; exact Nat.mod_eq_of_lt hPle)
                                            obtain ⟨x, hx⟩ : ∃ x, di * P = x := ⟨_, rfl⟩
                                            rw [hx] at hlast
                                            have hxl := hlast.1
                                            have HLAST := Lib.hid hlast.2
                                            have hni : (n : Int) - (i : Int) = (m : Int) := by omega
                                            have hxi : (di : Int) * (P : Int) = (x : Int) := by rw [← hx]; push_cast; rfl
                                            have hki : (64 : Int) / (n : Int) = (k : Int) := by rw [← hk]; push_cast; rfl
                                            have hti : (m : Int) * (k : Int) = (t : Int) := by rw [← ht]; push_cast; rfl
                                            have ei : decide ((0 : Int) < (i : Int)) = true := by simp; omega
                                            have hdil : di < 18446744073709551616 := by
                                              rcases Nat.eq_zero_or_pos P with h0 | h0
                                              · exfalso; have := HP2.out; have h1 : 0 < 2 ^ t := Nat.pow_pos (by decide); omega
                                              · have := Nat.mul_le_mul_left di h0; omega
                                            clear hm hk ht hpow hlast hP hx hbp hnn
                                            go_wp2_with fail
                                            refine (pow_any b m _ (by omega) (by omega)).mono ?_
                                            rintro e w3 ⟨rfl, rfl⟩
                                            rw [HPM.out]
                                            have hown := HI.out.own
                                            go_wp2_with (at_builtin; refine wpList_append_own _ rfl _ _ 80 rfl w.heap.size 93 iw (.int .u64 0) 1 8 Tryf.underlying80 HIW.out HIW0.out HIW1.out HIW2.out rfl (by decide) _ _ _ rfl (hown.2.alloc _) ⟨wc.heap.size, 0, none⟩ 1 1 [.int .u64 (x : Nat)] rfl rfl ?d1 ?d2 ?d3 ?d4 ?d5 ?_)
                                            case d1 => exact cell_one_new _ _ _
                                            case d2 => simp [Value.oneCell']
                                            case d3 => simp only [maxLen]; omega
                                            case d4 => omega
                                            case d5 => have := HI.out.upd.size; simp; omega
                                            intro v' w3 hown' hgrow _
                                            have hu4 := ((Ext.alloc wc (.cells #[.int .u64 (x : Nat)] 93)).upd (S := fun k => Value.ownBlock _ = some k)).same (grown_upd hgrow)
                                            rw [show [Value.int IntKind.u64 (x : Nat)] = words .u64 [x] from rfl, ← words_app] at hown'
                                            have hO : Own .u64 w3 w.heap.size 93 v' (zs ++ [x]) := ⟨mem_snoc HI.out.own.1 hxl, by rw [List.length_append, List.length_singleton]; exact hown'⟩
                                            have HO := Lib.hid hO
                                            have HU4 := Lib.hid (upd_own HI.out.upd HI.out.own hu4)
                                            have HR4 := Lib.hid (HI.out.rdr.upd hu4 (fun q => by have := own_ge HI.out.own _ q; omega))
                                            have hlz : (zs ++ [x]).length ≤ L := by rw [List.length_append, List.length_singleton]; omega
                                            clear hu4 hown' hO hgrow hown
                                            go_wp2_with fail
                                            refine (reverse_any _ (zs ++ [x]) _ (own_down HO.out) (by omega)).mono ?_
                                            rintro e w5 ⟨rfl, ho5, hu5⟩
                                            have HO5 := Lib.hid (own_up ho5 (own_ge HO.out))
                                            have HU5 := Lib.hid (upd_own HU4.out HO.out hu5)
                                            have HR5 := Lib.hid (HR4.out.upd hu5 (fun q => by have := own_ge HO.out _ q; omega))
                                            clear ho5 hu5
                                            go_wp2_with fail
                                            refine (norm_own _ _ _ _ _ HO5.out).mono ?_
                                            rintro e w6 ⟨⟨v6, rfl, ho6, hb6⟩, rfl⟩
                                            have HO6 := Lib.hid ho6
                                            have hl6 : (norm (zs ++ [x]).reverse).length ≤ L := by have := norm_length_le (zs ++ [x]).reverse; rw [List.length_reverse] at this; omega
                                            have HV6 : Hid (val (norm (zs ++ [x]).reverse) / 2 ^ t = sf.v) := Lib.hid (by rw [val_norm, HLAST.out, HP2.out]; exact Nat.mul_div_cancel _ (Nat.pow_pos (by decide)))
                                            clear ho6 hb6
                                            go_wp2_with fail
                                            refine (rsh_any _ (norm (zs ++ [x]).reverse) t _ (own_down HO6.out) (by omega) ht0 ht64).mono ?_
                                            rintro e w7 ⟨ys, hy1, hy2, hy3, hR7⟩
                                            obtain ⟨v7, rfl, ho7, hu7, hu8⟩ := natR_own HU5.out HO6.out hR7
                                            have HFIN := Lib.hid (scan_fin (L := L) HPRE.out HU0.out HR0.out HRF.out HI.out.qs HI.out.pv HBAD.out HER.out ho7 hy1 (by rw [hy2, HV6.out]) (by omega) hu7 (HR5.out.upd hu8 (fun q => by have := own_ge HO6.out _ q; omega)) b sf.ct)
                                            clear ho7 hu7 hu8 hR7 hy1 hy2 hy3
                                            go_wp2_with fail
                                            exact bodyPost_ret (v := .tuple #[v7, .int .i64 (b : Nat), .int .i64 (sf.ct : Nat), _]) (by simp [results, Tryf.results108, go_sem]) rfl HFIN.out
                                            --T5]
                                        · --T6[
                                          subst hpt
                                          have hR : R.1 = sf := by rw [HRF.out]
                                          have hvl : sf.v < 18446744073709551616 ^ L := by have := HBP.out.2 rfl; rwa [hR] at this
                                          have ebn : ((bn : Int) == 0) = false := by simp; omega
                                          have hln : zs.length ≤ L := ScI.lenU HI.out (by omega) (HBP.out.2 rfl)
                                          have hgt := HI.out.gat.2.2.2 rfl
                                          have hdl := HI.out.gat.2.1
                                          have HVL := Lib.hid hvl
                                          clear hR hvl hbn
                                          by_cases hi0 : i = 0
                                          · subst hi0
                                            have hdi : di = 0 := by simpa using hdl
                                            have HFIN := Lib.hid (scan_fin (L := L) HPRE.out HU0.out HR0.out HRF.out HI.out.qs HI.out.pv HBAD.out HER.out HI.out.own hgt.2 (by rw [hgt.1, hdi]; simp) hln HI.out.upd HI.out.rdr b sf.ct)
                                            clear hgt hdl hdi
                                            go_wp2_with fail
                                            exact bodyPost_ret (v := .tuple #[_, .int .i64 (b : Nat), .int .i64 (sf.ct : Nat), _]) (by simp [results, Tryf.results108, go_sem]) rfl HFIN.out
                                          · have ei : decide ((0 : Int) < (i : Int)) = true := by simp; omega
                                            have hbi : b ^ i ≤ b ^ n := Nat.pow_le_pow_right (by omega) (by omega)
                                            have hbn2 := HPK.out.2.2.1
                                            have hbi2 : b ^ i < 18446744073709551616 := by
                                              have := Nat.pow_lt_pow_right (a := b) (by omega) hin
                                              omega
                                            obtain ⟨P, hP⟩ : ∃ P, b ^ i = P := ⟨_, rfl⟩
                                            rw [hP] at hdl hbi2 hgt
                                            have HPM : Hid (b ^ i % 18446744073709551616 = P) := Lib.hid (by rw [hP]; exact Nat.mod_eq_of_lt hbi2)
                                            have HG := Lib.hid hgt
                                            clear hgt hbi hbn2 hP
                                            go_wp2_with fail
                                            refine (pow_any b i _ (by omega) (by omega)).mono ?_
                                            rintro e w3 ⟨rfl, rfl⟩
                                            rw [HPM.out]
                                            go_wp2_with fail
                                            refine (mulAddWW_any _ zs P di _ (own_down HI.out.own) (by omega) hbi2 (by omega) (by omega)).mono ?_
                                            rintro e w3 ⟨ys, hy1, hy2, hy3, hR3⟩
                                            obtain ⟨v', rfl, ho3, hu3, hu4⟩ := natR_own HI.out.upd HI.out.own hR3
                                            have hvy : val ys = sf.v := by rw [hy2, HG.out.1]
                                            have HFIN := Lib.hid (scan_fin (L := L) HPRE.out HU0.out HR0.out HRF.out HI.out.qs HI.out.pv HBAD.out HER.out ho3 hy1 hvy (len_of_val hy1 (by rw [hvy]; exact HVL.out)) hu3 (HI.out.rdr.upd hu4 (fun q => by have := own_ge HI.out.own _ q; omega)) b sf.ct)
                                            clear hu4 hu3 ho3 hR3 hy1 hy2 hy3 hvy
                                            go_wp2_with fail
                                            exact bodyPost_ret (v := .tuple #[v', .int .i64 (b : Nat), .int .i64 (sf.ct : Nat), _]) (by simp [results, Tryf.results108, go_sem]) rfl HFIN.out
                                          --T6]
                  --T0]

end Go.Proofs.YtocadbghhoibnaaFmt
