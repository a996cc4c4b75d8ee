/- FnStringUnder (printed by lawgen.py). -/
import Derived.Test.YtocadbghhoibnaaFmtStrU
import Derived.Test.YtocadbghhoibnaaFmtMa6
import Derived.Test.YtocadbghhoibnaaFmtMa1
set_option linter.unusedSimpArgs false
set_option linter.unusedVariables false
namespace Go.Proofs.YtocadbghhoibnaaFmt
open Go.RowKit

set_option maxRecDepth 100000 in
set_option maxHeartbeats 8000000 in
theorem fnStringUnder_walk (s : ByteArray) (n : Int) (a0 a1 a2 : Addr) (w : World) (hS : Sent a0 a1 a2 w) (hs : s.size ≤ 140737488351232) (hn : (Lit.int .i64 n).wf = true) :
    Calls Tryf.prog 10 #[.string s, .int .i64 n] w (ValR (.bool true) w) := by
  have HS := Lib.hid hS
  clear hS hn
  by_cases h1 : n < 1
  · have e1 : decide (n < 1) = true := decide_eq_true h1
    go_enter Tryf.func10, Tryf.ntmps10
    go_wp2_with fail
    go_ret
    exact ⟨Ext.refl _, rfl⟩
  have e1 : decide (n < 1) = false := decide_eq_false h1
  obtain ⟨k, rfl⟩ := Int.eq_ofNat_of_zero_le (show 0 ≤ n by omega)
  have hk1 : 1 ≤ k := by omega
  have e1' : decide (k < 1) = false := decide_eq_false (by omega)
  by_cases h2 : s.size ≤ k
  · have e2 : decide (s.size ≤ k) = true := decide_eq_true h2
    have e2' : decide ((s.size : Int) ≤ (k : Int)) = true := decide_eq_true (by omega)
    go_enter Tryf.func10, Tryf.ntmps10
    go_wp2_with fail
    go_ret
    exact ⟨Ext.refl _, rfl⟩
  have e2 : decide (s.size ≤ k) = false := decide_eq_false h2
  have e2' : decide ((s.size : Int) ≤ (k : Int)) = false := decide_eq_false (by omega)
  by_cases h3 : 65536 < s.size
  · have e3 : decide (65536 < s.size) = true := decide_eq_true h3
    have e3' : decide ((65536 : Int) < (s.size : Int)) = true := decide_eq_true (by omega)
    go_enter Tryf.func10, Tryf.ntmps10
    go_wp2_with fail
    go_ret
    exact ⟨Ext.refl _, rfl⟩
  have e3 : decide (65536 < s.size) = false := decide_eq_false h3
  have e3' : decide ((65536 : Int) < (s.size : Int)) = false := decide_eq_false (by omega)
  have h0 : 0 < s.size := by omega
  by_cases h4 : s[0].toNat < 49
  · have e4 : decide ((s[0].toNat : Int) < 49) = true := decide_eq_true (by omega)
    have e4' : decide (s[0].toNat < 49) = true := decide_eq_true h4
    go_enter Tryf.func10, Tryf.ntmps10
    go_wp2_with fail
    go_ret
    exact ⟨Ext.refl _, rfl⟩
  have e4 : decide ((s[0].toNat : Int) < 49) = false := decide_eq_false (by omega)
  have e4' : decide (s[0].toNat < 49) = false := decide_eq_false h4
  have H49 : Hid (49 ≤ s[0].toNat) := Lib.hid (by omega)
  clear h4
  go_enter Tryf.func10, Tryf.ntmps10
  go_wp2_with fail
  go_loop [5] (fun i => ∃ j : Nat, j ≤ s.size ∧ i = .int .i64 j ∧ Hid (∀ c ∈ (bts s 0).take j, 48 ≤ c ∧ c ≤ 57)) (fun i => s.size - (intOf i).toNat)
  case atStart => exact ⟨0, by omega, rfl, Lib.hid (by simp)⟩
  case round =>
    obtain ⟨j, hj, rfl, HD⟩ := hrel
    by_cases hlt : j < s.size
    · have elt : decide (j < s.size) = true := decide_eq_true hlt
      by_cases h48 : s[j].toNat < 48
      · have e48 : decide ((s[j].toNat : Int) < 48) = true := decide_eq_true (by omega)
        clear h48
        go_wp2_with fail
        go_ret
        exact ⟨Ext.refl _, rfl⟩
      have e48 : decide ((s[j].toNat : Int) < 48) = false := decide_eq_false (by omega)
      by_cases h57 : 57 < s[j].toNat
      · have e57 : decide ((57 : Int) < (s[j].toNat : Int)) = true := decide_eq_true (by omega)
        clear h57 h48
        go_wp2_with fail
        go_ret
        exact ⟨Ext.refl _, rfl⟩
      have e57 : decide ((57 : Int) < (s[j].toNat : Int)) = false := decide_eq_false (by omega)
      have HD2 : Hid (∀ c ∈ (bts s 0).take (j + 1), 48 ≤ c ∧ c ≤ 57) := Lib.hid (by
        have hd : (bts s 0).drop j = s[j].toNat :: bts s (j + 1) := by rw [bts_drop, Nat.zero_add]; exact bts_cons hlt
        have hl : j < (bts s 0).length := by rw [bts_len]; omega
        rw [List.drop_eq_getElem_cons hl] at hd
        rw [List.take_succ_eq_append_getElem hl]
        intro c hc
        rcases List.mem_append.1 hc with h | h
        · exact HD.out c h
        · rw [List.mem_singleton.1 h, (List.cons.inj hd).1]; omega)
      clear h48 h57
      go_wp2_with fail
      go_round
      case rel => exact ⟨j + 1, by omega, by go_num, HD2⟩
      case measure => simp [intOf]; omega
    · have elt : decide (j < s.size) = false := decide_eq_false hlt
      have hdall : ∀ c ∈ bts s 0, 48 ≤ c ∧ c ≤ 57 := by have := HD.out; rwa [List.take_of_length_le (by rw [bts_len]; omega)] at this
      obtain ⟨z, p1, p2, p3, p4, p5⟩ := under_all hk1 (by omega) h0 H49.out hdall
      have HP1 := Lib.hid p1
      have HP2 := Lib.hid p2
      have HP3 := Lib.hid p3
      have HP4 := Lib.hid p4
      have HP5 := Lib.hid p5
      clear p1 p2 p3 p4 p5 hdall HD
      have x1 : (s.extract 0 k).size ≤ 65536 := by rw [size_head s k (by omega)]; omega
      have x2 : (s.extract k s.size).size ≤ 65536 := by rw [size_tail s k (by omega)]; omega
      have x3 : (s.extract 0 k ++ ({ data := #[95] } : ByteArray)).size ≤ 65537 := by rw [size_append]; show _ + 1 ≤ _; omega
      have x4 : (s.extract 0 k ++ ({ data := #[95, 95] } : ByteArray)).size ≤ 65538 := by rw [size_append]; show _ + 2 ≤ _; omega
      have x5 : (s.extract 0 k ++ ({ data := #[95] } : ByteArray) ++ s.extract k s.size).size ≤ 140737488357000 := by rw [size_append]; omega
      have x6 : (s.extract 0 k ++ ({ data := #[95, 95] } : ByteArray) ++ s.extract k s.size).size ≤ 140737488357000 := by rw [size_append]; omega
      have x7 : (s ++ ({ data := #[95] } : ByteArray)).size ≤ 140737488357000 := by rw [size_append]; show _ + 1 ≤ _; omega
      have i1 : (k : Int) ≤ (s.size : Int) := by omega
      have i2 : k ≤ s.size := by omega
      go_wp2_with fail
      refine (setString_s s 10 a0 a1 a2 _ (by omega) HS.out (.inr (by omega)) (by omega)).mono ?_
      rintro e w1 ⟨he, y, rfl, n1, b1, l1, c1, rfl, hy⟩
      rw [HP1.out] at hy ⊢
      simp only [Option.isSome, Option.getD] at hy ⊢
      have HE1 := Lib.hid he
      have HY1 := Lib.hid hy
      clear he hy
      go_upto_region 9 with fail
      have g1 : (w1.alloc (.cells #[.bool n1, .slice b1 l1 c1] 26)).heap[w1.heap.size]? = some (.cells #[.bool n1, .slice b1 l1 c1] 26) := heap_alloc_new _ _
      have z1 := HY1.out.ext (Ext.alloc _ (.cells #[.bool n1, .slice b1 l1 c1] 26))
      have hW : Ext w (w1.alloc (.cells #[.bool n1, .slice b1 l1 c1] 26)) := HE1.out.trans (Ext.alloc _ _)
      generalize w1.alloc (.cells #[.bool n1, .slice b1 l1 c1] 26) = wa at *
      have G1 := Lib.hid g1
      have HZ1 := Lib.hid z1
      have HWA := Lib.hid hW
      clear g1 z1 hW
      generalize w1.heap.size = p1 at *
      obtain ⟨N0, hN0⟩ : ∃ N0, wa.heap.size = N0 := ⟨_, rfl⟩
      have HSW := Lib.hid (HS.out.ext HWA.out)
      go_cut [8, 9] from 55 to 66 (fun va vb wx => vb = .bool true ∧ JN N0 13194139533500 z va wx ∧ Ext wa wx)
      case first =>
        as_aux_lemma =>
          have hs4 := x5
          refine wp_region_J preExt (preUN N0) (fun _ _ h => UN.of_ext h) 13 mixed [Is (.string s), Is (.int .i64 (k : Nat)), Is (.string (s.extract 0 k)), Is (.string (s.extract 0 k ++ { data := #[95] })), Is (.string s), Is (.int .i64 (k : Nat)), Is (.string (s.extract k s.size)), Is (.string (s.extract 0 k ++ { data := #[95] } ++ s.extract k s.size)), IsP 13194139533500 (some z), IsP 13194139533500 (some z), IsCf 13194139533500 z, Is (.bool true), AtN N0, fun _ _ => True] (by kernel_rfl) ?mono ?monoU rfl (JN N0 13194139533500 z) 8 12 _ _ rfl rfl rfl rfl (by kernel_rfl) (fun _ _ _ he h => h.ext he) ?steps ?heavy rfl (by decide) ?last
          case mono =>
            simp only [List.forall_mem_cons, List.not_mem_nil, false_implies, implies_true, and_true]
            refine ⟨?_, ?_, ?_, ?_, ?_, ?_, ?_, ?_, ?_, ?_, ?_, ?_, ?_⟩
            all_goals first | exact fun _ _ _ _ q => q | exact fun _ _ _ he q => q.un (UN.of_ext (N0 := N0) he) | exact fun _ _ _ he q => q.ext he
          case monoU =>
            intro j hj v wa wb hu h
            match j, hj with
            | 0, _ => exact h
            | 1, _ => exact h
            | 2, _ => exact h
            | 3, _ => exact h
            | 4, _ => exact h
            | 5, _ => exact h
            | 6, _ => exact h
            | 7, _ => exact h
            | 8, _ => exact (show _ from (show (_ : Value → World → Prop) v wa from h)).un hu
            | 9, _ => exact (show _ from (show (_ : Value → World → Prop) v wa from h)).un hu
            | 10, _ => exact (show _ from (show (_ : Value → World → Prop) v wa from h)).un hu
            | 11, _ => exact h
            | 12, _ => exact (show _ from (show (_ : Value → World → Prop) v wa from h)).un hu
            | 13, hj => exact absurd rfl hj
            | j + 14, _ => trivial
          case steps =>
            refine ⟨.inr ?_, .inr ?_, .inr ?_, .inr ?_, .inr ?_, .inr ?_, .inr ?_, .inr ?_, .inr ?_, .inr ?_, .inr ?_, .inr ?_, .inr ?_, .inl rfl, trivial⟩
            all_goals
              intro u0 u1 u2 u3 u4 u5 u6 u7 u8 u9 u10 u11 u12 u13 u14 w1 he hk
              simp [KnownD, Oper.looksAt, Op.operands, Call.operands, List.findIdx?_cons, Act.put] at hk
              simp only [Act.put, List.setIfInBounds_toArray, List.set_cons_succ, List.set_cons_zero]
            · go_wp2_with fail
              exact ⟨rfl, Ext.refl _, rfl⟩
            · go_wp2_with fail
              exact ⟨rfl, Ext.refl _, rfl⟩
            · obtain ⟨k0, k1⟩ := hk
              obtain rfl : u0 = .string s := k0
              obtain rfl : u1 = .int .i64 (k : Nat) := k1
              go_wp2_with fail
              exact ⟨rfl, Ext.refl _, rfl⟩
            · have k0 := hk
              obtain rfl : u2 = .string (s.extract 0 k) := k0
              go_wp2_with fail
              exact ⟨rfl, Ext.refl _, rfl⟩
            · go_wp2_with fail
              exact ⟨rfl, Ext.refl _, rfl⟩
            · go_wp2_with fail
              exact ⟨rfl, Ext.refl _, rfl⟩
            · obtain ⟨k0, k1⟩ := hk
              obtain rfl : u4 = .string s := k0
              obtain rfl : u5 = .int .i64 (k : Nat) := k1
              go_wp2_with fail
              exact ⟨rfl, Ext.refl _, rfl⟩
            · obtain ⟨k0, k1⟩ := hk
              obtain rfl : u3 = .string (s.extract 0 k ++ { data := #[95] }) := k0
              obtain rfl : u6 = .string (s.extract k s.size) := k1
              go_wp2_with fail
              exact ⟨rfl, Ext.refl _, rfl⟩
            · have k0 := hk
              obtain rfl : u7 = .string (s.extract 0 k ++ { data := #[95] } ++ s.extract k s.size) := k0
              have HU := Lib.hid he
              clear he
              go_wp2_with fail
              refine (setString_s _ 0 a0 a1 a2 _ hs4 (HSW.out.ext (UN.ext (hN0 ▸ HU.out))) (.inl rfl) (by omega)).mono ?_
              rintro e w2 ⟨he2, x, rfl, hx⟩
              rw [HP2.out] at hx
              have HX := Lib.hid hx
              clear hx
              go_wp2_with fail
              exact ⟨rfl, he2, HX.out⟩
            · have K0 := Lib.hid hk
              clear hk
              go_wp2_with fail
              exact ⟨rfl, Ext.refl _, K0.out⟩
            · obtain ⟨n, a, l, c, rfl, hc⟩ := hk
              go_wp2_with fail
              exact ⟨rfl, Ext.refl _, n, a, l, c, rfl, hc⟩
            · obtain ⟨n, a, l, c, rfl, hc⟩ := hk
              clear hc
              go_wp2_with fail
              exact ⟨rfl, Ext.refl _, rfl⟩
            · have hsz : N0 ≤ w1.heap.size := by have := (UN.ext (hN0 ▸ he)).size; omega
              go_wp2_with fail
              exact ⟨rfl, Ext.alloc _ _, _, _, _, rfl, hsz, heap_alloc_new _ _⟩
          case heavy =>
            intro u0 u1 u2 u3 u4 u5 u6 u7 u8 u9 u10 u11 u12 u13 u14 w1 he hk
            simp [KnownD, Oper.looksAt, Op.operands, Call.operands, List.findIdx?_cons, Act.put] at hk
            simp only [Act.put, List.setIfInBounds_toArray, List.set_cons_succ, List.set_cons_zero]
            obtain ⟨⟨q, x, y, rfl, hq, hp⟩, n, a, l, c, rfl, hc⟩ := hk
            have d0 := blk_cell hp 0
            have d1 := blk_cell hp 1
            have f0 := blk_free hp 0
            have f1 := blk_free hp 1
            simp at d0 d1
            have HP := Lib.hid hp
            have HC := Lib.hid hc
            clear hp hc
            go_wp2_with fail
            exact ⟨rfl, UN.store HP.out hq _ _, store_J HP.out hq HC.out⟩
          case last =>
            intro w1 vJ hu hJ u0 h0 u1 h1 u2 h2 u3 h3 u4 h4 u5 h5 u6 h6 u7 h7 u8 h8 u9 h9 u10 h10 u11 h11 u12 h12 u13 h13
            obtain rfl : u11 = .bool true := h11
            obtain ⟨rfl, _⟩ := h12
            clear h0 h1 h2 h3 h4 h5 h6 h7 h8 h9 h10 h13
            simp only [LastD, Act.put, List.setIfInBounds_toArray, List.set_cons_succ, List.set_cons_zero]
            have HJ := Lib.hid hJ
            have HX := Lib.hid (UN.ext (hN0 ▸ hu))
            clear hJ hu
            go_wp2_with fail
            go_meet
            case rel => exact ⟨rfl, HJ.out, HX.out⟩
      case rest =>
        obtain ⟨rfl, hJ, hx⟩ := hcut
        obtain ⟨wb, hwo⟩ : ∃ q, wc = q := ⟨_, rfl⟩
        rw [hwo] at hJ hx ⊢
        clear hwo
        have HJ9 := Lib.hid hJ
        have HWB := Lib.hid (HWA.out.trans hx)
        have HX9 := Lib.hid hx
        clear hJ hx hN0
        go_upto_region 10 with fail
        obtain ⟨N0, hN0⟩ : ∃ N0, wb.heap.size = N0 := ⟨_, rfl⟩
        have HSW := Lib.hid (HS.out.ext HWB.out)
        go_cut [10, 11] from 67 to 78 (fun va vb wx => vb = .bool false ∧ JN N0 13194139533500 0 va wx ∧ Ext wb wx)
        case first =>
          as_aux_lemma =>
            have hs4 := x5
            refine wp_region_J preExt (preUN N0) (fun _ _ h => UN.of_ext h) 13 mixed [Is (.string s), Is (.int .i64 (k : Nat)), Is (.string (s.extract 0 k)), Is (.string (s.extract 0 k ++ { data := #[95] })), Is (.string s), Is (.int .i64 (k : Nat)), Is (.string (s.extract k s.size)), Is (.string (s.extract 0 k ++ { data := #[95] } ++ s.extract k s.size)), IsP 13194139533500 none, IsP 13194139533500 none, IsCf 13194139533500 0, Is (.bool false), AtN N0, fun _ _ => True] (by kernel_rfl) ?mono ?monoU rfl (JN N0 13194139533500 0) 10 12 _ _ rfl rfl rfl rfl (by kernel_rfl) (fun _ _ _ he h => h.ext he) ?steps ?heavy rfl (by decide) ?last
            case mono =>
              simp only [List.forall_mem_cons, List.not_mem_nil, false_implies, implies_true, and_true]
              refine ⟨?_, ?_, ?_, ?_, ?_, ?_, ?_, ?_, ?_, ?_, ?_, ?_, ?_⟩
              all_goals first | exact fun _ _ _ _ q => q | exact fun _ _ _ he q => q.un (UN.of_ext (N0 := N0) he) | exact fun _ _ _ he q => q.ext he
            case monoU =>
              intro j hj v wa wb hu h
              match j, hj with
              | 0, _ => exact h
              | 1, _ => exact h
              | 2, _ => exact h
              | 3, _ => exact h
              | 4, _ => exact h
              | 5, _ => exact h
              | 6, _ => exact h
              | 7, _ => exact h
              | 8, _ => exact (show _ from (show (_ : Value → World → Prop) v wa from h)).un hu
              | 9, _ => exact (show _ from (show (_ : Value → World → Prop) v wa from h)).un hu
              | 10, _ => exact (show _ from (show (_ : Value → World → Prop) v wa from h)).un hu
              | 11, _ => exact h
              | 12, _ => exact (show _ from (show (_ : Value → World → Prop) v wa from h)).un hu
              | 13, hj => exact absurd rfl hj
              | j + 14, _ => trivial
            case steps =>
              refine ⟨.inr ?_, .inr ?_, .inr ?_, .inr ?_, .inr ?_, .inr ?_, .inr ?_, .inr ?_, .inr ?_, .inr ?_, .inr ?_, .inr ?_, .inr ?_, .inl rfl, trivial⟩
              all_goals
                intro u0 u1 u2 u3 u4 u5 u6 u7 u8 u9 u10 u11 u12 u13 u14 w1 he hk
                simp [KnownD, Oper.looksAt, Op.operands, Call.operands, List.findIdx?_cons, Act.put] at hk
                simp only [Act.put, List.setIfInBounds_toArray, List.set_cons_succ, List.set_cons_zero]
              · go_wp2_with fail
                exact ⟨rfl, Ext.refl _, rfl⟩
              · go_wp2_with fail
                exact ⟨rfl, Ext.refl _, rfl⟩
              · obtain ⟨k0, k1⟩ := hk
                obtain rfl : u0 = .string s := k0
                obtain rfl : u1 = .int .i64 (k : Nat) := k1
                go_wp2_with fail
                exact ⟨rfl, Ext.refl _, rfl⟩
              · have k0 := hk
                obtain rfl : u2 = .string (s.extract 0 k) := k0
                go_wp2_with fail
                exact ⟨rfl, Ext.refl _, rfl⟩
              · go_wp2_with fail
                exact ⟨rfl, Ext.refl _, rfl⟩
              · go_wp2_with fail
                exact ⟨rfl, Ext.refl _, rfl⟩
              · obtain ⟨k0, k1⟩ := hk
                obtain rfl : u4 = .string s := k0
                obtain rfl : u5 = .int .i64 (k : Nat) := k1
                go_wp2_with fail
                exact ⟨rfl, Ext.refl _, rfl⟩
              · obtain ⟨k0, k1⟩ := hk
                obtain rfl : u3 = .string (s.extract 0 k ++ { data := #[95] }) := k0
                obtain rfl : u6 = .string (s.extract k s.size) := k1
                go_wp2_with fail
                exact ⟨rfl, Ext.refl _, rfl⟩
              · have k0 := hk
                obtain rfl : u7 = .string (s.extract 0 k ++ { data := #[95] } ++ s.extract k s.size) := k0
                have HU := Lib.hid he
                clear he
                go_wp2_with fail
                refine (setString_s _ 10 a0 a1 a2 _ hs4 (HSW.out.ext (UN.ext (hN0 ▸ HU.out))) (.inr (by omega)) (by omega)).mono ?_
                rintro e w2 ⟨he2, x, rfl, hx⟩
                rw [HP3.out] at hx
                have HX := Lib.hid hx
                clear hx
                go_wp2_with fail
                exact ⟨rfl, he2, HX.out⟩
              · have K0 := Lib.hid hk
                clear hk
                go_wp2_with fail
                exact ⟨rfl, Ext.refl _, K0.out⟩
              · obtain ⟨n, a, l, c, rfl, hc⟩ := hk
                go_wp2_with fail
                exact ⟨rfl, Ext.refl _, n, a, l, c, rfl, hc⟩
              · obtain ⟨n, a, l, c, rfl, hc⟩ := hk
                clear hc
                go_wp2_with fail
                exact ⟨rfl, Ext.refl _, rfl⟩
              · have hsz : N0 ≤ w1.heap.size := by have := (UN.ext (hN0 ▸ he)).size; omega
                go_wp2_with fail
                exact ⟨rfl, Ext.alloc _ _, _, _, _, rfl, hsz, heap_alloc_new _ _⟩
            case heavy =>
              intro u0 u1 u2 u3 u4 u5 u6 u7 u8 u9 u10 u11 u12 u13 u14 w1 he hk
              simp [KnownD, Oper.looksAt, Op.operands, Call.operands, List.findIdx?_cons, Act.put] at hk
              simp only [Act.put, List.setIfInBounds_toArray, List.set_cons_succ, List.set_cons_zero]
              obtain ⟨⟨q, x, y, rfl, hq, hp⟩, n, a, l, c, rfl, hc⟩ := hk
              have d0 := blk_cell hp 0
              have d1 := blk_cell hp 1
              have f0 := blk_free hp 0
              have f1 := blk_free hp 1
              simp at d0 d1
              have HP := Lib.hid hp
              have HC := Lib.hid hc
              clear hp hc
              go_wp2_with fail
              exact ⟨rfl, UN.store HP.out hq _ _, store_J HP.out hq HC.out⟩
            case last =>
              intro w1 vJ hu hJ u0 h0 u1 h1 u2 h2 u3 h3 u4 h4 u5 h5 u6 h6 u7 h7 u8 h8 u9 h9 u10 h10 u11 h11 u12 h12 u13 h13
              obtain rfl : u11 = .bool false := h11
              obtain ⟨rfl, _⟩ := h12
              clear h0 h1 h2 h3 h4 h5 h6 h7 h8 h9 h10 h13
              simp only [LastD, Act.put, List.setIfInBounds_toArray, List.set_cons_succ, List.set_cons_zero]
              have HJ := Lib.hid hJ
              have HX := Lib.hid (UN.ext (hN0 ▸ hu))
              clear hJ hu
              go_wp2_with fail
              go_meet
              case rel => exact ⟨rfl, HJ.out, HX.out⟩
        case rest =>
          obtain ⟨rfl, hJ, hx⟩ := hcut
          obtain ⟨wc2, hwo⟩ : ∃ q, wc = q := ⟨_, rfl⟩
          rw [hwo] at hJ hx ⊢
          clear hwo
          have HJ10 := Lib.hid hJ
          have HWC := Lib.hid (HWB.out.trans hx)
          have HX10 := Lib.hid hx
          clear hJ hx hN0
          go_upto_region 11 with fail
          obtain ⟨N0, hN0⟩ : ∃ N0, wc2.heap.size = N0 := ⟨_, rfl⟩
          have HSW := Lib.hid (HS.out.ext HWC.out)
          go_cut [12, 13] from 79 to 90 (fun va vb wx => vb = .bool false ∧ JN N0 13194139533500 0 va wx ∧ Ext wc2 wx)
          case first =>
            as_aux_lemma =>
              have hs4 := x6
              refine wp_region_J preExt (preUN N0) (fun _ _ h => UN.of_ext h) 13 mixed [Is (.string s), Is (.int .i64 (k : Nat)), Is (.string (s.extract 0 k)), Is (.string (s.extract 0 k ++ { data := #[95, 95] })), Is (.string s), Is (.int .i64 (k : Nat)), Is (.string (s.extract k s.size)), Is (.string (s.extract 0 k ++ { data := #[95, 95] } ++ s.extract k s.size)), IsP 13194139533500 none, IsP 13194139533500 none, IsCf 13194139533500 0, Is (.bool false), AtN N0, fun _ _ => True] (by kernel_rfl) ?mono ?monoU rfl (JN N0 13194139533500 0) 12 12 _ _ rfl rfl rfl rfl (by kernel_rfl) (fun _ _ _ he h => h.ext he) ?steps ?heavy rfl (by decide) ?last
              case mono =>
                simp only [List.forall_mem_cons, List.not_mem_nil, false_implies, implies_true, and_true]
                refine ⟨?_, ?_, ?_, ?_, ?_, ?_, ?_, ?_, ?_, ?_, ?_, ?_, ?_⟩
                all_goals first | exact fun _ _ _ _ q => q | exact fun _ _ _ he q => q.un (UN.of_ext (N0 := N0) he) | exact fun _ _ _ he q => q.ext he
              case monoU =>
                intro j hj v wa wb hu h
                match j, hj with
                | 0, _ => exact h
                | 1, _ => exact h
                | 2, _ => exact h
                | 3, _ => exact h
                | 4, _ => exact h
                | 5, _ => exact h
                | 6, _ => exact h
                | 7, _ => exact h
                | 8, _ => exact (show _ from (show (_ : Value → World → Prop) v wa from h)).un hu
                | 9, _ => exact (show _ from (show (_ : Value → World → Prop) v wa from h)).un hu
                | 10, _ => exact (show _ from (show (_ : Value → World → Prop) v wa from h)).un hu
                | 11, _ => exact h
                | 12, _ => exact (show _ from (show (_ : Value → World → Prop) v wa from h)).un hu
                | 13, hj => exact absurd rfl hj
                | j + 14, _ => trivial
              case steps =>
                refine ⟨.inr ?_, .inr ?_, .inr ?_, .inr ?_, .inr ?_, .inr ?_, .inr ?_, .inr ?_, .inr ?_, .inr ?_, .inr ?_, .inr ?_, .inr ?_, .inl rfl, trivial⟩
                all_goals
                  intro u0 u1 u2 u3 u4 u5 u6 u7 u8 u9 u10 u11 u12 u13 u14 w1 he hk
                  simp [KnownD, Oper.looksAt, Op.operands, Call.operands, List.findIdx?_cons, Act.put] at hk
                  simp only [Act.put, List.setIfInBounds_toArray, List.set_cons_succ, List.set_cons_zero]
                · go_wp2_with fail
                  exact ⟨rfl, Ext.refl _, rfl⟩
                · go_wp2_with fail
                  exact ⟨rfl, Ext.refl _, rfl⟩
                · obtain ⟨k0, k1⟩ := hk
                  obtain rfl : u0 = .string s := k0
                  obtain rfl : u1 = .int .i64 (k : Nat) := k1
                  go_wp2_with fail
                  exact ⟨rfl, Ext.refl _, rfl⟩
                · have k0 := hk
                  obtain rfl : u2 = .string (s.extract 0 k) := k0
                  go_wp2_with fail
                  exact ⟨rfl, Ext.refl _, rfl⟩
                · go_wp2_with fail
                  exact ⟨rfl, Ext.refl _, rfl⟩
                · go_wp2_with fail
                  exact ⟨rfl, Ext.refl _, rfl⟩
                · obtain ⟨k0, k1⟩ := hk
                  obtain rfl : u4 = .string s := k0
                  obtain rfl : u5 = .int .i64 (k : Nat) := k1
                  go_wp2_with fail
                  exact ⟨rfl, Ext.refl _, rfl⟩
                · obtain ⟨k0, k1⟩ := hk
                  obtain rfl : u3 = .string (s.extract 0 k ++ { data := #[95, 95] }) := k0
                  obtain rfl : u6 = .string (s.extract k s.size) := k1
                  go_wp2_with fail
                  exact ⟨rfl, Ext.refl _, rfl⟩
                · have k0 := hk
                  obtain rfl : u7 = .string (s.extract 0 k ++ { data := #[95, 95] } ++ s.extract k s.size) := k0
                  have HU := Lib.hid he
                  clear he
                  go_wp2_with fail
                  refine (setString_s _ 0 a0 a1 a2 _ hs4 (HSW.out.ext (UN.ext (hN0 ▸ HU.out))) (.inl rfl) (by omega)).mono ?_
                  rintro e w2 ⟨he2, x, rfl, hx⟩
                  rw [HP4.out] at hx
                  have HX := Lib.hid hx
                  clear hx
                  go_wp2_with fail
                  exact ⟨rfl, he2, HX.out⟩
                · have K0 := Lib.hid hk
                  clear hk
                  go_wp2_with fail
                  exact ⟨rfl, Ext.refl _, K0.out⟩
                · obtain ⟨n, a, l, c, rfl, hc⟩ := hk
                  go_wp2_with fail
                  exact ⟨rfl, Ext.refl _, n, a, l, c, rfl, hc⟩
                · obtain ⟨n, a, l, c, rfl, hc⟩ := hk
                  clear hc
                  go_wp2_with fail
                  exact ⟨rfl, Ext.refl _, rfl⟩
                · have hsz : N0 ≤ w1.heap.size := by have := (UN.ext (hN0 ▸ he)).size; omega
                  go_wp2_with fail
                  exact ⟨rfl, Ext.alloc _ _, _, _, _, rfl, hsz, heap_alloc_new _ _⟩
              case heavy =>
                intro u0 u1 u2 u3 u4 u5 u6 u7 u8 u9 u10 u11 u12 u13 u14 w1 he hk
                simp [KnownD, Oper.looksAt, Op.operands, Call.operands, List.findIdx?_cons, Act.put] at hk
                simp only [Act.put, List.setIfInBounds_toArray, List.set_cons_succ, List.set_cons_zero]
                obtain ⟨⟨q, x, y, rfl, hq, hp⟩, n, a, l, c, rfl, hc⟩ := hk
                have d0 := blk_cell hp 0
                have d1 := blk_cell hp 1
                have f0 := blk_free hp 0
                have f1 := blk_free hp 1
                simp at d0 d1
                have HP := Lib.hid hp
                have HC := Lib.hid hc
                clear hp hc
                go_wp2_with fail
                exact ⟨rfl, UN.store HP.out hq _ _, store_J HP.out hq HC.out⟩
              case last =>
                intro w1 vJ hu hJ u0 h0 u1 h1 u2 h2 u3 h3 u4 h4 u5 h5 u6 h6 u7 h7 u8 h8 u9 h9 u10 h10 u11 h11 u12 h12 u13 h13
                obtain rfl : u11 = .bool false := h11
                obtain ⟨rfl, _⟩ := h12
                clear h0 h1 h2 h3 h4 h5 h6 h7 h8 h9 h10 h13
                simp only [LastD, Act.put, List.setIfInBounds_toArray, List.set_cons_succ, List.set_cons_zero]
                have HJ := Lib.hid hJ
                have HX := Lib.hid (UN.ext (hN0 ▸ hu))
                clear hJ hu
                go_wp2_with fail
                go_meet
                case rel => exact ⟨rfl, HJ.out, HX.out⟩
          case rest =>
            obtain ⟨rfl, hJ, hx⟩ := hcut
            obtain ⟨wd, hwo⟩ : ∃ q, wc = q := ⟨_, rfl⟩
            rw [hwo] at hJ hx ⊢
            clear hwo
            have HJ11 := Lib.hid hJ
            have HWD := Lib.hid (HWC.out.trans hx)
            have HX11 := Lib.hid hx
            clear hJ hx hN0
            go_wp2_with fail
            refine (setString_s _ 0 a0 a1 a2 _ x7 (HS.out.ext HWD.out) (.inl rfl) (by omega)).mono ?_
            rintro e w5 ⟨he, y, rfl, n5, b5, l5, c5, rfl, hy⟩
            rw [HP5.out] at hy ⊢
            simp only [Option.isSome, Option.getD] at hy ⊢
            have HE5 := Lib.hid (HWD.out.trans he)
            have HX5 := Lib.hid he
            clear he hy
            obtain ⟨p2, n2, b2, l2, c2, rfl, _, hp2, hz2⟩ := HJ9.out
            have G2 := Lib.hid (((HX10.out.trans HX11.out).trans HX5.out).block hp2)
            have HZ2 := Lib.hid (hz2.ext ((HX10.out.trans HX11.out).trans HX5.out))
            have G1b := Lib.hid ((((HX9.out.trans HX10.out).trans HX11.out).trans HX5.out).block G1.out)
            have HZ1b := Lib.hid (HZ1.out.ext (((HX9.out.trans HX10.out).trans HX11.out).trans HX5.out))
            clear hp2 hz2
            go_upto_region 13 with fail
            have d1 := blk_cell ((Ext.alloc w5 (.cells #[.bool n5, .slice b5 l5 c5] 26)).block G1b.out) 0
            have f1 := blk_cell ((Ext.alloc w5 (.cells #[.bool n5, .slice b5 l5 c5] 26)).block G1b.out) 1
            have d2 := blk_cell ((Ext.alloc w5 (.cells #[.bool n5, .slice b5 l5 c5] 26)).block G2.out) 0
            have f2 := blk_cell ((Ext.alloc w5 (.cells #[.bool n5, .slice b5 l5 c5] 26)).block G2.out) 1
            simp at d1 f1 d2 f2
            go_wp2_with fail
            refine (same_z 13194139533500 13194139533500 z z _ _ _ (HZ1b.out.ext (Ext.alloc _ _)).z (HZ2.out.ext (Ext.alloc _ _)).z (by omega) (by omega)).mono ?_
            rintro e wf ⟨he, x, rfl, hx⟩
            obtain rfl : x = .bool true := hx.trans (by simp)
            have HEF := Lib.hid ((HE5.out.trans (Ext.alloc _ _)).trans he)
            clear he hx d1 f1 d2 f2
            go_wp2_with fail
            go_ret
            exact ⟨HEF.out, rfl⟩

end Go.Proofs.YtocadbghhoibnaaFmt

