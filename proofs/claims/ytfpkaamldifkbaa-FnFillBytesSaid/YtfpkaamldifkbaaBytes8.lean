/- spec.FillBytes, spec.Bytes, laws.sameBytes: contracts. -/
import Derived.Test.YtfpkaamldifkbaaBytes6
import Derived.Test.YtfpkaamldifkbaaBits
import Derived.Deep.QuietTactic
import Derived.BigQuiet
set_option linter.unusedSimpArgs false
set_option linter.unusedVariables false
namespace Go.Proofs.Ytfpkaamldifkbaa
open Go.RowKit

/-- The bytes, if they fit. -/
def fbl (n v : Nat) : List Nat := bif decide (v < 256 ^ n) then beb n v else []

def IsFb (n v : Nat) (x : Value) (w : World) : Prop := ∃ s, x = .tuple #[s, .bool (decide (v < 256 ^ n))] ∧ Rd .u8 w s (fbl n v)

theorem IsFb.ext {n v : Nat} {x : Value} {w w' : World} (h : IsFb n v x w) (he : Ext w w') : IsFb n v x w' := by
  obtain ⟨s, h1, h2⟩ := h; exact ⟨s, h1, h2.ext he⟩

theorem fbl_fit {n v : Nat} (h : v < 256 ^ n) : fbl n v = beb n v := by simp [fbl, h]

theorem fbl_not {n v : Nat} (h : ¬ v < 256 ^ n) : fbl n v = [] := by simp [fbl, h]

theorem IsFb.yes {n v : Nat} {s : Value} {w : World} (h : v < 256 ^ n) (hr : Rd .u8 w s (beb n v)) : IsFb n v (.tuple #[s, .bool true]) w :=
  ⟨s, by simp [h], by rw [fbl_fit h]; exact hr⟩

theorem IsFb.no {n v : Nat} {s : Value} {w : World} (h : ¬ v < 256 ^ n) (hr : Rd .u8 w s []) : IsFb n v (.tuple #[s, .bool false]) w :=
  ⟨s, by simp [h], by rw [fbl_not h]; exact hr⟩

set_option maxHeartbeats 1000000 in
theorem sameBytes_z (u v : Value) (bs cs : List Nat) (w : World) (hu : Rd .u8 w u bs) (hv : Rd .u8 w v cs) (hb : bs.length ≤ 140737488355328) (hc : cs.length ≤ 140737488355328) :
    Calls Try.prog 10 #[u, v] w (ResR (Is (.bool (decide (bs = cs)))) w) := by
  obtain ⟨_, a, cap, rfl, hlc, hcap, hnil, hcells⟩ := hu
  obtain ⟨_, a', cap', rfl, hlc', hcap', hnil', hcells'⟩ := hv
  have HC := Lib.hid hcells
  have HC' := Lib.hid hcells'
  clear hcells hcells' hnil hnil'
  by_cases hlen : bs.length = cs.length
  · generalize hr : decide (bs = cs) = r
    have HR := Lib.hid hr
    have HL := Lib.hid hlen
    rw [← hlen]
    rw [← hlen] at hlc'
    clear hr hlen
    go_enter Try.func10, Try.ntmps10
    go_wp2_with fail
    go_loopw [5] (fun i wr => ∃ k : Nat, k ≤ bs.length ∧ i = .int .i64 (k : Nat) ∧ Hid (bs.take k = cs.take k) ∧ Ext w wr) (fun i _ => bs.length - (intOf i).toNat)
    case atStart => exact ⟨0, by omega, rfl, Lib.hid (by simp), Ext.refl _⟩
    case round =>
      obtain ⟨k, hk, rfl, ht, he⟩ := hrel
      by_cases hlt : k < bs.length
      · obtain ⟨b, off, rfl, h1⟩ := HC.out k hlt
        obtain ⟨b', off', rfl, h2⟩ := HC'.out k (by have := HL.out; omega)
        replace h1 := he.cell h1
        replace h2 := he.cell h2
        have hs1 : bs.take (k + 1) = bs.take k ++ [bs.getD k 0] := by
          rw [List.take_succ_eq_append_getElem hlt, List.getD_eq_getElem?_getD, List.getElem?_eq_getElem hlt]; rfl
        have hlt2 : k < cs.length := by have := HL.out; omega
        have hs2 : cs.take (k + 1) = cs.take k ++ [cs.getD k 0] := by
          rw [List.take_succ_eq_append_getElem hlt2, List.getD_eq_getElem?_getD, List.getElem?_eq_getElem hlt2]; rfl
        have HS1 := Lib.hid hs1
        have HS2 := Lib.hid hs2
        have HEE := Lib.hid he
        generalize hx : bs.getD k 0 = x at *
        generalize hy : cs.getD k 0 = y at *
        have HXX := Lib.hid hx
        have HYY := Lib.hid hy
        clear hs1 hs2 hx hy he hlt2
        have b1 : (0 : Int) ≤ (k : Int) := by omega
        have b2 : (k : Int) < (bs.length : Int) := by omega
        by_cases hxy : x = y
        · subst hxy
          have hne : ((x : Int) != (x : Int)) = false := by simp
          go_wp2_with fail
          go_quiet (fail)
          go_wp2_with fail
          go_roundw
          case rel => exact ⟨k + 1, by omega, by go_num, Lib.hid (by rw [HS1.out, HS2.out, ht.out]), HEE.out.trans (drewN_ext _ _)⟩
          case measure => simp [intOf]; omega
        · have hne : ((x : Int) != (y : Int)) = true := by simp; omega
          have hrf : r = false := by
            rw [← HR.out, decide_eq_false_iff_not]
            intro e
            rw [e] at HXX
            exact hxy (HXX.out.symm.trans HYY.out)
          subst hrf
          clear hxy
          go_wp2_with fail
          go_quiet (fail)
          go_wp2_with fail
          go_ret
          exact ⟨HEE.out.trans (drewN_ext _ _), _, rfl, rfl⟩
      · obtain rfl : k = bs.length := by omega
        have hrt : r = true := by
          rw [← HR.out, decide_eq_true_iff]
          have h1 := ht.out
          rw [List.take_length, HL.out, List.take_length] at h1
          exact h1
        subst hrt
        have HEE := Lib.hid he
        clear he
        go_wp2_with fail
        go_ret
        exact ⟨HEE.out, _, rfl, rfl⟩
  · rw [show decide (bs = cs) = false by simp; intro e; exact hlen (by rw [e])]
    have hb1 : ((bs.length : Int) != (cs.length : Int)) = true := by simp; omega
    have hb2 : ((bs.length : Int) == (cs.length : Int)) = false := by simp; omega
    clear hlen
    go_enter Try.func10, Try.ntmps10
    go_wp2_with fail
    go_ret
    exact ⟨Ext.refl _, _, rfl, rfl⟩

/-- The bytes laid till now. -/
def FbL (w0 : World) (B v n : Nat) (v6 v7 : Value) (wr : World) : Prop :=
  ∃ (t : Nat) (i : Int), t ≤ n ∧ v7 = .int .i64 i ∧ i + t + 1 = n ∧ wr.ownsRow B 5 1 v6 t (words .u8 ((beb n v).take t)) ∧ Below B w0 wr

theorem beb_take (n v t m : Nat) (h : m + t + 1 = n) : (beb n v).take (t + 1) = (beb n v).take t ++ [v / 256 ^ m % 256] := by
  have hlt : t < (beb n v).length := by rw [beb_len]; omega
  have h1 := beb_get? n v t (by omega)
  rw [List.getElem?_eq_getElem hlt, show n - 1 - t = m by omega] at h1
  rw [List.take_succ_eq_append_getElem hlt, Option.some.inj h1]

set_option maxRecDepth 10000 in
set_option maxHeartbeats 2000000 in
theorem specFillBytes_z (L : Nat) (z : Int) (n : Nat) (x : Value) (w : World) (h : IsZ L z x w) (hL : L ≤ 17592186044416) (hn : n ≤ 140737488355328) :
    Calls Try.prog 16 #[x, .int .i64 (n : Nat)] w (ResR (IsFb n z.natAbs) w) := by
  have HZ := Lib.hid h
  obtain ⟨nn, s, ws, rfl, hr, hl, hz⟩ := h
  obtain ⟨a, c, rfl⟩ := hr.form
  have hvz : z.natAbs = val ws := by rw [← hz, ival_abs]
  have hbl0 : blen z ≤ 64 * ws.length := by
    rw [blen, blenN_le_iff, hvz, ← pow64]
    exact val_lt ws hr.1
  have hbl : blen z ≤ 1125899906842624 := by omega
  clear hbl0
  have hfi := fit_iff n z.natAbs
  have hnb : nby z.natAbs = (blen z + 7) / 8 := rfl
  rw [hnb] at hfi
  rw [hvz] at *
  have HR := Lib.hid hr
  have hwb : ∀ m, val ws / 256 ^ m % 256 = ws.getD (m / 8) 0 / 2 ^ (m % 8 * 8) % 256 := by
    intro m
    have := word_byte ws hr.1 (m / 8) (m % 8) (Nat.mod_lt _ (by decide))
    rw [Nat.div_add_mod, pow256_2 (m % 8), Nat.mul_comm 8 (m % 8)] at this
    exact this
  have HWB := Lib.hid hwb
  have HB : Hid (∀ x ∈ ws, x < 18446744073709551616) := Lib.hid hr.1
  generalize hv : val ws = v at *
  generalize hbz : blen z = bl at *
  have HBZ := Lib.hid hbz
  clear hr hz hvz hv hwb hnb hbz
  have hn0 : decide ((n : Int) < 0) = false := by simp
  by_cases hf : v < 256 ^ n
  · have hle : (bl + 7) / 8 ≤ n := hfi.1 hf
    have hgt : decide ((n : Int) < ((bl : Int) + 7) / 8) = false := by simp; omega
    have HF := Lib.hid hf
    clear hfi hf
    obtain ⟨i0, hi, hz0, hz1, hz2⟩ := info_parts infoByte
    have HI := Lib.hid hi
    have HI0 := Lib.hid hz0
    have HI1 := Lib.hid hz1
    have HI2 := Lib.hid hz2
    clear hi hz0 hz1 hz2
    go_enter Try.func16, Try.ntmps16
    go_wp2_with fail
    refine (specBitLen_z L z _ _ (HZ.out.ext (Ext.alloc _ _)) hL).mono ?_
    rw [HBZ.out]
    rintro e w1 ⟨he, y, rfl, hy⟩
    obtain rfl : y = .int .i64 (bl : Nat) := hy
    have hb1 := he.block (heap_alloc_new _ _)
    have HB1 := Lib.hid hb1
    have HE1 := Lib.hid ((Ext.alloc _ _).trans he)
    have hsz := HE1.out.size
    have hbs : w.heap.size < w1.heap.size := by have := he.size; simp at this; omega
    clear he hb1
    go_wp2_with fail
    go_loopw [6, 7] (fun v6 v7 wr => FbL w1 w1.heap.size v n v6 v7 wr) (fun _ v7 _ => (intOf v7 + 1).toNat)
    case atStart => exact ⟨0, (n : Int) - 1, by omega, rfl, by omega, row_start .u8 _ _ _ _ (by simp) (Nat.le_refl _), (Below.refl _ _).alloc (by simp) _⟩
    case round =>
      obtain ⟨t, i, ht, rfl, hit, hown, hbel⟩ := hrel
      by_cases hpos : 0 ≤ i
      · obtain ⟨m, rfl⟩ : ∃ m : Nat, i = (m : Int) := ⟨i.toNat, by omega⟩
        have hbx := (Below.block hbel w.heap.size hbs).trans HB1.out
        have d0 := blk_cell hbx 0
        have d1 := blk_cell hbx 1
        simp at d0 d1
        have hEr : Ext w1 wr := ⟨hbel.os, hbel.tape, hbel.output, hbel.size, fun j hj => hbel.block j hj⟩
        obtain ⟨y, hy⟩ : ∃ y, ws.getD (m / 8) 0 = y := ⟨_, rfl⟩
        have HY := Lib.hid hy
        have hyl : y < 18446744073709551616 := by rw [← hy]; exact getD_lt HB.out (by omega) _
        have hby : v / 256 ^ m % 256 = y / 2 ^ (m % 8 * 8) % 256 := by rw [HWB.out m, hy]
        have HBY := Lib.hid hby
        have HER := Lib.hid hEr
        have HBEL := Lib.hid hbel
        have HTM : Hid (m + t + 1 = n) := Lib.hid (by omega)
        have h80 : 0 ≤ (m : Int) % 8 := by omega
        have h81 : (m : Int) % 8 < 8 := by omega
        have hm1 : m ≤ 140737488355328 := by omega
        clear hy hby hEr hbel hbx hit
        obtain ⟨bb, hb0⟩ : ∃ bb, y / 2 ^ (m % 8 * 8) % 256 = bb := ⟨_, rfl⟩
        have hbb : ((y : Int) / 2 ^ (m % 8 * 8) % 256) = (bb : Int) := by rw [← hb0]; push_cast; rfl
        have HB0 := Lib.hid hb0
        clear hb0
        go_wp2_with fail
        refine (word_any _ ws (m / 8) y _ (HR.out.ext (HE1.out.trans HER.out)) (by omega) HY.out).mono ?_
        rintro e w2 ⟨rfl, rfl⟩
        go_wp2_with (at_builtin; refine wpList_append_own _ rfl _ _ 26 rfl w1.heap.size 5 i0 (.int .u8 0) 1 1 Try.underlying26 HI.out HI0.out HI1.out HI2.out rfl (by decide) _ _ _ rfl (hown.alloc _) ⟨wr.heap.size, 0, none⟩ 1 1 [.int .u8 (bb : Nat)] rfl rfl ?c1 ?c2 ?c3 ?c4 ?c5 ?_)
        case c1 => exact cell_one_new _ _ _
        case c2 => simp [Value.oneCell']
        case c3 => have := HTM.out; simp only [maxLen]; omega
        case c4 => have := HTM.out; omega
        case c5 => have := HER.out.size; simp; omega
        intro v' w3 hown' hgrow _
        have hbel1 := ((HBEL.out.alloc HER.out.size (.cells #[.int .u8 (bb : Nat)] 5)).grown hgrow (by have := HER.out.size; simp; omega) (fun j hj => (hown.lt j hj).1))
        have hrel' : FbL w1 w1.heap.size v n v' (.int .i64 ((m : Int) - 1)) w3 := by
          refine ⟨t + 1, (m : Int) - 1, by have := HTM.out; omega, rfl, by have := HTM.out; omega, ?_, hbel1⟩
          rw [beb_take n v t m HTM.out, HBY.out, HB0.out, words_app]
          exact hown'
        have HR' := Lib.hid hrel'
        clear hrel' hown' hgrow hown hbel1 hbb
        go_wp2_with fail
        go_roundw
        case rel => exact HR'.out
        case measure => simp [intOf]
      · obtain rfl : t = n := by omega
        rw [List.take_of_length_le (by rw [beb_len]; omega)] at hown
        have HRD := Lib.hid (ownsRow.read hown (beb_lt _ _))
        have hEr : Ext w1 wr := ⟨hbel.os, hbel.tape, hbel.output, hbel.size, fun j hj => hbel.block j hj⟩
        have HER := Lib.hid (HE1.out.trans hEr)
        clear hown hbel hEr hit
        go_wp2_with fail
        go_ret2
        exact ⟨HER.out, _, rfl, IsFb.yes HF.out HRD.out⟩
  · have hle : n < (bl + 7) / 8 := by
      rcases Nat.lt_or_ge n ((bl + 7) / 8) with h | h
      · exact h
      · exact absurd (hfi.2 h) hf
    have hgt : decide ((n : Int) < ((bl : Int) + 7) / 8) = true := by simp; omega
    have HF := Lib.hid hf
    clear hfi hf
    go_enter Try.func16, Try.ntmps16
    go_wp2_with fail
    refine (specBitLen_z L z _ _ (HZ.out.ext (Ext.alloc _ _)) hL).mono ?_
    rw [HBZ.out]
    rintro e w1 ⟨he, y, rfl, hy⟩
    obtain rfl : y = .int .i64 (bl : Nat) := hy
    have HE1 := Lib.hid ((Ext.alloc _ _).trans he)
    clear he
    go_wp2_with fail
    go_ret2
    exact ⟨HE1.out.trans (Ext.alloc _ _), _, rfl, IsFb.no HF.out (ownsRow.read (base := 0) (row_start .u8 _ _ _ _ (by simp) (Nat.zero_le _)) (by simp))⟩

end Go.Proofs.Ytfpkaamldifkbaa
