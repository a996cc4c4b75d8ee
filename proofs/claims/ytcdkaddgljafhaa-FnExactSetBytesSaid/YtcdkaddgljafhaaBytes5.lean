/- nat.bytes: the contract. -/
import Derived.Test.YtcdkaddgljafhaaByteMath2
import Derived.Test.YtcdkaddgljafhaaSetU
import Derived.WalkLawsBesides
set_option linter.unusedSimpArgs false
set_option linter.unusedVariables false
namespace Go.Proofs.Ytcdkaddgljafhaa
open Go.RowKit

/-- The row v0 has the bytes of the t lowest bytes of v. -/
def BfK (w : World) (v0 : Value) (v n : Nat) (t : Nat) (wr : World) : Prop :=
  wr.ownsRow 0 5 1 v0 n (words .u8 (beb n (v % 256 ^ t))) ∧ (n ≤ t → v % 256 ^ t < 256 ^ n) ∧ Upd (fun k => v0.ownBlock = some k) w wr

def BfO (w : World) (v0 : Value) (v n len : Nat) (v4 v12 : Value) (wr : World) : Prop :=
  ∃ (k : Nat) (i : Int), k ≤ len ∧ v12 = .int .i64 (k : Nat) ∧ v4 = .int .i64 i ∧ i + 8 * k = n ∧ BfK w v0 v n (8 * k) wr

def BfI (w : World) (v0 : Value) (v n k x : Nat) (v4 v6 v7 : Value) (wr : World) : Prop :=
  ∃ (j d : Nat) (i : Int), j ≤ 8 ∧ v7 = .int .i64 (j : Nat) ∧ v6 = .int .u64 (d : Nat) ∧ d = x / 256 ^ j ∧ v4 = .int .i64 i ∧ i + (8 * k + j) = n ∧ BfK w v0 v n (8 * k + j) wr

/-- What nat.bytes leaves. -/
def BytR (v0 : Value) (v n : Nat) (w : World) (e : Ending) (w' : World) : Prop :=
  Upd (fun k => v0.ownBlock = some k) w w' ∧
    ((v < 256 ^ n ∧ e = .returned (.int .i64 ((n - nby v : Nat) : Int)) ∧ w'.ownsRow 0 5 1 v0 n (words .u8 (beb n v))) ∨
      (¬ v < 256 ^ n ∧ ∃ u x, e = .panicked [{ v := .iface u x, recovered := false }]))

theorem words_set (k : IntKind) (ws : List Nat) (i x : Nat) : (words k ws).set i (.int k (x : Nat)) = words k (ws.set i x) := by
  simp [words, List.map_set]

theorem BfK.put {w wr : World} {g n cap v t m b : Nat} (h : BfK w (.slice (some ⟨g, 0, none⟩) n cap) v n t wr) (hm : m + t + 1 = n) (hb : v / 256 ^ t % 256 = b) :
    BfK w (.slice (some ⟨g, 0, none⟩) n cap) v n (t + 1) (wr.setCell ⟨g, m, none⟩ (.int .u8 (b : Nat))) := by
  obtain ⟨h1, h2, h3⟩ := h
  refine ⟨?_, fun hn => ?_, h3.setCell (by rfl) _⟩
  · have := ownsRow_set h1 m (by omega) (.int .u8 (b : Nat))
    rw [words_set, ← hb, show m = n - 1 - t by omega, beb_put n v t (by omega)] at this
    rw [← hb, show m = n - 1 - t by omega]
    exact this
  · obtain rfl : n = t + 1 := by omega
    exact fit_first

theorem BfK.past {w wr : World} {v0 : Value} {n v t : Nat} (h : BfK w v0 v n t wr) (hn : n ≤ t) (hb : v / 256 ^ t % 256 = 0) : BfK w v0 v n (t + 1) wr := by
  obtain ⟨h1, h2, h3⟩ := h
  exact ⟨by rw [← beb_past n v t hn]; exact h1, fun _ => fit_next hn (h2 hn) hb, h3⟩

theorem div_next (x j : Nat) : x / 256 ^ j / 256 = x / 256 ^ (j + 1) := by
  rw [Nat.div_div_eq_div_mul, Nat.pow_succ]

set_option maxRecDepth 100000 in
set_option maxHeartbeats 4000000 in
theorem natBytes_any (xa : Option Addr) (xc : Nat) (ws : List Nat) (a : Option Addr) (n cap : Nat) (w : World) (hx : Rd .u64 w (.slice xa ws.length xc) ws) (hl : ws.length ≤ 17592186044416) (ho : w.ownsRow 0 5 1 (.slice a n cap) n (words .u8 (List.replicate n 0))) (hn : n ≤ 140737488355328) (hsep : ∀ b off, xa = some ⟨b, off, none⟩ → (Value.slice a n cap).ownBlock ≠ some b) :
    Calls Try.prog 75 #[.slice xa ws.length xc, .slice a n cap] w (BytR (.slice a n cap) (val ws) n w) := by
  have hb64 : ∀ x ∈ ws, x < 18446744073709551616 := hx.1
  obtain ⟨_, xa', xc', q1, q2, q3, q4, hcells⟩ := hx
  simp at q1
  obtain ⟨rfl, rfl⟩ := q1
  obtain ⟨v, hv⟩ : ∃ v, v = val ws := ⟨_, rfl⟩
  have HWB : Hid (∀ k j, j < 8 → v / 256 ^ (8 * k + j) % 256 = ws.getD k 0 / 256 ^ j % 256) := Lib.hid (fun k j hj => by rw [hv]; exact word_byte ws hb64 k j hj)
  have HFW : Hid (v < 256 ^ (8 * ws.length)) := Lib.hid (by rw [hv]; exact fit_words ws hb64)
  have HB := Lib.hid hb64
  have HS := Lib.hid hsep
  have HC := Lib.hid hcells
  rw [← hv]
  have hK0 : BfK w (.slice a n cap) v n 0 w := ⟨by rw [Nat.pow_zero, Nat.mod_one, beb_zero]; exact ho, fun h => by rw [Nat.pow_zero, Nat.mod_one]; exact Nat.pow_pos (by decide), Upd.refl _ _⟩
  have HK0 := Lib.hid hK0
  clear hK0 hv hb64 hsep hcells ho q4
  go_enter Try.func75, Try.ntmps75
  go_wp2_with fail
  go_loopw [4, 6, 7, 12] (fun v4 _ _ v12 wr => BfO w (.slice a n cap) v n ws.length v4 v12 wr) (fun _ _ _ v12 _ => ws.length - (intOf v12).toNat)
  case atStart => exact ⟨0, n, by omega, rfl, rfl, by omega, HK0.out⟩
  case round =>
    obtain ⟨k, i, hk, rfl, rfl, hik, hK⟩ := hrel
    have hi1 : i ≤ 140737488355328 := by omega
    have hi2 : -140737488355328 ≤ i := by omega
    by_cases hlt : k < ws.length
    · obtain ⟨b, off, rfl, hc0⟩ := HC.out k hlt
      have hne := HS.out b off rfl
      obtain ⟨x, hcell, HX⟩ : ∃ x : Nat, wr.cell? ⟨b, off + k, none⟩ = some (.int .u64 x) ∧ Hid (x = ws.getD k 0) := ⟨ws.getD k 0, hK.2.2.cell hc0 hne, Lib.hid rfl⟩
      have HIK := Lib.hid hik
      have HK := Lib.hid hK
      clear hc0 hne hik hK
      go_wp2_with fail
      go_loopw [4, 6, 7] (fun v4 v6 v7 wr' => BfI w (.slice a n cap) v n k x v4 v6 v7 wr') (fun _ _ v7 _ => 8 - (intOf v7).toNat)
      case atStart => exact ⟨0, x, i, by omega, rfl, rfl, by simp, rfl, by have := HIK.out; omega, HK.out⟩
      case round =>
        obtain ⟨j, d, i, hj, rfl, rfl, hd, rfl, hij, hK⟩ := hrel
        have hxl : x < 18446744073709551616 := by rw [HX.out]; exact getD_lt HB.out (by omega) _
        have hdl : d < 18446744073709551616 := by rw [hd]; exact Nat.lt_of_le_of_lt (Nat.div_le_self _ _) hxl
        have hi1 : i ≤ 140737488355328 := by omega
        have hi2 : -140737488355328 ≤ i := by omega
        by_cases hj8 : j < 8
        · have hby : v / 256 ^ (8 * k + j) % 256 = d % 256 := by rw [HWB.out k j hj8, ← HX.out, ← hd]
          have hdn : d / 256 = x / 256 ^ (j + 1) := by rw [hd, div_next]
          have HDN := Lib.hid hdn
          have hwr : IntKind.u8.wrap (d : Int) = ((d % 256 : Nat) : Int) := by rw [IntKind.wrap_u8]; omega
          clear hd hdn
          by_cases hpos : 1 ≤ i
          · obtain ⟨m, rfl⟩ : ∃ m : Nat, i = ((m + 1 : Nat) : Int) := ⟨(i - 1).toNat, by omega⟩
            obtain ⟨g, cap', q1, q2, q3⟩ := ownsRow_form hK.1 (by omega)
            simp at q1
            obtain ⟨rfl, rfl⟩ := q1
            have hst := hK.put (m := m) (b := d % 256) (by omega) hby
            obtain ⟨k1, k2, k3⟩ := ownsRow_cell hK.1 m (by omega)
            rw [words_get, beb_get? _ _ _ (by omega)] at k1
            generalize v % 256 ^ (8 * k + j) / 256 ^ (n - 1 - m) % 256 = y at k1
            simp only [Option.map_some] at k1
            generalize d % 256 = bb at *
            have HST := Lib.hid hst
            have HIJ := Lib.hid hij
            have hmn : m < n := by omega
            have hm1 : m ≤ 140737488355328 := by omega
            clear hst hij hK hby hi1 hi2 hpos
            go_wp2_with fail
            go_roundw
            case rel => exact ⟨j + 1, d / 256, m, by omega, by go_num, by go_num, HDN.out, by go_num, by have := HIJ.out; omega, HST.out⟩
            case measure => simp [intOf]; omega
          · by_cases hb0 : d % 256 = 0
            · have hst := hK.past (by omega) (hby.trans hb0)
              rw [hb0] at hwr
              have HST := Lib.hid hst
              have HIJ := Lib.hid hij
              clear hst hij hK hby hb0
              go_wp2_with fail
              go_roundw
              case rel => exact ⟨j + 1, d / 256, i - 1, by omega, by go_num, by go_num, HDN.out, by go_num, by have := HIJ.out; omega, HST.out⟩
              case measure => simp [intOf]; omega
            · have hnf : ¬ v < 256 ^ n := fit_not (t := 8 * k + j) (by omega) (by rw [hby]; exact hb0)
              have HNF := Lib.hid hnf
              have HU := Lib.hid hK.2.2
              generalize d % 256 = bb at *
              have hbb : ((bb : Int) != 0) = true := by simp; omega
              have hbc : ((bb : Int) == 0) = false := by simp; omega
              clear hij hK hby hnf hb0
              go_wp2_with fail
              exact ⟨rfl, HU.out, .inr ⟨HNF.out, _, _, rfl⟩⟩
        · obtain rfl : j = 8 := by omega
          have HK2 : Hid (BfK w (.slice a n cap) v n (8 * (k + 1)) wr) := Lib.hid hK
          have HIJ := Lib.hid hij
          clear hij hK hd
          go_wp2_with fail
          go_roundw
          case rel => exact ⟨k + 1, i, by omega, by go_num, rfl, by have := HIJ.out; omega, HK2.out⟩
          case measure => simp [intOf]; omega
    · obtain rfl : k = ws.length := by omega
      obtain ⟨hr, hf, hu⟩ := hK
      have hvm : v % 256 ^ (8 * ws.length) = v := Nat.mod_eq_of_lt HFW.out
      rw [hvm] at hr hf
      have hstart : ∃ i0 : Nat, (if i < 0 then 0 else i) = (i0 : Int) ∧ i0 ≤ n ∧ v < 256 ^ (n - i0) := by
        by_cases h0 : i < 0
        · exact ⟨0, by rw [if_pos h0]; rfl, by omega, hf (by omega)⟩
        · refine ⟨i.toNat, by rw [if_neg h0]; omega, by omega, ?_⟩
          rw [show n - i.toNat = 8 * ws.length by omega]; exact HFW.out
      have hvn : v < 256 ^ n := by
        obtain ⟨i0, _, _, h3⟩ := hstart
        exact Nat.lt_of_lt_of_le h3 (Nat.pow_le_pow_right (by decide) (by omega))
      have HVN := Lib.hid hvn
      have HR := Lib.hid hr
      have HU := Lib.hid hu
      obtain ⟨i0, hi0, hi0n, hi0v⟩ := hstart
      have HI0V := Lib.hid hi0v
      clear hvm hr hf hu hik hvn hi0v
      have hd : decide (i < 0) = true ∧ i0 = 0 ∨ i = (i0 : Int) := by
        by_cases h0 : i < 0
        · rw [if_pos h0] at hi0; exact .inl ⟨by simp [h0], by omega⟩
        · rw [if_neg h0] at hi0; exact .inr hi0
      clear hi0
      rcases hd with ⟨hd, rfl⟩ | rfl
      all_goals
        go_wp2_with fail
        go_loop [4] (fun v4 => ∃ q : Nat, q ≤ n ∧ v4 = .int .i64 (q : Nat) ∧ Hid (v < 256 ^ (n - q))) (fun v4 => n - (intOf v4).toNat)
        case atStart => exact ⟨_, hi0n, rfl, HI0V⟩
        case round =>
          obtain ⟨q, hq, rfl, hqv⟩ := hrel
          by_cases hqn : q < n
          · obtain ⟨g, cap', q1, q2, q3⟩ := ownsRow_form HR.out (by omega)
            simp at q1
            obtain ⟨rfl, rfl⟩ := q1
            obtain ⟨k1, _, _⟩ := ownsRow_cell HR.out q hqn
            rw [words_get, beb_get? _ _ _ hqn] at k1
            simp only [Option.map_some] at k1
            obtain ⟨m, hm⟩ : ∃ m, n - q = m + 1 := ⟨n - q - 1, by omega⟩
            have hm2 : n - 1 - q = m := by omega
            rw [hm2] at k1
            rw [hm] at hqv
            by_cases hz : v / 256 ^ m % 256 = 0
            · rw [hz] at k1
              have HQ := Lib.hid (lead_zero hqv.out hz)
              have HM := Lib.hid hm
              clear hz hm hm2
              go_wp2_with fail
              go_round
              case rel => exact ⟨q + 1, by omega, by go_num, Lib.hid (by rw [show n - (q + 1) = m by have := HM.out; omega]; exact HQ.out)⟩
              case measure => simp [intOf]; omega
            · have hnb := nby_unique hqv.out (.inr (lead_pos hz))
              have HNB : Hid (q = n - nby v) := Lib.hid (by omega)
              generalize v / 256 ^ m % 256 = y at *
              have hy : ((y : Int) == 0) = false := by simp; omega
              clear hz hm hm2 hnb
              go_wp2_with fail
              go_ret
              exact ⟨HU.out, .inl ⟨HVN.out, congrArg (fun q : Nat => Ending.returned (.int .i64 (q : Int))) HNB.out, HR.out⟩⟩
          · obtain rfl : q = n := by omega
            have hnb := nby_unique (m := 0) (by have := hqv.out; rwa [Nat.sub_self] at this) (.inl rfl)
            have HNB : Hid (q = q - nby v) := Lib.hid (by omega)
            clear hnb
            go_wp2_with fail
            go_ret
            exact ⟨HU.out, .inl ⟨HVN.out, congrArg (fun q : Nat => Ending.returned (.int .i64 (q : Int))) HNB.out, HR.out⟩⟩

end Go.Proofs.Ytcdkaddgljafhaa
