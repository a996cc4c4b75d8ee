/- spec.SetBytes: the contract. -/
import Derived.Test.YtcdkaddgljafhaaByteMath2
import Derived.Test.YtcdkaddgljafhaaBytes2
import Derived.StillTailTactics
import Derived.IntWalk
set_option linter.unusedSimpArgs false
set_option linter.unusedVariables false
namespace Go.Proofs.Ytcdkaddgljafhaa
open Go.RowKit

theorem val_set (ws : List Nat) (q d : Nat) (h : q < ws.length) : val (ws.set q (ws.getD q 0 + d)) = val ws + 18446744073709551616 ^ q * d := by
  induction ws generalizing q with
  | nil => simp at h
  | cons x ws ih =>
    cases q with
    | zero => simp [val]; omega
    | succ q =>
      have := ih q (by simpa using h)
      simp only [List.set_cons_succ, List.getD_cons_succ, val] at this ⊢
      rw [this, Nat.pow_succ, Nat.mul_add, ← Nat.mul_assoc, Nat.mul_comm 18446744073709551616 (18446744073709551616 ^ q)]
      omega

/-- The bytes read till now, as words. -/
def SpB (w0 : World) (bs : List Nat) (v3 v4 : Value) (wr : World) : Prop :=
  ∃ (k : Nat) (ws : List Nat), k ≤ bs.length ∧ v4 = .int .i64 (k : Nat) ∧ ws.length = (k + 7) / 8 ∧ (∀ x ∈ ws, x < 18446744073709551616) ∧ val ws = bv (bs.reverse.take k) ∧ wr.ownsRow w0.heap.size 38 1 v3 ws.length (words .u64 ws) ∧ Below w0.heap.size w0 wr

/-- In the middle of a round: the last word has room for the next byte. -/
structure SpM (w0 : World) (bs : List Nat) (k g cp d : Nat) (wr : World) : Prop where
  bel : Below w0.heap.size w0 wr
  gle : w0.heap.size ≤ g
  row : ∃ ws : List Nat, ws.length = k / 8 + 1 ∧ (∀ x ∈ ws, x < 18446744073709551616) ∧ val ws = bv (bs.reverse.take k) ∧ ws.getD (k / 8) 0 = d ∧ wr.ownsRow 0 38 1 (.slice (some ⟨g, 0, none⟩) ws.length cp) ws.length (words .u64 ws)
  low : d < 2 ^ (k % 8 * 8)

theorem last_low {ws r : List Nat} {k : Nat} (hl : ws.length = k / 8 + 1) (hv : val ws = bv (r.take k)) (hb : ∀ x ∈ r, x < 256) : ws.getD (k / 8) 0 < 2 ^ (k % 8 * 8) := by
  have h1 := bv_lt (r.take k) (fun x hx => hb x (List.mem_of_mem_take hx))
  have h2 : 256 ^ (r.take k).length ≤ 256 ^ k := Nat.pow_le_pow_right (by decide) (by simp; omega)
  have h3 := val_split ws (k / 8)
  have h4 := val_drop ws (k / 8)
  rw [val_drop_all ws (k / 8 + 1) (by omega)] at h4
  have h5 : 256 ^ k = 18446744073709551616 ^ (k / 8) * 2 ^ (k % 8 * 8) := by
    rw [pow256_2, pow64, ← Nat.pow_add]
    congr 1
    omega
  rw [h5] at h2
  rw [h4] at h3
  have h6 : 18446744073709551616 ^ (k / 8) * ws.getD (k / 8) 0 < 18446744073709551616 ^ (k / 8) * 2 ^ (k % 8 * 8) := by
    have : 18446744073709551616 ^ (k / 8) * (ws.getD (k / 8) 0 + 18446744073709551616 * 0) = 18446744073709551616 ^ (k / 8) * ws.getD (k / 8) 0 := by simp
    omega
  exact Nat.lt_of_mul_lt_mul_left h6

theorem ownsRow_base {w : World} {b b' : Nat} {E : TypeId} {v : Value} {n : Nat} {xs : List Value} (h : w.ownsRow b E 1 v n xs) (hb : b' ≤ b) : w.ownsRow b' E 1 v n xs := by
  refine ⟨h.1, ?_⟩
  rcases h.2 with hn | ⟨g, cap, cur, h1, h2, rest⟩
  · exact .inl hn
  · exact .inr ⟨g, cap, cur, h1, Nat.le_trans hb h2, rest⟩

theorem ownsRow_block {w : World} {b g n cp : Nat} {E : TypeId} {xs : List Value} (h : w.ownsRow b E 1 (.slice (some ⟨g, 0, none⟩) n cp) n xs) : b ≤ g := by
  rcases h.2 with ⟨h1, _⟩ | ⟨g', cap, cur, h1, h2, _⟩
  · simp at h1
  · simp at h1; omega

theorem ownsRow_up {w : World} {b g n cp : Nat} {E : TypeId} {xs : List Value} (h : w.ownsRow 0 E 1 (.slice (some ⟨g, 0, none⟩) n cp) n xs) (hb : b ≤ g) : w.ownsRow b E 1 (.slice (some ⟨g, 0, none⟩) n cp) n xs := by
  refine ⟨h.1, ?_⟩
  rcases h.2 with ⟨h1, _⟩ | ⟨g', cap, cur, h1, h2, rest⟩
  · simp at h1
  · refine .inr ⟨g', cap, cur, h1, ?_, rest⟩
    simp at h1; omega

/-- The next byte is laid. -/
theorem SpM.next {w0 wr : World} {bs : List Nat} {k g cp d b : Nat} (h : SpM w0 bs k g cp d wr) (hk : k < bs.length) (hb : bs.reverse.getD k 0 = b) (hbl : b < 256) :
    SpB w0 bs (.slice (some ⟨g, 0, none⟩) (k / 8 + 1) cp) (.int .i64 ((k + 1 : Nat) : Int)) (wr.setCell ⟨g, k / 8, none⟩ (.int .u64 ((d + b * 2 ^ (k % 8 * 8) : Nat) : Int))) := by
  obtain ⟨h1, h2, ⟨ws, hl, hlt, hv, hd, hrow⟩, h4⟩ := h
  have hs : b * 2 ^ (k % 8 * 8) + d < 18446744073709551616 := by
    have e1 : b * 2 ^ (k % 8 * 8) ≤ 255 * 2 ^ (k % 8 * 8) := Nat.mul_le_mul_right _ (by omega)
    have e2 : 256 * 2 ^ (k % 8 * 8) ≤ 256 * 2 ^ 56 := Nat.mul_le_mul_left _ (Nat.pow_le_pow_right (by decide) (by omega))
    have e3 : 256 * 2 ^ 56 = 18446744073709551616 := by decide
    omega
  refine ⟨k + 1, ws.set (k / 8) (d + b * 2 ^ (k % 8 * 8)), by omega, rfl, by rw [List.length_set, hl]; omega, ?_, ?_, ?_, h1.setCell h2 _⟩
  · intro x hx
    rcases List.mem_or_eq_of_mem_set hx with h | h
    · exact hlt x h
    · omega
  · rw [bv_take_succ _ _ (by simpa using hk), hb, ← hd, val_set ws _ _ (by omega), hv]
    rw [show 256 ^ k = 18446744073709551616 ^ (k / 8) * 2 ^ (k % 8 * 8) by rw [pow256_2, pow64, ← Nat.pow_add]; congr 1; omega, Nat.mul_assoc, Nat.mul_comm b]
  · have := ownsRow_set hrow (k / 8) (by omega) (.int .u64 ((d + b * 2 ^ (k % 8 * 8) : Nat) : Int))
    rw [List.length_set, hl]
    rw [hl] at this
    refine ownsRow_up ?_ h2
    rw [show words IntKind.u64 (ws.set (k / 8) (d + b * 2 ^ (k % 8 * 8))) = (words .u64 ws).set (k / 8) (.int .u64 ((d + b * 2 ^ (k % 8 * 8) : Nat) : Int)) by simp [words, List.map_set]]
    exact this

theorem SpM.cells {w0 wr : World} {bs : List Nat} {k g cp d : Nat} (h : SpM w0 bs k g cp d wr) : wr.cell? ⟨g, k / 8, none⟩ = some (.int .u64 (d : Nat)) ∧ wr.frozen? ⟨g, k / 8, none⟩ = false ∧ d < 18446744073709551616 := by
  obtain ⟨h1, h2, ⟨ws, hl, hlt, hv, hd, hrow⟩, h4⟩ := h
  obtain ⟨k1, k2, k3⟩ := ownsRow_cell hrow (k / 8) (by omega)
  have hq : k / 8 < ws.length := by omega
  rw [words_get, List.getElem?_eq_getElem hq] at k1
  rw [List.getD_eq_getElem?_getD, List.getElem?_eq_getElem hq] at hd
  simp at hd
  rw [k1, ← hd]
  exact ⟨rfl, k2, hlt _ (List.getElem_mem _)⟩

theorem SpM.drew {w0 wr : World} {bs : List Nat} {k g cp d : Nat} (h : SpM w0 bs k g cp d wr) : SpM w0 bs k g cp d wr.drew :=
  ⟨h.bel.drew, h.gle, h.row, h.low⟩

set_option maxRecDepth 10000 in
set_option maxHeartbeats 2000000 in
theorem specSetBytes_z (v : Value) (bs : List Nat) (w : World) (h : Rd .u8 w v bs) (hl : bs.length ≤ 140737488351232) :
    Calls Try.prog 39 #[v] w (ResR (IsC ((bs.length + 7) / 8) (bev bs : Int)) w) := by
  have hb256 : ∀ x ∈ bs, x < 256 := h.1
  obtain ⟨_, a, cap, rfl, hlc, hcap, hnil, hcells⟩ := h
  have HB := Lib.hid hb256
  have HC := Lib.hid hcells
  clear hcells hnil hb256
  obtain ⟨i0, hi, hz0, hz1, hz2⟩ := info_parts infoUint
  have HI := Lib.hid hi
  have HI0 := Lib.hid hz0
  have HI1 := Lib.hid hz1
  have HI2 := Lib.hid hz2
  clear hi hz0 hz1 hz2
  go_enter Try.func39, Try.ntmps39
  go_wp2_with fail
  go_loopw [3, 4] (fun v3 v4 wr => SpB (w.alloc (.cells #[.bool false, .slice none 0 0] 29)) bs v3 v4 wr) (fun _ v4 _ => bs.length - (intOf v4).toNat)
  case atStart => exact ⟨0, [], by omega, rfl, rfl, by simp, by simp [val, bv], row_start .u64 _ _ _ _ (by simp) (by simp), (Below.refl _ _).alloc (by simp) _⟩
  case round =>
    obtain ⟨k, ws, hk, rfl, hwl, hlt, hv, hown, hbel⟩ := hrel
    rw [World.size_alloc] at hown hbel
    by_cases hkn : k < bs.length
    · obtain ⟨b, off, rfl, hc0⟩ := HC.out (bs.length - 1 - k) (by omega)
      have hbw : b < w.heap.size := World.block_lt_of_cell? w ⟨b, off + (bs.length - 1 - k), none⟩ hc0
      have hrg := rev_getD bs k hkn
      obtain ⟨x, hx⟩ : ∃ x, bs.getD (bs.length - 1 - k) 0 = x := ⟨_, rfl⟩
      rw [hx] at hc0 hrg
      have hxl : x < 256 := by rw [← hx]; exact getD_lt HB.out (by omega) _
      have HC0 : Hid (∀ wq, Below (w.heap.size + 1) (w.alloc (.cells #[.bool false, .slice none 0 0] 29)) wq → wq.cell? ⟨b, off + (bs.length - 1 - k), none⟩ = some (.int .u8 (x : Nat))) := Lib.hid (fun wq hq => by
        rw [hq.cell (p := ⟨b, off + (bs.length - 1 - k), none⟩) (by show b < _; omega), World.cell?_alloc_past _ _ _ (by simpa using hbw)]
        exact hc0)
      have HRG := Lib.hid hrg
      clear hc0 hx hrg
      have hlow : ∀ ws' : List Nat, ws'.length = k / 8 + 1 → val ws' = bv (bs.reverse.take k) → ws'.getD (k / 8) 0 < 2 ^ (k % 8 * 8) := fun ws' q1 q2 => last_low q1 q2 (fun y hy => HB.out y (List.mem_reverse.1 hy))
      have HLOW := Lib.hid hlow
      have hsz := hbel.size
      simp only [World.size_alloc] at hsz
      have HBEL := Lib.hid hbel
      have HWL := Lib.hid hwl
      have HLT := Lib.hid hlt
      have HV := Lib.hid hv
      have hwn : ws.length ≤ 17592186044416 := by omega
      clear hlow hbel hwl hlt hv
      by_cases h8 : k % 8 = 0
      · have hq8 : (((k : Int) % 8) == 0) = true := by simp; omega
        go_wp2_with (at_builtin; refine wpList_append_own _ rfl _ _ 22 rfl (w.heap.size + 1) 38 i0 (.int .u64 0) 1 8 Try.underlying22 HI.out HI0.out HI1.out HI2.out rfl (by decide) _ _ _ rfl (hown.alloc _) ⟨wr.heap.size, 0, none⟩ 1 1 [.int .u64 0] rfl rfl ?c1 ?c2 ?c3 ?c4 ?c5 ?_)
        case c1 => exact cell_one_new _ _ _
        case c2 => simp [Value.oneCell']
        case c3 => simp only [maxLen]; omega
        case c4 => have := HWL.out; omega
        case c5 => simp; omega
        intro v' w3 hown' hgrow _
        have hbel1 := ((HBEL.out.alloc (by omega) (.cells #[.int .u64 0] 38)).grown hgrow (by simp; omega) (fun j hj => (hown.lt j hj).1))
        rw [show [Value.int IntKind.u64 0] = words .u64 [0] from rfl, ← words_app] at hown'
        obtain ⟨g, cp, rfl, q2, q3⟩ := ownsRow_form hown' (by omega)
        obtain ⟨d, hd0⟩ : ∃ d : Nat, d = 0 := ⟨0, rfl⟩
        have hM : SpM (w.alloc (.cells #[.bool false, .slice none 0 0] 29)) bs k g cp d w3 := by
          have hwl := HWL.out
          refine ⟨by rw [World.size_alloc]; exact hbel1, by rw [World.size_alloc]; exact ownsRow_block hown', ⟨ws ++ [0], by simp [hwl]; omega, mem_snoc HLT.out (by omega), by rw [val_snoc, HV.out]; omega, ?_, ?_⟩, by rw [hd0]; exact Nat.pow_pos (by decide)⟩
          · rw [List.getD_eq_getElem?_getD, List.getElem?_append_right (by omega), show k / 8 - ws.length = 0 by omega, hd0]; rfl
          · rw [List.length_append, List.length_singleton]; exact ownsRow_base hown' (Nat.zero_le _)
        clear hd0
        have hM' := hM
        obtain ⟨k1, k2, k3⟩ := hM.cells
        have hcb := HC0.out w3 hbel1
        have HM := Lib.hid hM'
        obtain ⟨m, hm⟩ : ∃ m, ws.length + 1 = m := ⟨_, rfl⟩
        have hm8 : k / 8 = m - 1 := by have := HWL.out; omega
        have hm1 : 1 ≤ m := by omega
        have hm2 : m ≤ 17592186044417 := by omega
        rw [hm]
        rw [hm8] at k1 k2
        have HM8 := Lib.hid hm8
        clear hM hM' hown' hgrow hown hbel1 hm hm8 h8 hq8
        go_wp2_with fail
        have i1 : (0 : Int) ≤ (m : Int) - 1 := by omega
        have i2 : (m : Int) - 1 < (m : Int) := by omega
        have i3 : ((m : Int) - 1).toNat = m - 1 := by omega
        have i4 : IntKind.i64.wrap ((m : Int) - 1) = (m : Int) - 1 := IntWalk.i64_in _ (by omega)
        have i5 : (1 : Int) ≤ (m : Int) := by omega
        have j1 : IntKind.i64.wrap ((bs.length : Int) - 1) = (bs.length : Int) - 1 := IntWalk.i64_in _ (by omega)
        obtain ⟨J, hJ⟩ : ∃ J, bs.length - 1 - k = J := ⟨_, rfl⟩
        have j2 : IntKind.i64.wrap ((bs.length : Int) - 1 - (k : Int)) = (J : Int) := by rw [IntWalk.i64_in _ (by omega)]; omega
        have j3 : J < bs.length := by omega
        rw [hJ] at hcb
        clear hJ
        obtain ⟨s, hs⟩ : ∃ s : Nat, k % 8 * 8 = s := ⟨_, rfl⟩
        have hs56 : s ≤ 56 := by omega
        have s1 : IntKind.i64.wrap (Int.tmod (k : Int) 8) = ((k % 8 : Nat) : Int) := by rw [Int.tmod_eq_emod_of_nonneg (by omega), IntWalk.i64_in _ (by omega)]; omega
        have s2 : Int.tmod (k : Int) 8 = ((k % 8 : Nat) : Int) := by rw [Int.tmod_eq_emod_of_nonneg (by omega)]; omega
        have s3 : IntKind.i64.wrap (((k % 8 : Nat) : Int) * 8) = (s : Int) := by rw [IntWalk.i64_in _ (by omega)]; omega
        have s0 : IntKind.u64.wrap (x : Int) = (x : Int) := by rw [IntKind.wrap_u64]; omega
        have s7 : IntKind.i64.wrap ((k : Int) % 8 * 8) = (s : Int) := by rw [IntWalk.i64_in _ (by omega)]; omega
        have s4 := wrap_shl hxl hs56
        have hlo : d < 2 ^ s := by have := HM.out.low; rw [hs] at this; exact this
        have s5 := bits_or_up hlo (shl_fit hxl hs56) k3
        have s6 : (0 : Int) ≤ (s : Int) := by omega
        have s8 : bits BinOp.or IntKind.u64 (d : Int) ((x : Int) * 2 ^ s) = ((d + x * 2 ^ s : Nat) : Int) := by have h := s5; push_cast at h ⊢; exact h
        have HS := Lib.hid hs
        clear hs
        go_still_tail 24, (by kernel_rfl)
        clear i1 i2 i3 i4 i5 j1 j2 s0 s1 s2 s3 s4 s5 s6 s7
        generalize hw9 : ({ heap := w3.heap, tape := w3.tape, drawn := w3.drawn + 1, os := w3.os, output := w3.output } : World) = w9
        have hc9 : w9.cell? ⟨g, m - 1, none⟩ = some (.int .u64 (d : Nat)) := by rw [← hw9]; exact k1
        have hf9 : w9.frozen? ⟨g, m - 1, none⟩ = false := by rw [← hw9]; exact k2
        have hN := (show SpM _ bs k g cp d w9 from by rw [← hw9]; exact HM.out.drew).next hkn HRG.out hxl
        rw [HM8.out, HS.out, show m - 1 + 1 = m by omega] at hN
        have HN := Lib.hid hN
        clear hw9 k1 k2 hN hcb
        go_wp2_with fail
        go_roundw
        case rel => exact HN.out
        case measure => simp [intOf]; omega
      · have hq8 : (((k : Int) % 8) == 0) = false := by simp; omega
        obtain ⟨w3, hw3⟩ : ∃ w3, wr = w3 := ⟨_, rfl⟩
        subst hw3
        obtain ⟨g, cp, rfl, q2, q3⟩ := ownsRow_form hown (by have := HWL.out; omega)
        have hM : SpM (w.alloc (.cells #[.bool false, .slice none 0 0] 29)) bs k g cp (ws.getD (k / 8) 0) wr := by
          have hwl := HWL.out
          exact ⟨by rw [World.size_alloc]; exact HBEL.out, by rw [World.size_alloc]; exact ownsRow_block hown, ⟨ws, by omega, HLT.out, HV.out, rfl, ownsRow_base hown (Nat.zero_le _)⟩, HLOW.out ws (by omega) HV.out⟩
        generalize ws.getD (k / 8) 0 = d at hM
        have hM' := hM
        obtain ⟨k1, k2, k3⟩ := hM.cells
        have hcb := HC0.out wr HBEL.out
        have HM := Lib.hid hM'
        obtain ⟨m, hm⟩ : ∃ m, ws.length = m := ⟨_, rfl⟩
        have hm8 : k / 8 = m - 1 := by have := HWL.out; omega
        have hm1 : 1 ≤ m := by have := HWL.out; omega
        have hm2 : m ≤ 17592186044417 := by omega
        rw [hm]
        rw [hm8] at k1 k2
        have HM8 := Lib.hid hm8
        clear hM hM' hown hm hm8 h8
        go_wp2_with fail
        clear hq8
        have i1 : (0 : Int) ≤ (m : Int) - 1 := by omega
        have i2 : (m : Int) - 1 < (m : Int) := by omega
        have i3 : ((m : Int) - 1).toNat = m - 1 := by omega
        have i4 : IntKind.i64.wrap ((m : Int) - 1) = (m : Int) - 1 := IntWalk.i64_in _ (by omega)
        have i5 : (1 : Int) ≤ (m : Int) := by omega
        have j1 : IntKind.i64.wrap ((bs.length : Int) - 1) = (bs.length : Int) - 1 := IntWalk.i64_in _ (by omega)
        obtain ⟨J, hJ⟩ : ∃ J, bs.length - 1 - k = J := ⟨_, rfl⟩
        have j2 : IntKind.i64.wrap ((bs.length : Int) - 1 - (k : Int)) = (J : Int) := by rw [IntWalk.i64_in _ (by omega)]; omega
        have j3 : J < bs.length := by omega
        rw [hJ] at hcb
        clear hJ
        obtain ⟨s, hs⟩ : ∃ s : Nat, k % 8 * 8 = s := ⟨_, rfl⟩
        have hs56 : s ≤ 56 := by omega
        have s1 : IntKind.i64.wrap (Int.tmod (k : Int) 8) = ((k % 8 : Nat) : Int) := by rw [Int.tmod_eq_emod_of_nonneg (by omega), IntWalk.i64_in _ (by omega)]; omega
        have s2 : Int.tmod (k : Int) 8 = ((k % 8 : Nat) : Int) := by rw [Int.tmod_eq_emod_of_nonneg (by omega)]; omega
        have s3 : IntKind.i64.wrap (((k % 8 : Nat) : Int) * 8) = (s : Int) := by rw [IntWalk.i64_in _ (by omega)]; omega
        have s0 : IntKind.u64.wrap (x : Int) = (x : Int) := by rw [IntKind.wrap_u64]; omega
        have s7 : IntKind.i64.wrap ((k : Int) % 8 * 8) = (s : Int) := by rw [IntWalk.i64_in _ (by omega)]; omega
        have s4 := wrap_shl hxl hs56
        have hlo : d < 2 ^ s := by have := HM.out.low; rw [hs] at this; exact this
        have s5 := bits_or_up hlo (shl_fit hxl hs56) k3
        have s6 : (0 : Int) ≤ (s : Int) := by omega
        have s8 : bits BinOp.or IntKind.u64 (d : Int) ((x : Int) * 2 ^ s) = ((d + x * 2 ^ s : Nat) : Int) := by have h := s5; push_cast at h ⊢; exact h
        have HS := Lib.hid hs
        clear hs
        go_still_tail 24, (by kernel_rfl)
        clear i1 i2 i3 i4 i5 j1 j2 s0 s1 s2 s3 s4 s5 s6 s7
        generalize hw9 : ({ heap := wr.heap, tape := wr.tape, drawn := wr.drawn + 1, os := wr.os, output := wr.output } : World) = w9
        have hc9 : w9.cell? ⟨g, m - 1, none⟩ = some (.int .u64 (d : Nat)) := by rw [← hw9]; exact k1
        have hf9 : w9.frozen? ⟨g, m - 1, none⟩ = false := by rw [← hw9]; exact k2
        have hN := (show SpM _ bs k g cp d w9 from by rw [← hw9]; exact HM.out.drew).next hkn HRG.out hxl
        rw [HM8.out, HS.out, show m - 1 + 1 = m by omega] at hN
        have HN := Lib.hid hN
        clear hw9 k1 k2 hN hcb
        go_wp2_with fail
        go_roundw
        case rel => exact HN.out
        case measure => simp [intOf]; omega
    · obtain rfl : k = bs.length := by omega
      rw [List.take_of_length_le (by simp)] at hv
      have hrd : Rd .u64 wr u3 ws := ownsRow.read hown hlt
      have hE : Ext w wr := (Ext.alloc w _).trans ⟨hbel.os, hbel.tape, hbel.output, hbel.size, fun j hj => hbel.block j (by simpa using hj)⟩
      have hp : wr.heap[w.heap.size]? = some (.cells #[.bool false, .slice none 0 0] 29 (0, 0)) := by
        rw [hbel.block _ (by omega)]; exact heap_alloc_new _ _
      obtain ⟨a3, c3, rfl⟩ := hrd.form
      have HRD := Lib.hid hrd
      have HE := Lib.hid hE
      have HP := Lib.hid hp
      have HV := Lib.hid hv
      have HWL := Lib.hid hwl
      have hwn : ws.length ≤ 17592186044416 := by omega
      clear hrd hE hp hv hwl hown hbel hlt
      go_wp2_with fail
      refine (specInteger_any false _ ws _ HRD.out hwn).mono ?_
      intro e w1 hn
      have hz := numC_of ((bs.length + 7) / 8) (by rw [HWL.out]; omega) hn
      obtain ⟨he, y, rfl, hy⟩ := hz
      have hy2 : IsC ((bs.length + 7) / 8) (bev bs : Int) y w1 := by
        have e1 : ival false ws = (bev bs : Int) := by simp [ival, HV.out, bev]
        rw [← e1]; exact hy
      obtain ⟨mm, aa, ll, cc, rfl⟩ := hy2.form
      have hp1 := he.block HP.out
      have d0 := blk_cell hp1 0
      have d1 := blk_cell hp1 1
      have f0 := blk_free hp1 0
      have f1 := blk_free hp1 1
      simp at d0 d1
      have HP1 := Lib.hid hp1
      have HY := Lib.hid hy2
      have HE1 := Lib.hid (HE.out.trans he)
      clear he hy hy2 hp1 hn
      go_wp2_with fail
      obtain ⟨e0, e1, hu⟩ := set2 HP1.out (.bool mm) (.slice aa ll cc)
      exact bodyPost_ret (results_spec rfl _ rfl e0 e1) rfl ⟨hu.ext HE1.out (by omega), _, rfl, HY.out.upd HP1.out (by decide) hu⟩

end Go.Proofs.Ytcdkaddgljafhaa
