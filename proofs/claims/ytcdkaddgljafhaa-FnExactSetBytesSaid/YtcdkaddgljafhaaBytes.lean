/- bigEndianWord, nat.setBytes, (*Int).SetBytes, impl.SetBytes: contracts. -/
import Derived.Test.YtcdkaddgljafhaaByteMath
import Derived.Test.YtcdkaddgljafhaaSetU
import Derived.Lib.EndianBits
import Derived.Deep.QuietTactic
set_option linter.unusedSimpArgs false
set_option linter.unusedVariables false
namespace Go.Proofs.Ytcdkaddgljafhaa
open Go.RowKit

set_option maxHeartbeats 8000000 in
set_option maxRecDepth 100000 in
theorem beUint64_any (g o c : Nat) (b0 b1 b2 b3 b4 b5 b6 b7 : Nat) (w : World)
    (c0 : w.cell? ⟨g, o, none⟩ = some (.int .u8 (b0 : Nat))) (c1 : w.cell? ⟨g, o + 1, none⟩ = some (.int .u8 (b1 : Nat))) (c2 : w.cell? ⟨g, o + 2, none⟩ = some (.int .u8 (b2 : Nat))) (c3 : w.cell? ⟨g, o + 3, none⟩ = some (.int .u8 (b3 : Nat))) (c4 : w.cell? ⟨g, o + 4, none⟩ = some (.int .u8 (b4 : Nat))) (c5 : w.cell? ⟨g, o + 5, none⟩ = some (.int .u8 (b5 : Nat))) (c6 : w.cell? ⟨g, o + 6, none⟩ = some (.int .u8 (b6 : Nat))) (c7 : w.cell? ⟨g, o + 7, none⟩ = some (.int .u8 (b7 : Nat)))
    (h0 : b0 < 256) (h1 : b1 < 256) (h2 : b2 < 256) (h3 : b3 < 256) (h4 : b4 < 256) (h5 : b5 < 256) (h6 : b6 < 256) (h7 : b7 < 256) :
    Calls Try.prog 83 #[.slice (some ⟨g, o, none⟩) 8 c] w fun e w' => e = .returned (.int .u64 ((bv [b7, b6, b5, b4, b3, b2, b1, b0] : Nat) : Int)) ∧ ∃ m, w' = w.drewN m := by
  have hv : ((bv [b7, b6, b5, b4, b3, b2, b1, b0] : Nat) : Int) = (b7 : Int) + (b6 : Int) * 256 + (b5 : Int) * 65536 + (b4 : Int) * 16777216 + (b3 : Int) * 4294967296 + (b2 : Int) * 1099511627776 + (b1 : Int) * 281474976710656 + (b0 : Int) * 72057594037927936 := by
    simp only [bv]
    push_cast
    omega
  go_enter Try.func83, Try.ntmps83
  go_wp2
  go_quiet (fail)
  go_wp2
  go_ret
  refine ⟨?_, _, rfl⟩
  simp (disch := omega) only [u64_wrap_id, u64_or8, u64_or16, u64_or24, u64_or32, u64_or40, u64_or48, u64_or56]
  rw [hv]
  rfl

theorem drewN_ext (w : World) (m : Nat) : Ext w (w.drewN m) := ⟨rfl, rfl, rfl, Nat.le_refl _, fun _ _ => rfl⟩

theorem drewN_heap (w : World) (m : Nat) : (w.drewN m).heap = w.heap := rfl

theorem bigEndianWord_any (g o c : Nat) (f : Nat → Nat) (w : World) (hc : ∀ j, j < 8 → w.cell? ⟨g, o + j, none⟩ = some (.int .u8 (f j : Nat))) (hf : ∀ j, j < 8 → f j < 256) :
    Calls Try.prog 81 #[.slice (some ⟨g, o, none⟩) 8 c] w fun e w' => e = .returned (.int .u64 ((bv [f 7, f 6, f 5, f 4, f 3, f 2, f 1, f 0] : Nat) : Int)) ∧ ∃ m, w' = w.drewN m := by
  have HC := Lib.hid hc
  have HF := Lib.hid hf
  clear hc hf
  go_enter Try.func81, Try.ntmps81
  go_wp2_with fail
  refine (beUint64_any g o c (f 0) (f 1) (f 2) (f 3) (f 4) (f 5) (f 6) (f 7) _ (HC.out 0 (by omega)) (HC.out 1 (by omega)) (HC.out 2 (by omega)) (HC.out 3 (by omega)) (HC.out 4 (by omega)) (HC.out 5 (by omega)) (HC.out 6 (by omega)) (HC.out 7 (by omega)) (HF.out 0 (by omega)) (HF.out 1 (by omega)) (HF.out 2 (by omega)) (HF.out 3 (by omega)) (HF.out 4 (by omega)) (HF.out 5 (by omega)) (HF.out 6 (by omega)) (HF.out 7 (by omega))).mono ?_
  rintro e w1 ⟨rfl, m, rfl⟩
  generalize hx : bv [f 7, f 6, f 5, f 4, f 3, f 2, f 1, f 0] = x
  have HX := Lib.hid hx
  clear hx
  go_wp2_with fail
  go_ret
  exact ⟨by rw [HX.out]; rfl, m, rfl⟩

theorem take_set_succ {xs : List Value} {k : Nat} {v : Value} (h : k < xs.length) : (xs.set k v).take (k + 1) = xs.take k ++ [v] := by
  rw [List.take_succ_eq_append_getElem (by simpa using h), List.take_set_of_le (Nat.le_refl _)]
  simp

/-- The first k words of z's row are laid. -/
def SbK (w : World) (bs : List Nat) (g cap n : Nat) (k : Nat) (wr : World) : Prop :=
  ∃ ws xs, ws.length = k ∧ (∀ x ∈ ws, x < 18446744073709551616) ∧ val ws = bv (bs.reverse.take (8 * k)) ∧ wr.ownsRow 0 78 1 (.slice (some ⟨g, 0, none⟩) n cap) n xs ∧ xs.take k = words .u64 ws ∧ Ext w wr

def SbL (w : World) (bs : List Nat) (g cap n : Nat) (v5 v6 : Value) (wr : World) : Prop :=
  ∃ k i : Nat, i + 8 * k = bs.length ∧ v5 = .int .i64 (i : Nat) ∧ v6 = .int .i64 (k : Nat) ∧ SbK w bs g cap n k wr

theorem SbK.step {w wr : World} {bs : List Nat} {g cap n k x : Nat} (h : SbK w bs g cap n k wr) (hg : w.heap.size ≤ g) (hk : k < n) (hx : x < 18446744073709551616) (hv : bv (bs.reverse.take (8 * (k + 1))) = bv (bs.reverse.take (8 * k)) + 18446744073709551616 ^ k * x) :
    SbK w bs g cap n (k + 1) (wr.setCell ⟨g, k, none⟩ (.int .u64 (x : Nat))) := by
  obtain ⟨ws, xs, h1, h2, h3, h4, h5, h6⟩ := h
  have hl : xs.length = n := by have := h4.1; omega
  refine ⟨ws ++ [x], xs.set k (.int .u64 (x : Nat)), by simp [h1], mem_snoc h2 hx, ?_, ownsRow_set h4 k hk _, ?_, ?_⟩
  · rw [val_snoc, h3, h1, hv]
  · rw [take_set_succ (by omega), h5, words_app]; rfl
  · exact ((Upd.refl (· = g) wr).setCell (by rfl) _).ext h6 (fun i q => by subst q; exact hg)

theorem SbK.drewN {w wr : World} {bs : List Nat} {g cap n k : Nat} (h : SbK w bs g cap n k wr) (m : Nat) : SbK w bs g cap n k (wr.drewN m) := by
  obtain ⟨ws, xs, h1, h2, h3, h4, h5, h6⟩ := h
  exact ⟨ws, xs, h1, h2, h3, h4, h5, h6.trans (drewN_ext _ _)⟩

/-- What nat.setBytes leaves. -/
def SbR (t L : Nat) (w : World) (e : Ending) (w' : World) : Prop :=
  ∃ v' rs, e = .returned v' ∧ Own .u64 w' 0 78 v' rs ∧ norm rs = rs ∧ val rs = t ∧ rs.length ≤ L ∧ Ext w w' ∧ ∀ k, v'.ownBlock = some k → w.heap.size ≤ k

theorem SbK.fin {w wr : World} {bs : List Nat} {g cap n : Nat} (h : SbK w bs g cap n n wr) (hl : bs.length ≤ 8 * n) :
    ∃ ws, Own .u64 wr 0 78 (.slice (some ⟨g, 0, none⟩) n cap) ws ∧ ws.length = n ∧ val ws = bev bs ∧ Ext w wr := by
  obtain ⟨ws, xs, h1, h2, h3, h4, h5, h6⟩ := h
  have hx : xs = words .u64 ws := by rw [← h5, List.take_of_length_le (by have := h4.1; omega)]
  refine ⟨ws, ⟨h2, by rw [h1, ← hx]; exact h4⟩, h1, ?_, h6⟩
  rw [h3, bev, List.take_of_length_le (by simpa using hl)]

theorem bv_rest {r : List Nat} {k m : Nat} (h : m + 8 * k = r.length) (hm : m ≤ 8) : bv (r.take (8 * (k + 1))) = bv (r.take (8 * k)) + 18446744073709551616 ^ k * bv ((r.drop (8 * k)).take m) := by
  rw [show 8 * (k + 1) = 8 * k + 8 by omega, List.take_add, bv_append, List.length_take, Nat.min_eq_left (by omega), pow256_8, List.take_of_length_le (i := 8) (by simp; omega), List.take_of_length_le (i := m) (by simp; omega)]

theorem bv_in {r : List Nat} (hb : ∀ x ∈ r, x < 256) (k t : Nat) (ht : t ≤ 8) : bv ((r.drop k).take t) < 18446744073709551616 := by
  have h1 := bv_lt ((r.drop k).take t) (fun x hx => hb x (List.mem_of_mem_drop (List.mem_of_mem_take hx)))
  have h2 : 256 ^ ((r.drop k).take t).length ≤ 256 ^ 8 := Nat.pow_le_pow_right (by decide) (by simp; omega)
  have h3 : (256 : Nat) ^ 8 = 18446744073709551616 := by decide
  omega

theorem bv_in' {r : List Nat} (hb : ∀ x ∈ r, x < 256) (k t : Nat) : bv ((r.drop k).take t) < 2 ^ (8 * t) := by
  have h1 := bv_lt ((r.drop k).take t) (fun x hx => hb x (List.mem_of_mem_drop (List.mem_of_mem_take hx)))
  have h2 : 256 ^ ((r.drop k).take t).length ≤ 256 ^ t := Nat.pow_le_pow_right (by decide) (by simp; omega)
  rw [pow256_2 t] at h2
  omega

theorem shl_fit {b s : Nat} (hb : b < 256) (hs : s ≤ 56) : b * 2 ^ s < 18446744073709551616 := by
  have h2 : 2 ^ s ≤ 2 ^ 56 := Nat.pow_le_pow_right (by decide) hs
  have h3 : b * 2 ^ s ≤ 255 * 2 ^ 56 := Nat.mul_le_mul (by omega) h2
  have h4 : 255 * 2 ^ 56 < 18446744073709551616 := by decide
  omega

theorem wrap_shl {b s : Nat} (hb : b < 256) (hs : s ≤ 56) : IntKind.u64.wrap ((b : Int) * 2 ^ s) = ((b * 2 ^ s : Nat) : Int) := by
  have := shl_fit hb hs
  rw [IntKind.wrap_u64, show (b : Int) * 2 ^ s = ((b * 2 ^ s : Nat) : Int) by push_cast; rfl]
  omega

set_option maxRecDepth 10000 in
set_option maxHeartbeats 2000000 in
theorem natSetBytes_none (a : Option Addr) (cap : Nat) (w : World) (hcap : cap ≤ 9223372036854775807) :
    Calls Try.prog 74 #[.slice none 0 0, .slice a 0 cap] w (SbR 0 0 w) := by
  go_enter Try.func74, Try.ntmps74
  go_wp2_with fail
  refine (make_any _ 0 0 [] _ (World.ownsRow_nil _ _ _ _) (by omega)).mono ?_
  rintro e w1 ⟨v', xs, rfl, hown, hor⟩
  have hx : xs = [] := List.eq_nil_of_length_eq_zero (by have := hown.1; omega)
  subst hx
  have hO : Own .u64 w1 0 78 v' [] := ⟨by simp, hown⟩
  obtain ⟨a', c', rfl⟩ := hO.form
  have HO := Lib.hid hO
  have HR := Lib.hid hor
  clear hown hor hO
  simp only [List.length_nil] at *
  go_wp2_with fail
  refine wp_loop_rounds 1 ?_
  rw [rounds_succ]
  go_wp2_with fail
  refine (norm_own 0 78 _ [] _ HO.out).mono ?_
  rintro e w2 ⟨⟨v2, rfl, ho, hob⟩, rfl⟩
  have H2 := Lib.hid ho
  have H3 := Lib.hid hob
  clear ho hob
  go_wp2_with fail
  go_ret
  refine ⟨_, [], rfl, H2.out, rfl, rfl, Nat.le_refl _, ?_, ?_⟩
  · rcases HR.out with ⟨rfl, _⟩ | ⟨_, h⟩
    · exact Ext.refl _
    · exact h
  · intro k hk
    replace hk : v2.ownBlock = some k := hk
    rw [H3.out] at hk
    rcases HR.out with ⟨rfl, h⟩ | ⟨h, _⟩
    · rw [h] at hk; simp [Value.ownBlock] at hk
    · rw [h] at hk; simp at hk; omega

def SbT (w : World) (bs : List Nat) (K r : Nat) (wr0 : World) (v5 v7 v8 : Value) (wr : World) : Prop :=
  ∃ t i d s : Nat, i + t = r ∧ v5 = .int .i64 (i : Nat) ∧ v7 = .int .u64 (d : Nat) ∧ d = bv ((bs.reverse.drop (8 * K)).take t) ∧ v8 = .int .u64 (s : Nat) ∧ s = 8 * t ∧ wr = wr0

set_option maxRecDepth 10000 in
set_option maxHeartbeats 2000000 in
theorem natSetBytes_some (b off : Nat) (cap : Nat) (bs : List Nat) (w : World) (hpos : 0 < bs.length) (hcl : bs.length ≤ cap) (hcap : cap ≤ 9223372036854775807) (hbb : ∀ x ∈ bs, x < 256) (hc : ∀ i, i < bs.length → w.cell? ⟨b, off + i, none⟩ = some (.int .u8 (bs.getD i 0 : Nat))) (hl : bs.length ≤ 140737488355328) :
    Calls Try.prog 74 #[.slice none 0 0, .slice (some ⟨b, off, none⟩) bs.length cap] w (SbR (bev bs) ((bs.length + 7) / 8) w) := by
  obtain ⟨n, hn⟩ : ∃ n, (bs.length + 7) / 8 = n := ⟨_, rfl⟩
  have hnu : Int.tdiv ((bs.length : Int) + 8 - 1) 8 = (n : Int) := by rw [Int.tdiv_eq_ediv_of_nonneg (by omega)]; omega
  have hnv : ((bs.length : Int) + 8 - 1) / 8 = (n : Int) := by omega
  rw [hn]
  have HC := Lib.hid hc
  have HB := Lib.hid hbb
  have hn1 : 0 < n := by omega
  have hn2 : n ≤ 35184372088827 := by omega
  have HN := Lib.hid hn
  clear hc hbb hn
  go_enter Try.func74, Try.ntmps74
  go_wp2_with fail
  refine (make_any _ 0 n [] _ (World.ownsRow_nil _ _ _ _) hn2).mono ?_
  rintro e w1 ⟨v', xs, rfl, hown, hor⟩
  obtain ⟨g, cz, rfl, hle, hcz⟩ := ownsRow_form hown hn1
  have hg : w.heap.size = g ∧ Ext w w1 := by
    rcases hor with ⟨_, h⟩ | ⟨h, h2⟩
    · simp [Value.ownBlock] at h
    · simp [Value.ownBlock] at h; exact ⟨h.symm, h2⟩
  have hK0 : SbK w bs g cz n 0 w1 := ⟨[], xs, rfl, by simp, by simp [val, bv], hown, by simp [words], hg.2⟩
  have HK0 := Lib.hid hK0
  have HGG := Lib.hid hg.1
  clear hown hor hg hK0 hnu hnv
  go_wp2_with fail
  go_loopw [5, 6] (fun v5 v6 wr => SbL w bs g cz n v5 v6 wr) (fun v5 _ _ => (intOf v5).toNat)
  case atStart => exact ⟨0, bs.length, by omega, rfl, rfl, HK0.out⟩
  case round =>
    obtain ⟨k, i, hik, rfl, rfl, hK⟩ := hrel
    have hgs : w.heap.size ≤ g := by have := HGG.out; omega
    by_cases h8 : 8 ≤ i
    · obtain ⟨j, rfl⟩ : ∃ j, i = j + 8 := ⟨i - 8, by omega⟩
      have hkn : k < n := by have := HN.out; omega
      have HK := Lib.hid hK
      clear hK
      go_wp2_with fail
      refine (bigEndianWord_any b (off + j) _ (fun q => bs.getD (j + q) 0) _ ?_ ?_).mono ?_
      · intro q hq
        obtain ⟨ws, xs, h1, h2, h3, h4, h5, h6⟩ := HK.out
        rw [Nat.add_assoc]
        exact h6.cell (HC.out (j + q) (by omega))
      · intro q hq
        exact getD_lt HB.out (by omega) _
      rintro e w2 ⟨rfl, m, hw2⟩
      have hK2 : SbK w bs g cz n k w2 := by rw [hw2]; exact HK.out.drewN m
      clear hw2
      have hx1 : bv [bs.getD (j + 7) 0, bs.getD (j + 6) 0, bs.getD (j + 5) 0, bs.getD (j + 4) 0, bs.getD (j + 3) 0, bs.getD (j + 2) 0, bs.getD (j + 1) 0, bs.getD (j + 0) 0] = bv ((bs.reverse.drop (8 * k)).take 8) := by
        rw [take8 _ _ (by simp; omega)]
        have e : ∀ q, q < 8 → bs.reverse.getD (8 * k + q) 0 = bs.getD (j + (7 - q)) 0 := by
          intro q hq
          rw [rev_getD _ _ (by omega)]
          congr 1
          omega
        have e0 := e 0 (by omega)
        rw [Nat.add_zero] at e0
        rw [e0, e 1 (by omega), e 2 (by omega), e 3 (by omega), e 4 (by omega), e 5 (by omega), e 6 (by omega), e 7 (by omega)]
      generalize bv [bs.getD (j + 7) 0, bs.getD (j + 6) 0, bs.getD (j + 5) 0, bs.getD (j + 4) 0, bs.getD (j + 3) 0, bs.getD (j + 2) 0, bs.getD (j + 1) 0, bs.getD (j + 0) 0] = x at *
      have hxlt : x < 18446744073709551616 := by rw [hx1]; exact bv_in (fun y hy => HB.out y (List.mem_reverse.1 hy)) _ _ (by omega)
      have hst : SbK w bs g cz n (k + 1) (w2.setCell ⟨g, k, none⟩ (.int .u64 (x : Nat))) := hK2.step hgs hkn hxlt (by rw [hx1]; exact bv_take_eight _ _ (by simp; omega))
      obtain ⟨ws, xs, h1, h2, h3, h4, h5, h6⟩ := hK2
      obtain ⟨k1, k2, k3⟩ := ownsRow_cell h4 k hkn
      have hxl : k < xs.length := by have := h4.1; omega
      rw [List.getElem?_eq_getElem hxl] at k1
      generalize xs[k] = y at k1
      have HST := Lib.hid hst
      clear hst h1 h2 h3 h4 h5 h6 hx1 hxl
      go_wp2_with fail
      go_roundw
      case rel => exact ⟨k + 1, j, by omega, by go_num, by go_num, HST.out⟩
      case measure => simp [intOf]; omega
    · by_cases hi0 : i = 0
      · subst hi0
        obtain rfl : n = k := by have := HN.out; omega
        obtain ⟨ws, ho, hwl, hv, he⟩ := hK.fin (by omega)
        have HO := Lib.hid ho
        have HV := Lib.hid hv
        have HE := Lib.hid he
        have HWL := Lib.hid hwl
        clear ho hv he hK hwl
        go_wp2_with fail
        refine (norm_own 0 78 _ ws _ HO.out).mono ?_
        rintro e w2 ⟨⟨v2, rfl, ho, hob⟩, rfl⟩
        have H2 := Lib.hid ho
        have H3 := Lib.hid hob
        clear ho hob
        go_wp2_with fail
        go_ret
        refine ⟨_, norm ws, rfl, H2.out, norm_norm _, by rw [val_norm]; exact HV.out, Nat.le_trans (norm_length_le _) (by rw [HWL.out]; omega), HE.out, ?_⟩
        intro k hk
        replace hk : v2.ownBlock = some k := hk
        rw [H3.out] at hk
        simp [Value.ownBlock] at hk
        omega
      · have hi : 0 < i := by omega
        have hi8 : i < 8 := by omega
        obtain rfl : n = k + 1 := by have := HN.out; omega
        have HK := Lib.hid hK
        clear hK hi0 h8
        go_wp2_with fail
        go_loopw [5, 7, 8] (fun v5 v7 v8 wr' => SbT w bs k i wr v5 v7 v8 wr') (fun v5 _ _ _ => (intOf v5).toNat)
        case atStart => exact ⟨0, i, 0, 0, by omega, rfl, rfl, by simp [bv], rfl, by omega, rfl⟩
        case round =>
          obtain ⟨t, j, d, s, hjt, rfl, rfl, hd, rfl, hs, hw⟩ := hrel
          have HK2 : Hid (SbK w bs g cz (k + 1) k wr) := Lib.hid (by rw [hw]; exact HK.out)
          have HW := Lib.hid hw
          clear hw HK
          by_cases hj : 0 < j
          · have hcell : wr.cell? ⟨b, off + (j - 1), none⟩ = some (.int .u8 (bs.getD (j - 1) 0 : Nat)) := by
              obtain ⟨ws, xs, h1, h2, h3, h4, h5, h6⟩ := HK2.out
              exact h6.cell (HC.out (j - 1) (by omega))
            have hbl : bs.getD (j - 1) 0 < 256 := getD_lt HB.out (by omega) _
            have hnx : bv ((bs.reverse.drop (8 * k)).take (t + 1)) = d + bs.getD (j - 1) 0 * 2 ^ s := by
              rw [bv_take_succ _ _ (by simp; omega), ← hd, pow256_2, ← hs, Nat.mul_comm]
              congr 2
              rw [List.getD_eq_getElem?_getD, List.getElem?_drop, ← List.getD_eq_getElem?_getD, rev_getD _ _ (by omega)]
              congr 1
              omega
            generalize bs.getD (j - 1) 0 = x at *
            have hsl : s ≤ 48 := by omega
            have hdl : d < 2 ^ s := by rw [hd, hs]; exact bv_in' (fun y hy => HB.out y (List.mem_reverse.1 hy)) _ _
            have hd2 : d < 18446744073709551616 := by rw [hd]; exact bv_in (fun y hy => HB.out y (List.mem_reverse.1 hy)) _ _ (by omega)
            have s1 := wrap_shl hbl (show s ≤ 56 by omega)
            have s2 := bits_or_up hdl (shl_fit hbl (show s ≤ 56 by omega)) hd2
            have s3 : bits BinOp.or IntKind.u64 (d : Int) ((x : Int) * 2 ^ s) = (d : Int) + (x : Int) * 2 ^ s := by have h := s2; push_cast at h; exact h
            have HS3 := Lib.hid s3
            clear s3
            have HNX := Lib.hid hnx
            have HS := Lib.hid hs
            clear hnx hd hs hdl
            go_wp2_with fail
            go_roundw
            case rel => exact ⟨t + 1, j - 1, d + x * 2 ^ s, s + 8, by omega, by go_num, by first | rfl | simp [HS3.out], HNX.out.symm, by go_num, by have := HS.out; omega, HW.out⟩
            case measure => simp [intOf]; omega
          · obtain rfl : j = 0 := by omega
            obtain rfl : t = i := by omega
            have hd2 : d < 18446744073709551616 := by rw [hd]; exact bv_in (fun y hy => HB.out y (List.mem_reverse.1 hy)) _ _ (by omega)
            have hst : SbK w bs g cz (k + 1) (k + 1) (wr.setCell ⟨g, k, none⟩ (.int .u64 (d : Nat))) := HK2.out.step hgs (by omega) hd2 (by rw [hd]; exact bv_rest (by simpa using hik) (by omega))
            obtain ⟨ws', ho, hwl, hv, he⟩ := hst.fin (by omega)
            obtain ⟨ws, xs, h1, h2, h3, h4, h5, h6⟩ := HK2.out
            obtain ⟨k1, k2, k3⟩ := ownsRow_cell h4 k (by omega)
            have hxl : k < xs.length := by have := h4.1; omega
            rw [List.getElem?_eq_getElem hxl] at k1
            generalize xs[k] = y at k1
            have HO := Lib.hid ho
            have HV := Lib.hid hv
            have HE := Lib.hid he
            have HWL := Lib.hid hwl
            clear hst ho hwl hv he h1 h2 h3 h4 h5 h6 hxl hd hs
            go_wp2_with fail
            refine (norm_own 0 78 _ ws' _ HO.out).mono ?_
            rintro e w2 ⟨⟨v2, rfl, ho, hob⟩, rfl⟩
            have H2 := Lib.hid ho
            have H3 := Lib.hid hob
            clear ho hob
            go_wp2_with fail
            go_ret
            refine ⟨_, norm ws', rfl, H2.out, norm_norm _, by rw [val_norm]; exact HV.out, Nat.le_trans (norm_length_le _) (by rw [HWL.out]; omega), HE.out, ?_⟩
            intro k hk
            replace hk : v2.ownBlock = some k := hk
            rw [H3.out] at hk
            simp [Value.ownBlock] at hk
            omega

theorem natSetBytes_any (v : Value) (bs : List Nat) (w : World) (h : Rd .u8 w v bs) (hl : bs.length ≤ 140737488355328) :
    Calls Try.prog 74 #[.slice none 0 0, v] w (SbR (bev bs) ((bs.length + 7) / 8) w) := by
  have hbb : ∀ x ∈ bs, x < 256 := h.1
  rcases h.shape with ⟨rfl, a, cap, rfl, h1, _⟩ | ⟨h0, b, off, cap, rfl, h1, h2, h3⟩
  · exact natSetBytes_none a cap w h1
  · exact natSetBytes_some b off cap bs w h0 h1 h2 hbb h3 hl

end Go.Proofs.Ytcdkaddgljafhaa
