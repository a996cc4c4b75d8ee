/- math/bits.Add, math/bits.Sub, addVV_g, subVV_g: contracts. -/
import Derived.Test.YtacmojhladdalaaPut
import Derived.Test.YtacmojhladdalaaMake
import Derived.Laws.Externs
import Derived.Laws.Twins
import Derived.Shelf.Spec.BitsCarry
set_option linter.unusedSimpArgs false
set_option linter.unusedVariables false
namespace Go.Proofs.Ytacmojhladdalaa
open Go.RowKit

theorem call_add64 (x y c s d : Nat) (hs : s < 18446744073709551616) (hc : c ≤ 1) (h : s + 18446744073709551616 * d = x + y + c) (w : World) :
    (callFunc 87 #[.int .u64 x, .int .u64 y, .int .u64 c]).run Try.prog w = .ok (.value (.tuple #[.int .u64 (s : Nat), .int .u64 (d : Nat)])) w := by
  have hf : Try.prog.funcs[87]? = some Try.f87 := by kernel_rfl
  rw [run_callFunc_extern hf (by kernel_rfl) (by kernel_rfl) (by kernel_rfl) (e := add64Entry) (by kernel_rfl), run_add64 x y c (by omega) (by omega) (by omega) (by omega)]
  simp only [Result.andThen]
  rw [show ((x : Int) + y + c) % 18446744073709551616 = (s : Int) by omega, show ((x : Int) + y + c) / 18446744073709551616 = (d : Int) by omega]

theorem call_sub64 (x y c s d : Nat) (hs : s < 18446744073709551616) (hx : x < 18446744073709551616) (hy : y < 18446744073709551616) (hc : c ≤ 1) (h : s + y + c = x + 18446744073709551616 * d) (w : World) :
    (callFunc 89 #[.int .u64 x, .int .u64 y, .int .u64 c]).run Try.prog w = .ok (.value (.tuple #[.int .u64 (s : Nat), .int .u64 (d : Nat)])) w := by
  have hf : Try.prog.funcs[89]? = some Try.f89 := by kernel_rfl
  rw [run_callFunc_extern hf (by kernel_rfl) (by kernel_rfl) (by kernel_rfl) (e := sub64Entry) (by kernel_rfl), run_sub64 x y c hc]
  simp only [Result.andThen]
  have h1 : (x + 18446744073709551616 - y - c) % 18446744073709551616 = s := by omega
  have h2 : (if x < y + c then 1 else 0) = d := by split <;> omega
  rw [h1, h2]

theorem bitsAdd_any (x y c s d : Nat) (hs : s < 18446744073709551616) (hc : c ≤ 1) (h : s + 18446744073709551616 * d = x + y + c) (w : World) :
    Calls Try.prog 80 #[.int .u64 x, .int .u64 y, .int .u64 c] w fun e w' => e = .returned (.tuple #[.int .u64 (s : Nat), .int .u64 (d : Nat)]) ∧ w' = w := by
  have hcall := call_add64 x y c s d hs hc h
  clear h hs hc
  go_enter Try.func80, Try.ntmps80
  go_wp2
  go_ret2
  exact ⟨rfl, rfl⟩

theorem bitsSub_any (x y c s d : Nat) (hs : s < 18446744073709551616) (hx : x < 18446744073709551616) (hy : y < 18446744073709551616) (hc : c ≤ 1) (h : s + y + c = x + 18446744073709551616 * d) (w : World) :
    Calls Try.prog 83 #[.int .u64 x, .int .u64 y, .int .u64 c] w fun e w' => e = .returned (.tuple #[.int .u64 (s : Nat), .int .u64 (d : Nat)]) ∧ w' = w := by
  have hcall := call_sub64 x y c s d hs hx hy hc h
  clear h hs hx hy hc
  go_enter Try.func83, Try.ntmps83
  go_wp2
  go_ret2
  exact ⟨rfl, rfl⟩


theorem Upd.drewN {S : Nat → Prop} {a b : World} (h : Upd S a b) (n : Nat) : Upd S a (b.drewN n) := by
  exact ⟨h.os, h.tape, h.output, h.size, h.block⟩

theorem heap_drewN {w : World} {k : Nat} {o : Obj} (h : w.heap[k]? = some o) (n : Nat) : (w.drewN n).heap[k]? = some o := by
  exact h

/-- A cell that is read at place k is as it was. -/
theorem row_read {w wr : World} {bz oz bx ox k n : Nat} {cz : Array Value} {T : TypeId} {ws : List Nat} {v : Value} (hz : w.heap[bz]? = some (.cells cz T (0, 0))) (hfit : oz + n ≤ cz.size) (hk : k < n) (hl : ws.length = k) (hal : bx = bz → ox = oz) (hu : Upd (· = bz) w wr) (hrow : wr.heap[bz]? = some (.cells (put cz oz (words .u64 ws)) T (0, 0))) (hc : w.cell? ⟨bx, ox + k, none⟩ = some v) : wr.cell? ⟨bx, ox + k, none⟩ = some v := by
  by_cases hb : bx = bz
  · subst hb
    rw [hal rfl] at hc ⊢
    rw [blk_cell hz] at hc
    rw [blk_cell hrow, put_past _ _ _ _ (by omega) (by rw [words_len]; omega)]
    exact hc
  · exact hu.cell hc hb

theorem sub_digit {x y c : Nat} (hx : x < 18446744073709551616) (hy : y < 18446744073709551616) (hc : c ≤ 1) : ∃ s d : Nat, s < 18446744073709551616 ∧ d ≤ 1 ∧ s + y + c = x + 18446744073709551616 * d := by
  by_cases h : x < y + c
  · exact ⟨x + 18446744073709551616 - y - c, 1, by omega, by omega, by omega⟩
  · exact ⟨x - y - c, 0, by omega, by omega, by omega⟩

/-- What math/big.addVV_g leaves: the words ws in the row from oz on, and the carry. -/
def addVVR (w : World) (bz oz : Nat) (cz : Array Value) (T : TypeId) (xs ys : List Nat) (n : Nat) (e : Ending) (w' : World) : Prop :=
  ∃ (ws : List Nat) (c : Nat), e = .returned (.int .u64 (c : Nat)) ∧ ws.length = n ∧ (∀ x ∈ ws, x < 18446744073709551616) ∧ c ≤ 1 ∧ (val ws + 18446744073709551616 ^ n * c = val xs + val ys) ∧ Upd (· = bz) w w' ∧ w'.heap[bz]? = some (.cells (put cz oz (words .u64 ws)) T (0, 0))

def addVVL (w : World) (bz oz : Nat) (cz : Array Value) (T : TypeId) (xs ys : List Nat) (n : Nat) (cv iv : Value) (wr : World) : Prop :=
  ∃ (k : Nat) (ws : List Nat) (c : Nat), k ≤ n ∧ iv = .int .i64 k ∧ cv = .int .u64 (c : Nat) ∧ ws.length = k ∧ (∀ x ∈ ws, x < 18446744073709551616) ∧ c ≤ 1 ∧ (val ws + 18446744073709551616 ^ k * c = val (xs.take k) + val (ys.take k)) ∧ Upd (· = bz) w wr ∧ wr.heap[bz]? = some (.cells (put cz oz (words .u64 ws)) T (0, 0))

set_option maxHeartbeats 1000000 in
theorem addVV_any (bz oz kz bx ox kx yb oy ky n : Nat) (cz : Array Value) (T : TypeId) (xs ys : List Nat) (w : World) (hz : w.heap[bz]? = some (.cells cz T (0, 0))) (hfit : oz + n ≤ cz.size) (hn : n ≤ 9223372036854775806) (hkz : n ≤ kz ∧ kz ≤ 9223372036854775807) (hkx : n ≤ kx ∧ kx ≤ 9223372036854775807) (hky : n ≤ ky ∧ ky ≤ 9223372036854775807)
    (hxl : xs.length = n) (hyl : ys.length = n) (hxb : ∀ x ∈ xs, x < 18446744073709551616) (hyb : ∀ x ∈ ys, x < 18446744073709551616)
    (hx : ∀ i, i < n → w.cell? ⟨bx, ox + i, none⟩ = some (.int .u64 (xs.getD i 0 : Nat))) (hy : ∀ i, i < n → w.cell? ⟨yb, oy + i, none⟩ = some (.int .u64 (ys.getD i 0 : Nat)))
    (hax : bx = bz → ox = oz) (hay : yb = bz → oy = oz) :
    Calls Try.prog 58 #[.slice (some ⟨bz, oz, none⟩) n kz, .slice (some ⟨bx, ox, none⟩) n kx, .slice (some ⟨yb, oy, none⟩) n ky] w (addVVR w bz oz cz T xs ys n) := by
  have HZ := Lib.hid hz
  have HX := Lib.hid hx
  have HY := Lib.hid hy
  have HXB := Lib.hid hxb
  have HYB := Lib.hid hyb
  have HAX := Lib.hid hax
  have HAY := Lib.hid hay
  have HXL := Lib.hid hxl
  have HYL := Lib.hid hyl
  obtain ⟨hkz1, hkz2⟩ := hkz
  obtain ⟨hkx1, hkx2⟩ := hkx
  obtain ⟨hky1, hky2⟩ := hky
  clear hz hx hy hxb hyb hax hay hxl hyl
  have hsl : ∀ k, w.heap.size ≤ k → True := fun _ _ => trivial
  clear hsl
  go_enter Try.func58, Try.ntmps58
  go_wp2_with fail
  go_loopw [6, 7, 8, 9, 25] (fun cv _ _ _ iv wr => addVVL w bz oz cz T xs ys n cv iv wr) (fun _ _ _ _ iv _ => n - (intOf iv).toNat)
  case atStart => exact ⟨0, [], 0, Nat.zero_le _, rfl, rfl, rfl, by simp, by omega, by simp [val], Upd.refl _ _, by rw [show words IntKind.u64 [] = [] from rfl, put_nil]; exact HZ.out⟩
  case round =>
    obtain ⟨k, ws, c, hk, rfl, rfl, hl, hb, hc1, hv, hu, hrow⟩ := hrel
    by_cases hlt : k < n
    · obtain ⟨x, hxx⟩ : ∃ x, xs.getD k 0 = x := ⟨_, rfl⟩
      obtain ⟨y, hyy⟩ : ∃ y, ys.getD k 0 = y := ⟨_, rfl⟩
      have hcx := row_read HZ.out hfit hlt hl HAX.out hu hrow (HX.out k hlt)
      have hcy := row_read HZ.out hfit hlt hl HAY.out hu hrow (HY.out k hlt)
      rw [hxx] at hcx
      rw [hyy] at hcy
      have hxlt : x < 18446744073709551616 := by rw [← hxx]; exact getD_lt HXB.out (by omega) k
      have hylt : y < 18446744073709551616 := by rw [← hyy]; exact getD_lt HYB.out (by omega) k
      obtain ⟨s, d, hs, hd, hsd⟩ : ∃ s d : Nat, s < 18446744073709551616 ∧ d ≤ 1 ∧ s + 18446744073709551616 * d = x + y + c := ⟨(x + y + c) % 18446744073709551616, (x + y + c) / 18446744073709551616, Nat.mod_lt _ (by decide), by omega, by omega⟩
      have hall : ∀ wq : World, Upd (· = bz) w wq → wq.heap[bz]? = some (.cells (put cz oz (words .u64 ws)) T (0, 0)) → (∃ z0, wq.cell? ⟨bz, oz + k, none⟩ = some z0) ∧ wq.frozen? ⟨bz, oz + k, none⟩ = false ∧
          addVVL w bz oz cz T xs ys n (.int .u64 (d : Nat)) (.int .i64 ((k + 1 : Nat) : Int)) (wq.setCell ⟨bz, oz + k, none⟩ (.int .u64 (s : Nat))) := by
        intro wq hu hrow
        refine ⟨⟨cz[oz + k]'(by omega), ?_⟩, blk_free hrow _, k + 1, ws ++ [s], d, by omega, rfl, rfl, by simp [hl], mem_snoc hb hs, hd, add_step hl hv hxx hyy hsd, hu.same ((Upd.refl _ _).setCell (by rfl) _), ?_⟩
        · rw [blk_cell hrow, put_past _ _ _ _ (by omega) (by rw [words_len]; omega)]; exact Array.getElem?_eq_getElem (by omega)
        · have := blk_setc hrow (oz + k) (.int .u64 (s : Nat))
          rw [this, words_app, show words IntKind.u64 [s] = [.int .u64 (s : Nat)] from rfl, ← put_set _ _ _ _ (by rw [words_len]; omega), words_len, hl]
      have HALL := Lib.hid (fun nq => hall (wr.drewN nq) (hu.drewN nq) (heap_drewN hrow nq))
      have HSD := Lib.hid hsd
      clear hall hv hu hrow hxx hyy hl hb hsd
      go_wp2_with fail
      go_quiet ((go_at_call 80; exact Calls.quiet_of_same (bitsAdd_any x y c s d hs hc1 HSD.out _)))
      obtain ⟨⟨z0, q1⟩, q2, q3⟩ := HALL.out nq
      generalize wr.drewN nq = wq at *
      have HQ := Lib.hid q3
      clear q3 hcx hcy
      go_wp2_with fail
      go_roundw
      case rel => exact HQ.out
      case measure => simp [intOf]; omega
    · obtain rfl : k = n := by omega
      have HR : Hid (addVVR w bz oz cz T xs ys k (.returned (.int .u64 (c : Nat))) wr) := Lib.hid ⟨ws, c, rfl, hl, hb, hc1, by
        have h1 := HXL.out
        have h2 := HYL.out
        rw [List.take_of_length_le (by omega), List.take_of_length_le (by omega)] at hv; exact hv, hu, hrow⟩
      clear hv hu hrow hl hb
      go_wp2_with fail
      go_ret
      exact HR.out


/-- What math/big.subVV_g leaves: the words ws in the row from oz on, and the carry. -/
def subVVR (w : World) (bz oz : Nat) (cz : Array Value) (T : TypeId) (xs ys : List Nat) (n : Nat) (e : Ending) (w' : World) : Prop :=
  ∃ (ws : List Nat) (c : Nat), e = .returned (.int .u64 (c : Nat)) ∧ ws.length = n ∧ (∀ x ∈ ws, x < 18446744073709551616) ∧ c ≤ 1 ∧ (val ws + val ys = val xs + 18446744073709551616 ^ n * c) ∧ Upd (· = bz) w w' ∧ w'.heap[bz]? = some (.cells (put cz oz (words .u64 ws)) T (0, 0))

def subVVL (w : World) (bz oz : Nat) (cz : Array Value) (T : TypeId) (xs ys : List Nat) (n : Nat) (cv iv : Value) (wr : World) : Prop :=
  ∃ (k : Nat) (ws : List Nat) (c : Nat), k ≤ n ∧ iv = .int .i64 k ∧ cv = .int .u64 (c : Nat) ∧ ws.length = k ∧ (∀ x ∈ ws, x < 18446744073709551616) ∧ c ≤ 1 ∧ (val ws + val (ys.take k) = val (xs.take k) + 18446744073709551616 ^ k * c) ∧ Upd (· = bz) w wr ∧ wr.heap[bz]? = some (.cells (put cz oz (words .u64 ws)) T (0, 0))

set_option maxHeartbeats 1000000 in
theorem subVV_any (bz oz kz bx ox kx yb oy ky n : Nat) (cz : Array Value) (T : TypeId) (xs ys : List Nat) (w : World) (hz : w.heap[bz]? = some (.cells cz T (0, 0))) (hfit : oz + n ≤ cz.size) (hn : n ≤ 9223372036854775806) (hkz : n ≤ kz ∧ kz ≤ 9223372036854775807) (hkx : n ≤ kx ∧ kx ≤ 9223372036854775807) (hky : n ≤ ky ∧ ky ≤ 9223372036854775807)
    (hxl : xs.length = n) (hyl : ys.length = n) (hxb : ∀ x ∈ xs, x < 18446744073709551616) (hyb : ∀ x ∈ ys, x < 18446744073709551616)
    (hx : ∀ i, i < n → w.cell? ⟨bx, ox + i, none⟩ = some (.int .u64 (xs.getD i 0 : Nat))) (hy : ∀ i, i < n → w.cell? ⟨yb, oy + i, none⟩ = some (.int .u64 (ys.getD i 0 : Nat)))
    (hax : bx = bz → ox = oz) (hay : yb = bz → oy = oz) :
    Calls Try.prog 59 #[.slice (some ⟨bz, oz, none⟩) n kz, .slice (some ⟨bx, ox, none⟩) n kx, .slice (some ⟨yb, oy, none⟩) n ky] w (subVVR w bz oz cz T xs ys n) := by
  have HZ := Lib.hid hz
  have HX := Lib.hid hx
  have HY := Lib.hid hy
  have HXB := Lib.hid hxb
  have HYB := Lib.hid hyb
  have HAX := Lib.hid hax
  have HAY := Lib.hid hay
  have HXL := Lib.hid hxl
  have HYL := Lib.hid hyl
  obtain ⟨hkz1, hkz2⟩ := hkz
  obtain ⟨hkx1, hkx2⟩ := hkx
  obtain ⟨hky1, hky2⟩ := hky
  clear hz hx hy hxb hyb hax hay hxl hyl
  have hsl : ∀ k, w.heap.size ≤ k → True := fun _ _ => trivial
  clear hsl
  go_enter Try.func59, Try.ntmps59
  go_wp2_with fail
  go_loopw [6, 7, 8, 9, 25] (fun cv _ _ _ iv wr => subVVL w bz oz cz T xs ys n cv iv wr) (fun _ _ _ _ iv _ => n - (intOf iv).toNat)
  case atStart => exact ⟨0, [], 0, Nat.zero_le _, rfl, rfl, rfl, by simp, by omega, by simp [val], Upd.refl _ _, by rw [show words IntKind.u64 [] = [] from rfl, put_nil]; exact HZ.out⟩
  case round =>
    obtain ⟨k, ws, c, hk, rfl, rfl, hl, hb, hc1, hv, hu, hrow⟩ := hrel
    by_cases hlt : k < n
    · obtain ⟨x, hxx⟩ : ∃ x, xs.getD k 0 = x := ⟨_, rfl⟩
      obtain ⟨y, hyy⟩ : ∃ y, ys.getD k 0 = y := ⟨_, rfl⟩
      have hcx := row_read HZ.out hfit hlt hl HAX.out hu hrow (HX.out k hlt)
      have hcy := row_read HZ.out hfit hlt hl HAY.out hu hrow (HY.out k hlt)
      rw [hxx] at hcx
      rw [hyy] at hcy
      have hxlt : x < 18446744073709551616 := by rw [← hxx]; exact getD_lt HXB.out (by omega) k
      have hylt : y < 18446744073709551616 := by rw [← hyy]; exact getD_lt HYB.out (by omega) k
      obtain ⟨s, d, hs, hd, hsd⟩ : ∃ s d : Nat, s < 18446744073709551616 ∧ d ≤ 1 ∧ s + y + c = x + 18446744073709551616 * d := sub_digit hxlt hylt hc1
      have hall : ∀ wq : World, Upd (· = bz) w wq → wq.heap[bz]? = some (.cells (put cz oz (words .u64 ws)) T (0, 0)) → (∃ z0, wq.cell? ⟨bz, oz + k, none⟩ = some z0) ∧ wq.frozen? ⟨bz, oz + k, none⟩ = false ∧
          subVVL w bz oz cz T xs ys n (.int .u64 (d : Nat)) (.int .i64 ((k + 1 : Nat) : Int)) (wq.setCell ⟨bz, oz + k, none⟩ (.int .u64 (s : Nat))) := by
        intro wq hu hrow
        refine ⟨⟨cz[oz + k]'(by omega), ?_⟩, blk_free hrow _, k + 1, ws ++ [s], d, by omega, rfl, rfl, by simp [hl], mem_snoc hb hs, hd, sub_step hl hv hxx hyy hsd, hu.same ((Upd.refl _ _).setCell (by rfl) _), ?_⟩
        · rw [blk_cell hrow, put_past _ _ _ _ (by omega) (by rw [words_len]; omega)]; exact Array.getElem?_eq_getElem (by omega)
        · have := blk_setc hrow (oz + k) (.int .u64 (s : Nat))
          rw [this, words_app, show words IntKind.u64 [s] = [.int .u64 (s : Nat)] from rfl, ← put_set _ _ _ _ (by rw [words_len]; omega), words_len, hl]
      have HALL := Lib.hid (fun nq => hall (wr.drewN nq) (hu.drewN nq) (heap_drewN hrow nq))
      have HSD := Lib.hid hsd
      clear hall hv hu hrow hxx hyy hl hb hsd
      go_wp2_with fail
      go_quiet ((go_at_call 83; exact Calls.quiet_of_same (bitsSub_any x y c s d hs hxlt hylt hc1 HSD.out _)))
      obtain ⟨⟨z0, q1⟩, q2, q3⟩ := HALL.out nq
      generalize wr.drewN nq = wq at *
      have HQ := Lib.hid q3
      clear q3 hcx hcy
      go_wp2_with fail
      go_roundw
      case rel => exact HQ.out
      case measure => simp [intOf]; omega
    · obtain rfl : k = n := by omega
      have HR : Hid (subVVR w bz oz cz T xs ys k (.returned (.int .u64 (c : Nat))) wr) := Lib.hid ⟨ws, c, rfl, hl, hb, hc1, by
        have h1 := HXL.out
        have h2 := HYL.out
        rw [List.take_of_length_le (by omega), List.take_of_length_le (by omega)] at hv; exact hv, hu, hrow⟩
      clear hv hu hrow hl hb
      go_wp2_with fail
      go_ret
      exact HR.out


end Go.Proofs.Ytacmojhladdalaa
