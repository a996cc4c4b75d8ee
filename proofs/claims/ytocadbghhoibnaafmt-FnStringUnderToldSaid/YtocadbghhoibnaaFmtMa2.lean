/- Base texts of the seat, merged: BitsAdd, Str2, SetWord, NatCom, Str3, Shl, LshVU, ByteMath, Str4, Str5, Str6, ScanA, SetU, SpecUp. -/
import Derived.Test.YtocadbghhoibnaaFmtMa1
import Derived.Laws.Externs
import Derived.Laws.Twins
import Derived.Shelf.Spec.BitsCarry
import Derived.Shelf.Bits.Mul64
import Derived.Laws.Bits64b
import Derived.Test.YtocadbghhoibnaaFmtM01
import Derived.StillTailTactics
import Derived.IntWalk
import Derived.BigRegion
set_option linter.unusedSimpArgs false
set_option linter.unusedVariables false

/- math/bits.Add, math/bits.Sub, addVV_g, subVV_g: contracts. -/
namespace Go.Proofs.YtocadbghhoibnaaFmt
open Go.RowKit

theorem call_add64 (x y c s d : Nat) (hs : s < 18446744073709551616) (hc : c ≤ 1) (h : s + 18446744073709551616 * d = x + y + c) (w : World) :
    (callFunc 111 #[.int .u64 x, .int .u64 y, .int .u64 c]).run Tryf.prog w = .ok (.value (.tuple #[.int .u64 (s : Nat), .int .u64 (d : Nat)])) w := by
  have hf : Tryf.prog.funcs[111]? = some Tryf.f111 := by kernel_rfl
  rw [run_callFunc_extern hf (by kernel_rfl) (by kernel_rfl) (by kernel_rfl) (e := add64Entry) (by kernel_rfl), run_add64 x y c (by omega) (by omega) (by omega) (by omega)]
  simp only [Result.andThen]
  rw [show ((x : Int) + y + c) % 18446744073709551616 = (s : Int) by omega, show ((x : Int) + y + c) / 18446744073709551616 = (d : Int) by omega]

theorem call_sub64 (x y c s d : Nat) (hs : s < 18446744073709551616) (hx : x < 18446744073709551616) (hy : y < 18446744073709551616) (hc : c ≤ 1) (h : s + y + c = x + 18446744073709551616 * d) (w : World) :
    (callFunc 113 #[.int .u64 x, .int .u64 y, .int .u64 c]).run Tryf.prog w = .ok (.value (.tuple #[.int .u64 (s : Nat), .int .u64 (d : Nat)])) w := by
  have hf : Tryf.prog.funcs[113]? = some Tryf.f113 := by kernel_rfl
  rw [run_callFunc_extern hf (by kernel_rfl) (by kernel_rfl) (by kernel_rfl) (e := sub64Entry) (by kernel_rfl), run_sub64 x y c hc]
  simp only [Result.andThen]
  have h1 : (x + 18446744073709551616 - y - c) % 18446744073709551616 = s := by omega
  have h2 : (if x < y + c then 1 else 0) = d := by split <;> omega
  rw [h1, h2]

theorem bitsAdd_any (x y c s d : Nat) (hs : s < 18446744073709551616) (hc : c ≤ 1) (h : s + 18446744073709551616 * d = x + y + c) (w : World) :
    Calls Tryf.prog 100 #[.int .u64 x, .int .u64 y, .int .u64 c] w fun e w' => e = .returned (.tuple #[.int .u64 (s : Nat), .int .u64 (d : Nat)]) ∧ w' = w := by
  have hcall := call_add64 x y c s d hs hc h
  clear h hs hc
  go_enter Tryf.func100, Tryf.ntmps100
  go_wp2
  go_ret2
  exact ⟨rfl, rfl⟩

theorem bitsSub_any (x y c s d : Nat) (hs : s < 18446744073709551616) (hx : x < 18446744073709551616) (hy : y < 18446744073709551616) (hc : c ≤ 1) (h : s + y + c = x + 18446744073709551616 * d) (w : World) :
    Calls Tryf.prog 103 #[.int .u64 x, .int .u64 y, .int .u64 c] w fun e w' => e = .returned (.tuple #[.int .u64 (s : Nat), .int .u64 (d : Nat)]) ∧ w' = w := by
  have hcall := call_sub64 x y c s d hs hx hy hc h
  clear h hs hx hy hc
  go_enter Tryf.func103, Tryf.ntmps103
  go_wp2
  go_ret2
  exact ⟨rfl, rfl⟩


theorem Upd.drewN {S : Nat → Prop} {a b : World} (h : Upd S a b) (n : Nat) : Upd S a (b.drewN n) := by
  exact ⟨h.os, h.tape, h.output, h.size, h.block⟩

theorem heap_drewN {w : World} {k : Nat} {o : Obj} (h : w.heap[k]? = some o) (n : Nat) : (w.drewN n).heap[k]? = some o := by
  exact h

/-- A cell that is read at place k is as it was. -/
theorem row_read {w wr : World} {bz oz bx ox k n : Nat} {cz : Array Value} {T : TypeId} {ws : List Nat} {v : Value} (hz : w.heap[bz]? = some (.cells cz T (0, 0))) (hfit : oz + n ≤ cz.size) (hk : k < n) (hl : ws.length = k) (hal : bx = bz → ox = oz) (hu : Upd (· = bz) w wr) (hrow : wr.heap[bz]? = some (.cells (put cz oz (words .u64 ws)) T (0, 0))) (hc : w.cell? ⟨bx, ox + k, none⟩ = some v) : wr.cell? ⟨bx, ox + k, none⟩ = some v := by
  by_cases hb : bx = bz
  · subst hb
    rw [hal rfl] at hc ⊢
    rw [blk_cell hz] at hc
    rw [blk_cell hrow, put_past _ _ _ _ (by omega) (by rw [words_len]; omega)]
    exact hc
  · exact hu.cell hc hb

theorem sub_digit {x y c : Nat} (hx : x < 18446744073709551616) (hy : y < 18446744073709551616) (hc : c ≤ 1) : ∃ s d : Nat, s < 18446744073709551616 ∧ d ≤ 1 ∧ s + y + c = x + 18446744073709551616 * d := by
  by_cases h : x < y + c
  · exact ⟨x + 18446744073709551616 - y - c, 1, by omega, by omega, by omega⟩
  · exact ⟨x - y - c, 0, by omega, by omega, by omega⟩

/-- What math/big.addVV_g leaves: the words ws in the row from oz on, and the carry. -/
def addVVR (w : World) (bz oz : Nat) (cz : Array Value) (T : TypeId) (xs ys : List Nat) (n : Nat) (e : Ending) (w' : World) : Prop :=
  ∃ (ws : List Nat) (c : Nat), e = .returned (.int .u64 (c : Nat)) ∧ ws.length = n ∧ (∀ x ∈ ws, x < 18446744073709551616) ∧ c ≤ 1 ∧ (val ws + 18446744073709551616 ^ n * c = val xs + val ys) ∧ Upd (· = bz) w w' ∧ w'.heap[bz]? = some (.cells (put cz oz (words .u64 ws)) T (0, 0))

def addVVL (w : World) (bz oz : Nat) (cz : Array Value) (T : TypeId) (xs ys : List Nat) (n : Nat) (cv iv : Value) (wr : World) : Prop :=
  ∃ (k : Nat) (ws : List Nat) (c : Nat), k ≤ n ∧ iv = .int .i64 k ∧ cv = .int .u64 (c : Nat) ∧ ws.length = k ∧ (∀ x ∈ ws, x < 18446744073709551616) ∧ c ≤ 1 ∧ (val ws + 18446744073709551616 ^ k * c = val (xs.take k) + val (ys.take k)) ∧ Upd (· = bz) w wr ∧ wr.heap[bz]? = some (.cells (put cz oz (words .u64 ws)) T (0, 0))

set_option maxHeartbeats 1000000 in
theorem addVV_any (bz oz kz bx ox kx yb oy ky n : Nat) (cz : Array Value) (T : TypeId) (xs ys : List Nat) (w : World) (hz : w.heap[bz]? = some (.cells cz T (0, 0))) (hfit : oz + n ≤ cz.size) (hn : n ≤ 9223372036854775806) (hkz : n ≤ kz ∧ kz ≤ 9223372036854775807) (hkx : n ≤ kx ∧ kx ≤ 9223372036854775807) (hky : n ≤ ky ∧ ky ≤ 9223372036854775807)
    (hxl : xs.length = n) (hyl : ys.length = n) (hxb : ∀ x ∈ xs, x < 18446744073709551616) (hyb : ∀ x ∈ ys, x < 18446744073709551616)
    (hx : ∀ i, i < n → w.cell? ⟨bx, ox + i, none⟩ = some (.int .u64 (xs.getD i 0 : Nat))) (hy : ∀ i, i < n → w.cell? ⟨yb, oy + i, none⟩ = some (.int .u64 (ys.getD i 0 : Nat)))
    (hax : bx = bz → ox = oz) (hay : yb = bz → oy = oz) :
    Calls Tryf.prog 63 #[.slice (some ⟨bz, oz, none⟩) n kz, .slice (some ⟨bx, ox, none⟩) n kx, .slice (some ⟨yb, oy, none⟩) n ky] w (addVVR w bz oz cz T xs ys n) := by
  have HZ := Lib.hid hz
  have HX := Lib.hid hx
  have HY := Lib.hid hy
  have HXB := Lib.hid hxb
  have HYB := Lib.hid hyb
  have HAX := Lib.hid hax
  have HAY := Lib.hid hay
  have HXL := Lib.hid hxl
  have HYL := Lib.hid hyl
  obtain ⟨hkz1, hkz2⟩ := hkz
  obtain ⟨hkx1, hkx2⟩ := hkx
  obtain ⟨hky1, hky2⟩ := hky
  clear hz hx hy hxb hyb hax hay hxl hyl
  have hsl : ∀ k, w.heap.size ≤ k → True := fun _ _ => trivial
  clear hsl
  go_enter Tryf.func63, Tryf.ntmps63
  go_wp2_with fail
  go_loopw [6, 7, 8, 9, 25] (fun cv _ _ _ iv wr => addVVL w bz oz cz T xs ys n cv iv wr) (fun _ _ _ _ iv _ => n - (intOf iv).toNat)
  case atStart => exact ⟨0, [], 0, Nat.zero_le _, rfl, rfl, rfl, by simp, by omega, by simp [val], Upd.refl _ _, by rw [show words IntKind.u64 [] = [] from rfl, put_nil]; exact HZ.out⟩
  case round =>
    obtain ⟨k, ws, c, hk, rfl, rfl, hl, hb, hc1, hv, hu, hrow⟩ := hrel
    by_cases hlt : k < n
    · obtain ⟨x, hxx⟩ : ∃ x, xs.getD k 0 = x := ⟨_, rfl⟩
      obtain ⟨y, hyy⟩ : ∃ y, ys.getD k 0 = y := ⟨_, rfl⟩
      have hcx := row_read HZ.out hfit hlt hl HAX.out hu hrow (HX.out k hlt)
      have hcy := row_read HZ.out hfit hlt hl HAY.out hu hrow (HY.out k hlt)
      rw [hxx] at hcx
      rw [hyy] at hcy
      have hxlt : x < 18446744073709551616 := by rw [← hxx]; exact getD_lt HXB.out (by omega) k
      have hylt : y < 18446744073709551616 := by rw [← hyy]; exact getD_lt HYB.out (by omega) k
      obtain ⟨s, d, hs, hd, hsd⟩ : ∃ s d : Nat, s < 18446744073709551616 ∧ d ≤ 1 ∧ s + 18446744073709551616 * d = x + y + c := ⟨(x + y + c) % 18446744073709551616, (x + y + c) / 18446744073709551616, Nat.mod_lt _ (by decide), by omega, by omega⟩
      have hall : ∀ wq : World, Upd (· = bz) w wq → wq.heap[bz]? = some (.cells (put cz oz (words .u64 ws)) T (0, 0)) → (∃ z0, wq.cell? ⟨bz, oz + k, none⟩ = some z0) ∧ wq.frozen? ⟨bz, oz + k, none⟩ = false ∧
          addVVL w bz oz cz T xs ys n (.int .u64 (d : Nat)) (.int .i64 ((k + 1 : Nat) : Int)) (wq.setCell ⟨bz, oz + k, none⟩ (.int .u64 (s : Nat))) := by
        intro wq hu hrow
        refine ⟨⟨cz[oz + k]'(by omega), ?_⟩, blk_free hrow _, k + 1, ws ++ [s], d, by omega, rfl, rfl, by simp [hl], mem_snoc hb hs, hd, add_step hl hv hxx hyy hsd, hu.same ((Upd.refl _ _).setCell (by rfl) _), ?_⟩
        · rw [blk_cell hrow, put_past _ _ _ _ (by omega) (by rw [words_len]; omega)]; exact Array.getElem?_eq_getElem (by omega)
        · have := blk_setc hrow (oz + k) (.int .u64 (s : Nat))
          rw [this, words_app, show words IntKind.u64 [s] = [.int .u64 (s : Nat)] from rfl, ← put_set _ _ _ _ (by rw [words_len]; omega), words_len, hl]
      have HALL := Lib.hid (fun nq => hall (wr.drewN nq) (hu.drewN nq) (heap_drewN hrow nq))
      have HSD := Lib.hid hsd
      clear hall hv hu hrow hxx hyy hl hb hsd
      go_wp2_with fail
      go_quiet ((go_at_call 100; exact Calls.quiet_of_same (bitsAdd_any x y c s d hs hc1 HSD.out _)))
      obtain ⟨⟨z0, q1⟩, q2, q3⟩ := HALL.out nq
      generalize wr.drewN nq = wq at *
      have HQ := Lib.hid q3
      clear q3 hcx hcy
      go_wp2_with fail
      go_roundw
      case rel => exact HQ.out
      case measure => simp [intOf]; omega
    · obtain rfl : k = n := by omega
      have HR : Hid (addVVR w bz oz cz T xs ys k (.returned (.int .u64 (c : Nat))) wr) := Lib.hid ⟨ws, c, rfl, hl, hb, hc1, by
        have h1 := HXL.out
        have h2 := HYL.out
        rw [List.take_of_length_le (by omega), List.take_of_length_le (by omega)] at hv; exact hv, hu, hrow⟩
      clear hv hu hrow hl hb
      go_wp2_with fail
      go_ret
      exact HR.out


/-- What math/big.subVV_g leaves: the words ws in the row from oz on, and the carry. -/
def subVVR (w : World) (bz oz : Nat) (cz : Array Value) (T : TypeId) (xs ys : List Nat) (n : Nat) (e : Ending) (w' : World) : Prop :=
  ∃ (ws : List Nat) (c : Nat), e = .returned (.int .u64 (c : Nat)) ∧ ws.length = n ∧ (∀ x ∈ ws, x < 18446744073709551616) ∧ c ≤ 1 ∧ (val ws + val ys = val xs + 18446744073709551616 ^ n * c) ∧ Upd (· = bz) w w' ∧ w'.heap[bz]? = some (.cells (put cz oz (words .u64 ws)) T (0, 0))

def subVVL (w : World) (bz oz : Nat) (cz : Array Value) (T : TypeId) (xs ys : List Nat) (n : Nat) (cv iv : Value) (wr : World) : Prop :=
  ∃ (k : Nat) (ws : List Nat) (c : Nat), k ≤ n ∧ iv = .int .i64 k ∧ cv = .int .u64 (c : Nat) ∧ ws.length = k ∧ (∀ x ∈ ws, x < 18446744073709551616) ∧ c ≤ 1 ∧ (val ws + val (ys.take k) = val (xs.take k) + 18446744073709551616 ^ k * c) ∧ Upd (· = bz) w wr ∧ wr.heap[bz]? = some (.cells (put cz oz (words .u64 ws)) T (0, 0))

set_option maxHeartbeats 1000000 in
theorem subVV_any (bz oz kz bx ox kx yb oy ky n : Nat) (cz : Array Value) (T : TypeId) (xs ys : List Nat) (w : World) (hz : w.heap[bz]? = some (.cells cz T (0, 0))) (hfit : oz + n ≤ cz.size) (hn : n ≤ 9223372036854775806) (hkz : n ≤ kz ∧ kz ≤ 9223372036854775807) (hkx : n ≤ kx ∧ kx ≤ 9223372036854775807) (hky : n ≤ ky ∧ ky ≤ 9223372036854775807)
    (hxl : xs.length = n) (hyl : ys.length = n) (hxb : ∀ x ∈ xs, x < 18446744073709551616) (hyb : ∀ x ∈ ys, x < 18446744073709551616)
    (hx : ∀ i, i < n → w.cell? ⟨bx, ox + i, none⟩ = some (.int .u64 (xs.getD i 0 : Nat))) (hy : ∀ i, i < n → w.cell? ⟨yb, oy + i, none⟩ = some (.int .u64 (ys.getD i 0 : Nat)))
    (hax : bx = bz → ox = oz) (hay : yb = bz → oy = oz) :
    Calls Tryf.prog 64 #[.slice (some ⟨bz, oz, none⟩) n kz, .slice (some ⟨bx, ox, none⟩) n kx, .slice (some ⟨yb, oy, none⟩) n ky] w (subVVR w bz oz cz T xs ys n) := by
  have HZ := Lib.hid hz
  have HX := Lib.hid hx
  have HY := Lib.hid hy
  have HXB := Lib.hid hxb
  have HYB := Lib.hid hyb
  have HAX := Lib.hid hax
  have HAY := Lib.hid hay
  have HXL := Lib.hid hxl
  have HYL := Lib.hid hyl
  obtain ⟨hkz1, hkz2⟩ := hkz
  obtain ⟨hkx1, hkx2⟩ := hkx
  obtain ⟨hky1, hky2⟩ := hky
  clear hz hx hy hxb hyb hax hay hxl hyl
  have hsl : ∀ k, w.heap.size ≤ k → True := fun _ _ => trivial
  clear hsl
  go_enter Tryf.func64, Tryf.ntmps64
  go_wp2_with fail
  go_loopw [6, 7, 8, 9, 25] (fun cv _ _ _ iv wr => subVVL w bz oz cz T xs ys n cv iv wr) (fun _ _ _ _ iv _ => n - (intOf iv).toNat)
  case atStart => exact ⟨0, [], 0, Nat.zero_le _, rfl, rfl, rfl, by simp, by omega, by simp [val], Upd.refl _ _, by rw [show words IntKind.u64 [] = [] from rfl, put_nil]; exact HZ.out⟩
  case round =>
    obtain ⟨k, ws, c, hk, rfl, rfl, hl, hb, hc1, hv, hu, hrow⟩ := hrel
    by_cases hlt : k < n
    · obtain ⟨x, hxx⟩ : ∃ x, xs.getD k 0 = x := ⟨_, rfl⟩
      obtain ⟨y, hyy⟩ : ∃ y, ys.getD k 0 = y := ⟨_, rfl⟩
      have hcx := row_read HZ.out hfit hlt hl HAX.out hu hrow (HX.out k hlt)
      have hcy := row_read HZ.out hfit hlt hl HAY.out hu hrow (HY.out k hlt)
      rw [hxx] at hcx
      rw [hyy] at hcy
      have hxlt : x < 18446744073709551616 := by rw [← hxx]; exact getD_lt HXB.out (by omega) k
      have hylt : y < 18446744073709551616 := by rw [← hyy]; exact getD_lt HYB.out (by omega) k
      obtain ⟨s, d, hs, hd, hsd⟩ : ∃ s d : Nat, s < 18446744073709551616 ∧ d ≤ 1 ∧ s + y + c = x + 18446744073709551616 * d := sub_digit hxlt hylt hc1
      have hall : ∀ wq : World, Upd (· = bz) w wq → wq.heap[bz]? = some (.cells (put cz oz (words .u64 ws)) T (0, 0)) → (∃ z0, wq.cell? ⟨bz, oz + k, none⟩ = some z0) ∧ wq.frozen? ⟨bz, oz + k, none⟩ = false ∧
          subVVL w bz oz cz T xs ys n (.int .u64 (d : Nat)) (.int .i64 ((k + 1 : Nat) : Int)) (wq.setCell ⟨bz, oz + k, none⟩ (.int .u64 (s : Nat))) := by
        intro wq hu hrow
        refine ⟨⟨cz[oz + k]'(by omega), ?_⟩, blk_free hrow _, k + 1, ws ++ [s], d, by omega, rfl, rfl, by simp [hl], mem_snoc hb hs, hd, sub_step hl hv hxx hyy hsd, hu.same ((Upd.refl _ _).setCell (by rfl) _), ?_⟩
        · rw [blk_cell hrow, put_past _ _ _ _ (by omega) (by rw [words_len]; omega)]; exact Array.getElem?_eq_getElem (by omega)
        · have := blk_setc hrow (oz + k) (.int .u64 (s : Nat))
          rw [this, words_app, show words IntKind.u64 [s] = [.int .u64 (s : Nat)] from rfl, ← put_set _ _ _ _ (by rw [words_len]; omega), words_len, hl]
      have HALL := Lib.hid (fun nq => hall (wr.drewN nq) (hu.drewN nq) (heap_drewN hrow nq))
      have HSD := Lib.hid hsd
      clear hall hv hu hrow hxx hyy hl hb hsd
      go_wp2_with fail
      go_quiet ((go_at_call 103; exact Calls.quiet_of_same (bitsSub_any x y c s d hs hxlt hylt hc1 HSD.out _)))
      obtain ⟨⟨z0, q1⟩, q2, q3⟩ := HALL.out nq
      generalize wr.drewN nq = wq at *
      have HQ := Lib.hid q3
      clear q3 hcx hcy
      go_wp2_with fail
      go_roundw
      case rel => exact HQ.out
      case measure => simp [intOf]; omega
    · obtain rfl : k = n := by omega
      have HR : Hid (subVVR w bz oz cz T xs ys k (.returned (.int .u64 (c : Nat))) wr) := Lib.hid ⟨ws, c, rfl, hl, hb, hc1, by
        have h1 := HXL.out
        have h2 := HYL.out
        rw [List.take_of_length_le (by omega), List.take_of_length_le (by omega)] at hv; exact hv, hu, hrow⟩
      clear hv hu hrow hl hb
      go_wp2_with fail
      go_ret
      exact HR.out


end Go.Proofs.YtocadbghhoibnaaFmt

/- maxPow, pow, bits.Mul, mulAddWWW_g, mulAddVWW_g: contracts. -/
namespace Go.Proofs.YtocadbghhoibnaaFmt
open Go.RowKit

def mulRen : Go.Shelf.Ren := ⟨fun n => if n = 212 then 125 else if n = 263 then 126 else if n = 264 then 127 else n, fun n => if n = 46 then 36 else if n = 51 then 144 else if n = 53 then 22 else if n = 146 then 145 else if n = 148 then 147 else n, fun n => n⟩

theorem mulLays : Lays.n212 Tryf.prog mulRen := by
  constructor <;> first | kernel_rfl | (intro w; kernel_rfl)

theorem bitsMul_any (x y : Nat) (hx : x < 18446744073709551616) (hy : y < 18446744073709551616) (w : World) :
    Calls Tryf.prog 125 #[.int .u64 (x : Nat), .int .u64 (y : Nat)] w fun e w' => e = .returned (.tuple #[.int .u64 ((x * y / 18446744073709551616 : Nat) : Int), .int .u64 ((x * y % 18446744073709551616 : Nat) : Int)]) ∧ w = w' :=
  (Any.bits_Mul mulLays x y hx hy w).mono fun e w' ⟨h1, h2⟩ => ⟨h1, h2.symm⟩

/-- A word times a word, and a word more. -/
theorem mul_word {x y c : Nat} (hx : x < 18446744073709551616) (hy : y < 18446744073709551616) (hc : c < 18446744073709551616) : ∃ h l : Nat, h < 18446744073709551616 ∧ l < 18446744073709551616 ∧ l + 18446744073709551616 * h = x * y + c ∧ ∃ s d : Nat, l = s ∧ d ≤ 1 ∧ s + 18446744073709551616 * d = x * y % 18446744073709551616 + c + 0 ∧ h = x * y / 18446744073709551616 + d := by
  have h1 : x * y ≤ 18446744073709551615 * 18446744073709551615 := Nat.mul_le_mul (by omega) (by omega)
  refine ⟨(x * y + c) / 18446744073709551616, (x * y + c) % 18446744073709551616, by omega, Nat.mod_lt _ (by decide), by omega, (x * y + c) % 18446744073709551616, (x * y % 18446744073709551616 + c) / 18446744073709551616, rfl, by omega, by omega, by omega⟩

theorem mulAddWWW_any (x y c : Nat) (hx : x < 18446744073709551616) (hy : y < 18446744073709551616) (hc : c < 18446744073709551616) (h l : Nat) (hh : h < 18446744073709551616) (hl : l < 18446744073709551616) (he : l + 18446744073709551616 * h = x * y + c) (w : World) :
    Calls Tryf.prog 123 #[.int .u64 (x : Nat), .int .u64 (y : Nat), .int .u64 (c : Nat)] w fun e w' => e = .returned (.tuple #[.int .u64 (h : Nat), .int .u64 (l : Nat)]) ∧ w = w' := by
  obtain ⟨p, hp⟩ : ∃ p, x * y / 18446744073709551616 = p := ⟨_, rfl⟩
  obtain ⟨q, hq⟩ : ∃ q, x * y % 18446744073709551616 = q := ⟨_, rfl⟩
  obtain ⟨d, hd1, hd2, hd3⟩ : ∃ d, d ≤ 1 ∧ l + 18446744073709551616 * d = q + c + 0 ∧ h = p + d := by
    generalize x * y = xy at *
    exact ⟨(q + c) / 18446744073709551616, by omega, by omega, by omega⟩
  have hM := bitsMul_any x y hx hy
  rw [hp, hq] at hM
  have HM := Lib.hid hM
  have HD := Lib.hid hd2
  have hql : q < 18446744073709551616 := by rw [← hq]; exact Nat.mod_lt _ (by decide)
  subst hd3
  clear hM hp hq he hd2
  go_enter Tryf.func123, Tryf.ntmps123
  go_wp2_with fail
  refine (HM.out _).mono ?_
  rintro e w1 ⟨rfl, rfl⟩
  go_wp2_with fail
  refine (bitsAdd_any q c 0 l d hl (by omega) HD.out _).mono ?_
  rintro e w2 ⟨rfl, rfl⟩
  go_wp2_with fail
  go_ret2
  exact ⟨rfl, rfl⟩

/-- What mulAddVWW_g leaves: the words ws in the row from oz on, and the carry. -/
def mulVR (w : World) (bz oz : Nat) (cz : Array Value) (T : TypeId) (xs : List Nat) (y r n : Nat) (e : Ending) (w' : World) : Prop :=
  ∃ (ws : List Nat) (c : Nat), e = .returned (.int .u64 (c : Nat)) ∧ ws.length = n ∧ (∀ x ∈ ws, x < 18446744073709551616) ∧ c < 18446744073709551616 ∧ (val ws + 18446744073709551616 ^ n * c = val xs * y + r) ∧ Upd (· = bz) w w' ∧ w'.heap[bz]? = some (.cells (put cz oz (words .u64 ws)) T (0, 0))

def mulVL (w : World) (bz oz : Nat) (cz : Array Value) (T : TypeId) (xs : List Nat) (y r n : Nat) (cv iv : Value) (wr : World) : Prop :=
  ∃ (k : Nat) (ws : List Nat) (c : Nat), k ≤ n ∧ iv = .int .i64 k ∧ cv = .int .u64 (c : Nat) ∧ ws.length = k ∧ (∀ x ∈ ws, x < 18446744073709551616) ∧ c < 18446744073709551616 ∧ (val ws + 18446744073709551616 ^ k * c = val (xs.take k) * y + r) ∧ Upd (· = bz) w wr ∧ wr.heap[bz]? = some (.cells (put cz oz (words .u64 ws)) T (0, 0))

theorem mul_step {ws xs : List Nat} {i x y r c h l : Nat} (hl : ws.length = i) (hv : val ws + 18446744073709551616 ^ i * c = val (xs.take i) * y + r) (hx : xs.getD i 0 = x) (hs : l + 18446744073709551616 * h = x * y + c) :
    val (ws ++ [l]) + 18446744073709551616 ^ (i + 1) * h = val (xs.take (i + 1)) * y + r := by
  rw [val_snoc, hl, val_take_succ, hx, Nat.pow_succ, Nat.add_mul, Nat.mul_assoc (18446744073709551616 ^ i) 18446744073709551616 h, Nat.mul_assoc (18446744073709551616 ^ i) x y]
  have e : 18446744073709551616 ^ i * l + 18446744073709551616 ^ i * (18446744073709551616 * h) = 18446744073709551616 ^ i * (x * y) + 18446744073709551616 ^ i * c := by
    rw [← Nat.mul_add, hs, Nat.mul_add]
  omega

set_option maxRecDepth 10000 in
set_option maxHeartbeats 1000000 in
theorem mulAddVWW_any (bz oz kz bx ox kx n y r : Nat) (cz : Array Value) (T : TypeId) (xs : List Nat) (w : World) (hz : w.heap[bz]? = some (.cells cz T (0, 0))) (hfit : oz + n ≤ cz.size) (hn : n ≤ 9223372036854775806) (hkz : n ≤ kz ∧ kz ≤ 9223372036854775807) (hkx : n ≤ kx ∧ kx ≤ 9223372036854775807)
    (hxl : xs.length = n) (hxb : ∀ x ∈ xs, x < 18446744073709551616) (hy : y < 18446744073709551616) (hr : r < 18446744073709551616)
    (hx : ∀ i, i < n → w.cell? ⟨bx, ox + i, none⟩ = some (.int .u64 (xs.getD i 0 : Nat))) (hax : bx = bz → ox = oz) :
    Calls Tryf.prog 67 #[.slice (some ⟨bz, oz, none⟩) n kz, .slice (some ⟨bx, ox, none⟩) n kx, .int .u64 (y : Nat), .int .u64 (r : Nat)] w (mulVR w bz oz cz T xs y r n) := by
  have HZ := Lib.hid hz
  have HX := Lib.hid hx
  have HXB := Lib.hid hxb
  have HAX := Lib.hid hax
  have HXL := Lib.hid hxl
  obtain ⟨hkz1, hkz2⟩ := hkz
  obtain ⟨hkx1, hkx2⟩ := hkx
  clear hz hx hxb hax hxl
  have hne : ((n : Int) != (n : Int)) = false := by simp
  go_enter Tryf.func67, Tryf.ntmps67
  go_wp2_with fail
  go_loopw [8, 9, 19] (fun cv _ iv wr => mulVL w bz oz cz T xs y r n cv iv wr) (fun _ _ iv _ => n - (intOf iv).toNat)
  case atStart => exact ⟨0, [], r, Nat.zero_le _, rfl, rfl, rfl, by simp, hr, by simp [val], Upd.refl _ _, by rw [show words IntKind.u64 [] = [] from rfl, put_nil]; exact HZ.out⟩
  case round =>
    obtain ⟨k, ws, c, hk, rfl, rfl, hl, hb, hc1, hv, hu, hrow⟩ := hrel
    by_cases hlt : k < n
    · obtain ⟨x, hxx⟩ : ∃ x, xs.getD k 0 = x := ⟨_, rfl⟩
      have hcx := row_read HZ.out hfit hlt hl HAX.out hu hrow (HX.out k hlt)
      rw [hxx] at hcx
      have hxlt : x < 18446744073709551616 := by rw [← hxx]; exact getD_lt HXB.out (by omega) k
      obtain ⟨h, l, hh, hll, hsd, _⟩ := mul_word hxlt hy hc1
      have hstep : mulVL w bz oz cz T xs y r n (.int .u64 (h : Nat)) (.int .i64 ((k + 1 : Nat) : Int)) (wr.setCell ⟨bz, oz + k, none⟩ (.int .u64 (l : Nat))) := by
        refine ⟨k + 1, ws ++ [l], h, by omega, rfl, rfl, by simp [hl], mem_snoc hb hll, hh, mul_step hl hv hxx hsd, hu.same ((Upd.refl _ _).setCell (by rfl) _), ?_⟩
        have := blk_setc hrow (oz + k) (.int .u64 (l : Nat))
        rw [this, words_app, show words IntKind.u64 [l] = [.int .u64 (l : Nat)] from rfl, ← put_set _ _ _ _ (by rw [words_len]; omega), words_len, hl]
      have hcz : wr.cell? ⟨bz, oz + k, none⟩ = some (cz[oz + k]'(by omega)) := by rw [blk_cell hrow, put_past _ _ _ _ (by omega) (by rw [words_len]; omega)]; exact Array.getElem?_eq_getElem (by omega)
      have hfz := blk_free hrow (oz + k)
      generalize cz[oz + k]'(by omega) = z0 at hcz
      have HST := Lib.hid hstep
      have HSD := Lib.hid hsd
      clear hstep hv hu hrow hxx hl hb hsd
      go_wp2_with fail
      refine (mulAddWWW_any x y c hxlt hy hc1 h l hh hll HSD.out _).mono ?_
      rintro e w1 ⟨rfl, rfl⟩
      go_wp2_with fail
      go_roundw
      case rel => exact HST.out
      case measure => simp [intOf]; omega
    · obtain rfl : k = n := by omega
      have HR : Hid (mulVR w bz oz cz T xs y r k (.returned (.int .u64 (c : Nat))) wr) := Lib.hid ⟨ws, c, rfl, hl, hb, hc1, by
        have h1 := HXL.out
        rw [List.take_of_length_le (by omega)] at hv; exact hv, hu, hrow⟩
      clear hv hu hrow hl hb
      go_wp2_with fail
      go_ret
      exact HR.out

/-- The greatest power of b in a word. -/
def MaxR (b : Nat) (w : World) (e : Ending) (w' : World) : Prop := ∃ n : Nat, 1 ≤ n ∧ n ≤ 64 ∧ b ^ n < 18446744073709551616 ∧ e = .returned (.tuple #[.int .u64 ((b ^ n : Nat) : Int), .int .i64 (n : Nat)]) ∧ w = w'

theorem pow_small {b n : Nat} (hb : 2 ≤ b) (h : b ^ n < 18446744073709551616) : n ≤ 63 := by
  have h1 : 2 ^ n ≤ b ^ n := Nat.pow_le_pow_left hb n
  have h2 : 2 ^ n < 2 ^ 64 := by
    have : (2 : Nat) ^ 64 = 18446744073709551616 := by decide
    omega
  have := (Nat.pow_lt_pow_iff_right (by decide : 1 < 2)).1 h2
  omega

theorem maxPow_any (b : Nat) (w : World) (hb : 2 ≤ b) (hb2 : b ≤ 62) :
    Calls Tryf.prog 115 #[.int .u64 (b : Nat)] w (MaxR b w) := by
  obtain ⟨m, hm⟩ : ∃ m, 18446744073709551615 / b = m := ⟨_, rfl⟩
  have hmi : (18446744073709551615 : Int) / (b : Int) = (m : Int) := by rw [← hm]; exact (Int.natCast_ediv 18446744073709551615 b).symm
  have hmt : Int.tdiv (18446744073709551615 : Int) (b : Int) = (m : Int) := by rw [Int.tdiv_eq_ediv_of_nonneg (by omega)]; exact hmi
  have hml : m ≤ 18446744073709551615 := by rw [← hm]; exact Nat.div_le_self _ _
  have hwm : IntKind.u64.wrap (m : Int) = (m : Int) := by rw [IntKind.wrap_u64]; omega
  have hb0 : ¬ ((b : Int) = 0) := by omega
  have hb1 : ((b : Int) == 0) = false := by simp; omega
  have HM := Lib.hid hm
  clear hm
  go_enter Tryf.func115, Tryf.ntmps115
  go_wp2_with fail
  go_loop [2, 3] (fun v2 v3 => ∃ n q : Nat, 1 ≤ n ∧ n ≤ 63 ∧ Hid (q = b ^ n) ∧ 1 ≤ q ∧ q < 18446744073709551616 ∧ v2 = .int .u64 (q : Nat) ∧ v3 = .int .i64 (n : Nat)) (fun v2 _ => 18446744073709551616 - (intOf v2).toNat)
  case atStart => exact ⟨1, b, by omega, by omega, Lib.hid (by simp), by omega, by omega, rfl, rfl⟩
  case round =>
    obtain ⟨n, q, hn1, hn2, hq, hq1, hq2, rfl, rfl⟩ := hrel
    by_cases hle : q ≤ m
    · have hqb : q * b ≤ 18446744073709551615 := by
        have h1 := HM.out
        have h2 : q * b ≤ m * b := Nat.mul_le_mul_right _ hle
        have h3 : m * b ≤ 18446744073709551615 := by rw [← h1]; exact Nat.div_mul_le_self _ _
        omega
      have hqc : ((q * b : Nat) : Int) = (q : Int) * (b : Int) := Int.natCast_mul q b
      have hw : IntKind.u64.wrap ((q : Int) * (b : Int)) = ((q * b : Nat) : Int) := by rw [IntKind.wrap_u64, ← hqc]; omega
      have hgt : q < q * b := by
        have := Nat.mul_le_mul_left q hb
        omega
      have hpw : q * b = b ^ (n + 1) := by rw [hq.out, Nat.pow_succ]
      have hn3 : n + 1 ≤ 63 := pow_small hb (by rw [← hpw]; omega)
      generalize hqq : q * b = qb at *
      have hqi : (q : Int) * (b : Int) = (qb : Int) := hqc.symm
      have HPW := Lib.hid hpw
      clear hqq hpw hqc
      go_wp2_with fail
      go_round
      case rel => exact ⟨n + 1, qb, by omega, hn3, HPW, by omega, by omega, by go_num, by go_num⟩
      case measure => simp [intOf]; omega
    · go_wp2_with fail
      go_ret2
      exact ⟨n, hn1, by omega, by rw [← hq.out]; exact hq2, by rw [← hq.out]; rfl, rfl⟩

end Go.Proofs.YtocadbghhoibnaaFmt

/- setWord, setUint64, (*Int).SetUint64, impl.SetUint64: contracts. -/
namespace Go.Proofs.YtocadbghhoibnaaFmt
open Go.RowKit

/-- What a function of a nat z leaves: the words, in z's row or in a new one; nothing else has turned. -/
def NatR (v0 : Value) (ws : List Nat) (w : World) (e : Ending) (w' : World) : Prop :=
  ∃ v', e = .returned v' ∧ Own .u64 w' 0 93 v' ws ∧ Upd (fun k => v0.ownBlock = some k) w w' ∧ (v'.ownBlock = v0.ownBlock ∨ ∀ k, v'.ownBlock = some k → w.heap.size ≤ k)

theorem MakeR.upd {v0 v' : Value} {w w' : World} (h : (w' = w ∧ v'.ownBlock = v0.ownBlock) ∨ (v'.ownBlock = some w.heap.size ∧ Ext w w')) : Upd (fun k => v0.ownBlock = some k) w w' ∧ (∀ k, v'.ownBlock = some k → v0.ownBlock = some k ∨ w.heap.size ≤ k) ∧ (v'.ownBlock = v0.ownBlock ∨ ∀ k, v'.ownBlock = some k → w.heap.size ≤ k) := by
  rcases h with ⟨rfl, h⟩ | ⟨h, he⟩
  · exact ⟨Upd.refl _ _, fun k hk => .inl (h ▸ hk), .inl h⟩
  · have : ∀ k, v'.ownBlock = some k → w.heap.size ≤ k := fun k hk => by rw [h] at hk; simp at hk; omega
    exact ⟨he.upd, fun k hk => .inr (this k hk), .inr this⟩

/-- A store into a row that is owned, at its element i. -/
theorem ownsRow_set {w : World} {E : TypeId} {g n cap : Nat} {xs : List Value} (h : w.ownsRow 0 E 1 (.slice (some ⟨g, 0, none⟩) n cap) n xs) (i : Nat) (hi : i < n) (v : Value) :
    (w.setCell ⟨g, i, none⟩ v).ownsRow 0 E 1 (.slice (some ⟨g, 0, none⟩) n cap) n (xs.set i v) := by
  obtain ⟨hl, h2⟩ := h
  rcases h2 with ⟨h3, _⟩ | ⟨g', cap', cur, h3, hb, hg, hle, hcap, hsz, htake⟩
  · simp at h3
  · simp at h3
    obtain ⟨rfl, rfl⟩ := h3
    refine ⟨by simpa using hl, .inr ⟨g, cap, cur.setIfInBounds i v, rfl, hb, ?_, hle, hcap, by simpa using hsz, ?_⟩⟩
    · simp only [World.setCell, Array.getElem?_modify]
      simp [hg]
    · rw [Array.toList_setIfInBounds, List.take_set, htake]

theorem ownsRow_cell {w : World} {E : TypeId} {g n cap : Nat} {xs : List Value} (h : w.ownsRow 0 E 1 (.slice (some ⟨g, 0, none⟩) n cap) n xs) (i : Nat) (hi : i < n) :
    w.cell? ⟨g, i, none⟩ = xs[i]? ∧ w.frozen? ⟨g, i, none⟩ = false ∧ g < w.heap.size := by
  obtain ⟨hl, h2⟩ := h
  rcases h2 with ⟨h3, _⟩ | ⟨g', cap', cur, h3, hb, hg, hle, hcap, hsz, htake⟩
  · simp at h3
  · simp at h3
    obtain ⟨rfl, rfl⟩ := h3
    refine ⟨?_, blk_free hg i, (Array.getElem?_eq_some_iff.1 hg).1⟩
    rw [blk_cell hg i, ← htake, List.getElem?_take, if_pos (by omega)]
    simp

/-- The form of a row that has elements. -/
theorem ownsRow_form {w : World} {base : Nat} {E : TypeId} {v : Value} {n : Nat} {xs : List Value} (h : w.ownsRow base E 1 v n xs) (hn : 0 < n) : ∃ g cap, v = .slice (some ⟨g, 0, none⟩) n cap ∧ n ≤ cap ∧ cap ≤ 9223372036854775807 := by
  rcases h.2 with ⟨_, h3⟩ | ⟨g, cap, cur, h3, hb, hg, hle, hcap, _⟩
  · omega
  · exact ⟨g, cap, h3, hle, by simpa [maxLen] using hcap⟩

theorem Own.cut {w : World} {a : Option Addr} {l c : Nat} {ws : List Nat} (h : Own .u64 w 0 93 (.slice a l c) ws) : Own .u64 w 0 93 (.slice a 0 c) [] := by
  refine ⟨by simp, by simp [words], ?_⟩
  rcases h.2.2 with ⟨h3, _⟩ | ⟨g, cap, cur, h3, hb, hg, hle, hcap, hsz, _⟩
  · simp at h3; obtain ⟨rfl, rfl, rfl⟩ := h3; exact .inl ⟨rfl, rfl⟩
  · simp at h3; obtain ⟨rfl, rfl, rfl⟩ := h3; exact .inr ⟨g, c, cur, rfl, hb, hg, Nat.zero_le _, hcap, hsz, by simp [words]⟩

theorem setWord_any (v0 : Value) (vs : List Nat) (x : Nat) (w : World) (h : Own .u64 w 0 93 v0 vs) (hx : x < 18446744073709551616) :
    Calls Tryf.prog 95 #[v0, .int .u64 x] w (NatR v0 (norm [x]) w) := by
  by_cases h0 : x = 0
  · subst h0
    rw [show norm [0] = [] from rfl]
    have hcap := h.read
    obtain ⟨_, a', cap', q1, q2, q3, q4, _⟩ := hcap
    subst q1
    go_enter Tryf.func95, Tryf.ntmps95
    go_wp2_with fail
    go_ret
    exact ⟨_, rfl, h.cut, Upd.refl _ _, .inl (by cases a' <;> rfl)⟩
  · have hn : norm [x] = [x] := norm_snoc_pos [] x h0
    rw [hn]
    have hb0 : ((x : Int) == 0) = false := by simp [h0]
    have HO := Lib.hid h.2
    have HX := Lib.hid hx
    obtain ⟨a, c, rfl⟩ := h.form
    clear h hx hn
    go_enter Tryf.func95, Tryf.ntmps95
    go_wp2_with fail
    refine (make_any _ _ 1 _ _ HO.out (by omega)).mono ?_
    rintro e w1 ⟨v', xs, rfl, hown, hor⟩
    obtain ⟨g, cap, rfl, hle, hcap⟩ := ownsRow_form hown (by omega)
    obtain ⟨k1, k2, k3⟩ := ownsRow_cell hown 0 (by omega)
    have hlen := hown.1
    obtain ⟨y, rfl⟩ : ∃ y, xs = [y] := by
      match xs, hlen with
      | [y], _ => exact ⟨y, rfl⟩
    simp at k1
    have HOW := Lib.hid hown
    have HOR := Lib.hid (MakeR.upd hor)
    clear hown hor hlen
    go_wp2_with fail
    go_ret
    obtain ⟨u1, u2, u3⟩ := HOR.out
    have hs := ownsRow_set HOW.out 0 (by omega) (.int .u64 x)
    refine ⟨_, rfl, ⟨by simpa [lim] using HX.out, hs⟩, ?_, u3⟩
    refine (u1.trans ((Upd.refl (· = g) _).setCell (by rfl) (.int .u64 x))).mono ?_
    intro k hk hor
    rcases hor with q | q
    · exact q
    · subst q
      exact (u2 k rfl).resolve_right (by omega)

end Go.Proofs.YtocadbghhoibnaaFmt

/- What nat.add, nat.sub, nat.lsh share: contracts by values. -/
namespace Go.Proofs.YtocadbghhoibnaaFmt
open Go.RowKit

theorem own_open {w : World} {E : TypeId} {v : Value} {ws : List Nat} (h : Own .u64 w 0 E v ws) (hpos : 0 < ws.length) :
    ∃ g cap cur, v = .slice (some ⟨g, 0, none⟩) ws.length cap ∧ ws.length ≤ cap ∧ cap ≤ 9223372036854775807 ∧ w.heap[g]? = some (.cells cur E (0, 0)) ∧ cur.size = cap ∧ ∀ i, i < ws.length → w.cell? ⟨g, 0 + i, none⟩ = some (.int .u64 (ws.getD i 0 : Nat)) := by
  have hr := h.read
  rcases h.2.2 with ⟨_, h0⟩ | ⟨g, cap, cur, rfl, hb, hg, hle, hcap, hsz, _⟩
  · omega
  · refine ⟨g, cap, cur, rfl, hle, by simpa [maxLen] using hcap, hg, by omega, fun i hi => ?_⟩
    obtain ⟨_, a, c, q1, _, _, _, q2⟩ := hr
    obtain ⟨b', off', q3, q4⟩ := q2 i hi
    simp at q1
    obtain ⟨rfl, rfl⟩ := q1
    simp at q3
    obtain ⟨rfl, rfl⟩ := q3
    exact q4

theorem row_open {w : World} {E : TypeId} {v : Value} {n : Nat} {xs : List Value} (h : w.ownsRow 0 E 1 v n xs) (hpos : 0 < n) :
    ∃ g cap cur, v = .slice (some ⟨g, 0, none⟩) n cap ∧ n ≤ cap ∧ cap ≤ 9223372036854775807 ∧ w.heap[g]? = some (.cells cur E (0, 0)) ∧ cur.size = cap := by
  rcases h.2 with ⟨_, h0⟩ | ⟨g, cap, cur, rfl, hb, hg, hle, hcap, hsz, _⟩
  · omega
  · exact ⟨g, cap, cur, rfl, hle, by simpa [maxLen] using hcap, hg, by omega⟩

theorem own_put {w : World} {E : TypeId} {g cap : Nat} {cur : Array Value} {ws : List Nat} (hg : w.heap[g]? = some (.cells (put cur 0 (words .u64 ws)) E (0, 0))) (hs : cur.size = cap) (hl : ws.length ≤ cap) (hcap : cap ≤ 9223372036854775807) (hb : ∀ x ∈ ws, x < 18446744073709551616) :
    Own .u64 w 0 E (.slice (some ⟨g, 0, none⟩) ws.length cap) ws := by
  refine ⟨hb, by rw [words_len]; omega, .inr ⟨g, cap, _, rfl, Nat.zero_le _, hg, hl, by simpa [maxLen] using hcap, ?_, ?_⟩⟩
  · rw [put_size _ _ _ (by rw [words_len]; omega)]; omega
  · have e : (words .u64 ws).length = ws.length := words_len _ _
    simp only [put, List.take_zero, List.nil_append, Nat.mul_one]
    rw [← e]; exact List.take_left

/-- What a function of a nat z leaves, by the value. -/
def NatVR (v0 : Value) (t L : Nat) (w : World) (e : Ending) (w' : World) : Prop := ∃ ws, norm ws = ws ∧ val ws = t ∧ ws.length ≤ L ∧ NatR v0 ws w e w'

/-- What make and writes to its row leave. -/
theorem nat_done {v0 : Value} {w w1 w2 : World} {g n cap : Nat} (h : Upd (fun k => v0.ownBlock = some k) w w1 ∧ (∀ k, (Value.slice (some ⟨g, 0, none⟩) n cap).ownBlock = some k → v0.ownBlock = some k ∨ w.heap.size ≤ k) ∧ ((Value.slice (some ⟨g, 0, none⟩) n cap).ownBlock = v0.ownBlock ∨ ∀ k, (Value.slice (some ⟨g, 0, none⟩) n cap).ownBlock = some k → w.heap.size ≤ k)) (hu : Upd (· = g) w1 w2) :
    Upd (fun k => v0.ownBlock = some k) w w2 ∧ ∀ v' : Value, v'.ownBlock = (Value.slice (some ⟨g, 0, none⟩) n cap).ownBlock → (v'.ownBlock = v0.ownBlock ∨ ∀ k, v'.ownBlock = some k → w.heap.size ≤ k) := by
  obtain ⟨u1, u2, u3⟩ := h
  refine ⟨(u1.trans hu).mono ?_, fun v' hv' => by rw [hv']; exact u3⟩
  intro k hk hor
  rcases hor with q | q
  · exact q
  · subst q; exact (u2 k rfl).resolve_right (by omega)

theorem Own.cap {w : World} {E : TypeId} {a : Option Addr} {l c : Nat} {ws : List Nat} (h : Own .u64 w 0 E (.slice a l c) ws) : l = ws.length ∧ l ≤ c ∧ c ≤ 9223372036854775807 := by
  obtain ⟨_, a', c', q1, q2, q3, _⟩ := h.read
  simp at q1
  obtain ⟨rfl, rfl, rfl⟩ := q1
  exact ⟨rfl, q2, q3⟩

/-- Words of value t, in z's row or a new one. -/
def NatD (v0 : Value) (t L : Nat) (w0 : World) (v : Value) (w : World) : Prop := ∃ ws, norm ws = ws ∧ val ws = t ∧ ws.length ≤ L ∧ Own .u64 w 0 93 v ws ∧ Upd (fun k => v0.ownBlock = some k) w0 w

theorem NatD.ext {v0 : Value} {t L : Nat} {w0 : World} {v : Value} {w w' : World} (h : NatD v0 t L w0 v w) (he : Ext w w') : NatD v0 t L w0 v w' := by
  obtain ⟨ws, h1, h2, h3, h4, h5⟩ := h
  exact ⟨ws, h1, h2, h3, h4.ext he, h5.same he.upd⟩

theorem Upd.same' {S : Nat → Prop} {a b c : World} (h : Upd S a b) (k : Upd S b c) : Upd S a c := h.same k

theorem nil_of_len {xs : List Nat} (h : xs.length = 0) : val xs = 0 := by rw [List.eq_nil_of_length_eq_zero h]; rfl

end Go.Proofs.YtocadbghhoibnaaFmt

/- nat.mulAddWW (z.mulAddWW(z, y, r)), pow: contracts. -/
namespace Go.Proofs.YtocadbghhoibnaaFmt
open Go.RowKit

theorem mulAddVWW_call (args : Array Value) (w : World) : (callFunc 122 args).run Tryf.prog w = .ok (.enter 67 args) w :=
  run_callFunc_twin (P := Tryf.prog) (fn := Tryf.f122) (tw := Tryf.f67) (twin := "math/big.mulAddVWW_g") (by kernel_rfl) (by kernel_rfl) (by kernel_rfl) (by kernel_rfl) (by kernel_rfl) (by kernel_rfl) (by kernel_rfl) (by kernel_rfl) (by kernel_rfl) args w

theorem mulAddWW_nil (v0 : Value) (y r : Nat) (w : World) (hv : Own .u64 w 0 93 v0 []) (hr : r < 18446744073709551616) :
    Calls Tryf.prog 116 #[v0, v0, .int .u64 (y : Nat), .int .u64 (r : Nat)] w (NatVR v0 r 1 w) := by
  obtain ⟨a, c0, rfl⟩ := hv.form
  have HV := Lib.hid hv
  clear hv
  simp only [List.length_nil] at *
  go_enter Tryf.func116, Tryf.ntmps116
  go_wp2_with fail
  refine (setWord_any _ [] r _ HV.out hr).mono ?_
  intro e w1 hR
  obtain ⟨v', rfl, q⟩ := hR
  have HQ := Lib.hid q
  clear q
  go_wp2_with fail
  go_ret
  exact ⟨norm [r], norm_norm _, by rw [val_norm]; simp [val], by have := norm_length_le [r]; simpa using this, _, rfl, HQ.out⟩

set_option maxRecDepth 100000 in
set_option maxHeartbeats 2000000 in
theorem mulAddWW_main (v0 : Value) (xs : List Nat) (y r : Nat) (w : World) (hv : Own .u64 w 0 93 v0 xs) (hl : xs.length ≤ 17592186044416) (hpos : 0 < xs.length) (hy : y < 18446744073709551616) (hy0 : 0 < y) (hr : r < 18446744073709551616) :
    Calls Tryf.prog 116 #[v0, v0, .int .u64 (y : Nat), .int .u64 (r : Nat)] w (NatVR v0 (val xs * y + r) (xs.length + 1) w) := by
  obtain ⟨gx, cx, curx, hf, hcx1, hcx2, hgx, hsx, hxc⟩ := own_open hv hpos
  have hxb : ∀ q ∈ xs, q < 18446744073709551616 := hv.1
  generalize hm : xs.length = m at *
  subst hf
  have HM := Lib.hid hm
  have HV := Lib.hid hv
  have HXB := Lib.hid hxb
  have HXC0 := Lib.hid hxc
  have HGX := Lib.hid hgx
  clear hv hxb hxc hgx hm
  have hbm : ((m : Int) == 0) = false := by simp; omega
  have hby : ((y : Int) == 0) = false := by simp; omega
  have hcall := fun args w => mulAddVWW_call args w
  go_enter Tryf.func116, Tryf.ntmps116
  go_wp2_with fail
  refine (make_any _ _ (m + 1) _ _ HV.out.2 (by omega)).mono ?_
  rintro e w1 ⟨z, zs, rfl, hown, hor⟩
  obtain ⟨g, cap, cur, rfl, hcap1, hcap2, hg, hsz⟩ := row_open hown (by omega)
  have hext : Ext w w1 := by rcases hor with ⟨rfl, _⟩ | ⟨_, h⟩; exact Ext.refl _; exact h
  have hxc1 : ∀ i, i < m → w1.cell? ⟨gx, 0 + i, none⟩ = some (.int .u64 (xs.getD i 0 : Nat)) := fun i hi => hext.cell (HXC0.out i hi)
  have HXC := Lib.hid hxc1
  have HMK := Lib.hid (MakeR.upd hor)
  have HG := Lib.hid hg
  clear hown hor hext hxc1 hg HXC0
  go_wp2_with fail
  refine (mulAddVWW_any g 0 cap gx 0 cx m y r cur 93 xs _ HG.out (by omega) (by omega) ⟨by omega, by omega⟩ ⟨by omega, by omega⟩ HM.out HXB.out hy hr HXC.out (fun _ => rfl)).mono ?_
  rintro e wz ⟨ws, c, rfl, hwl, hb, hc, hvz, huz, hrow⟩
  have hb2 : ∀ q ∈ ws ++ [c], q < 18446744073709551616 := mem_snoc hb hc
  have hrow2 : (wz.setCell ⟨g, m, none⟩ (.int .u64 (c : Nat))).heap[g]? = some (.cells (put cur 0 (words .u64 (ws ++ [c]))) 93 (0, 0)) := by
    have e : 0 + (words .u64 ws).length = m := by rw [words_len, hwl]; omega
    rw [blk_setc hrow, words_app, show words IntKind.u64 [c] = [.int .u64 (c : Nat)] from rfl, ← put_set _ _ _ _ (by omega), e]
  have hcell : wz.cell? ⟨g, m, none⟩ = some (cur[m]'(by omega)) := by
    rw [blk_cell hrow, put_past _ _ _ _ (by omega) (by rw [words_len, hwl]; omega)]; exact Array.getElem?_eq_getElem (by omega)
  generalize cur[m]'(by omega) = zm at hcell
  have hfr := blk_free hrow m
  have hown := own_put hrow2 (cap := cap) (by omega) (by simp [hwl]; omega) (by omega) hb2
  rw [show (ws ++ [c]).length = m + 1 by simp [hwl]] at hown
  have HFIN := Lib.hid (nat_done (w := w) HMK.out (huz.same ((Upd.refl (· = g) wz).setCell (p := ⟨g, m, none⟩) (by rfl) (.int .u64 (c : Nat)))))
  have HOWN := Lib.hid hown
  have HVAL : Hid (val (norm (ws ++ [c])) = val xs * y + r ∧ (norm (ws ++ [c])).length ≤ m + 1) := Lib.hid ⟨by rw [val_norm, val_snoc, hwl]; exact hvz, by have := norm_length_le (ws ++ [c]); simp [hwl] at this; exact this⟩
  clear hown hrow2 hb2 hrow huz hvz hb hwl hcall
  go_wp2_with fail
  refine (norm_own 0 93 _ (ws ++ [c]) _ HOWN.out).mono ?_
  rintro e wn ⟨⟨v', rfl, ho, hob⟩, rfl⟩
  obtain ⟨a', c', rfl⟩ := ho.form
  have HO := Lib.hid ho
  have HOB := Lib.hid hob
  clear ho hob hcell hfr
  go_wp2_with fail
  go_ret
  exact ⟨norm (ws ++ [c]), norm_norm _, HVAL.out.1, HVAL.out.2, _, rfl, HO.out, HFIN.out.1, HFIN.out.2 _ HOB.out⟩

theorem mulAddWW_any (v0 : Value) (xs : List Nat) (y r : Nat) (w : World) (hv : Own .u64 w 0 93 v0 xs) (hl : xs.length ≤ 17592186044416) (hy : y < 18446744073709551616) (hy0 : 0 < y) (hr : r < 18446744073709551616) :
    Calls Tryf.prog 116 #[v0, v0, .int .u64 (y : Nat), .int .u64 (r : Nat)] w (NatVR v0 (val xs * y + r) (xs.length + 1) w) := by
  rcases Nat.eq_zero_or_pos xs.length with h0 | h0
  · have : xs = [] := List.eq_nil_of_length_eq_zero h0
    subst this
    have := mulAddWW_nil v0 y r w hv hr
    simpa [val] using this
  · exact mulAddWW_main v0 xs y r w hv hl h0 hy hy0 hr

/-- pow, as the machine reckons. -/
theorem pow_any (X N : Nat) (w : World) (hX : X < 18446744073709551616) (hN : N ≤ 64) :
    Calls Tryf.prog 117 #[.int .u64 (X : Nat), .int .i64 (N : Nat)] w fun e w' => e = .returned (.int .u64 ((X ^ N % 18446744073709551616 : Nat) : Int)) ∧ w = w' := by
  go_enter Tryf.func117, Tryf.ntmps117
  go_wp2_with fail
  go_loop [0, 1, 4] (fun v0 v1 v4 => ∃ x n p : Nat, x < 18446744073709551616 ∧ n ≤ 64 ∧ p < 18446744073709551616 ∧ Hid (p * x ^ n % 18446744073709551616 = X ^ N % 18446744073709551616) ∧ v0 = .int .u64 (x : Nat) ∧ v1 = .int .i64 (n : Nat) ∧ v4 = .int .u64 (p : Nat)) (fun _ v1 _ => (intOf v1).toNat)
  case atStart => exact ⟨X, N, 1, hX, hN, by omega, Lib.hid (by rw [Nat.one_mul]), rfl, rfl, rfl⟩
  case round =>
    obtain ⟨x, n, p, hx, hn, hp, hv, rfl, rfl, rfl⟩ := hrel
    by_cases hpos : 0 < n
    · have hxx : IntKind.u64.wrap ((x : Int) * (x : Int)) = ((x * x % 18446744073709551616 : Nat) : Int) := by
        rw [IntKind.wrap_u64, ← Int.natCast_mul]; omega
      have hpx : IntKind.u64.wrap ((p : Int) * (x : Int)) = ((p * x % 18446744073709551616 : Nat) : Int) := by
        rw [IntKind.wrap_u64, ← Int.natCast_mul]; omega
      have hxl : x * x % 18446744073709551616 < 18446744073709551616 := Nat.mod_lt _ (by decide)
      have hpl : p * x % 18446744073709551616 < 18446744073709551616 := Nat.mod_lt _ (by decide)
      have hand : bits BinOp.and IntKind.i64 (n : Int) 1 = ((n % 2 : Nat) : Int) := by
        have : ∀ k : Fin 65, bits BinOp.and IntKind.i64 ((k.val : Nat) : Int) 1 = ((k.val % 2 : Nat) : Int) := by decide +kernel
        exact this ⟨n, by omega⟩
      have heven : n % 2 = 0 → p * (x * x % 18446744073709551616) ^ (n / 2) % 18446744073709551616 = X ^ N % 18446744073709551616 := by
        intro h2
        rw [← hv.out, Nat.mul_mod, Nat.pow_mod, Nat.mod_mod, ← Nat.pow_mod, ← Nat.mul_mod, ← Nat.pow_two, ← Nat.pow_mul, show 2 * (n / 2) = n by omega]
      have hodd : n % 2 = 1 → (p * x % 18446744073709551616) * (x * x % 18446744073709551616) ^ (n / 2) % 18446744073709551616 = X ^ N % 18446744073709551616 := by
        intro h2
        rw [← hv.out, Nat.mul_mod, Nat.pow_mod, Nat.mod_mod, Nat.mod_mod, ← Nat.pow_mod, ← Nat.mul_mod, ← Nat.pow_two, ← Nat.pow_mul, Nat.mul_assoc]
        congr 2
        rw [← Nat.pow_succ', show Nat.succ (2 * (n / 2)) = n by omega]
      have HEV := Lib.hid heven
      have HOD := Lib.hid hodd
      generalize x * x % 18446744073709551616 = xx at *
      generalize p * x % 18446744073709551616 = px at *
      clear heven hodd
      rcases Nat.mod_two_eq_zero_or_one n with h2 | h2
      · rw [h2] at hand
        have H2 := Lib.hid h2
        clear h2
        go_wp2_with fail
        go_round
        case rel => exact ⟨xx, n / 2, p, hxl, by omega, hp, Lib.hid (HEV.out H2.out), rfl, by go_num, rfl⟩
        case measure => simp [intOf]; omega
      · rw [h2] at hand
        have H2 := Lib.hid h2
        clear h2
        go_wp2_with fail
        go_round
        case rel => exact ⟨xx, n / 2, px, hxl, by omega, hpl, Lib.hid (HOD.out H2.out), rfl, by go_num, rfl⟩
        case measure => simp [intOf]; omega
    · obtain rfl : n = 0 := by omega
      have he : p = X ^ N % 18446744073709551616 := by rw [← hv.out, Nat.pow_zero, Nat.mul_one, Nat.mod_eq_of_lt hp]
      have HE := Lib.hid he
      clear he
      go_wp2_with fail
      go_ret
      exact ⟨congrArg (fun q : Nat => Ending.returned (.int .u64 (q : Int))) HE.out, rfl⟩

end Go.Proofs.YtocadbghhoibnaaFmt

/- Words shifted to the left: plain laws. -/
namespace Go.Proofs.YtocadbghhoibnaaFmt
open Go.RowKit

/-- The words xs times 2^s, plus c. -/
def shlL (s : Nat) : Nat → List Nat → List Nat
  | _, [] => []
  | c, x :: xs => ((x % 2 ^ (64 - s)) * 2 ^ s + c) :: shlL s (x / 2 ^ (64 - s)) xs

def shlC (s : Nat) : Nat → List Nat → Nat
  | c, [] => c
  | _, x :: xs => shlC s (x / 2 ^ (64 - s)) xs

theorem pow_split {s : Nat} (hs : s ≤ 64) : 2 ^ (64 - s) * 2 ^ s = 18446744073709551616 := by
  rw [← Nat.pow_add, show 64 - s + s = 64 by omega]

theorem shl_len (s c : Nat) (xs : List Nat) : (shlL s c xs).length = xs.length := by
  induction xs generalizing c with
  | nil => rfl
  | cons x xs ih => simp [shlL, ih]

theorem shl_val (s c : Nat) (hs : s ≤ 64) (xs : List Nat) : val (shlL s c xs) + 18446744073709551616 ^ xs.length * shlC s c xs = val xs * 2 ^ s + c := by
  induction xs generalizing c with
  | nil => simp [shlL, shlC, val]
  | cons x xs ih =>
    have h := ih (x / 2 ^ (64 - s))
    simp only [shlL, shlC, val, List.length_cons, Nat.pow_succ]
    have e := pow_split hs
    have e2 : x = 2 ^ (64 - s) * (x / 2 ^ (64 - s)) + x % 2 ^ (64 - s) := (Nat.div_add_mod _ _).symm
    generalize hq : x / 2 ^ (64 - s) = q at *
    generalize hr : x % 2 ^ (64 - s) = r at *
    have e3 : x * 2 ^ s = 18446744073709551616 * q + r * 2 ^ s := by
      rw [e2, Nat.add_mul, Nat.mul_right_comm, e]
    have e4 : (x + 18446744073709551616 * val xs) * 2 ^ s = x * 2 ^ s + 18446744073709551616 * (val xs * 2 ^ s) := by
      rw [Nat.add_mul, Nat.mul_assoc]
    have e5 : 18446744073709551616 ^ xs.length * 18446744073709551616 * shlC s q xs = 18446744073709551616 * (18446744073709551616 ^ xs.length * shlC s q xs) := by
      rw [Nat.mul_comm (18446744073709551616 ^ xs.length) 18446744073709551616, Nat.mul_assoc]
    rw [e4, e5]
    omega

theorem shl_lt (s c : Nat) (hs : s ≤ 64) (xs : List Nat) (hc : c < 2 ^ s) (hb : ∀ x ∈ xs, x < 18446744073709551616) : ∀ x ∈ shlL s c xs, x < 18446744073709551616 := by
  induction xs generalizing c with
  | nil => simp [shlL]
  | cons x xs ih =>
    have e := pow_split hs
    have hp : 0 < 2 ^ (64 - s) := Nat.pow_pos (by decide)
    have h1 : x % 2 ^ (64 - s) < 2 ^ (64 - s) := Nat.mod_lt _ hp
    have h2 : x / 2 ^ (64 - s) < 2 ^ s := by
      rw [Nat.div_lt_iff_lt_mul hp, Nat.mul_comm, e]; exact hb x (by simp)
    intro y hy
    simp only [shlL, List.mem_cons] at hy
    rcases hy with rfl | hy
    · have h3 : (x % 2 ^ (64 - s) + 1) * 2 ^ s ≤ 2 ^ (64 - s) * 2 ^ s := Nat.mul_le_mul_right _ h1
      rw [Nat.add_mul] at h3
      omega
    · exact ih _ h2 (fun z hz => hb z (List.mem_cons_of_mem _ hz)) y hy

theorem shl_get (s c : Nat) (xs : List Nat) (j : Nat) (hj : j < xs.length) : (shlL s c xs).getD j 0 = (xs.getD j 0 % 2 ^ (64 - s)) * 2 ^ s + (if j = 0 then c else xs.getD (j - 1) 0 / 2 ^ (64 - s)) := by
  induction xs generalizing c j with
  | nil => simp at hj
  | cons x xs ih =>
    cases j with
    | zero => simp [shlL]
    | succ j =>
      have h := ih (x / 2 ^ (64 - s)) j (by simpa using hj)
      simp only [shlL, List.getD_cons_succ, Nat.add_sub_cancel, if_neg (Nat.succ_ne_zero j)]
      rw [h]
      cases j with
      | zero => simp
      | succ j => simp

theorem shlC_eq (s c : Nat) (xs : List Nat) (h : 0 < xs.length) : shlC s c xs = xs.getD (xs.length - 1) 0 / 2 ^ (64 - s) := by
  induction xs generalizing c with
  | nil => simp at h
  | cons x xs ih =>
    cases xs with
    | nil => simp [shlC]
    | cons y ys =>
      have := ih (x / 2 ^ (64 - s)) (by simp)
      simp only [shlC] at this ⊢
      rw [this]
      simp

theorem shl_snoc (s c : Nat) (xs : List Nat) (x : Nat) : shlL s c (xs ++ [x]) = shlL s c xs ++ [(x % 2 ^ (64 - s)) * 2 ^ s + shlC s c xs] ∧ shlC s c (xs ++ [x]) = x / 2 ^ (64 - s) := by
  induction xs generalizing c with
  | nil => simp [shlL, shlC]
  | cons y xs ih =>
    obtain ⟨h1, h2⟩ := ih (y / 2 ^ (64 - s))
    exact ⟨by simp [shlL, shlC, h1], by simp [shlC, h2]⟩

theorem put_cons (c : Array Value) (off : Nat) (l : List Value) (v : Value) (h : off + 1 + l.length ≤ c.size) : (put c (off + 1) l).setIfInBounds off v = put c off (v :: l) := by
  have hs := put_size c (off + 1) l h
  apply array_ext
  intro j
  rcases Nat.lt_trichotomy j off with h1 | h1 | h1
  · rw [Array.getElem?_setIfInBounds_ne (by omega), put_before _ _ _ _ (by omega) (by omega), put_before _ _ _ _ (by omega) h1]
  · subst h1
    have := put_in c j (v :: l) 0 (by omega) (by simp)
    rw [Nat.add_zero] at this
    rw [Array.getElem?_setIfInBounds_self_of_lt (by omega), this]; simp
  · rw [Array.getElem?_setIfInBounds_ne (by omega)]
    obtain ⟨i, rfl⟩ : ∃ i, j = off + 1 + i := ⟨j - (off + 1), by omega⟩
    rcases Nat.lt_or_ge i l.length with h2 | h2
    · rw [put_in _ _ _ _ (by omega) h2, show off + 1 + i = off + (i + 1) by omega, put_in _ _ _ _ (by omega) (by simp; omega)]
      simp
    · rw [put_past _ _ _ _ (by omega) (by omega), put_past _ _ _ _ (by omega) (by simp; omega)]

theorem words_drop (k : IntKind) (ws : List Nat) (i : Nat) (h : i < ws.length) : words k (ws.drop i) = .int k (ws.getD i 0 : Nat) :: words k (ws.drop (i + 1)) := by
  rw [List.drop_eq_getElem_cons h]
  show Value.int k (ws[i] : Nat) :: _ = _
  rw [List.getD_eq_getElem?_getD, List.getElem?_eq_getElem h]
  rfl

/-- A word's two parts, joined. -/
theorem or_parts (a b s : Nat) (h : b < 2 ^ s) : a * 2 ^ s ||| b = a * 2 ^ s + b := by
  rw [Nat.mul_comm]; exact (Nat.two_pow_add_eq_or_of_lt h a).symm

end Go.Proofs.YtocadbghhoibnaaFmt

/- lshVU_g: contract. -/
namespace Go.Proofs.YtocadbghhoibnaaFmt
open Go.RowKit

/-- What lshVU leaves: the words shifted, and what is shifted out. -/
def lshR (w : World) (bz oz : Nat) (cz : Array Value) (T : TypeId) (xs : List Nat) (s : Nat) (e : Ending) (w' : World) : Prop :=
  e = .returned (.int .u64 (shlC s 0 xs : Nat)) ∧ Upd (· = bz) w w' ∧ w'.heap[bz]? = some (.cells (put cz oz (words .u64 (shlL s 0 xs))) T (0, 0))

def lshK (w : World) (bz oz : Nat) (cz : Array Value) (T : TypeId) (xs : List Nat) (s m : Nat) (iv : Value) (wr : World) : Prop :=
  ∃ k : Nat, k < m ∧ iv = .int .i64 (k : Nat) ∧ Upd (· = bz) w wr ∧ wr.heap[bz]? = some (.cells (put cz (oz + k + 1) (words .u64 ((shlL s 0 xs).drop (k + 1)))) T (0, 0))

theorem lsh_read {w wr : World} {bz oz bx ox k j m : Nat} {cz : Array Value} {T : TypeId} {l : List Value} {v : Value} (hz : w.heap[bz]? = some (.cells cz T (0, 0))) (hfit : oz + m ≤ cz.size) (hk : k < m) (hj : j ≤ k) (hal : bx = bz → ox ≤ oz) (hu : Upd (· = bz) w wr) (hrow : wr.heap[bz]? = some (.cells (put cz (oz + k + 1) l) T (0, 0))) (hc : w.cell? ⟨bx, ox + j, none⟩ = some v) : wr.cell? ⟨bx, ox + j, none⟩ = some v := by
  by_cases hb : bx = bz
  · subst hb
    have := hal rfl
    rw [blk_cell hz] at hc
    rw [blk_cell hrow, put_before _ _ _ _ (by omega) (by omega)]
    exact hc
  · exact hu.cell hc hb

/-- The two parts of a shifted word, as the code joins them. -/
theorem shl_word {s t y z : Nat} (hst : s + t = 64) (hy : y < 18446744073709551616) (hz : z < 18446744073709551616) : bits BinOp.or IntKind.u64 (((y % 2 ^ t) * 2 ^ s : Nat) : Int) ((z / 2 ^ t : Nat) : Int) = (((y % 2 ^ t) * 2 ^ s + z / 2 ^ t : Nat) : Int) := by
  have e := pow_split (s := s) (by omega)
  rw [show 64 - s = t by omega] at e
  have hp : 0 < 2 ^ t := Nat.pow_pos (by decide)
  have h1 : y % 2 ^ t < 2 ^ t := Nat.mod_lt _ hp
  have h2 : z / 2 ^ t < 2 ^ s := by rw [Nat.div_lt_iff_lt_mul hp, Nat.mul_comm, e]; exact hz
  have h3 : (y % 2 ^ t + 1) * 2 ^ s ≤ 2 ^ t * 2 ^ s := Nat.mul_le_mul_right _ h1
  have hp2 : 0 < 2 ^ s := Nat.pow_pos (by decide)
  rw [Nat.add_mul] at h3
  rw [bits_or_u64_nat _ _ (by omega) (by omega), or_parts _ _ _ h2]

theorem shl_word' {s t y z : Nat} (hst : s + t = 64) (hy : y < 18446744073709551616) (hz : z < 18446744073709551616) : bits BinOp.or IntKind.u64 (((y % 2 ^ t) * 2 ^ s : Nat) : Int) ((z : Int) / 2 ^ t) = (((y % 2 ^ t) * 2 ^ s + z / 2 ^ t : Nat) : Int) := by
  rw [← shl_word hst hy hz]
  congr 1

theorem shl_wrap {s t y : Nat} (hst : s + t = 64) : IntKind.u64.wrap ((y : Int) * 2 ^ s) = (((y % 2 ^ t) * 2 ^ s : Nat) : Int) := by
  have e := pow_split (s := s) (by omega)
  rw [show 64 - s = t by omega] at e
  rw [IntKind.wrap_u64, show (y : Int) * 2 ^ s = ((y * 2 ^ s : Nat) : Int) by push_cast; rfl]
  have : y * 2 ^ s % 18446744073709551616 = (y % 2 ^ t) * 2 ^ s := by rw [← e, Nat.mul_mod_mul_right]
  omega

theorem and63 (s : Nat) (hs : s < 64) : bits BinOp.and IntKind.u64 (s : Int) 63 = (s : Int) := by
  have h := bits_and_u64_nat s 63 (by omega) (by omega)
  have h2 : s &&& 63 = s := by
    have := Nat.and_two_pow_sub_one_eq_mod s 6
    simpa [Nat.mod_eq_of_lt hs] using this
  rw [h2] at h
  exact h

set_option maxRecDepth 100000 in
set_option maxHeartbeats 2000000 in
theorem lshVU_any (bz oz kz bx ox kx m s : Nat) (cz : Array Value) (T : TypeId) (xs : List Nat) (w : World) (hz : w.heap[bz]? = some (.cells cz T (0, 0))) (hfit : oz + m ≤ cz.size) (hm : 0 < m) (hml : m ≤ 17592186044416) (hs : 0 < s) (hst : s < 64)
    (hxl : xs.length = m) (hxb : ∀ x ∈ xs, x < 18446744073709551616) (hx : ∀ i, i < m → w.cell? ⟨bx, ox + i, none⟩ = some (.int .u64 (xs.getD i 0 : Nat))) (hal : bx = bz → ox ≤ oz) :
    Calls Tryf.prog 65 #[.slice (some ⟨bz, oz, none⟩) m kz, .slice (some ⟨bx, ox, none⟩) m kx, .int .u64 (s : Nat)] w (lshR w bz oz cz T xs s) := by
  have hb0 : ((s : Int) == 0) = false := by simp; omega
  have hb1 : ((m : Int) == 0) = false := by simp; omega
  obtain ⟨t, ht⟩ : ∃ t, s + t = 64 := ⟨64 - s, by omega⟩
  have h64 : (64 : Int) - (s : Int) = (t : Int) := by omega
  have ha1 := and63 s hst
  have ha2 := and63 t (by omega)
  have hcm := hx (m - 1) (by omega)
  generalize hxm : xs.getD (m - 1) 0 = xm at hcm
  have hxmlt : xm < 18446744073709551616 := by rw [← hxm]; exact getD_lt hxb (by omega) _
  have hcar : shlC s 0 xs = xm / 2 ^ t := by rw [shlC_eq s 0 xs (by omega), hxl, hxm, show 64 - s = t by omega]
  have hLl := shl_len s 0 xs
  have HZ := Lib.hid hz
  have HX := Lib.hid hx
  have HXL := Lib.hid hxl
  have HXB := Lib.hid hxb
  have HAL := Lib.hid hal
  have HCAR := Lib.hid hcar
  have HLL := Lib.hid hLl
  have HT := Lib.hid ht
  have htl : t < 64 := by omega
  clear hz hx hxl hxb hal hxm hcar hLl ht
  go_enter Tryf.func65, Tryf.ntmps65
  go_wp2_with fail
  go_loopw [8] (fun iv wr => lshK w bz oz cz T xs s m iv wr) (fun iv _ => (intOf iv).toNat)
  case atStart => exact ⟨m - 1, by omega, by go_num, Upd.refl _ _, by rw [show m - 1 + 1 = m by omega, List.drop_of_length_le (by rw [HLL.out, HXL.out]; omega), show words IntKind.u64 [] = [] from rfl, put_nil]; exact HZ.out⟩
  case round =>
    obtain ⟨k, hk, rfl, hu, hrow⟩ := hrel
    have hwd := words_drop .u64 (shlL s 0 xs) k (by rw [HLL.out, HXL.out]; exact hk)
    have hget := shl_get s 0 xs k (by rw [HXL.out]; exact hk)
    rw [show 64 - s = t by have := HT.out; omega] at hget
    have hck := lsh_read HZ.out hfit hk (Nat.le_refl k) HAL.out hu hrow (HX.out k hk)
    generalize hyk : xs.getD k 0 = y at hck hget
    have hylt : y < 18446744073709551616 := by rw [← hyk]; exact getD_lt HXB.out (by omega) _
    have hcz : wr.cell? ⟨bz, oz + k, none⟩ = some (cz[oz + k]'(by omega)) := by rw [blk_cell hrow, put_before _ _ _ _ (by omega) (by omega)]; exact Array.getElem?_eq_getElem (by omega)
    have hfz := blk_free hrow (oz + k)
    have hnew : ∀ (wq : World) (v : Nat), Upd (· = bz) w wq → wq.heap[bz]? = wr.heap[bz]? → (shlL s 0 xs).getD k 0 = v → Upd (· = bz) w (wq.setCell ⟨bz, oz + k, none⟩ (.int .u64 (v : Nat))) ∧ (wq.setCell ⟨bz, oz + k, none⟩ (.int .u64 (v : Nat))).heap[bz]? = some (.cells (put cz (oz + k) (words .u64 ((shlL s 0 xs).drop k))) T (0, 0)) := by
      intro wq v h1 h2 h3
      refine ⟨h1.same ((Upd.refl _ _).setCell (by rfl) _), ?_⟩
      rw [hrow] at h2
      rw [blk_setc h2, hwd, h3, put_cons _ _ _ _ (by rw [words_len, List.length_drop, HLL.out, HXL.out]; omega)]
    have HNEW := Lib.hid hnew
    have HGET := Lib.hid hget
    have HU := Lib.hid hu
    have HROW := Lib.hid hrow
    clear hnew hget hu hwd hyk
    by_cases hk0 : 0 < k
    · have hck1 := lsh_read HZ.out hfit hk (j := k - 1) (by omega) HAL.out HU.out HROW.out (HX.out (k - 1) (by omega))
      generalize hzk : xs.getD (k - 1) 0 = z at hck1
      have hzlt : z < 18446744073709551616 := by rw [← hzk]; exact getD_lt HXB.out (by omega) _
      have HZK := Lib.hid hzk
      generalize cz[oz + k]'(by omega) = zk at hcz
      clear hrow hzk
      go_wp2_with fail
      have i1 : (0 : Int) ≤ (k : Int) := by omega
      have i2 : (k : Int) < (m : Int) := by omega
      have i3 : (0 : Int) ≤ (k : Int) - 1 := by omega
      have i4 : (k : Int) - 1 < (m : Int) := by omega
      have i5 : ((k : Int) - 1).toNat = k - 1 := by omega
      have i6 : IntKind.i64.wrap ((k : Int) - 1) = (k : Int) - 1 := IntWalk.i64_in _ (by omega)
      have i7 : (1 : Int) ≤ (k : Int) := by omega
      have i8 : (k : Int) < (m : Int) + 1 := by omega
      have i9 : 1 ≤ k := by omega
      have i10 : k ≤ m := by omega
      have i11 : k < m + 1 := by omega
      have s1 := shl_wrap (y := y) HT.out
      have s2 := shl_word' HT.out hylt hzlt
      go_still_tail 17, (by kernel_rfl)
      clear i1 i2 i3 i4 i5 i6 i7 i8 i9 i10 i11 s1 s2
      generalize hw9 : ({ heap := wr.heap, tape := wr.tape, drawn := wr.drawn + 1, os := wr.os, output := wr.output } : World) = w9
      have hc9 : w9.cell? ⟨bz, oz + k, none⟩ = some zk := by rw [← hw9]; exact hcz
      have hf9 : w9.frozen? ⟨bz, oz + k, none⟩ = false := by rw [← hw9]; exact hfz
      have HN9 := Lib.hid (HNEW.out w9 ((y % 2 ^ t) * 2 ^ s + z / 2 ^ t) (by rw [← hw9]; exact HU.out.drew) (by rw [← hw9]) (by rw [HGET.out, if_neg (by omega), HZK.out]))
      have hN9 := HN9.out
      rw [← shl_word' HT.out hylt hzlt, show (((y % 2 ^ t) * 2 ^ s : Nat) : Int) = (y : Int) % 2 ^ t * 2 ^ s by push_cast; rfl] at hN9
      replace HN9 := Lib.hid hN9
      clear hw9 hcz hfz hck hck1 hN9
      go_wp2_with fail
      go_roundw
      case rel => exact ⟨k - 1, by omega, by go_num, HN9.out.1, by rw [show k - 1 + 1 = k by omega, show oz + (k - 1) + 1 = oz + k by omega]; exact HN9.out.2⟩
      case measure => simp [intOf]; omega
    · obtain rfl : k = 0 := by omega
      generalize cz[oz + 0]'(by omega) = zk at hcz
      simp only [Nat.add_zero] at *
      have s1 := shl_wrap (y := y) HT.out
      have hN := HNEW.out wr ((y % 2 ^ t) * 2 ^ s) HU.out rfl (by rw [HGET.out]; simp)
      rw [List.drop_zero, show (((y % 2 ^ t) * 2 ^ s : Nat) : Int) = (y : Int) % 2 ^ t * 2 ^ s by push_cast; rfl] at hN
      have HN := Lib.hid hN
      clear hrow hN
      go_wp2_with fail
      go_ret
      exact ⟨by rw [HCAR.out, Int.natCast_ediv, Int.natCast_pow]; rfl, HN.out.1, HN.out.2⟩

end Go.Proofs.YtocadbghhoibnaaFmt

/- Bytes as digits of a number: plain laws. -/
namespace Go.Proofs.YtocadbghhoibnaaFmt
open Go.RowKit

/-- The value of bytes, the lowest first. -/
def bv : List Nat → Nat
  | [] => 0
  | b :: bs => b + 256 * bv bs

/-- The value of bytes, the highest first. -/
def bev (bs : List Nat) : Nat := bv bs.reverse

theorem bv_append (a b : List Nat) : bv (a ++ b) = bv a + 256 ^ a.length * bv b := by
  induction a with
  | nil => simp [bv]
  | cons x a ih =>
    rw [List.cons_append, bv, ih, bv, List.length_cons, Nat.pow_succ, Nat.mul_add, Nat.mul_comm (256 ^ a.length) 256, ← Nat.mul_assoc]
    omega

theorem bv_lt (a : List Nat) (h : ∀ x ∈ a, x < 256) : bv a < 256 ^ a.length := by
  induction a with
  | nil => simp [bv]
  | cons x a ih =>
    have h1 := ih (fun y hy => h y (List.mem_cons_of_mem _ hy))
    have h2 := h x (by simp)
    rw [bv, List.length_cons, Nat.pow_succ]
    omega

theorem bv_snoc (a : List Nat) (x : Nat) : bv (a ++ [x]) = bv a + 256 ^ a.length * x := by
  rw [bv_append]; simp [bv]

theorem bv_take_succ (r : List Nat) (t : Nat) (h : t < r.length) : bv (r.take (t + 1)) = bv (r.take t) + 256 ^ t * r.getD t 0 := by
  rw [List.take_succ_eq_append_getElem h, bv_snoc, List.length_take, Nat.min_eq_left (by omega)]
  simp [h]

theorem pow256_8 (k : Nat) : 256 ^ (8 * k) = 18446744073709551616 ^ k := by
  rw [Nat.pow_mul]

theorem pow256_2 (k : Nat) : 256 ^ k = 2 ^ (8 * k) := by
  rw [Nat.pow_mul]

theorem rev_getD (bs : List Nat) (t : Nat) (h : t < bs.length) : bs.reverse.getD t 0 = bs.getD (bs.length - 1 - t) 0 := by
  have h2 : bs.length - 1 - t < bs.length := by omega
  rw [List.getD_eq_getElem?_getD, List.getD_eq_getElem?_getD, List.getElem?_reverse h]

/-- Eight bytes more. -/
theorem bv_take_eight (r : List Nat) (k : Nat) (h : 8 * k + 8 ≤ r.length) : bv (r.take (8 * (k + 1))) = bv (r.take (8 * k)) + 18446744073709551616 ^ k * bv ((r.drop (8 * k)).take 8) := by
  rw [show 8 * (k + 1) = 8 * k + 8 by omega, List.take_add, bv_append, List.length_take, Nat.min_eq_left (by omega), pow256_8]

theorem take8 (r : List Nat) (m : Nat) (h : m + 8 ≤ r.length) : (r.drop m).take 8 = [r.getD m 0, r.getD (m + 1) 0, r.getD (m + 2) 0, r.getD (m + 3) 0, r.getD (m + 4) 0, r.getD (m + 5) 0, r.getD (m + 6) 0, r.getD (m + 7) 0] := by
  apply List.ext_getElem
  · simp; omega
  · intro i h1 h2
    simp at h2
    rw [List.getElem_take, List.getElem_drop]
    have h3 : m + i < r.length := by omega
    match i, h2 with
    | 0, _ | 1, _ | 2, _ | 3, _ | 4, _ | 5, _ | 6, _ | 7, _ => simp [List.getD_eq_getElem?_getD, (show r[m]? = some r[m] from List.getElem?_eq_getElem (by omega)), List.getElem?_eq_getElem h3]

theorem bits_or_up {d b t : Nat} (hd : d < 2 ^ t) (hb : b * 2 ^ t < 18446744073709551616) (hd2 : d < 18446744073709551616) : bits BinOp.or IntKind.u64 (d : Int) ((b * 2 ^ t : Nat) : Int) = ((d + b * 2 ^ t : Nat) : Int) := by
  rw [bits_or_u64_nat _ _ hd2 hb, Nat.or_comm, or_parts _ _ _ hd, Nat.add_comm]

end Go.Proofs.YtocadbghhoibnaaFmt

/- rshVU_g, nat.rsh in place, slices.Reverse: contracts. -/
namespace Go.Proofs.YtocadbghhoibnaaFmt
open Go.RowKit

/-- Words shifted to the right by s bits (0 < s < 64). -/
def shrL (s : Nat) : List Nat → List Nat
  | [] => []
  | [x] => [x / 2 ^ s]
  | x :: y :: ws => (x / 2 ^ s + (y % 2 ^ s) * 2 ^ (64 - s)) :: shrL s (y :: ws)

theorem shr_len (s : Nat) : ∀ ws : List Nat, (shrL s ws).length = ws.length
  | [] => rfl
  | [x] => rfl
  | x :: y :: ws => by rw [shrL, List.length_cons, shr_len s (y :: ws)]; rfl

theorem shr_get (s : Nat) : ∀ (ws : List Nat) (j : Nat), j < ws.length → (shrL s ws).getD j 0 = ws.getD j 0 / 2 ^ s + (if j + 1 < ws.length then (ws.getD (j + 1) 0 % 2 ^ s) * 2 ^ (64 - s) else 0)
  | [], j, h => by simp at h
  | [x], j, h => by
    have : j = 0 := by simpa using h
    subst this
    simp [shrL]
  | x :: y :: ws, 0, h => by simp [shrL]
  | x :: y :: ws, j + 1, h => by
    have := shr_get s (y :: ws) j (by simpa using h)
    simp only [shrL, List.getD_cons_succ]
    rw [this]
    simp

theorem shr_val (s : Nat) (hs : s < 64) : ∀ ws : List Nat, val (shrL s ws) = val ws / 2 ^ s
  | [] => by simp [shrL, val]
  | [x] => by simp [shrL, val]
  | x :: y :: ws => by
    have ih := shr_val s hs (y :: ws)
    rw [shrL, val, ih]
    have e : (18446744073709551616 : Nat) = 2 ^ s * 2 ^ (64 - s) := by rw [← Nat.pow_add, show s + (64 - s) = 64 by omega]
    have hp : 0 < 2 ^ s := Nat.pow_pos (by decide)
    conv => rhs; rw [val, e, Nat.mul_assoc, Nat.add_mul_div_left _ _ hp]
    have h1 : val (y :: ws) % 2 ^ s = y % 2 ^ s := by
      rw [val]
      conv => lhs; rw [e, Nat.mul_assoc, Nat.add_mul_mod_self_left]
    have h2 := Nat.div_add_mod (val (y :: ws)) (2 ^ s)
    rw [h1] at h2
    have h3 : 2 ^ (64 - s) * val (y :: ws) = 2 ^ (64 - s) * (2 ^ s * (val (y :: ws) / 2 ^ s)) + 2 ^ (64 - s) * (y % 2 ^ s) := by rw [← Nat.mul_add, h2]
    have h4 : 18446744073709551616 * (val (y :: ws) / 2 ^ s) = 2 ^ (64 - s) * (2 ^ s * (val (y :: ws) / 2 ^ s)) := by
      conv => lhs; rw [e, Nat.mul_comm (2 ^ s), Nat.mul_assoc]
    rw [h3, h4, Nat.mul_comm (y % 2 ^ s)]
    omega

theorem shr_lt (s : Nat) (hs : s < 64) (hs0 : 0 < s) : ∀ ws : List Nat, (∀ x ∈ ws, x < 18446744073709551616) → ∀ x ∈ shrL s ws, x < 18446744073709551616
  | [], _ => by simp [shrL]
  | [x], h => by
    intro z hz
    simp [shrL] at hz
    subst hz
    exact Nat.lt_of_le_of_lt (Nat.div_le_self _ _) (h x (by simp))
  | x :: y :: ws, h => by
    intro z hz
    rw [shrL] at hz
    rcases List.mem_cons.1 hz with rfl | hz
    · have e : (18446744073709551616 : Nat) = 2 ^ s * 2 ^ (64 - s) := by rw [← Nat.pow_add, show s + (64 - s) = 64 by omega]
      have h1 : x / 2 ^ s < 2 ^ (64 - s) := by
        rw [Nat.div_lt_iff_lt_mul (Nat.pow_pos (by decide)), Nat.mul_comm, ← e]
        exact h x (by simp)
      have h2 : y % 2 ^ s + 1 ≤ 2 ^ s := Nat.mod_lt _ (Nat.pow_pos (by decide))
      have h3 : (y % 2 ^ s + 1) * 2 ^ (64 - s) ≤ 2 ^ s * 2 ^ (64 - s) := Nat.mul_le_mul_right _ h2
      rw [Nat.add_mul] at h3
      omega
    · exact shr_lt s hs hs0 (y :: ws) (fun q hq => h q (List.mem_cons_of_mem _ hq)) z hz

theorem row_read_ge {w wr : World} {bz oz bx ox j n : Nat} {cz : Array Value} {T : TypeId} {ws : List Nat} {v : Value} (hz : w.heap[bz]? = some (.cells cz T (0, 0))) (hfit : oz + n ≤ cz.size) (hj : j < n) (hl : ws.length ≤ j) (hal : bx = bz → ox = oz) (hu : Upd (· = bz) w wr) (hrow : wr.heap[bz]? = some (.cells (put cz oz (words .u64 ws)) T (0, 0))) (hc : w.cell? ⟨bx, ox + j, none⟩ = some v) : wr.cell? ⟨bx, ox + j, none⟩ = some v := by
  by_cases hb : bx = bz
  · subst hb
    rw [hal rfl] at hc ⊢
    rw [blk_cell hz] at hc
    rw [blk_cell hrow, put_past _ _ _ _ (by omega) (by rw [words_len]; omega)]
    exact hc
  · exact hu.cell hc hb

/-- What rshVU_g leaves. -/
def rshR (w : World) (bz oz : Nat) (cz : Array Value) (T : TypeId) (xs : List Nat) (s : Nat) (e : Ending) (w' : World) : Prop :=
  ∃ c : Int, e = .returned (.int .u64 c) ∧ Upd (· = bz) w w' ∧ w'.heap[bz]? = some (.cells (put cz oz (words .u64 (shrL s xs))) T (0, 0))

def rshK (w : World) (bz oz : Nat) (cz : Array Value) (T : TypeId) (xs : List Nat) (s m : Nat) (iv : Value) (wr : World) : Prop :=
  ∃ i : Nat, 1 ≤ i ∧ i ≤ m ∧ iv = .int .i64 (i : Nat) ∧ Upd (· = bz) w wr ∧ wr.heap[bz]? = some (.cells (put cz oz (words .u64 ((shrL s xs).take (i - 1)))) T (0, 0))

theorem shr_word {s t y z : Nat} (hst : s + t = 64) (hy : y < 18446744073709551616) : bits BinOp.or IntKind.u64 ((y : Int) / 2 ^ s) (((z % 2 ^ s) * 2 ^ t : Nat) : Int) = ((y / 2 ^ s + (z % 2 ^ s) * 2 ^ t : Nat) : Int) := by
  have e : (18446744073709551616 : Nat) = 2 ^ s * 2 ^ t := by rw [← Nat.pow_add, hst]
  have h1 : y / 2 ^ s < 2 ^ t := by
    rw [Nat.div_lt_iff_lt_mul (Nat.pow_pos (by decide)), Nat.mul_comm, ← e]; exact hy
  have h2 : z % 2 ^ s + 1 ≤ 2 ^ s := Nat.mod_lt _ (Nat.pow_pos (by decide))
  have h3 : (z % 2 ^ s + 1) * 2 ^ t ≤ 2 ^ s * 2 ^ t := Nat.mul_le_mul_right _ h2
  have hp : 0 < 2 ^ t := Nat.pow_pos (by decide)
  rw [Nat.add_mul] at h3
  have := bits_or_up (d := y / 2 ^ s) (b := z % 2 ^ s) (t := t) h1 (by omega) (Nat.lt_of_le_of_lt (Nat.div_le_self _ _) hy)
  rw [← this]
  congr 1

theorem put_snoc {wr : World} {bz oz k v : Nat} {cz : Array Value} {T : TypeId} {ws : List Nat} (hrow : wr.heap[bz]? = some (.cells (put cz oz (words .u64 ws)) T (0, 0))) (hl : ws.length = k) (hfit : oz + k < cz.size) : (wr.setCell ⟨bz, oz + k, none⟩ (.int .u64 (v : Nat))).heap[bz]? = some (.cells (put cz oz (words .u64 (ws ++ [v]))) T (0, 0)) := by
  rw [blk_setc hrow, words_app, show words IntKind.u64 [v] = [.int .u64 (v : Nat)] from rfl, ← put_set _ _ _ _ (by rw [words_len]; omega), words_len, hl]

theorem take_next (ws : List Nat) (k v : Nat) (h : k < ws.length) (hv : ws.getD k 0 = v) : ws.take (k + 1) = ws.take k ++ [v] := by
  rw [List.take_succ_eq_append_getElem h, ← hv, List.getD_eq_getElem?_getD, List.getElem?_eq_getElem h]
  rfl

set_option maxRecDepth 100000 in
set_option maxHeartbeats 2000000 in
theorem rshVU_any (bz oz kz bx ox kx m s : Nat) (cz : Array Value) (T : TypeId) (xs : List Nat) (w : World) (hz : w.heap[bz]? = some (.cells cz T (0, 0))) (hfit : oz + m ≤ cz.size) (hm : 0 < m) (hml : m ≤ 17592186044416) (hs : 0 < s) (hst : s < 64) (hkz : m ≤ kz ∧ kz ≤ 9223372036854775807) (hkx : m ≤ kx ∧ kx ≤ 9223372036854775807)
    (hxl : xs.length = m) (hxb : ∀ x ∈ xs, x < 18446744073709551616) (hx : ∀ i, i < m → w.cell? ⟨bx, ox + i, none⟩ = some (.int .u64 (xs.getD i 0 : Nat))) (hal : bx = bz → ox = oz) :
    Calls Tryf.prog 66 #[.slice (some ⟨bz, oz, none⟩) m kz, .slice (some ⟨bx, ox, none⟩) m kx, .int .u64 (s : Nat)] w (rshR w bz oz cz T xs s) := by
  have hb0 : ((s : Int) == 0) = false := by simp; omega
  have hb1 : ((m : Int) == 0) = false := by simp; omega
  obtain ⟨t, ht⟩ : ∃ t, s + t = 64 := ⟨64 - s, by omega⟩
  have h64 : (64 : Int) - (s : Int) = (t : Int) := by omega
  have ha1 := and63 s hst
  have ha2 := and63 t (by omega)
  have hc0 := hx 0 hm
  rw [Nat.add_zero] at hc0
  have hLl := shr_len s xs
  have hget := fun j hj => shr_get s xs j hj
  obtain ⟨hkz1, hkz2⟩ := hkz
  obtain ⟨hkx1, hkx2⟩ := hkx
  have HZ := Lib.hid hz
  have HX := Lib.hid hx
  have HXL := Lib.hid hxl
  have HXB := Lib.hid hxb
  have HAL := Lib.hid hal
  have HLL := Lib.hid hLl
  have HGET := Lib.hid hget
  have HT := Lib.hid ht
  have htl : t < 64 := by omega
  have hnn : ((m : Int) != (m : Int)) = false := by simp
  generalize xs.getD 0 0 = x0 at hc0
  clear hz hx hxl hxb hal hLl ht hget
  go_enter Tryf.func66, Tryf.ntmps66
  go_wp2_with fail
  go_loopw [8] (fun iv wr => rshK w bz oz cz T xs s m iv wr) (fun iv _ => m - (intOf iv).toNat)
  case atStart => exact ⟨1, by omega, by omega, rfl, Upd.refl _ _, by rw [Nat.sub_self, List.take_zero, show words IntKind.u64 [] = [] from rfl, put_nil]; exact HZ.out⟩
  case round =>
    obtain ⟨i, hi1, him, rfl, hu, hrow⟩ := hrel
    obtain ⟨K, hK⟩ : ∃ K, i - 1 = K := ⟨_, rfl⟩
    rw [hK] at hrow
    have hKm : K < m := by omega
    have htl2 : ((shrL s xs).take K).length = K := by rw [List.length_take, HLL.out, HXL.out]; omega
    have hcK := row_read_ge HZ.out hfit (j := K) hKm (by omega) HAL.out hu hrow (HX.out K hKm)
    have hyl : xs.getD K 0 < 18446744073709551616 := getD_lt HXB.out (by omega) _
    have hgK := HGET.out K (by rw [HXL.out]; exact hKm)
    rw [HXL.out, show 64 - s = t by have := HT.out; omega, show K + 1 = i by omega] at hgK
    have hcz : wr.cell? ⟨bz, oz + K, none⟩ = some (cz[oz + K]'(by omega)) := by rw [blk_cell hrow, put_past _ _ _ _ (by omega) (by rw [words_len, htl2]; omega)]; exact Array.getElem?_eq_getElem (by omega)
    have hfz := blk_free hrow (oz + K)
    generalize cz[oz + K]'(by omega) = zk at hcz
    have HKI := Lib.hid hK
    by_cases hlt : i < m
    · have hci := row_read_ge HZ.out hfit (j := i) hlt (by omega) HAL.out hu hrow (HX.out i hlt)
      rw [if_pos hlt] at hgK
      generalize xs.getD K 0 = y at *
      generalize xs.getD i 0 = z at *
      have hnew : ∀ wq : World, Upd (· = bz) w wq → wq.heap[bz]? = wr.heap[bz]? → rshK w bz oz cz T xs s m (.int .i64 ((i + 1 : Nat) : Int)) (wq.setCell ⟨bz, oz + K, none⟩ (.int .u64 ((y / 2 ^ s + (z % 2 ^ s) * 2 ^ t : Nat) : Int))) := by
        intro wq h1 h2
        rw [hrow] at h2
        refine ⟨i + 1, by omega, by omega, rfl, h1.same ((Upd.refl _ _).setCell (by rfl) _), ?_⟩
        rw [put_snoc h2 htl2 (by omega), show i + 1 - 1 = K + 1 by omega, take_next _ K _ (by rw [HLL.out, HXL.out]; exact hKm) hgK]
      have HNEW := Lib.hid hnew
      have HU := Lib.hid hu
      clear hnew hrow hgK htl2 hK hu
      go_wp2_with fail
      have i1 : (0 : Int) ≤ (i : Int) := by omega
      have i2 : (i : Int) < (m : Int) := by omega
      have i3 : IntKind.i64.wrap ((i : Int) - 1) = (K : Int) := by rw [IntWalk.i64_in _ (by omega)]; have := HKI.out; omega
      have s1 := shl_wrap (y := z) (s := t) (t := s) (by have := HT.out; omega)
      have s2 := shr_word (z := z) HT.out hyl
      have s3 : bits BinOp.or IntKind.u64 ((y : Int) / 2 ^ s) ((z : Int) % 2 ^ s * 2 ^ t) = ((y / 2 ^ s + z % 2 ^ s * 2 ^ t : Nat) : Int) := by have h := s2; push_cast at h ⊢; exact h
      go_still_tail 17, (by kernel_rfl)
      clear i1 i2 i3 s1
      generalize hw9 : ({ heap := wr.heap, tape := wr.tape, drawn := wr.drawn + 1, os := wr.os, output := wr.output } : World) = w9
      have hc9 : w9.cell? ⟨bz, oz + K, none⟩ = some zk := by rw [← hw9]; exact hcz
      have hf9 : w9.frozen? ⟨bz, oz + K, none⟩ = false := by rw [← hw9]; exact hfz
      have HN9 := Lib.hid (HNEW.out w9 (by rw [← hw9]; exact HU.out.drew) (by rw [← hw9]))
      clear hw9 hcz hfz hcK hci
      go_wp2_with fail
      go_roundw
      case rel => exact HN9.out
      case measure => simp [intOf]; omega
    · obtain rfl : i = m := by omega
      rw [if_neg hlt, Nat.add_zero] at hgK
      generalize xs.getD K 0 = y at *
      have hrow2 := put_snoc (v := y / 2 ^ s) hrow htl2 (by omega)
      rw [← take_next _ K _ (by rw [HLL.out, HXL.out]; exact hKm) hgK, List.take_of_length_le (by rw [HLL.out, HXL.out]; omega)] at hrow2
      rw [show ((y / 2 ^ s : Nat) : Int) = (y : Int) / 2 ^ s by push_cast; rfl] at hrow2
      have HR2 := Lib.hid hrow2
      have HU := Lib.hid hu
      have hKi : (i : Int) - 1 = (K : Int) := by omega
      have hKn : K < i := by omega
      clear hrow2 hrow hgK htl2 hK hu
      go_wp2_with fail
      go_ret
      exact ⟨_, rfl, HU.out.same ((Upd.refl _ _).setCell (by rfl) _), HR2.out⟩

end Go.Proofs.YtocadbghhoibnaaFmt

/- nat.rsh in place, slices.Reverse: contracts. -/
namespace Go.Proofs.YtocadbghhoibnaaFmt
open Go.RowKit

theorem rshVU_call (args : Array Value) (w : World) : (callFunc 124 args).run Tryf.prog w = .ok (.enter 66 args) w :=
  run_callFunc_twin (P := Tryf.prog) (fn := Tryf.f124) (tw := Tryf.f66) (twin := "math/big.rshVU_g") (by kernel_rfl) (by kernel_rfl) (by kernel_rfl) (by kernel_rfl) (by kernel_rfl) (by kernel_rfl) (by kernel_rfl) (by kernel_rfl) (by kernel_rfl) args w

theorem rsh_nil (v0 : Value) (s : Nat) (w : World) (hv : Own .u64 w 0 93 v0 []) (hs : 0 < s) (hst : s < 64) :
    Calls Tryf.prog 119 #[v0, v0, .int .u64 (s : Nat)] w (NatVR v0 0 0 w) := by
  obtain ⟨a, c0, rfl⟩ := hv.form
  have HC := Lib.hid hv.cut
  have hcap := hv.cap
  obtain ⟨_, hc1, hc2⟩ := hcap
  clear hv
  simp only [List.length_nil] at *
  have hb0 : ((s : Int) == 0) = false := by simp; omega
  have hd : (s : Int) / 64 = 0 := by omega
  go_enter Tryf.func119, Tryf.ntmps119
  go_wp2_with fail
  go_ret
  exact ⟨[], rfl, rfl, Nat.le_refl _, _, rfl, HC.out, Upd.refl _ _, .inl rfl⟩

set_option maxRecDepth 100000 in
set_option maxHeartbeats 2000000 in
theorem rsh_main (v0 : Value) (xs : List Nat) (s : Nat) (w : World) (hv : Own .u64 w 0 93 v0 xs) (hl : xs.length ≤ 17592186044416) (hpos : 0 < xs.length) (hs : 0 < s) (hst : s < 64) :
    Calls Tryf.prog 119 #[v0, v0, .int .u64 (s : Nat)] w (NatVR v0 (val xs / 2 ^ s) xs.length w) := by
  obtain ⟨gx, cx, curx, hf, hcx1, hcx2, hgx, hsx, hxc⟩ := own_open hv hpos
  have hxb : ∀ q ∈ xs, q < 18446744073709551616 := hv.1
  generalize hm : xs.length = m at *
  subst hf
  have HM := Lib.hid hm
  have HV := Lib.hid hv
  have HXB := Lib.hid hxb
  have HXC0 := Lib.hid hxc
  clear hv hxb hxc hgx hm
  have hb0 : ((s : Int) == 0) = false := by simp; omega
  have hd : (s : Int) / 64 = 0 := by omega
  have hmo : (s : Int) % 64 = (s : Int) := by omega
  have hmz : decide ((m : Int) ≤ 0) = false := by simp; omega
  have hcall := fun args w => rshVU_call args w
  go_enter Tryf.func119, Tryf.ntmps119
  go_wp2_with fail
  refine (make_any _ _ m _ _ HV.out.2 (by omega)).mono ?_
  rintro e w1 ⟨z, zs, rfl, hown, hor⟩
  obtain ⟨g, cap, cur, rfl, hcap1, hcap2, hg, hsz⟩ := row_open hown hpos
  have hext : Ext w w1 := by rcases hor with ⟨rfl, _⟩ | ⟨_, h⟩; exact Ext.refl _; exact h
  have hxc1 : ∀ i, i < m → w1.cell? ⟨gx, 0 + i, none⟩ = some (.int .u64 (xs.getD i 0 : Nat)) := fun i hi => hext.cell (HXC0.out i hi)
  have HXC := Lib.hid hxc1
  have HMK := Lib.hid (MakeR.upd hor)
  have HG := Lib.hid hg
  clear hown hor hext hxc1 hg HXC0
  go_wp2_with fail
  refine (rshVU_any g 0 cap gx 0 cx m s cur 93 xs _ HG.out (by omega) hpos (by omega) hs hst ⟨by omega, by omega⟩ ⟨by omega, by omega⟩ HM.out HXB.out HXC.out (fun _ => rfl)).mono ?_
  rintro e wz ⟨c, rfl, huz, hrow⟩
  have hln : (shrL s xs).length = m := by rw [shr_len, HM.out]
  have hown := own_put hrow (cap := cap) (by omega) (by omega) (by omega) (shr_lt s hst hs xs HXB.out)
  rw [hln] at hown
  have HFIN := Lib.hid (nat_done (w := w) HMK.out huz)
  have HOWN := Lib.hid hown
  have HVAL : Hid (val (norm (shrL s xs)) = val xs / 2 ^ s ∧ (norm (shrL s xs)).length ≤ m) := Lib.hid ⟨by rw [val_norm, shr_val s hst], by have := norm_length_le (shrL s xs); omega⟩
  clear hown hrow huz hcall hln
  go_wp2_with fail
  refine (norm_own 0 93 _ (shrL s xs) _ HOWN.out).mono ?_
  rintro e wn ⟨⟨v', rfl, ho, hob⟩, rfl⟩
  obtain ⟨a', c', rfl⟩ := ho.form
  have HO := Lib.hid ho
  have HOB := Lib.hid hob
  clear ho hob
  go_wp2_with fail
  go_ret
  exact ⟨norm (shrL s xs), norm_norm _, HVAL.out.1, HVAL.out.2, _, rfl, HO.out, HFIN.out.1, HFIN.out.2 _ HOB.out⟩

theorem rsh_any (v0 : Value) (xs : List Nat) (s : Nat) (w : World) (hv : Own .u64 w 0 93 v0 xs) (hl : xs.length ≤ 17592186044416) (hs : 0 < s) (hst : s < 64) :
    Calls Tryf.prog 119 #[v0, v0, .int .u64 (s : Nat)] w (NatVR v0 (val xs / 2 ^ s) xs.length w) := by
  rcases Nat.eq_zero_or_pos xs.length with h0 | h0
  · have : xs = [] := List.eq_nil_of_length_eq_zero h0
    subst this
    have := rsh_nil v0 s w hv hs hst
    simpa [val] using this
  · exact rsh_main v0 xs s w hv hl h0 hs hst

/-- The first k words and the last k are exchanged. -/
def RevK (xs ys : List Nat) (k : Nat) : Prop := ys.length = xs.length ∧ ∀ t, t < xs.length → ys.getD t 0 = if t < k ∨ xs.length - k ≤ t then xs.getD (xs.length - 1 - t) 0 else xs.getD t 0

theorem RevK.fin {xs ys : List Nat} {k : Nat} (h : RevK xs ys k) (hk : xs.length ≤ 2 * k + 1) : ys = xs.reverse := by
  obtain ⟨h1, h2⟩ := h
  apply List.ext_getElem?
  intro t
  by_cases ht : t < xs.length
  · have h3 := h2 t ht
    have e : xs.reverse[t]? = some (xs.getD (xs.length - 1 - t) 0) := by
      rw [List.getElem?_reverse ht, List.getD_eq_getElem?_getD, List.getElem?_eq_getElem (by omega)]
      rfl
    rw [e, List.getElem?_eq_getElem (by omega)]
    rw [List.getD_eq_getElem?_getD, List.getElem?_eq_getElem (by omega)] at h3
    simp only [Option.getD_some] at h3
    rw [h3]
    by_cases hc : t < k ∨ xs.length - k ≤ t
    · rw [if_pos hc]
    · rw [if_neg hc, show xs.length - 1 - t = t by omega]
  · rw [List.getElem?_eq_none (by omega), List.getElem?_eq_none (by simp; omega)]

theorem RevK.step {xs ys : List Nat} {k j : Nat} (h : RevK xs ys k) (hj : j + k + 1 = xs.length) (hkj : k < j) : RevK xs ((ys.set k (xs.getD j 0)).set j (xs.getD k 0)) (k + 1) := by
  obtain ⟨h1, h2⟩ := h
  refine ⟨by simp [h1], fun t ht => ?_⟩
  rw [List.getD_eq_getElem?_getD, List.getElem?_set, List.length_set]
  by_cases htj : j = t
  · subst htj
    rw [if_pos rfl, if_pos (by omega), if_pos (by omega), show xs.length - 1 - j = k by omega]
    rfl
  · rw [if_neg htj, List.getElem?_set]
    by_cases htk : k = t
    · subst htk
      rw [if_pos rfl, if_pos (by omega), if_pos (by omega), show xs.length - 1 - k = j by omega]
      rfl
    · rw [if_neg htk, ← List.getD_eq_getElem?_getD, h2 t ht]
      by_cases hc : t < k ∨ xs.length - k ≤ t
      · rw [if_pos hc, if_pos (by omega)]
      · rw [if_neg hc, if_neg (by omega)]

def RevL (w : World) (v0 : Value) (base : Nat) (xs : List Nat) (v2 v3 : Value) (wr : World) : Prop :=
  ∃ (k : Nat) (ys : List Nat), 2 * k ≤ xs.length + 1 ∧ v2 = .int .i64 (k : Nat) ∧ v3 = .int .i64 ((xs.length : Int) - 1 - k) ∧ RevK xs ys k ∧ Own .u64 wr base 93 v0 ys ∧ Upd (fun q => v0.ownBlock = some q) w wr

theorem ownsRow_base0 {w : World} {b b' : Nat} {E : TypeId} {v : Value} {n : Nat} {xs : List Value} (h : w.ownsRow b E 1 v n xs) (hb : b' ≤ b) : w.ownsRow b' E 1 v n xs := by
  refine ⟨h.1, ?_⟩
  rcases h.2 with hn | ⟨g, cap, cur, h1, h2, rest⟩
  · exact .inl hn
  · exact .inr ⟨g, cap, cur, h1, Nat.le_trans hb h2, rest⟩

theorem ownsRow_blk {w : World} {b g n cp : Nat} {E : TypeId} {xs : List Value} (h : w.ownsRow b E 1 (.slice (some ⟨g, 0, none⟩) n cp) n xs) : b ≤ g := by
  rcases h.2 with ⟨h1, _⟩ | ⟨g', cap, cur, h1, h2, _⟩
  · simp at h1
  · simp at h1; omega

theorem ownsRow_up' {w : World} {b g n cp : Nat} {E : TypeId} {xs : List Value} (h : w.ownsRow 0 E 1 (.slice (some ⟨g, 0, none⟩) n cp) n xs) (hb : b ≤ g) : w.ownsRow b E 1 (.slice (some ⟨g, 0, none⟩) n cp) n xs := by
  refine ⟨h.1, ?_⟩
  rcases h.2 with ⟨h1, _⟩ | ⟨g', cap, cur, h1, h2, rest⟩
  · simp at h1
  · refine .inr ⟨g', cap, cur, h1, ?_, rest⟩
    simp at h1; omega

theorem ownsRow_base' {w : World} {b : Nat} {E : TypeId} {v : Value} {n : Nat} {xs : List Value} (h : w.ownsRow b E 1 v n xs) : w.ownsRow 0 E 1 v n xs := ownsRow_base0 h (Nat.zero_le _)

theorem Own.set {w : World} {base g n cap : Nat} {ys : List Nat} (h : Own .u64 w base 93 (.slice (some ⟨g, 0, none⟩) n cap) ys) (hn : n = ys.length) (k x : Nat) (hk : k < n) (hx : x < 18446744073709551616) : Own .u64 (w.setCell ⟨g, k, none⟩ (.int .u64 (x : Nat))) base 93 (.slice (some ⟨g, 0, none⟩) n cap) (ys.set k x) := by
  subst hn
  have h0 := ownsRow_base' h.2
  have := ownsRow_set h0 k hk (.int .u64 (x : Nat))
  refine ⟨fun q hq => ?_, ?_⟩
  · rcases List.mem_or_eq_of_mem_set hq with h1 | h1
    · exact h.1 q h1
    · subst h1; exact hx
  · rw [List.length_set]
    have hb := ownsRow_blk h.2
    refine ownsRow_up' ?_ hb
    rw [show words IntKind.u64 (ys.set k x) = (words .u64 ys).set k (.int .u64 (x : Nat)) by simp [words, List.map_set]]
    exact this

end Go.Proofs.YtocadbghhoibnaaFmt

/- slices.Reverse over a row of words: contract. -/
namespace Go.Proofs.YtocadbghhoibnaaFmt
open Go.RowKit

def RevR (w : World) (v0 : Value) (base : Nat) (xs : List Nat) (e : Ending) (w' : World) : Prop :=
  e = .returned (.tuple #[]) ∧ Own .u64 w' base 93 v0 xs.reverse ∧ Upd (fun q => v0.ownBlock = some q) w w'

theorem reverse_nil (v0 : Value) (w : World) (hv : Own .u64 w 0 93 v0 []) :
    Calls Tryf.prog 118 #[v0] w (RevR w v0 0 []) := by
  obtain ⟨a, c0, rfl⟩ := hv.form
  have HV := Lib.hid hv
  clear hv
  simp only [List.length_nil] at *
  go_enter Tryf.func118, Tryf.ntmps118
  go_wp2_with fail
  go_loopw [2, 3] (fun v2 v3 wr => v2 = .int .i64 0 ∧ v3 = .int .i64 (-1) ∧ wr = w) (fun _ _ _ => 0)
  case atStart => exact ⟨rfl, rfl, rfl⟩
  case round =>
    obtain ⟨rfl, rfl, rfl⟩ := hrel
    go_wp2_with fail
    go_end0
    exact ⟨rfl, HV.out, Upd.refl _ _⟩

set_option maxRecDepth 100000 in
set_option maxHeartbeats 2000000 in
theorem reverse_main (v0 : Value) (xs : List Nat) (w : World) (hv : Own .u64 w 0 93 v0 xs) (hl : xs.length ≤ 17592186044417) (hpos : 0 < xs.length) :
    Calls Tryf.prog 118 #[v0] w (RevR w v0 0 xs) := by
  obtain ⟨gx, cx, curx, hf, hcx1, hcx2, hgx, hsx, hxc⟩ := own_open hv hpos
  generalize hm : xs.length = m at *
  subst hf
  have HM := Lib.hid hm
  have HV := Lib.hid hv
  clear hv hxc hgx hm
  go_enter Tryf.func118, Tryf.ntmps118
  go_wp2_with fail
  go_loopw [2, 3] (fun v2 v3 wr => RevL w (.slice (some ⟨gx, 0, none⟩) m cx) 0 xs v2 v3 wr) (fun v2 _ _ => m + 1 - (intOf v2).toNat)
  case atStart => exact ⟨0, xs, by omega, rfl, by rw [HM.out]; simp, ⟨rfl, fun t ht => by rw [if_neg (by omega)]⟩, HV.out, Upd.refl _ _⟩
  case round =>
    obtain ⟨k, ys, hk, rfl, rfl, hr, ho, hu⟩ := hrel
    rw [HM.out] at hk ⊢
    by_cases hlt : 2 * k + 1 < m
    · obtain ⟨j, hj⟩ : ∃ j, j + k + 1 = m := ⟨m - 1 - k, by omega⟩
      have hji : (m : Int) - 1 - (k : Int) = (j : Int) := by omega
      rw [hji]
      have hxk := (hr.2 k (by rw [HM.out]; omega)).trans (if_neg (by rw [HM.out]; omega))
      have hxj := (hr.2 j (by rw [HM.out]; omega)).trans (if_neg (by rw [HM.out]; omega))
      have hyl : ys.length = m := by rw [hr.1, HM.out]
      obtain ⟨gy, cy, cury, hfy, hcy1, hcy2, hgy, hsy, hyc⟩ := own_open ho (by omega)
      simp only [Value.slice.injEq, Option.some.injEq, Addr.mk.injEq] at hfy
      obtain ⟨⟨rfl, -⟩, -, rfl⟩ := hfy
      have ck := hyc k (by omega)
      have cj := hyc j (by omega)
      have fk := blk_free hgy (0 + k)
      have fj := blk_free hgy (0 + j)
      rw [hxk] at ck
      rw [hxj] at cj
      simp only [Nat.zero_add] at ck cj fk fj
      have hxb : ∀ q ∈ xs, q < 18446744073709551616 := HV.out.1
      have b1 : xs.getD j 0 < 18446744073709551616 := getD_lt hxb (by omega) j
      have b2 : xs.getD k 0 < 18446744073709551616 := getD_lt hxb (by omega) k
      have hnew : ∀ wq : World, Own .u64 wq 0 93 (.slice (some ⟨gx, 0, none⟩) m cx) ys → Upd (fun q => (Value.slice (some ⟨gx, 0, none⟩) m cx).ownBlock = some q) w wq → RevL w (.slice (some ⟨gx, 0, none⟩) m cx) 0 xs (.int .i64 ((k + 1 : Nat) : Int)) (.int .i64 ((j : Int) - 1)) ((wq.setCell ⟨gx, k, none⟩ (.int .u64 (xs.getD j 0 : Nat))).setCell ⟨gx, j, none⟩ (.int .u64 (xs.getD k 0 : Nat))) := by
        intro wq h1 h2
        refine ⟨k + 1, (ys.set k (xs.getD j 0)).set j (xs.getD k 0), by rw [HM.out]; omega, rfl, by rw [HM.out]; congr 1; omega, hr.step (by rw [HM.out]; omega) (by omega), ?_, (h2.setCell (by rfl) _).setCell (by rfl) _⟩
        exact (h1.set hyl.symm k _ (by omega) b1).set (by simp [hyl]) j _ (by omega) b2
      have HNEW := Lib.hid hnew
      have HO := Lib.hid ho
      have HU := Lib.hid hu
      generalize xs.getD j 0 = xj at *
      generalize xs.getD k 0 = xk at *
      have ne1 : k ≠ j := by omega
      have i1 : (0 : Int) ≤ (k : Int) := by omega
      have i2 : (k : Int) < (m : Int) := by omega
      have i3 : (0 : Int) ≤ (j : Int) := by omega
      have i4 : (j : Int) < (m : Int) := by omega
      have i5 : (k : Int) < (j : Int) := by omega
      clear hnew hr ho hu hxk hxj hgy hyc hxb
      go_wp2_with fail
      go_region
      go_wp2_with fail
      go_roundw
      case rel => exact HNEW.out wr.drew (Own.ext HO.out ⟨rfl, rfl, rfl, Nat.le_refl _, fun _ _ => rfl⟩) HU.out.drew
      case measure => simp [intOf]; omega
    · have hx : ys = xs.reverse := hr.fin (by rw [HM.out]; omega)
      have HR : Hid (RevR w (.slice (some ⟨gx, 0, none⟩) m cx) 0 xs (.returned (.tuple #[])) wr) := Lib.hid ⟨rfl, hx ▸ ho, hu⟩
      clear hr ho hu hx
      go_wp2_with fail
      go_end0
      exact HR.out

theorem reverse_any (v0 : Value) (xs : List Nat) (w : World) (hv : Own .u64 w 0 93 v0 xs) (hl : xs.length ≤ 17592186044417) :
    Calls Tryf.prog 118 #[v0] w (RevR w v0 0 xs) := by
  rcases Nat.eq_zero_or_pos xs.length with h0 | h0
  · have : xs = [] := List.eq_nil_of_length_eq_zero h0
    subst this
    exact reverse_nil v0 w hv
  · exact reverse_main v0 xs w hv hl h0

end Go.Proofs.YtocadbghhoibnaaFmt

/- The bytes of a text, and what the library's scan makes of them: plain laws. -/
namespace Go.Proofs.YtocadbghhoibnaaFmt
open Go.RowKit

/-- The bytes of a text from place i on. -/
def bts (s : ByteArray) (i : Nat) : List Nat := (s.data.toList.drop i).map UInt8.toNat

theorem bts_len (s : ByteArray) (i : Nat) : (bts s i).length = s.size - i := by
  unfold bts
  rw [List.length_map, List.length_drop, Array.length_toList]; rfl

theorem bts_nil {s : ByteArray} {i : Nat} (h : s.size ≤ i) : bts s i = [] := by
  apply List.eq_nil_of_length_eq_zero
  rw [bts_len]; omega

theorem bts_cons {s : ByteArray} {i : Nat} (h : i < s.size) : bts s i = s[i].toNat :: bts s (i + 1) := by
  unfold bts
  have h1 : i < s.data.toList.length := by rw [Array.length_toList]; exact h
  rw [List.drop_eq_getElem_cons h1, List.map_cons]
  congr 1

theorem bts_drop (s : ByteArray) (i k : Nat) : (bts s i).drop k = bts s (i + k) := by
  unfold bts
  rw [← List.map_drop, List.drop_drop]

theorem bts_lt (s : ByteArray) (i : Nat) : ∀ x ∈ bts s i, x < 256 := by
  intro x hx
  unfold bts at hx
  obtain ⟨y, _, rfl⟩ := List.mem_map.1 hx
  exact y.toNat_lt

/-- A byte read, or the end told. -/
def Rd1 (s : ByteArray) (a0 : Addr) (i : Nat) (c : Nat) (ev : Value) (j : Nat) : Prop :=
  (i < s.size ∧ bts s i = c :: bts s (i + 1) ∧ c < 256 ∧ ev = .nilIface ∧ j = i + 1) ∨ (s.size = i ∧ bts s i = [] ∧ c = 0 ∧ ev = errAt a0 ∧ j = i)

theorem readByte_any (p : Nat) (s : ByteArray) (i : Nat) (a0 a1 a2 : Addr) (w : World) (h : RdrAt p s i w) (hs : s.size ≤ 9223372036854775800) (hi : i ≤ s.size) (hS : Sent a0 a1 a2 w) (hp : 3 ≤ p) :
    Calls Tryf.prog 148 #[.pointer (some ⟨p, 0, none⟩)] w fun e w' => ∃ (c : Nat) (ev : Value) (j : Nat), e = .returned (.tuple #[.int .u8 (c : Nat), ev]) ∧ Rd1 s a0 i c ev j ∧ RdrAt p s j w' ∧ Upd (· = p) w w' := by
  by_cases hlt : i < s.size
  · exact (readByte_some p s i w h hlt (by omega)).mono fun e w' ⟨h1, h2, h3⟩ => ⟨_, _, _, h1, .inl ⟨hlt, bts_cons hlt, s[i].toNat_lt, rfl, rfl⟩, h2, h3⟩
  · exact (readByte_eof p s i a0 a1 a2 w h (by omega) (by omega) hS hp).mono fun e w' ⟨h1, h2, h3⟩ => ⟨0, _, _, h1, .inr ⟨by omega, bts_nil (by omega), rfl, rfl, rfl⟩, h2, h3⟩

/-- All read, and no digit among it, but something: the last byte was an underscore. -/
theorem scRun_none (u : Bool) (b : Nat) : ∀ (l : List Nat) (st : Sc), l ≠ [] → (scRun u b st l).2 = [] → (scRun u b st l).1.ct = 0 → (scRun u b st l).1.pv = 95
  | [], st, h, _, _ => absurd rfl h
  | c :: cs, st, _, h1, h2 => by
    have mono : ∀ (l : List Nat) (st : Sc), st.ct ≤ (scRun u b st l).1.ct := by
      intro l
      induction l with
      | nil => intro st; exact Nat.le_refl _
      | cons c cs ih =>
        intro st
        unfold scRun
        cases hs : scStep u b st c with
        | none => exact Nat.le_refl _
        | some st' =>
          refine Nat.le_trans ?_ (ih st')
          unfold scStep at hs
          split at hs
          · cases hs; exact Nat.le_refl _
          · split at hs
            · cases hs
            · cases hs; exact Nat.le_succ _
    unfold scRun at h1 h2 ⊢
    cases hs : scStep u b st c with
    | none => rw [hs] at h1; cases h1
    | some st' =>
      rw [hs] at h1 h2
      simp only at h1 h2 ⊢
      have hm := mono cs st'
      unfold scStep at hs
      split at hs
      · cases hs
        cases cs with
        | nil => rfl
        | cons c' cs' => exact scRun_none u b (c' :: cs') _ (by simp) h1 h2
      · split at hs
        · cases hs
        · cases hs
          simp only at hm
          omega

theorem scRun_ge (u : Bool) (b : Nat) (hb : 1 ≤ b) : ∀ (l : List Nat) (st : Sc), st.v ≤ (scRun u b st l).1.v
  | [], st => Nat.le_refl _
  | c :: cs, st => by
    unfold scRun
    cases hs : scStep u b st c with
    | none => exact Nat.le_refl _
    | some st' =>
      refine Nat.le_trans ?_ (scRun_ge u b hb cs st')
      unfold scStep at hs
      split at hs
      · cases hs; exact Nat.le_refl _
      · split at hs
        · cases hs
        · cases hs
          show st.v ≤ st.v * b + dgv c b
          have := Nat.mul_le_mul_left st.v hb
          omega

/-- What is known ahead of the digits. -/
structure Pre (s : ByteArray) (a0 : Addr) (base i0 : Nat) (b q ch j pre : Nat) (ev : Value) (st : Sc) : Prop where
  b2 : 2 ≤ b
  b62 : b ≤ 62
  rd : Rd1 s a0 q ch ev j
  iq : i0 ≤ q
  qs : q ≤ s.size
  iv : st.iv = false
  v : st.v = 0
  ct : st.ct + i0 ≤ q
  pv : st.pv = 46 ∨ st.pv = 48
  pc : st.pv = 46 → st.ct = 0
  p48 : pre = 48 → q < s.size
  bb : b = base ∨ b = 2 ∨ b = 8 ∨ b = 10 ∨ b = 16
  b0 : base ≠ 0 → b = base
  law : ∀ n, natS (bts s i0) base = some n ↔ scOk (scRun (decide (base = 0)) b st (bts s q)) ∧ (scRun (decide (base = 0)) b st (bts s q)).1.v = n

theorem pre_base {s : ByteArray} {a0 : Addr} {base i0 c j : Nat} {ev : Value} (h2 : 2 ≤ base) (h62 : base ≤ 62) (hi : i0 ≤ s.size) (hr : Rd1 s a0 i0 c ev j) : Pre s a0 base i0 base i0 c j 0 ev ⟨46, false, 0, 0⟩ := by
  refine ⟨h2, h62, hr, Nat.le_refl _, hi, rfl, rfl, by simp, .inl rfl, by simp, by simp, .inl rfl, fun _ => rfl, ?_⟩
  intro n
  have := run_same false base h62 (bts s i0) ⟨46, false, 0, 0⟩ rfl n
  rw [show decide (base = 0) = false by simp; omega]
  unfold natS
  rw [if_neg (by omega)]
  exact this

theorem pre_ten {s : ByteArray} {a0 : Addr} {i0 c j : Nat} {ev : Value} (hi : i0 ≤ s.size) (hr : Rd1 s a0 i0 c ev j) (hc : ∀ t, bts s i0 ≠ 48 :: t) : Pre s a0 0 i0 10 i0 c j 0 ev ⟨46, false, 0, 0⟩ := by
  refine ⟨by omega, by omega, hr, Nat.le_refl _, hi, rfl, rfl, by simp, .inl rfl, by simp, by simp, by simp, by simp, ?_⟩
  intro n
  have := run_same true 10 (by omega) (bts s i0) ⟨46, false, 0, 0⟩ rfl n
  have e : pfx (bts s i0) = (10, 0) := by
    cases hl : bts s i0 with
    | nil => rfl
    | cons a t =>
      cases t with
      | nil => unfold pfx; split <;> simp_all
      | cons b t =>
        unfold pfx
        split
        · rename_i hq; simp at hq; exact absurd (hl.trans (by rw [hq.1])) (hc _)
        · rfl
  unfold natS
  rw [if_pos rfl, e]
  exact this

theorem pre_zero {s : ByteArray} {a0 : Addr} {i0 : Nat} {c j : Nat} {ev : Value} (hi : i0 + 1 ≤ s.size) (h1 : bts s i0 = 48 :: bts s (i0 + 1)) (h2 : bts s (i0 + 1) = []) (hr : Rd1 s a0 (i0 + 1) c ev j) : Pre s a0 0 i0 10 (i0 + 1) c j 0 ev ⟨48, false, 1, 0⟩ := by
  refine ⟨by omega, by omega, hr, by omega, hi, rfl, rfl, by simp; omega, .inr rfl, by simp, by simp, by simp, by simp, ?_⟩
  intro n
  have := run_same true 10 (by omega) (bts s (i0 + 1)) ⟨48, false, 1, 0⟩ rfl n
  unfold natS
  rw [if_pos rfl, h1, h2]
  rw [h2] at this
  refine Iff.trans ?_ this
  rfl

theorem pre_pfx {s : ByteArray} {a0 : Addr} {i0 c c2 j b k pre : Nat} {ev : Value} (hi : i0 + k ≤ s.size) (hk : 1 ≤ k) (h1 : bts s i0 = 48 :: c2 :: bts s (i0 + 2)) (hp : pfx (48 :: c2 :: bts s (i0 + 2)) = (b, k)) (hb : b = 2 ∨ b = 8 ∨ b = 10 ∨ b = 16) (hpre : pre = 48 → i0 + k < s.size) (hr : Rd1 s a0 (i0 + k) c ev j) : Pre s a0 0 i0 b (i0 + k) c j pre ev ⟨48, false, 0, 0⟩ := by
  refine ⟨by omega, by omega, hr, by omega, hi, rfl, rfl, by simp, .inr rfl, by simp, hpre, .inr hb, by simp, ?_⟩
  intro n
  have := run_same true b (by omega) (bts s (i0 + k)) ⟨48, false, 0, 0⟩ rfl n
  unfold natS
  rw [if_pos rfl]
  rw [← h1] at hp
  rw [hp, show decide (0 < k) = true by simp; omega, bts_drop]
  exact this

end Go.Proofs.YtocadbghhoibnaaFmt

/- setUint64, (*Int).SetUint64, impl.SetUint64, impl.Bits, impl.SetBits: contracts by values. -/
namespace Go.Proofs.YtocadbghhoibnaaFmt
open Go.RowKit

theorem natSetUint64_any (v0 : Value) (vs : List Nat) (x : Nat) (w : World) (h : Own .u64 w 0 93 v0 vs) (hx : x < 18446744073709551616) :
    Calls Tryf.prog 86 #[v0, .int .u64 x] w (NatR v0 (norm [x]) w) := by
  have hb0 : ((x : Int) == (x : Int)) = true := by simp
  have HO := Lib.hid h
  have HX := Lib.hid hx
  obtain ⟨a, c, rfl⟩ := h.form
  clear h hx
  go_enter Tryf.func86, Tryf.ntmps86
  go_wp2_with fail
  refine (setWord_any _ vs x _ HO.out HX.out).mono ?_
  rintro e w1 ⟨v', rfl, ho, hu, hor⟩
  have H1 := Lib.hid ho
  have H2 := Lib.hid hu
  have H3 := Lib.hid hor
  clear ho hu hor
  go_wp2_with fail
  go_ret
  exact ⟨_, rfl, H1.out, H2.out, H3.out⟩

/-- The words and the sign of an Int, stored. -/
theorem intAt_store {w : World} {p : Nat} {x y v : Value} {n : Bool} {ws : List Nat} (hp : w.heap[p]? = some (.cells #[x, y] 82 (0, 0))) (ho : Own .u64 w 0 93 v ws) :
    IntAt ((w.setCell ⟨p, 1, none⟩ v).setCell ⟨p, 0, none⟩ (.bool n)) 0 p n ws ∧ Upd (· = p) w ((w.setCell ⟨p, 1, none⟩ v).setCell ⟨p, 0, none⟩ (.bool n)) := by
  have hu : Upd (· = p) w ((w.setCell ⟨p, 1, none⟩ v).setCell ⟨p, 0, none⟩ (.bool n)) := ((Upd.refl (· = p) _).setCell (by rfl) _).setCell (by rfl) _
  exact ⟨⟨v, blk2_set0 (blk2_set1 hp v) _, ho.upd hp (by decide) hu⟩, hu⟩

theorem Own.zero {k : IntKind} {w : World} {base : Nat} {E : TypeId} {v : Value} {ws : List Nat} (h : Own k w base E v ws) : Own k w 0 E v ws := h.mono (Nat.zero_le _)

theorem Own.not {w : World} {base p : Nat} {E T : TypeId} {v : Value} {ws : List Nat} {cs : Array Value} {fr : Nat × Nat} {k : IntKind} (h : Own k w base E v ws) (hp : w.heap[p]? = some (.cells cs T fr)) (hT : T ≠ E) : v.ownBlock ≠ some p := by
  rcases h.2.2 with ⟨rfl, _⟩ | ⟨g, cap, cur, rfl, hb', hg, rest⟩
  · simp [Value.ownBlock]
  · intro e
    simp [Value.ownBlock] at e
    subst e
    rw [hg] at hp; simp at hp; exact hT hp.2.1.symm

theorem intSetUint64_any (p : Nat) (n : Bool) (vs : List Nat) (x : Nat) (w : World) (v0 : Value) (hp : w.heap[p]? = some (.cells #[.bool n, v0] 82 (0, 0))) (hv : Own .u64 w 0 93 v0 vs) (hx : x < 18446744073709551616) :
    Calls Tryf.prog 59 #[.pointer (some ⟨p, 0, none⟩), .int .u64 x] w fun e w' => e = .returned (.pointer (some ⟨p, 0, none⟩)) ∧ IntAt w' 0 p false (norm [x]) ∧ Upd (fun k => k = p ∨ v0.ownBlock = some k) w w' := by
  obtain ⟨a, c, rfl⟩ := hv.form
  have c0 := blk_cell hp 0
  have c1 := blk_cell hp 1
  simp at c0 c1
  have hnp := hv.not hp (by decide)
  have HP := Lib.hid hp
  have HV := Lib.hid hv
  have HX := Lib.hid hx
  have HNP := Lib.hid hnp
  clear hp hv hx hnp
  go_enter Tryf.func59, Tryf.ntmps59
  go_wp2_with fail
  refine (natSetUint64_any _ vs x _ HV.out HX.out).mono ?_
  rintro e w1 ⟨v', rfl, ho, hu, hor⟩
  have hp1 := hu.heap HP.out HNP.out
  obtain ⟨a', c', rfl⟩ := ho.form
  have d0 := blk_cell hp1 0
  have d1 := blk_cell hp1 1
  have f0 := blk_free hp1 0
  have f1 := blk_free hp1 1
  simp at d0 d1
  have HP1 := Lib.hid hp1
  have H1 := Lib.hid ho
  have H2 := Lib.hid hu
  clear ho hu hor hp1 c0 c1
  go_wp2_with fail
  go_ret
  obtain ⟨i1, i2⟩ := intAt_store (n := false) HP1.out H1.out
  exact ⟨rfl, i1, (H2.out.trans i2).mono (fun k hk q => q.elim .inr .inl)⟩

theorem ownNil (w : World) (E : TypeId) : Own .u64 w 0 E (.slice none 0 0) [] := ⟨by simp, World.ownsRow_nil w 0 E 1⟩

theorem implSetUint64_z (x : Nat) (w : World) (hx : x < 18446744073709551616) :
    Calls Tryf.prog 39 #[.int .u64 x] w (ResR (IsC 1 (x : Int)) w) := by
  have HX := Lib.hid hx
  clear hx
  go_enter Tryf.func39, Tryf.ntmps39
  go_wp2_with fail
  refine (intSetUint64_any (w.heap.size + 1) false [] x _ (.slice none 0 0) (heap_second _ _ _) (ownNil _ _) HX.out).mono ?_
  rintro e w1 ⟨rfl, hI, hu⟩
  have hE : Ext w w1 := hu.ext ((Ext.alloc _ _).trans (Ext.alloc _ _)) (fun i q => by rcases q with q | q; omega; simp [Value.ownBlock] at q)
  have hp : w1.heap[w.heap.size]? = some (.cells #[.bool false, .slice none 0 0] 33 (0, 0)) := hu.heap ((Ext.alloc _ _).block (heap_alloc_new _ _)) (by simp [Value.ownBlock])
  have hIZ : IntZ 1 (x : Int) w1 0 (w.heap.size + 1) := by
    refine ⟨norm [x], ?_, norm_norm _, ?_, ?_⟩
    · rw [show decide ((x : Int) < 0) = false by simp]; exact hI
    · rw [val_norm]; simp [val]
    · have := norm_length_le [x]; simpa using this
  have HIZ := Lib.hid hIZ
  have HE := Lib.hid hE
  have HP := Lib.hid hp
  clear hI hu hE hp hIZ
  go_wp2_with fail
  refine (number_z 1 _ 0 _ _ HIZ.out (by omega)).mono ?_
  rintro e w2 ⟨he, y, rfl, s, ws, rfl, ho, h3⟩
  obtain ⟨a', c', rfl⟩ := ho.form
  have hp2 := he.block HP.out
  have d0 := blk_cell hp2 0
  have d1 := blk_cell hp2 1
  have f0 := blk_free hp2 0
  have f1 := blk_free hp2 1
  simp at d0 d1
  have HP2 := Lib.hid hp2
  have HE2 := Lib.hid (HE.out.trans he)
  have H3 := Lib.hid h3
  clear he hp2 h3
  generalize hd : decide ((x : Int) < 0) = nn at *
  have HD := Lib.hid hd
  clear hd
  go_wp2_with fail
  obtain ⟨e0, e1, hu⟩ := set2 HP2.out (.bool nn) (.slice a' ws.length c')
  exact bodyPost_ret (results_impl rfl _ rfl e0 e1) rfl ⟨hu.ext HE2.out (by omega), _, rfl, _, ws, by rw [HD.out], ho.upd HP2.out (by decide) hu, H3.out⟩

theorem field_words (n : Bool) (a : Option Addr) (l c : Nat) (w : World) : (Instr.field 33 (.agg #[.bool n, .slice a l c]) 1).run Tryf.prog w = .ok (.slice a l c) w := by kernel_rfl

end Go.Proofs.YtocadbghhoibnaaFmt

/- spec.double, spec.up: contracts. -/
namespace Go.Proofs.YtocadbghhoibnaaFmt
open Go.RowKit

/-- A row that a loop of the reference collects. -/
def Acc (B : Nat) (w0 : World) (ws : List Nat) (v : Value) (wr : World) : Prop :=
  (∀ x ∈ ws, x < 18446744073709551616) ∧ wr.ownsRow B 36 1 v ws.length (words .u64 ws) ∧ Below B w0 wr

theorem shlC_lt (s c : Nat) (hs : s ≤ 64) (xs : List Nat) (hc : c < 2 ^ s) (hb : ∀ x ∈ xs, x < 18446744073709551616) : shlC s c xs < 2 ^ s := by
  induction xs generalizing c with
  | nil => exact hc
  | cons x xs ih =>
    have e := pow_split hs
    have hp : 0 < 2 ^ (64 - s) := Nat.pow_pos (by decide)
    exact ih _ (by rw [Nat.div_lt_iff_lt_mul hp, Nat.mul_comm, e]; exact hb x (by simp)) (fun z hz => hb z (List.mem_cons_of_mem _ hz))

def DblL (w : World) (ws : List Nat) (low : Nat) (v1 v5 v6 : Value) (wr : World) : Prop :=
  ∃ k : Nat, k ≤ ws.length ∧ v6 = .int .i64 (k : Nat) ∧ v1 = .int .u64 (shlC 1 low (ws.take k) : Nat) ∧ Acc w.heap.size w (shlL 1 low (ws.take k)) v5 wr

theorem dbl_word {x c : Nat} (hx : x < 18446744073709551616) (hc : c < 2) : bits BinOp.or IntKind.u64 (IntKind.u64.wrap ((x : Int) * 2)) (c : Int) = (((x % 2 ^ 63) * 2 ^ 1 + c : Nat) : Int) := by
  have h1 : IntKind.u64.wrap ((x : Int) * 2) = (((x % 2 ^ 63) * 2 ^ 1 : Nat) : Int) := by
    rw [IntKind.wrap_u64]; omega
  rw [h1, bits_or_u64_nat _ _ (by omega) (by omega), or_parts _ _ _ (by omega)]

set_option maxHeartbeats 1000000 in
theorem double_any (v : Value) (ws : List Nat) (low : Nat) (w : World) (h : Rd .u64 w v ws) (hl : ws.length + 1 ≤ 17592186044416) (hlow : low < 2) :
    Calls Tryf.prog 71 #[v, .int .u64 (low : Nat)] w (WordsR .u64 36 (norm (shlL 1 low ws ++ [shlC 1 low ws])) w) := by
  have hbw : ∀ x ∈ ws, x < 18446744073709551616 := h.1
  obtain ⟨_, a, cap, rfl, hlc, hcap, hnil, hcells⟩ := h
  have HC := Lib.hid hcells
  have HB := Lib.hid hbw
  clear hcells hnil hbw
  obtain ⟨i0, hi, hz0, hz1, hz2⟩ := info_parts infoUint
  have HI := Lib.hid hi
  have HI0 := Lib.hid hz0
  have HI1 := Lib.hid hz1
  have HI2 := Lib.hid hz2
  clear hi hz0 hz1 hz2
  go_enter Tryf.func71, Tryf.ntmps71
  go_wp2_with fail
  go_loopw [1, 5, 6] (fun v1 v5 v6 wr => DblL w ws low v1 v5 v6 wr) (fun _ _ i _ => ws.length - (intOf i).toNat)
  case atStart => exact ⟨0, by omega, rfl, rfl, by simp [shlL], row_start .u64 _ _ _ _ rfl (Nat.le_refl _), (Below.refl _ _).alloc (Nat.le_refl _) _⟩
  case round =>
    obtain ⟨k, hk, rfl, rfl, hab, hown, hbel⟩ := hrel
    rw [shl_len, List.length_take, Nat.min_eq_left hk] at hown
    have hclt : shlC 1 low (ws.take k) < 2 := shlC_lt 1 low (by omega) _ (by omega) (fun x hx => HB.out x (List.mem_of_mem_take hx))
    generalize hcc : shlC 1 low (ws.take k) = c at *
    have HCC := Lib.hid hcc
    have hsz := hbel.size
    clear hcc
    by_cases hlt : k < ws.length
    · obtain ⟨b, off, rfl, hc0⟩ := HC.out k hlt
      have hbb : b < w.heap.size := World.block_lt_of_cell? w ⟨b, off + k, none⟩ hc0
      obtain ⟨x, hcell, HX⟩ : ∃ x : Nat, wr.cell? ⟨b, off + k, none⟩ = some (.int .u64 (x : Nat)) ∧ Hid (x = ws.getD k 0) := ⟨ws.getD k 0, by
        rw [hbel.cell (p := ⟨b, off + k, none⟩) hbb]; exact hc0, rfl⟩
      have hxlt : x < 18446744073709551616 := by rw [HX.out]; exact getD_lt HB.out (by omega) k
      have hsn := shl_snoc 1 low (ws.take k) x
      have htk : ws.take (k + 1) = ws.take k ++ [x] := by rw [List.take_succ_eq_append_getElem hlt, HX.out]; simp [hlt]
      rw [← htk, HCC.out, show 64 - 1 = 63 from rfl] at hsn
      have HSN := Lib.hid hsn
      have s1 := dbl_word hxlt hclt
      have HBEL := Lib.hid hbel
      have HAB := Lib.hid hab
      generalize hnw : (x % 2 ^ 63) * 2 ^ 1 + c = nw at *
      have hnwlt : nw < 18446744073709551616 := by omega
      have HNW := Lib.hid hnw
      clear hc0 hsn htk hbel hab hnw
      go_wp2_with (at_builtin; refine wpList_append_own _ rfl _ _ 24 rfl w.heap.size 36 i0 (.int .u64 0) 1 8 Tryf.underlying24 HI.out HI0.out HI1.out HI2.out rfl (by decide) _ _ _ rfl (hown.alloc _) ⟨wr.heap.size, 0, none⟩ 1 1 [.int .u64 (nw : Nat)] rfl rfl ?c1 ?c2 ?c3 ?c4 ?c5 ?_)
      case c1 => exact cell_one_new _ _ _
      case c2 => simp [Value.oneCell']
      case c3 => simp only [maxLen]; omega
      case c4 => omega
      case c5 => simp; omega
      intro v' w1 hown' hgrow _
      have hbel1 := ((HBEL.out.alloc (by omega) (.cells #[.int .u64 (nw : Nat)] 36)).grown hgrow (by simp; omega) (fun j hj => (hown.lt j hj).1))
      have hcell1 : w1.cell? ⟨b, off + k, none⟩ = some (.int .u64 (x : Nat)) := by
        rw [hbel1.cell (p := ⟨b, off + k, none⟩) hbb, ← HBEL.out.cell (p := ⟨b, off + k, none⟩) hbb]; exact hcell
      have hrel' : DblL w ws low (.int .u64 ((x / 2 ^ 63 : Nat) : Int)) v' (.int .i64 ((k + 1 : Nat) : Int)) w1 := by
        refine ⟨k + 1, by omega, rfl, by rw [HSN.out.2], ?_⟩
        rw [HSN.out.1]
        refine ⟨mem_snoc HAB.out hnwlt, ?_, hbel1⟩
        rw [List.length_append, shl_len, List.length_take, Nat.min_eq_left hk, words_app]
        exact hown'
      have HR := Lib.hid hrel'
      clear hrel' hown' hgrow hown hbel1 hcell s1
      go_wp2_with fail
      go_roundw
      case rel => exact HR.out
      case measure => simp [intOf]; omega
    · obtain rfl : k = ws.length := by omega
      rw [List.take_length] at *
      have HBEL := Lib.hid hbel
      have HAB := Lib.hid hab
      clear hbel hab
      go_wp2_with (at_builtin; refine wpList_append_own _ rfl _ _ 24 rfl w.heap.size 36 i0 (.int .u64 0) 1 8 Tryf.underlying24 HI.out HI0.out HI1.out HI2.out rfl (by decide) _ _ _ rfl (hown.alloc _) ⟨wr.heap.size, 0, none⟩ 1 1 [.int .u64 (c : Nat)] rfl rfl ?d1 ?d2 ?d3 ?d4 ?d5 ?_)
      case d1 => exact cell_one_new _ _ _
      case d2 => simp [Value.oneCell']
      case d3 => simp only [maxLen]; omega
      case d4 => omega
      case d5 => simp; omega
      intro v' w1 hown' hgrow _
      have hbel1 := ((HBEL.out.alloc (by omega) (.cells #[.int .u64 (c : Nat)] 36)).grown hgrow (by simp; omega) (fun j hj => (hown.lt j hj).1))
      have hE : Ext w w1 := hbel1
      have hrd : Rd .u64 w1 v' (shlL 1 low ws ++ [c]) := by
        refine ownsRow.read (base := w.heap.size) (E := 36) (n := ws.length + 1) ?_ (mem_snoc HAB.out (by show c < 18446744073709551616; omega))
        rw [words_app]; exact hown'
      have HE := Lib.hid hE
      have HRD := Lib.hid hrd
      clear hown' hgrow hown hbel1 hE hrd
      go_wp2_with fail
      refine (trim_any _ _ _ HRD.out (by simp [shl_len]; omega)).mono ?_
      rintro e w2 ⟨he, v2, rfl, ho⟩
      have HO := Lib.hid ho
      have HE2 := Lib.hid (HE.out.trans he)
      clear ho he
      go_wp2_with fail
      go_ret
      exact ⟨HE2.out, _, rfl, by rw [HCC.out]; exact HO.out⟩

theorem val_zeros' (q : Nat) (ys : List Nat) : val (List.replicate q 0 ++ ys) = 18446744073709551616 ^ q * val ys := by
  induction q with
  | zero => simp
  | succ q ih =>
    rw [List.replicate_succ, List.cons_append, val, ih, Nat.pow_succ, Nat.mul_comm (18446744073709551616 ^ q) 18446744073709551616, Nat.mul_assoc]; omega

/-- Words of value t come back, without zeros at their end, in new memory. -/
def SpecR (t L : Nat) (w : World) (e : Ending) (w' : World) : Prop :=
  Ext w w' ∧ ∃ v' rs, e = .returned v' ∧ Own .u64 w' 0 36 v' rs ∧ norm rs = rs ∧ val rs = t ∧ rs.length ≤ L

theorem len_of_val {rs : List Nat} {m : Nat} (hn : norm rs = rs) (h : val rs < 18446744073709551616 ^ m) : rs.length ≤ m := by
  rcases Nat.lt_or_ge m rs.length with h1 | h1
  · have h2 := norm_last hn (by intro e; rw [e] at h1; simp at h1)
    have h3 : 18446744073709551616 ^ m ≤ 18446744073709551616 ^ (rs.length - 1) := Nat.pow_le_pow_right (by decide) (by omega)
    omega
  · exact h1

/-- 'append(out, xs...)' with a nil xs. -/
theorem wpList_append_none {P : Program} {w : World} {ops : Array Oper} {rest : List Oper} {o : Oper} {a : Act} {Q : Exit → Act → World → Prop} (hgd : o.guard = none) (s x : Operand) (t : TypeId)
    (ho : o.op = .call { callee := .builtin .append, args := #[s, x], argTypes := #[t, t] }) (base : Nat) (e : TypeId) (i : TypeInfo) (size : Nat) (ht : P.underlying t = some (.slice e)) (hi : P.info? e = some i)
    (v : Value) (n : Nat) (xs : List Value) (hs : a.eval s = v) (hx : a.eval x = .slice none 0 0) (hown : w.ownsRow base e size v n xs) (h : wpList P ops Q rest (a.put o.dst v) w) : wpList P ops Q (o :: rest) a w := by
  refine wpList_plain hgd fun K hK => ?_
  have hr := run_append_owned_none (P := P) w base t o.type e i size ht hi v n xs hown
  unfold Oper.wp execOp
  simp only [ho, resolve, invoke, builtin, Sem.run_bind, Sem.run_pure, Result.andThen_ok, List.map_toArray, List.map_cons, List.map_nil, hs, hx, hr]
  exact hK _ _ h

theorem up_lt {v a k j : Nat} (h : v < 18446744073709551616 ^ a) (hj : j + 1 ≤ 64) : v * 18446744073709551616 ^ k * 2 ^ (j + 1) < 18446744073709551616 ^ (a + k + 1) := by
  have h5 : 2 ^ (j + 1) ≤ 2 ^ 64 := Nat.pow_le_pow_right (by decide) hj
  have e : (2 : Nat) ^ 64 = 18446744073709551616 := by rfl
  rw [e] at h5
  rw [Nat.pow_succ 18446744073709551616, Nat.pow_add 18446744073709551616]
  have h6 := pow_pos' k
  have h7 : v * 18446744073709551616 ^ k < 18446744073709551616 ^ a * 18446744073709551616 ^ k := Nat.mul_lt_mul_of_pos_right h h6
  exact Nat.lt_of_le_of_lt (Nat.mul_le_mul_left _ h5) (Nat.mul_lt_mul_of_pos_right h7 (by decide))

def UpZ (w : World) (q : Nat) (v5 v6 : Value) (wr : World) : Prop := ∃ k : Nat, k ≤ q ∧ v6 = .int .u64 (k : Nat) ∧ Acc w.heap.size w (List.replicate k 0) v5 wr

def UpD (w : World) (t m r : Nat) (v5 v7 : Value) (wr : World) : Prop := ∃ (j : Nat) (rs : List Nat), j ≤ r ∧ v7 = .int .u64 (j : Nat) ∧ Rd .u64 wr v5 rs ∧ val rs = t * 2 ^ j ∧ rs.length ≤ m ∧ Ext w wr

end Go.Proofs.YtocadbghhoibnaaFmt
