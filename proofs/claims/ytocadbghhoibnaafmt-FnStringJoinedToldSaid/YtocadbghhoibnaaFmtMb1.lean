/- Base texts of the seat, merged: VW, NatAdd, Cmp, Cmp2. -/
import Derived.Test.YtocadbghhoibnaaFmtMa2
import Derived.Test.YtocadbghhoibnaaFmtMa5
import Derived.StillTailTactics
import Derived.BigQuiet
import Derived.Deep.QuietTactic
set_option linter.unusedSimpArgs false
set_option linter.unusedVariables false

/- addVW, subVW: contracts (printed by gensum.py). -/
namespace Go.Proofs.YtocadbghhoibnaaFmt
open Go.RowKit

/-- What is left of a slice behind its first k elements. -/
def Sl (b o n k : Nat) (v : Value) (_ : World) : Prop := ∃ a c, v = .slice a (n - k) c ∧ (k < n → a = some ⟨b, o + k, none⟩)

theorem slice_from (b o n c k : Nat) (hk : k ≤ n) (hn : n ≤ c) : ∃ v, (∀ w, (Instr.sliceAt 79 (.slice (some ⟨b, o, none⟩) n c) (some (.int .i64 (k : Nat))) none none).run Tryf.prog w = .ok v w) ∧ ∀ w, Sl b o n k v w := by
  have hu : Tryf.prog.underlying 79 = some (.slice (Tryf.prog.elem 79)) := by kernel_rfl
  have hs : ∀ w, (sizeOf (Tryf.prog.elem 79)).run Tryf.prog w = .ok 1 w := fun w => by kernel_rfl
  refine ⟨_, fun w => by rw [run_sliceAt_slice (h := hu), run_slice_l (ht := hu) (h0 := by omega) (h1 := by omega), hs]; rfl, fun w => ⟨_, _, rfl, fun h => ?_⟩⟩
  rw [Int.toNat_natCast, if_neg (by omega)]
  simp [Addr.add]

theorem wpList_slice_v {P : Program} {w : World} {ops : Array Oper} {rest : List Oper} {o : Oper} {a : Act} {Q : Exit → Act → World → Prop} {t : TypeId} {x lo : Operand} {v : Value} (ho : o = { o with op := .slice t x (some lo) none none, guard := none })
    (hv : ∀ w, (Instr.sliceAt t (a.eval x) (some (a.eval lo)) none none).run P w = .ok v w) (h : wpList P ops Q rest (a.put o.dst v) w) : wpList P ops Q (o :: rest) a w := by
  have hg : o.guard = none := by rw [ho]
  have hop : o.op = .slice t x (some lo) none none := by rw [ho]
  refine wpList_plain hg fun K hK => ?_
  unfold Oper.wp execOp
  simp [hop, hv]
  exact hK _ _ h

theorem put_same (c : Array Value) (off : Nat) (l m : List Value) (h : off + l.length + m.length ≤ c.size) (hm : ∀ j, j < m.length → c[off + l.length + j]? = m[j]?) : put c off (l ++ m) = put c off l := by
  rw [← put_put _ _ _ _ h]
  have hs := put_size c off l (by omega)
  apply array_ext
  intro j
  rcases Nat.lt_or_ge j (off + l.length) with h1 | h1
  · rw [put_before _ _ _ _ (by omega) h1]
  · obtain ⟨i, rfl⟩ : ∃ i, j = off + l.length + i := ⟨j - (off + l.length), by omega⟩
    rcases Nat.lt_or_ge i m.length with h2 | h2
    · rw [put_in _ _ _ _ (by omega) h2, put_past _ _ _ _ (by omega) (by omega), hm i h2]
    · rw [put_past _ _ _ _ (by omega) (by omega)]

/-- The cells that are copied. -/
theorem vw_src {w : World} {xs : List Nat} {bx ox k n : Nat} (hl : xs.length = n) (hx : ∀ i, i < n → w.cell? ⟨bx, ox + i, none⟩ = some (.int .u64 (xs.getD i 0 : Nat))) :
    ∀ j v, (words .u64 (xs.drop k))[j]? = some v → w.cell? ((⟨bx, ox + k, none⟩ : Addr).add j) = some v := by
  intro j v hj
  have hjl : j < (xs.drop k).length := by have := (List.getElem?_eq_some_iff.1 hj).1; rwa [words_len] at this
  rw [List.length_drop] at hjl
  have := hx (k + j) (by omega)
  rw [Addr.add_lit, Nat.add_assoc, this, ← hj, words_get, List.getElem?_drop, List.getElem?_eq_getElem (by omega), List.getD_eq_getElem?_getD, List.getElem?_eq_getElem (by omega)]
  rfl

theorem neqWordSame (a : Addr) (w : World) : (binOp .neq 143 (.pointer (some a)) (.pointer (some a))).run Tryf.prog w = .ok (.bool false) w := by
  obtain ⟨j, h1, _⟩ := Option.map_eq_some_iff.1 infoWord
  exact Lib.run_neq_ptr_same w a Tryf.underlying143 h1

theorem neqWordOther {p q a b : Nat} (hpq : p ≠ q) {w : World} {c d : Array Value} {T U : TypeId} (hp : w.heap[p]? = some (.cells c T (0, 0))) (hq : w.heap[q]? = some (.cells d U (0, 0))) :
    (binOp .neq 143 (.pointer (some ⟨p, a, none⟩)) (.pointer (some ⟨q, b, none⟩))).run Tryf.prog w = .ok (.bool true) w := by
  obtain ⟨j, h1, h2⟩ := Option.map_eq_some_iff.1 sizeWord
  have h : ∀ d : Nat, (Op.equalIn (d + 1) 143 (.pointer (some ⟨p, a, none⟩)) (.pointer (some ⟨q, b, none⟩))).run Tryf.prog w = .ok false w := fun d => by
    simp [Op.equalIn, run_underlying Tryf.underlying143, sizeOf, typeInfo, h1, h2, run_sameAddr_other w (a := ⟨p, a, none⟩) (b := ⟨q, b, none⟩) (by simp [hpq]) hp hq]
  simp only [binOp]
  simp [Op.equal, Op.maxDepth, h 9999]

def vwAddR (w : World) (bz oz : Nat) (cz : Array Value) (T : TypeId) (xs : List Nat) (y n : Nat) (e : Ending) (w' : World) : Prop :=
  ∃ (ws : List Nat) (c : Nat), e = .returned (.int .u64 (c : Nat)) ∧ ws.length = n ∧ (∀ x ∈ ws, x < 18446744073709551616) ∧ c ≤ 1 ∧ (val ws + 18446744073709551616 ^ n * c = val xs + y) ∧ Upd (· = bz) w w' ∧ w'.heap[bz]? = some (.cells (put cz oz (words .u64 ws)) T (0, 0))

def vwAddL (w : World) (bz oz : Nat) (cz : Array Value) (T : TypeId) (xs : List Nat) (y n : Nat) (iv : Value) (wr : World) : Prop :=
  ∃ (k : Nat) (ws : List Nat), 1 ≤ k ∧ k ≤ n ∧ iv = .int .i64 k ∧ ws.length = k ∧ (∀ x ∈ ws, x < 18446744073709551616) ∧ (val ws + 18446744073709551616 ^ k = val (xs.take k) + y) ∧ Upd (· = bz) w wr ∧ wr.heap[bz]? = some (.cells (put cz oz (words .u64 ws)) T (0, 0))

theorem vwAdd_val {xs ws : List Nat} {y k n : Nat} (hl : ws.length = k) (hk : k ≤ n) (hxl : xs.length = n) (hv : val ws = val (xs.take k) + y) : (ws ++ xs.drop k).length = n ∧ (val (ws ++ xs.drop k) + 18446744073709551616 ^ n * 0 = val xs + y) := by
  refine ⟨by simp; omega, ?_⟩
  have h1 := val_split xs k
  rw [val_append, hl]
  omega

theorem vwAdd_end {w wq : World} {bz oz k n y : Nat} {cz : Array Value} {T : TypeId} {xs ws : List Nat} (hl : ws.length = k) (hk : k = n) (hxl : xs.length = n) (hb : ∀ x ∈ ws, x < 18446744073709551616) (hxb : ∀ x ∈ xs, x < 18446744073709551616) (hv : val ws = val (xs.take k) + y) (hu : Upd (· = bz) w wq) (hrow : wq.heap[bz]? = some (.cells (put cz oz (words .u64 ws)) T (0, 0))) :
    vwAddR w bz oz cz T xs y n (.returned (.int .u64 0)) wq := by
  obtain ⟨_, h2⟩ := vwAdd_val hl (Nat.le_of_eq hk) hxl hv
  rw [List.drop_of_length_le (by omega), List.append_nil] at h2
  exact ⟨ws, 0, rfl, by omega, hb, by omega, by simpa using h2, hu, hrow⟩

theorem vwAdd_copy {w wq : World} {bz oz k n y : Nat} {cz : Array Value} {T : TypeId} {xs ws : List Nat} (hl : ws.length = k) (hk : k ≤ n) (hfit : oz + n ≤ cz.size) (hxl : xs.length = n) (hb : ∀ x ∈ ws, x < 18446744073709551616) (hxb : ∀ x ∈ xs, x < 18446744073709551616) (hv : val ws = val (xs.take k) + y) (hu : Upd (· = bz) w wq) (hrow : wq.heap[bz]? = some (.cells (put cz oz (words .u64 ws)) T (0, 0))) :
    vwAddR w bz oz cz T xs y n (.returned (.int .u64 0)) (wq.setRow bz ((put cz oz (words .u64 ws)).toList.take (oz + k) ++ (words .u64 (xs.drop k) ++ (put cz oz (words .u64 ws)).toList.drop (oz + k + (words .u64 (xs.drop k)).length))).toArray) := by
  obtain ⟨h1, h2⟩ := vwAdd_val hl hk hxl hv
  refine ⟨ws ++ xs.drop k, 0, rfl, h1, mem_app hb (fun x hx => hxb x (List.mem_of_mem_drop hx)), by omega, by simpa using h2, hu.same (updSetRow _ _ _), ?_⟩
  have e : (words .u64 ws).length = k := by rw [words_len, hl]
  rw [setRow_heap _ _ _ _ _ _ hrow, words_app, ← put_put _ _ _ _ (by rw [words_len, words_len, List.length_drop]; omega), e]
  rfl

theorem vwAdd_alias {w wq : World} {bz oz k n y : Nat} {cz : Array Value} {T : TypeId} {xs ws : List Nat} (hl : ws.length = k) (hk : k ≤ n) (hfit : oz + n ≤ cz.size) (hxl : xs.length = n) (hb : ∀ x ∈ ws, x < 18446744073709551616) (hxb : ∀ x ∈ xs, x < 18446744073709551616) (hv : val ws = val (xs.take k) + y) (hu : Upd (· = bz) w wq) (hrow : wq.heap[bz]? = some (.cells (put cz oz (words .u64 ws)) T (0, 0)))
    (hz : w.heap[bz]? = some (.cells cz T (0, 0))) (hx : ∀ i, i < n → w.cell? ⟨bz, oz + i, none⟩ = some (.int .u64 (xs.getD i 0 : Nat))) : vwAddR w bz oz cz T xs y n (.returned (.int .u64 0)) wq := by
  obtain ⟨h1, h2⟩ := vwAdd_val hl hk hxl hv
  refine ⟨ws ++ xs.drop k, 0, rfl, h1, mem_app hb (fun x hx => hxb x (List.mem_of_mem_drop hx)), by omega, by simpa using h2, hu, ?_⟩
  rw [hrow, words_app, put_same _ _ _ _ (by rw [words_len, words_len, List.length_drop]; omega)]
  intro j hj
  rw [words_len, List.length_drop] at hj
  have := hx (k + j) (by omega)
  rw [blk_cell hz] at this
  rw [words_len, hl, Nat.add_assoc, this, words_get, List.getElem?_drop, List.getElem?_eq_getElem (by omega), List.getD_eq_getElem?_getD, List.getElem?_eq_getElem (by omega)]
  rfl

set_option maxHeartbeats 2000000 in
theorem vwAdd_0a (bz oz kz bx ox kx y n : Nat) (cz : Array Value) (T : TypeId) (xs : List Nat) (w : World) (hz : w.heap[bz]? = some (.cells cz T (0, 0))) (hfit : oz + n ≤ cz.size) (hn0 : 0 < n) (hn : n ≤ 9223372036854775806) (hkz1 : n ≤ kz) (hkz2 : kz ≤ 9223372036854775807) (hkx1 : n ≤ kx) (hkx2 : kx ≤ 9223372036854775807) (hy1 : y ≤ 1)
    (hxl : xs.length = n) (hxb : ∀ x ∈ xs, x < 18446744073709551616) (hx : ∀ i, i < n → w.cell? ⟨bx, ox + i, none⟩ = some (.int .u64 (xs.getD i 0 : Nat))) (hal : bz = bx ∧ oz = ox) (s x : Nat) (hs : s < 18446744073709551616) (hxx : xs.getD 0 0 = x) (hsd : s + 18446744073709551616 * 0 = x + y + 0) :
    Calls Tryf.prog 99 #[.slice (some ⟨bz, oz, none⟩) n kz, .slice (some ⟨bx, ox, none⟩) n kx, .int .u64 (y : Nat)] w (vwAddR w bz oz cz T xs y n) := by
  obtain ⟨rfl, rfl⟩ := hal
  have hxlt : x < 18446744073709551616 := by rw [← hxx]; exact getD_lt hxb (by omega) 0
  have hx0 := hx 0 hn0
  rw [hxx, Nat.add_zero] at hx0
  have hz0 : w.cell? ⟨bz, oz, none⟩ = some (cz[oz]'(by omega)) := by rw [blk_cell hz]; exact Array.getElem?_eq_getElem (by omega)
  generalize cz[oz]'(by omega) = z0 at hz0
  have hf0 := blk_free hz oz
  have hu0 : Upd (· = bz) w (w.setCell ⟨bz, oz, none⟩ (.int .u64 (s : Nat))) := (Upd.refl _ _).setCell (by rfl) _
  have hrow0 : (w.setCell ⟨bz, oz, none⟩ (.int .u64 (s : Nat))).heap[bz]? = some (.cells (put cz oz (words .u64 [s])) T (0, 0)) := by
    rw [blk_setc hz, show words IntKind.u64 [s] = [] ++ [.int .u64 (s : Nat)] from rfl, ← put_set _ _ _ _ (by simp; omega), put_nil]
    rfl
  have HZ := Lib.hid hz
  have HX := Lib.hid hx
  have HXL := Lib.hid hxl
  have HXB := Lib.hid hxb
  have HXX := Lib.hid hxx
  have HSD := Lib.hid hsd
  have HU0 := Lib.hid hu0
  have HROW0 := Lib.hid hrow0
  clear hz hx hxl hxb hxx hsd hu0 hrow0
  go_enter Tryf.func99, Tryf.ntmps99
  go_wp2_with fail
  refine (bitsAdd_any x y 0 s 0 hs (by omega) HSD.out _).mono ?_
  rintro e w1 ⟨rfl, rfl⟩
  go_wp2_with fail
  have HV : Hid (val [s] = val (xs.take 1) + y) := Lib.hid (by
    have h1 := val_take_succ xs 0
    have h2 := HSD.out
    rw [HXX.out] at h1
    simp [val] at h1 ⊢
    omega)
  have HW : Hid ([s].length = 1) := Lib.hid rfl
  have HB : Hid (∀ x ∈ [s], x < 18446744073709551616) := Lib.hid (by simpa using hs)
  clear hx0 hz0 hf0
  generalize w1.setCell ⟨bz, oz, none⟩ (.int .u64 (s : Nat)) = W at *
  have hne := neqWordSame ⟨bz, oz, none⟩
  go_quiet (fail)
  clear hne
  go_wp2_with fail
  go_ret
  exact vwAdd_alias (k := 1) HW.out hn0 hfit HXL.out HB.out HXB.out HV.out (HU0.out.drewN nq) (heap_drewN HROW0.out nq) HZ.out HX.out

set_option maxHeartbeats 2000000 in
theorem vwAdd_0o (bz oz kz bx ox kx y n : Nat) (cz : Array Value) (T : TypeId) (xs : List Nat) (w : World) (hz : w.heap[bz]? = some (.cells cz T (0, 0))) (hfit : oz + n ≤ cz.size) (hn0 : 0 < n) (hn : n ≤ 9223372036854775806) (hkz1 : n ≤ kz) (hkz2 : kz ≤ 9223372036854775807) (hkx1 : n ≤ kx) (hkx2 : kx ≤ 9223372036854775807) (hy1 : y ≤ 1)
    (hxl : xs.length = n) (hxb : ∀ x ∈ xs, x < 18446744073709551616) (hx : ∀ i, i < n → w.cell? ⟨bx, ox + i, none⟩ = some (.int .u64 (xs.getD i 0 : Nat))) (hal : bx ≠ bz ∧ ∃ dx Tx, w.heap[bx]? = some (.cells dx Tx (0, 0))) (s x : Nat) (hs : s < 18446744073709551616) (hxx : xs.getD 0 0 = x) (hsd : s + 18446744073709551616 * 0 = x + y + 0) :
    Calls Tryf.prog 99 #[.slice (some ⟨bz, oz, none⟩) n kz, .slice (some ⟨bx, ox, none⟩) n kx, .int .u64 (y : Nat)] w (vwAddR w bz oz cz T xs y n) := by
  obtain ⟨hal, dx, Tx, hdx⟩ := hal
  have hxlt : x < 18446744073709551616 := by rw [← hxx]; exact getD_lt hxb (by omega) 0
  have hx0 := hx 0 hn0
  rw [hxx, Nat.add_zero] at hx0
  have hz0 : w.cell? ⟨bz, oz, none⟩ = some (cz[oz]'(by omega)) := by rw [blk_cell hz]; exact Array.getElem?_eq_getElem (by omega)
  generalize cz[oz]'(by omega) = z0 at hz0
  have hf0 := blk_free hz oz
  have hu0 : Upd (· = bz) w (w.setCell ⟨bz, oz, none⟩ (.int .u64 (s : Nat))) := (Upd.refl _ _).setCell (by rfl) _
  have hrow0 : (w.setCell ⟨bz, oz, none⟩ (.int .u64 (s : Nat))).heap[bz]? = some (.cells (put cz oz (words .u64 [s])) T (0, 0)) := by
    rw [blk_setc hz, show words IntKind.u64 [s] = [] ++ [.int .u64 (s : Nat)] from rfl, ← put_set _ _ _ _ (by simp; omega), put_nil]
    rfl
  have hxw : ∀ i, i < n → (w.setCell ⟨bz, oz, none⟩ (.int .u64 (s : Nat))).cell? ⟨bx, ox + i, none⟩ = some (.int .u64 (xs.getD i 0 : Nat)) := fun i hi => hu0.cell (hx i hi) hal
  have hdx0 := hu0.heap hdx hal
  have HXC0 := Lib.hid hxw
  have HDX := Lib.hid hdx0
  clear hxw hdx0 hdx
  have HZ := Lib.hid hz
  have HX := Lib.hid hx
  have HXL := Lib.hid hxl
  have HXB := Lib.hid hxb
  have HXX := Lib.hid hxx
  have HSD := Lib.hid hsd
  have HU0 := Lib.hid hu0
  have HROW0 := Lib.hid hrow0
  clear hz hx hxl hxb hxx hsd hu0 hrow0
  go_enter Tryf.func99, Tryf.ntmps99
  go_wp2_with fail
  refine (bitsAdd_any x y 0 s 0 hs (by omega) HSD.out _).mono ?_
  rintro e w1 ⟨rfl, rfl⟩
  go_wp2_with fail
  have HV : Hid (val [s] = val (xs.take 1) + y) := Lib.hid (by
    have h1 := val_take_succ xs 0
    have h2 := HSD.out
    rw [HXX.out] at h1
    simp [val] at h1 ⊢
    omega)
  have HW : Hid ([s].length = 1) := Lib.hid rfl
  have HB : Hid (∀ x ∈ [s], x < 18446744073709551616) := Lib.hid (by simpa using hs)
  clear hx0 hz0 hf0
  generalize w1.setCell ⟨bz, oz, none⟩ (.int .u64 (s : Nat)) = W at *
  have hne := fun nq => neqWordOther (a := oz) (b := ox) (w := W.drewN nq) (fun e => hal e.symm) (heap_drewN HROW0.out nq) (heap_drewN HDX.out nq)
  go_quiet (fail)
  clear hne
  have HU := Lib.hid (HU0.out.drewN nq)
  have HROW := Lib.hid (heap_drewN HROW0.out nq)
  have hxn : ∀ i, i < n → (W.drewN nq).cell? ⟨bx, ox + i, none⟩ = some (.int .u64 (xs.getD i 0 : Nat)) := fun i hi => HXC0.out i hi
  have HXC := Lib.hid hxn
  clear hxn
  generalize W.drewN nq = wp at *
  go_wp2_with fail
  refine wp_region_D preExt mixed [Is (.slice (some ⟨bz, oz, none⟩) n kz), Sl bz oz n 1, Is (.slice (some ⟨bx, ox, none⟩) n kx), Sl bx ox n 1] (by kernel_rfl) ?mono rfl ?steps ?last
  case mono =>
    simp only [List.forall_mem_cons, List.not_mem_nil, false_implies, implies_true, and_true]
    refine ⟨?_, ?_, ?_, ?_⟩
    all_goals exact fun _ _ _ _ q => q
  case steps =>
    refine ⟨?_, ?_, ?_, ?_, trivial⟩
    all_goals
      intro u0 u1 u2 u3 u4 w1 he hk
      simp [KnownD, Oper.looksAt, Op.operands, Call.operands, List.findIdx?_cons, Act.put] at hk
      simp only [Act.put, List.setIfInBounds_toArray, List.set_cons_succ, List.set_cons_zero]
    · go_wp2_with fail
      exact ⟨rfl, Ext.refl _, rfl⟩
    · obtain rfl : u0 = .slice (some ⟨bz, oz, none⟩) n kz := hk
      obtain ⟨v, hv, hS⟩ := slice_from bz oz n kz 1 (by omega) (by omega)
      have HS := Lib.hid hS
      clear hS
      refine wpList_slice_v rfl hv ?_
      refine wpList_nil ?_
      simp only [Act.put, List.setIfInBounds_toArray, List.set_cons_succ, List.set_cons_zero]
      exact ⟨rfl, Ext.refl _, HS.out w1⟩
    · go_wp2_with fail
      exact ⟨rfl, Ext.refl _, rfl⟩
    · obtain rfl : u2 = .slice (some ⟨bx, ox, none⟩) n kx := hk
      obtain ⟨v, hv, hS⟩ := slice_from bx ox n kx 1 (by omega) (by omega)
      have HS := Lib.hid hS
      clear hS
      refine wpList_slice_v rfl hv ?_
      refine wpList_nil ?_
      simp only [Act.put, List.setIfInBounds_toArray, List.set_cons_succ, List.set_cons_zero]
      exact ⟨rfl, Ext.refl _, HS.out w1⟩
  case last =>
    intro w1 he u0 h0 u1 h1 u2 h2 u3 h3
    obtain ⟨az, cz1, hz1, hz2⟩ : ∃ az cz1, u1 = .slice az (n - 1) cz1 ∧ (1 < n → az = some ⟨bz, oz + 1, none⟩) := h1
    obtain ⟨ax, cx1, hx1, hx2⟩ : ∃ ax cx1, u3 = .slice ax (n - 1) cx1 ∧ (1 < n → ax = some ⟨bx, ox + 1, none⟩) := h3
    subst hz1 hx1
    clear h0 h2
    have hrow1 := he.block HROW.out
    have HU1 := Lib.hid ((HU.out.trans (Ext.upd (S := (· = bz)) he)).mono (fun _ _ q => q.elim id id))
    simp only [LastD, Act.put, List.setIfInBounds_toArray, List.set_cons_succ, List.set_cons_zero]
    by_cases hlast : n = 1
    · have HL := Lib.hid hlast
      clear hlast
      have HROW1 := Lib.hid hrow1
      clear hrow1 hz2 hx2
      refine wpList_copy_nothing rfl (.tmp 40) (.tmp 42) 79 79 rfl 93 Tryf.underlying79 sizeWord az ax (n - 1) cz1 (n - 1) cx1 rfl rfl (by rw [HL.out]; simp) ?_
      simp only [Act.put, List.setIfInBounds_toArray, List.set_cons_succ, List.set_cons_zero]
      go_wp2_with fail
      go_ret
      exact vwAdd_end HW.out (by have := HL.out; omega) HXL.out HB.out HXB.out HV.out HU1.out HROW1.out
    · obtain rfl := hz2 (by omega)
      obtain rfl := hx2 (by omega)
      have hsrc := vw_src (k := 1) HXL.out (fun i hi => he.cell (HXC.out i hi))
      have HSRC := Lib.hid hsrc
      have HROW1 := Lib.hid hrow1
      clear hsrc hrow1 hz2 hx2
      refine wpList_copy_own rfl (.tmp 40) (.tmp 42) 79 79 rfl 93 Tryf.underlying79 sizeWord bz (oz + 1) _ _ ⟨bx, ox + 1, none⟩ _ _ rfl rfl _ T HROW1.out (words .u64 (xs.drop 1)) ?s1 HSRC.out ?s2 (words_one _ _) ?_
      case s1 => rw [words_len, List.length_drop, HXL.out]; exact (Nat.min_self _).symm
      case s2 => rw [words_len, List.length_drop, HXL.out, put_size _ _ _ (by rw [words_len, HW.out]; omega)]; omega
      simp only [Act.put, List.setIfInBounds_toArray, List.set_cons_succ, List.set_cons_zero]
      go_wp2_with fail
      go_ret
      exact vwAdd_copy HW.out (by omega) hfit HXL.out HB.out HXB.out HV.out HU1.out HROW1.out

set_option maxHeartbeats 2000000 in
theorem vwAdd_1a (bz oz kz bx ox kx y n : Nat) (cz : Array Value) (T : TypeId) (xs : List Nat) (w : World) (hz : w.heap[bz]? = some (.cells cz T (0, 0))) (hfit : oz + n ≤ cz.size) (hn0 : 0 < n) (hn : n ≤ 9223372036854775806) (hkz1 : n ≤ kz) (hkz2 : kz ≤ 9223372036854775807) (hkx1 : n ≤ kx) (hkx2 : kx ≤ 9223372036854775807) (hy1 : y ≤ 1)
    (hxl : xs.length = n) (hxb : ∀ x ∈ xs, x < 18446744073709551616) (hx : ∀ i, i < n → w.cell? ⟨bx, ox + i, none⟩ = some (.int .u64 (xs.getD i 0 : Nat))) (hal : bz = bx ∧ oz = ox) (s x : Nat) (hs : s < 18446744073709551616) (hxx : xs.getD 0 0 = x) (hsd : s + 18446744073709551616 * 1 = x + y + 0) :
    Calls Tryf.prog 99 #[.slice (some ⟨bz, oz, none⟩) n kz, .slice (some ⟨bx, ox, none⟩) n kx, .int .u64 (y : Nat)] w (vwAddR w bz oz cz T xs y n) := by
  obtain ⟨rfl, rfl⟩ := hal
  have hxlt : x < 18446744073709551616 := by rw [← hxx]; exact getD_lt hxb (by omega) 0
  have hx0 := hx 0 hn0
  rw [hxx, Nat.add_zero] at hx0
  have hz0 : w.cell? ⟨bz, oz, none⟩ = some (cz[oz]'(by omega)) := by rw [blk_cell hz]; exact Array.getElem?_eq_getElem (by omega)
  generalize cz[oz]'(by omega) = z0 at hz0
  have hf0 := blk_free hz oz
  have hu0 : Upd (· = bz) w (w.setCell ⟨bz, oz, none⟩ (.int .u64 (s : Nat))) := (Upd.refl _ _).setCell (by rfl) _
  have hrow0 : (w.setCell ⟨bz, oz, none⟩ (.int .u64 (s : Nat))).heap[bz]? = some (.cells (put cz oz (words .u64 [s])) T (0, 0)) := by
    rw [blk_setc hz, show words IntKind.u64 [s] = [] ++ [.int .u64 (s : Nat)] from rfl, ← put_set _ _ _ _ (by simp; omega), put_nil]
    rfl
  have HZ := Lib.hid hz
  have HX := Lib.hid hx
  have HXL := Lib.hid hxl
  have HXB := Lib.hid hxb
  have HXX := Lib.hid hxx
  have HSD := Lib.hid hsd
  have HU0 := Lib.hid hu0
  have HROW0 := Lib.hid hrow0
  clear hz hx hxl hxb hxx hsd hu0 hrow0
  have H1 : Hid (vwAddL w bz oz cz T xs y n (.int .i64 ((1 : Nat) : Int)) (w.setCell ⟨bz, oz, none⟩ (.int .u64 (s : Nat)))) := Lib.hid ⟨1, [s], by omega, by omega, rfl, rfl, by simpa using hs, by
    have h1 := val_take_succ xs 0
    have h2 := HSD.out
    rw [HXX.out] at h1
    simp [val] at h1 ⊢
    omega, HU0.out, HROW0.out⟩
  go_enter Tryf.func99, Tryf.ntmps99
  go_wp2_with fail
  refine (bitsAdd_any x y 0 s 1 hs (by omega) HSD.out _).mono ?_
  rintro e w1 ⟨rfl, rfl⟩
  go_wp2_with fail
  clear hx0 hz0 hf0
  generalize w1.setCell ⟨bz, oz, none⟩ (.int .u64 (s : Nat)) = W at *
  go_loopw [9] (fun iv wr => vwAddL w1 bz oz cz T xs y n iv wr) (fun iv _ => n - (intOf iv).toNat)
  case atStart => exact H1.out
  case round =>
    obtain ⟨k, ws, hk1, hk, rfl, hl, hb, hv, hu, hrow⟩ := hrel
    by_cases hlt : k < n
    · obtain ⟨xi, hxi⟩ : ∃ xi, xs.getD k 0 = xi := ⟨_, rfl⟩
      have hcx := row_read HZ.out hfit hlt hl (fun e => rfl) hu hrow (HX.out k hlt)
      rw [hxi] at hcx
      have hxilt : xi < 18446744073709551616 := by rw [← hxi]; exact getD_lt HXB.out (by omega) k
      have hcz : wr.cell? ⟨bz, oz + k, none⟩ = some (cz[oz + k]'(by omega)) := by rw [blk_cell hrow, put_past _ _ _ _ (by omega) (by rw [words_len]; omega)]; exact Array.getElem?_eq_getElem (by omega)
      clear hcz
      have hfz := blk_free hrow (oz + k)
      have hstep : ∀ t : Nat, t < 18446744073709551616 → (∀ x ∈ ws ++ [t], x < 18446744073709551616) ∧ (ws ++ [t]).length = k + 1 ∧ Upd (· = bz) w1 (wr.setCell ⟨bz, oz + k, none⟩ (.int .u64 (t : Nat))) ∧ (wr.setCell ⟨bz, oz + k, none⟩ (.int .u64 (t : Nat))).heap[bz]? = some (.cells (put cz oz (words .u64 (ws ++ [t]))) T (0, 0)) := by
        intro t ht
        refine ⟨mem_snoc hb ht, by simp [hl], hu.same ((Upd.refl _ _).setCell (by rfl) _), ?_⟩
        rw [blk_setc hrow, words_app, show words IntKind.u64 [t] = [.int .u64 (t : Nat)] from rfl, ← put_set _ _ _ _ (by rw [words_len]; omega), words_len, hl]
      have HST := Lib.hid hstep
      have HV := Lib.hid hv
      have HL := Lib.hid hl
      have HXI := Lib.hid hxi
      clear hstep hv hl hxi hb hrow
      have HUU := Lib.hid hu
      clear hu
      by_cases hbig : xi = 18446744073709551615
      · subst hbig
        have hvk : vwAddL w1 bz oz cz T xs y n (.int .i64 ((k + 1 : Nat) : Int)) (wr.setCell ⟨bz, oz + k, none⟩ (.int .u64 ((0 : Nat) : Int))) := by
          obtain ⟨g1, g2, g3, g4⟩ := HST.out 0 (by omega)
          refine ⟨k + 1, _, by omega, by omega, rfl, g2, g1, ?_, g3, g4⟩
          have h1 := val_take_succ xs k
          have h2 := HV.out
          rw [HXI.out] at h1
          rw [val_snoc, HL.out, h1, Nat.pow_succ]
          omega
        have HVK := Lib.hid hvk
        clear hvk
        go_wp2_with fail
        go_roundw
        case rel => exact HVK.out
        case measure => simp [intOf]; omega
      · have hbb : ((xi : Int) == 18446744073709551615) = false := by simp; omega
        have hbn : ((xi : Int) != 18446744073709551615) = true := by simp; omega
        obtain ⟨g1, g2, g3, g4⟩ := HST.out (xi + 1) (by omega)
        have hvv : val (ws ++ [xi + 1]) = val (xs.take (k + 1)) + y := by
          have h1 := val_take_succ xs k
          have h2 := HV.out
          rw [HXI.out] at h1
          rw [val_snoc, HL.out, h1]
          rw [Nat.mul_add]; omega
        have hcast : ((xi + 1 : Nat) : Int) = (xi : Int) + 1 := by omega
        rw [hcast] at g3 g4
        clear hcast
        have HB := Lib.hid g1
        have HW := Lib.hid g2
        replace HU0 := Lib.hid g3
        replace HROW0 := Lib.hid g4
        replace HV := Lib.hid hvv
        have hlo : xi < 18446744073709551615 := by omega
        clear g1 g2 g3 g4 hvv hbig
        have hne := neqWordSame ⟨bz, oz, none⟩
        go_wp2_with fail
        clear hcx hfz
        generalize wr.setCell ⟨bz, oz + k, none⟩ (.int .u64 ((xi : Int) + 1)) = W2 at *
        go_quiet (fail)
        clear hne
        go_wp2_with fail
        go_ret
        exact vwAdd_alias (k := k + 1) HW.out (by omega) hfit HXL.out HB.out HXB.out HV.out (HU0.out.drewN nq) (heap_drewN HROW0.out nq) HZ.out HX.out
    · obtain rfl : k = n := by omega
      have HR : Hid (vwAddR w1 bz oz cz T xs y k (.returned (.int .u64 ((1 : Nat) : Int))) wr) := Lib.hid ⟨ws, 1, rfl, hl, hb, by omega, by
        have h1 := HXL.out
        rw [List.take_of_length_le (by omega)] at hv; omega, hu, hrow⟩
      clear hv hu hrow hl hb
      go_wp2_with fail
      go_ret
      exact HR.out

set_option maxHeartbeats 2000000 in
theorem vwAdd_1o (bz oz kz bx ox kx y n : Nat) (cz : Array Value) (T : TypeId) (xs : List Nat) (w : World) (hz : w.heap[bz]? = some (.cells cz T (0, 0))) (hfit : oz + n ≤ cz.size) (hn0 : 0 < n) (hn : n ≤ 9223372036854775806) (hkz1 : n ≤ kz) (hkz2 : kz ≤ 9223372036854775807) (hkx1 : n ≤ kx) (hkx2 : kx ≤ 9223372036854775807) (hy1 : y ≤ 1)
    (hxl : xs.length = n) (hxb : ∀ x ∈ xs, x < 18446744073709551616) (hx : ∀ i, i < n → w.cell? ⟨bx, ox + i, none⟩ = some (.int .u64 (xs.getD i 0 : Nat))) (hal : bx ≠ bz ∧ ∃ dx Tx, w.heap[bx]? = some (.cells dx Tx (0, 0))) (s x : Nat) (hs : s < 18446744073709551616) (hxx : xs.getD 0 0 = x) (hsd : s + 18446744073709551616 * 1 = x + y + 0) :
    Calls Tryf.prog 99 #[.slice (some ⟨bz, oz, none⟩) n kz, .slice (some ⟨bx, ox, none⟩) n kx, .int .u64 (y : Nat)] w (vwAddR w bz oz cz T xs y n) := by
  obtain ⟨hal, dx, Tx, hdx⟩ := hal
  have hxlt : x < 18446744073709551616 := by rw [← hxx]; exact getD_lt hxb (by omega) 0
  have hx0 := hx 0 hn0
  rw [hxx, Nat.add_zero] at hx0
  have hz0 : w.cell? ⟨bz, oz, none⟩ = some (cz[oz]'(by omega)) := by rw [blk_cell hz]; exact Array.getElem?_eq_getElem (by omega)
  generalize cz[oz]'(by omega) = z0 at hz0
  have hf0 := blk_free hz oz
  have hu0 : Upd (· = bz) w (w.setCell ⟨bz, oz, none⟩ (.int .u64 (s : Nat))) := (Upd.refl _ _).setCell (by rfl) _
  have hrow0 : (w.setCell ⟨bz, oz, none⟩ (.int .u64 (s : Nat))).heap[bz]? = some (.cells (put cz oz (words .u64 [s])) T (0, 0)) := by
    rw [blk_setc hz, show words IntKind.u64 [s] = [] ++ [.int .u64 (s : Nat)] from rfl, ← put_set _ _ _ _ (by simp; omega), put_nil]
    rfl
  have hxw : ∀ i, i < n → (w.setCell ⟨bz, oz, none⟩ (.int .u64 (s : Nat))).cell? ⟨bx, ox + i, none⟩ = some (.int .u64 (xs.getD i 0 : Nat)) := fun i hi => hu0.cell (hx i hi) hal
  have hdx0 := hu0.heap hdx hal
  have HXC0 := Lib.hid hxw
  have HDX := Lib.hid hdx0
  have HDX0 := Lib.hid hdx
  clear hxw hdx0 hdx HXC0
  have HZ := Lib.hid hz
  have HX := Lib.hid hx
  have HXL := Lib.hid hxl
  have HXB := Lib.hid hxb
  have HXX := Lib.hid hxx
  have HSD := Lib.hid hsd
  have HU0 := Lib.hid hu0
  have HROW0 := Lib.hid hrow0
  clear hz hx hxl hxb hxx hsd hu0 hrow0
  have H1 : Hid (vwAddL w bz oz cz T xs y n (.int .i64 ((1 : Nat) : Int)) (w.setCell ⟨bz, oz, none⟩ (.int .u64 (s : Nat)))) := Lib.hid ⟨1, [s], by omega, by omega, rfl, rfl, by simpa using hs, by
    have h1 := val_take_succ xs 0
    have h2 := HSD.out
    rw [HXX.out] at h1
    simp [val] at h1 ⊢
    omega, HU0.out, HROW0.out⟩
  go_enter Tryf.func99, Tryf.ntmps99
  go_wp2_with fail
  refine (bitsAdd_any x y 0 s 1 hs (by omega) HSD.out _).mono ?_
  rintro e w1 ⟨rfl, rfl⟩
  go_wp2_with fail
  clear hx0 hz0 hf0
  generalize w1.setCell ⟨bz, oz, none⟩ (.int .u64 (s : Nat)) = W at *
  go_loopw [9] (fun iv wr => vwAddL w1 bz oz cz T xs y n iv wr) (fun iv _ => n - (intOf iv).toNat)
  case atStart => exact H1.out
  case round =>
    obtain ⟨k, ws, hk1, hk, rfl, hl, hb, hv, hu, hrow⟩ := hrel
    by_cases hlt : k < n
    · obtain ⟨xi, hxi⟩ : ∃ xi, xs.getD k 0 = xi := ⟨_, rfl⟩
      have hcx := row_read HZ.out hfit hlt hl (fun e => absurd e hal) hu hrow (HX.out k hlt)
      rw [hxi] at hcx
      have hxilt : xi < 18446744073709551616 := by rw [← hxi]; exact getD_lt HXB.out (by omega) k
      have hcz : wr.cell? ⟨bz, oz + k, none⟩ = some (cz[oz + k]'(by omega)) := by rw [blk_cell hrow, put_past _ _ _ _ (by omega) (by rw [words_len]; omega)]; exact Array.getElem?_eq_getElem (by omega)
      generalize cz[oz + k]'(by omega) = zk at hcz
      have hfz := blk_free hrow (oz + k)
      have hstep : ∀ t : Nat, t < 18446744073709551616 → (∀ x ∈ ws ++ [t], x < 18446744073709551616) ∧ (ws ++ [t]).length = k + 1 ∧ Upd (· = bz) w1 (wr.setCell ⟨bz, oz + k, none⟩ (.int .u64 (t : Nat))) ∧ (wr.setCell ⟨bz, oz + k, none⟩ (.int .u64 (t : Nat))).heap[bz]? = some (.cells (put cz oz (words .u64 (ws ++ [t]))) T (0, 0)) := by
        intro t ht
        refine ⟨mem_snoc hb ht, by simp [hl], hu.same ((Upd.refl _ _).setCell (by rfl) _), ?_⟩
        rw [blk_setc hrow, words_app, show words IntKind.u64 [t] = [.int .u64 (t : Nat)] from rfl, ← put_set _ _ _ _ (by rw [words_len]; omega), words_len, hl]
      have HST := Lib.hid hstep
      have HV := Lib.hid hv
      have HL := Lib.hid hl
      have HXI := Lib.hid hxi
      clear hstep hv hl hxi hb hrow
      have HUU := Lib.hid hu
      clear hu
      by_cases hbig : xi = 18446744073709551615
      · subst hbig
        have hvk : vwAddL w1 bz oz cz T xs y n (.int .i64 ((k + 1 : Nat) : Int)) (wr.setCell ⟨bz, oz + k, none⟩ (.int .u64 ((0 : Nat) : Int))) := by
          obtain ⟨g1, g2, g3, g4⟩ := HST.out 0 (by omega)
          refine ⟨k + 1, _, by omega, by omega, rfl, g2, g1, ?_, g3, g4⟩
          have h1 := val_take_succ xs k
          have h2 := HV.out
          rw [HXI.out] at h1
          rw [val_snoc, HL.out, h1, Nat.pow_succ]
          omega
        have HVK := Lib.hid hvk
        clear hvk
        go_wp2_with fail
        go_roundw
        case rel => exact HVK.out
        case measure => simp [intOf]; omega
      · have hbb : ((xi : Int) == 18446744073709551615) = false := by simp; omega
        have hbn : ((xi : Int) != 18446744073709551615) = true := by simp; omega
        obtain ⟨g1, g2, g3, g4⟩ := HST.out (xi + 1) (by omega)
        have hvv : val (ws ++ [xi + 1]) = val (xs.take (k + 1)) + y := by
          have h1 := val_take_succ xs k
          have h2 := HV.out
          rw [HXI.out] at h1
          rw [val_snoc, HL.out, h1]
          rw [Nat.mul_add]; omega
        have hcast : ((xi + 1 : Nat) : Int) = (xi : Int) + 1 := by omega
        rw [hcast] at g3 g4
        clear hcast
        have HB := Lib.hid g1
        have HW := Lib.hid g2
        replace HU0 := Lib.hid g3
        replace HROW0 := Lib.hid g4
        replace HV := Lib.hid hvv
        have hlo : xi < 18446744073709551615 := by omega
        clear g1 g2 g3 g4 hvv hbig
        go_wp2_with fail
        clear hcx hcz hfz
        replace HDX := Lib.hid (HU0.out.heap HDX0.out hal)
        have HXC0 := Lib.hid (fun i hi => HU0.out.cell (HX.out i hi) hal)
        generalize wr.setCell ⟨bz, oz + k, none⟩ (.int .u64 ((xi : Int) + 1)) = W2 at *
        have hne := fun nq => neqWordOther (a := oz) (b := ox) (w := W2.drewN nq) (fun e => hal e.symm) (heap_drewN HROW0.out nq) (heap_drewN HDX.out nq)
        go_quiet (fail)
        clear hne
        have HU := Lib.hid (HU0.out.drewN nq)
        have HROW := Lib.hid (heap_drewN HROW0.out nq)
        have hxn : ∀ i, i < n → (W2.drewN nq).cell? ⟨bx, ox + i, none⟩ = some (.int .u64 (xs.getD i 0 : Nat)) := fun i hi => HXC0.out i hi
        have HXC := Lib.hid hxn
        clear hxn
        generalize W2.drewN nq = wp at *
        go_wp2_with fail
        refine wp_region_D preExt mixed [Is (.slice (some ⟨bz, oz, none⟩) n kz), Is (.int .i64 (k : Nat)), Is (.int .i64 ((k : Int) + 1)), Sl bz oz n (k + 1), Is (.slice (some ⟨bx, ox, none⟩) n kx), Is (.int .i64 (k : Nat)), Is (.int .i64 ((k : Int) + 1)), Sl bx ox n (k + 1)] (by kernel_rfl) ?mono rfl ?steps ?last
        case mono =>
          simp only [List.forall_mem_cons, List.not_mem_nil, false_implies, implies_true, and_true]
          refine ⟨?_, ?_, ?_, ?_, ?_, ?_, ?_, ?_⟩
          all_goals exact fun _ _ _ _ q => q
        case steps =>
          refine ⟨?_, ?_, ?_, ?_, ?_, ?_, ?_, ?_, trivial⟩
          all_goals
            intro u0 u1 u2 u3 u4 u5 u6 u7 u8 w1 he hk
            simp [KnownD, Oper.looksAt, Op.operands, Call.operands, List.findIdx?_cons, Act.put] at hk
            simp only [Act.put, List.setIfInBounds_toArray, List.set_cons_succ, List.set_cons_zero]
          · go_wp2_with fail
            exact ⟨rfl, Ext.refl _, rfl⟩
          · go_wp2_with fail
            exact ⟨rfl, Ext.refl _, rfl⟩
          · obtain rfl : u1 = .int .i64 (k : Nat) := hk
            go_wp2_with fail
            exact ⟨rfl, Ext.refl _, rfl⟩
          · obtain ⟨k0, k1⟩ := hk
            obtain rfl : u0 = .slice (some ⟨bz, oz, none⟩) n kz := k0
            obtain rfl : u2 = .int .i64 ((k : Int) + 1) := k1
            obtain ⟨v, hv, hS⟩ := slice_from bz oz n kz (k + 1) (by omega) (by omega)
            rw [show (((k + 1 : Nat)) : Int) = (k : Int) + 1 by omega] at hv
            have HS := Lib.hid hS
            clear hS
            refine wpList_slice_v rfl hv ?_
            refine wpList_nil ?_
            simp only [Act.put, List.setIfInBounds_toArray, List.set_cons_succ, List.set_cons_zero]
            exact ⟨rfl, Ext.refl _, HS.out w1⟩
          · go_wp2_with fail
            exact ⟨rfl, Ext.refl _, rfl⟩
          · go_wp2_with fail
            exact ⟨rfl, Ext.refl _, rfl⟩
          · obtain rfl : u5 = .int .i64 (k : Nat) := hk
            go_wp2_with fail
            exact ⟨rfl, Ext.refl _, rfl⟩
          · obtain ⟨k0, k1⟩ := hk
            obtain rfl : u4 = .slice (some ⟨bx, ox, none⟩) n kx := k0
            obtain rfl : u6 = .int .i64 ((k : Int) + 1) := k1
            obtain ⟨v, hv, hS⟩ := slice_from bx ox n kx (k + 1) (by omega) (by omega)
            rw [show (((k + 1 : Nat)) : Int) = (k : Int) + 1 by omega] at hv
            have HS := Lib.hid hS
            clear hS
            refine wpList_slice_v rfl hv ?_
            refine wpList_nil ?_
            simp only [Act.put, List.setIfInBounds_toArray, List.set_cons_succ, List.set_cons_zero]
            exact ⟨rfl, Ext.refl _, HS.out w1⟩
        case last =>
          intro w1 he u0 h0 u1 h1 u2 h2 u3 h3 u4 h4 u5 h5 u6 h6 u7 h7
          obtain ⟨az, cz1, hz1, hz2⟩ : ∃ az cz1, u3 = .slice az (n - (k + 1)) cz1 ∧ ((k + 1) < n → az = some ⟨bz, oz + (k + 1), none⟩) := h3
          obtain ⟨ax, cx1, hx1, hx2⟩ : ∃ ax cx1, u7 = .slice ax (n - (k + 1)) cx1 ∧ ((k + 1) < n → ax = some ⟨bx, ox + (k + 1), none⟩) := h7
          subst hz1 hx1
          clear h0 h1 h2 h4 h5 h6
          have hrow1 := he.block HROW.out
          have HU1 := Lib.hid ((HU.out.trans (Ext.upd (S := (· = bz)) he)).mono (fun _ _ q => q.elim id id))
          simp only [LastD, Act.put, List.setIfInBounds_toArray, List.set_cons_succ, List.set_cons_zero]
          by_cases hlast : n = (k + 1)
          · have HL := Lib.hid hlast
            clear hlast
            have HROW1 := Lib.hid hrow1
            clear hrow1 hz2 hx2
            refine wpList_copy_nothing rfl (.tmp 69) (.tmp 73) 79 79 rfl 93 Tryf.underlying79 sizeWord az ax (n - (k + 1)) cz1 (n - (k + 1)) cx1 rfl rfl (by rw [HL.out]; simp) ?_
            simp only [Act.put, List.setIfInBounds_toArray, List.set_cons_succ, List.set_cons_zero]
            go_wp2_with fail
            go_ret
            exact vwAdd_end HW.out (by have := HL.out; omega) HXL.out HB.out HXB.out HV.out HU1.out HROW1.out
          · obtain rfl := hz2 (by omega)
            obtain rfl := hx2 (by omega)
            have hsrc := vw_src (k := (k + 1)) HXL.out (fun i hi => he.cell (HXC.out i hi))
            have HSRC := Lib.hid hsrc
            have HROW1 := Lib.hid hrow1
            clear hsrc hrow1 hz2 hx2
            refine wpList_copy_own rfl (.tmp 69) (.tmp 73) 79 79 rfl 93 Tryf.underlying79 sizeWord bz (oz + (k + 1)) _ _ ⟨bx, ox + (k + 1), none⟩ _ _ rfl rfl _ T HROW1.out (words .u64 (xs.drop (k + 1))) ?s1 HSRC.out ?s2 (words_one _ _) ?_
            case s1 => rw [words_len, List.length_drop, HXL.out]; exact (Nat.min_self _).symm
            case s2 => rw [words_len, List.length_drop, HXL.out, put_size _ _ _ (by rw [words_len, HW.out]; omega)]; omega
            simp only [Act.put, List.setIfInBounds_toArray, List.set_cons_succ, List.set_cons_zero]
            go_wp2_with fail
            go_ret
            exact vwAdd_copy HW.out (by omega) hfit HXL.out HB.out HXB.out HV.out HU1.out HROW1.out
    · obtain rfl : k = n := by omega
      have HR : Hid (vwAddR w1 bz oz cz T xs y k (.returned (.int .u64 ((1 : Nat) : Int))) wr) := Lib.hid ⟨ws, 1, rfl, hl, hb, by omega, by
        have h1 := HXL.out
        rw [List.take_of_length_le (by omega)] at hv; omega, hu, hrow⟩
      clear hv hu hrow hl hb
      go_wp2_with fail
      go_ret
      exact HR.out

theorem vwAdd_any (bz oz kz bx ox kx y n : Nat) (cz : Array Value) (T : TypeId) (xs : List Nat) (w : World) (hz : w.heap[bz]? = some (.cells cz T (0, 0))) (hfit : oz + n ≤ cz.size) (hn0 : 0 < n) (hn : n ≤ 9223372036854775806) (hkz1 : n ≤ kz) (hkz2 : kz ≤ 9223372036854775807) (hkx1 : n ≤ kx) (hkx2 : kx ≤ 9223372036854775807) (hy1 : y ≤ 1)
    (hxl : xs.length = n) (hxb : ∀ x ∈ xs, x < 18446744073709551616) (hx : ∀ i, i < n → w.cell? ⟨bx, ox + i, none⟩ = some (.int .u64 (xs.getD i 0 : Nat))) (hax : bx = bz → ox = oz) (hdx : ∃ dx Tx, w.heap[bx]? = some (.cells dx Tx (0, 0))) :
    Calls Tryf.prog 99 #[.slice (some ⟨bz, oz, none⟩) n kz, .slice (some ⟨bx, ox, none⟩) n kx, .int .u64 (y : Nat)] w (vwAddR w bz oz cz T xs y n) := by
  have hxlt : xs.getD 0 0 < 18446744073709551616 := getD_lt hxb (by omega) 0
  obtain ⟨s, d, hs, hd, hsd⟩ : ∃ s d : Nat, s < 18446744073709551616 ∧ d ≤ 1 ∧ s + 18446744073709551616 * d = xs.getD 0 0 + y + 0 := ⟨(xs.getD 0 0 + y + 0) % 18446744073709551616, (xs.getD 0 0 + y + 0) / 18446744073709551616, Nat.mod_lt _ (by decide), by omega, by omega⟩
  have hd' : d = 0 ∨ d = 1 := by omega
  by_cases hb : bx = bz
  · rcases hd' with rfl | rfl
    · exact vwAdd_0a bz oz kz bx ox kx y n cz T xs w hz hfit hn0 hn hkz1 hkz2 hkx1 hkx2 hy1 hxl hxb hx ⟨hb.symm, (hax hb).symm⟩ s _ hs rfl hsd
    · exact vwAdd_1a bz oz kz bx ox kx y n cz T xs w hz hfit hn0 hn hkz1 hkz2 hkx1 hkx2 hy1 hxl hxb hx ⟨hb.symm, (hax hb).symm⟩ s _ hs rfl hsd
  · rcases hd' with rfl | rfl
    · exact vwAdd_0o bz oz kz bx ox kx y n cz T xs w hz hfit hn0 hn hkz1 hkz2 hkx1 hkx2 hy1 hxl hxb hx ⟨hb, hdx⟩ s _ hs rfl hsd
    · exact vwAdd_1o bz oz kz bx ox kx y n cz T xs w hz hfit hn0 hn hkz1 hkz2 hkx1 hkx2 hy1 hxl hxb hx ⟨hb, hdx⟩ s _ hs rfl hsd

def vwSubR (w : World) (bz oz : Nat) (cz : Array Value) (T : TypeId) (xs : List Nat) (y n : Nat) (e : Ending) (w' : World) : Prop :=
  ∃ (ws : List Nat) (c : Nat), e = .returned (.int .u64 (c : Nat)) ∧ ws.length = n ∧ (∀ x ∈ ws, x < 18446744073709551616) ∧ c ≤ 1 ∧ (val ws + y = val xs + 18446744073709551616 ^ n * c) ∧ Upd (· = bz) w w' ∧ w'.heap[bz]? = some (.cells (put cz oz (words .u64 ws)) T (0, 0))

def vwSubL (w : World) (bz oz : Nat) (cz : Array Value) (T : TypeId) (xs : List Nat) (y n : Nat) (iv : Value) (wr : World) : Prop :=
  ∃ (k : Nat) (ws : List Nat), 1 ≤ k ∧ k ≤ n ∧ iv = .int .i64 k ∧ ws.length = k ∧ (∀ x ∈ ws, x < 18446744073709551616) ∧ (val ws + y = val (xs.take k) + 18446744073709551616 ^ k) ∧ Upd (· = bz) w wr ∧ wr.heap[bz]? = some (.cells (put cz oz (words .u64 ws)) T (0, 0))

theorem vwSub_val {xs ws : List Nat} {y k n : Nat} (hl : ws.length = k) (hk : k ≤ n) (hxl : xs.length = n) (hv : val ws + y = val (xs.take k)) : (ws ++ xs.drop k).length = n ∧ (val (ws ++ xs.drop k) + y = val xs + 18446744073709551616 ^ n * 0) := by
  refine ⟨by simp; omega, ?_⟩
  have h1 := val_split xs k
  rw [val_append, hl]
  omega

theorem vwSub_end {w wq : World} {bz oz k n y : Nat} {cz : Array Value} {T : TypeId} {xs ws : List Nat} (hl : ws.length = k) (hk : k = n) (hxl : xs.length = n) (hb : ∀ x ∈ ws, x < 18446744073709551616) (hxb : ∀ x ∈ xs, x < 18446744073709551616) (hv : val ws + y = val (xs.take k)) (hu : Upd (· = bz) w wq) (hrow : wq.heap[bz]? = some (.cells (put cz oz (words .u64 ws)) T (0, 0))) :
    vwSubR w bz oz cz T xs y n (.returned (.int .u64 0)) wq := by
  obtain ⟨_, h2⟩ := vwSub_val hl (Nat.le_of_eq hk) hxl hv
  rw [List.drop_of_length_le (by omega), List.append_nil] at h2
  exact ⟨ws, 0, rfl, by omega, hb, by omega, by simpa using h2, hu, hrow⟩

theorem vwSub_copy {w wq : World} {bz oz k n y : Nat} {cz : Array Value} {T : TypeId} {xs ws : List Nat} (hl : ws.length = k) (hk : k ≤ n) (hfit : oz + n ≤ cz.size) (hxl : xs.length = n) (hb : ∀ x ∈ ws, x < 18446744073709551616) (hxb : ∀ x ∈ xs, x < 18446744073709551616) (hv : val ws + y = val (xs.take k)) (hu : Upd (· = bz) w wq) (hrow : wq.heap[bz]? = some (.cells (put cz oz (words .u64 ws)) T (0, 0))) :
    vwSubR w bz oz cz T xs y n (.returned (.int .u64 0)) (wq.setRow bz ((put cz oz (words .u64 ws)).toList.take (oz + k) ++ (words .u64 (xs.drop k) ++ (put cz oz (words .u64 ws)).toList.drop (oz + k + (words .u64 (xs.drop k)).length))).toArray) := by
  obtain ⟨h1, h2⟩ := vwSub_val hl hk hxl hv
  refine ⟨ws ++ xs.drop k, 0, rfl, h1, mem_app hb (fun x hx => hxb x (List.mem_of_mem_drop hx)), by omega, by simpa using h2, hu.same (updSetRow _ _ _), ?_⟩
  have e : (words .u64 ws).length = k := by rw [words_len, hl]
  rw [setRow_heap _ _ _ _ _ _ hrow, words_app, ← put_put _ _ _ _ (by rw [words_len, words_len, List.length_drop]; omega), e]
  rfl

theorem vwSub_alias {w wq : World} {bz oz k n y : Nat} {cz : Array Value} {T : TypeId} {xs ws : List Nat} (hl : ws.length = k) (hk : k ≤ n) (hfit : oz + n ≤ cz.size) (hxl : xs.length = n) (hb : ∀ x ∈ ws, x < 18446744073709551616) (hxb : ∀ x ∈ xs, x < 18446744073709551616) (hv : val ws + y = val (xs.take k)) (hu : Upd (· = bz) w wq) (hrow : wq.heap[bz]? = some (.cells (put cz oz (words .u64 ws)) T (0, 0)))
    (hz : w.heap[bz]? = some (.cells cz T (0, 0))) (hx : ∀ i, i < n → w.cell? ⟨bz, oz + i, none⟩ = some (.int .u64 (xs.getD i 0 : Nat))) : vwSubR w bz oz cz T xs y n (.returned (.int .u64 0)) wq := by
  obtain ⟨h1, h2⟩ := vwSub_val hl hk hxl hv
  refine ⟨ws ++ xs.drop k, 0, rfl, h1, mem_app hb (fun x hx => hxb x (List.mem_of_mem_drop hx)), by omega, by simpa using h2, hu, ?_⟩
  rw [hrow, words_app, put_same _ _ _ _ (by rw [words_len, words_len, List.length_drop]; omega)]
  intro j hj
  rw [words_len, List.length_drop] at hj
  have := hx (k + j) (by omega)
  rw [blk_cell hz] at this
  rw [words_len, hl, Nat.add_assoc, this, words_get, List.getElem?_drop, List.getElem?_eq_getElem (by omega), List.getD_eq_getElem?_getD, List.getElem?_eq_getElem (by omega)]
  rfl

set_option maxHeartbeats 2000000 in
theorem vwSub_0a (bz oz kz bx ox kx y n : Nat) (cz : Array Value) (T : TypeId) (xs : List Nat) (w : World) (hz : w.heap[bz]? = some (.cells cz T (0, 0))) (hfit : oz + n ≤ cz.size) (hn0 : 0 < n) (hn : n ≤ 9223372036854775806) (hkz1 : n ≤ kz) (hkz2 : kz ≤ 9223372036854775807) (hkx1 : n ≤ kx) (hkx2 : kx ≤ 9223372036854775807) (hy1 : y ≤ 1)
    (hxl : xs.length = n) (hxb : ∀ x ∈ xs, x < 18446744073709551616) (hx : ∀ i, i < n → w.cell? ⟨bx, ox + i, none⟩ = some (.int .u64 (xs.getD i 0 : Nat))) (hal : bz = bx ∧ oz = ox) (s x : Nat) (hs : s < 18446744073709551616) (hxx : xs.getD 0 0 = x) (hsd : s + y + 0 = x + 18446744073709551616 * 0) :
    Calls Tryf.prog 102 #[.slice (some ⟨bz, oz, none⟩) n kz, .slice (some ⟨bx, ox, none⟩) n kx, .int .u64 (y : Nat)] w (vwSubR w bz oz cz T xs y n) := by
  obtain ⟨rfl, rfl⟩ := hal
  have hxlt : x < 18446744073709551616 := by rw [← hxx]; exact getD_lt hxb (by omega) 0
  have hx0 := hx 0 hn0
  rw [hxx, Nat.add_zero] at hx0
  have hz0 : w.cell? ⟨bz, oz, none⟩ = some (cz[oz]'(by omega)) := by rw [blk_cell hz]; exact Array.getElem?_eq_getElem (by omega)
  generalize cz[oz]'(by omega) = z0 at hz0
  have hf0 := blk_free hz oz
  have hu0 : Upd (· = bz) w (w.setCell ⟨bz, oz, none⟩ (.int .u64 (s : Nat))) := (Upd.refl _ _).setCell (by rfl) _
  have hrow0 : (w.setCell ⟨bz, oz, none⟩ (.int .u64 (s : Nat))).heap[bz]? = some (.cells (put cz oz (words .u64 [s])) T (0, 0)) := by
    rw [blk_setc hz, show words IntKind.u64 [s] = [] ++ [.int .u64 (s : Nat)] from rfl, ← put_set _ _ _ _ (by simp; omega), put_nil]
    rfl
  have HZ := Lib.hid hz
  have HX := Lib.hid hx
  have HXL := Lib.hid hxl
  have HXB := Lib.hid hxb
  have HXX := Lib.hid hxx
  have HSD := Lib.hid hsd
  have HU0 := Lib.hid hu0
  have HROW0 := Lib.hid hrow0
  clear hz hx hxl hxb hxx hsd hu0 hrow0
  go_enter Tryf.func102, Tryf.ntmps102
  go_wp2_with fail
  refine (bitsSub_any x y 0 s 0 hs hxlt (by omega) (by omega) HSD.out _).mono ?_
  rintro e w1 ⟨rfl, rfl⟩
  go_wp2_with fail
  have HV : Hid (val [s] + y = val (xs.take 1)) := Lib.hid (by
    have h1 := val_take_succ xs 0
    have h2 := HSD.out
    rw [HXX.out] at h1
    simp [val] at h1 ⊢
    omega)
  have HW : Hid ([s].length = 1) := Lib.hid rfl
  have HB : Hid (∀ x ∈ [s], x < 18446744073709551616) := Lib.hid (by simpa using hs)
  clear hx0 hz0 hf0
  generalize w1.setCell ⟨bz, oz, none⟩ (.int .u64 (s : Nat)) = W at *
  have hne := neqWordSame ⟨bz, oz, none⟩
  go_quiet (fail)
  clear hne
  go_wp2_with fail
  go_ret
  exact vwSub_alias (k := 1) HW.out hn0 hfit HXL.out HB.out HXB.out HV.out (HU0.out.drewN nq) (heap_drewN HROW0.out nq) HZ.out HX.out

set_option maxHeartbeats 2000000 in
theorem vwSub_0o (bz oz kz bx ox kx y n : Nat) (cz : Array Value) (T : TypeId) (xs : List Nat) (w : World) (hz : w.heap[bz]? = some (.cells cz T (0, 0))) (hfit : oz + n ≤ cz.size) (hn0 : 0 < n) (hn : n ≤ 9223372036854775806) (hkz1 : n ≤ kz) (hkz2 : kz ≤ 9223372036854775807) (hkx1 : n ≤ kx) (hkx2 : kx ≤ 9223372036854775807) (hy1 : y ≤ 1)
    (hxl : xs.length = n) (hxb : ∀ x ∈ xs, x < 18446744073709551616) (hx : ∀ i, i < n → w.cell? ⟨bx, ox + i, none⟩ = some (.int .u64 (xs.getD i 0 : Nat))) (hal : bx ≠ bz ∧ ∃ dx Tx, w.heap[bx]? = some (.cells dx Tx (0, 0))) (s x : Nat) (hs : s < 18446744073709551616) (hxx : xs.getD 0 0 = x) (hsd : s + y + 0 = x + 18446744073709551616 * 0) :
    Calls Tryf.prog 102 #[.slice (some ⟨bz, oz, none⟩) n kz, .slice (some ⟨bx, ox, none⟩) n kx, .int .u64 (y : Nat)] w (vwSubR w bz oz cz T xs y n) := by
  obtain ⟨hal, dx, Tx, hdx⟩ := hal
  have hxlt : x < 18446744073709551616 := by rw [← hxx]; exact getD_lt hxb (by omega) 0
  have hx0 := hx 0 hn0
  rw [hxx, Nat.add_zero] at hx0
  have hz0 : w.cell? ⟨bz, oz, none⟩ = some (cz[oz]'(by omega)) := by rw [blk_cell hz]; exact Array.getElem?_eq_getElem (by omega)
  generalize cz[oz]'(by omega) = z0 at hz0
  have hf0 := blk_free hz oz
  have hu0 : Upd (· = bz) w (w.setCell ⟨bz, oz, none⟩ (.int .u64 (s : Nat))) := (Upd.refl _ _).setCell (by rfl) _
  have hrow0 : (w.setCell ⟨bz, oz, none⟩ (.int .u64 (s : Nat))).heap[bz]? = some (.cells (put cz oz (words .u64 [s])) T (0, 0)) := by
    rw [blk_setc hz, show words IntKind.u64 [s] = [] ++ [.int .u64 (s : Nat)] from rfl, ← put_set _ _ _ _ (by simp; omega), put_nil]
    rfl
  have hxw : ∀ i, i < n → (w.setCell ⟨bz, oz, none⟩ (.int .u64 (s : Nat))).cell? ⟨bx, ox + i, none⟩ = some (.int .u64 (xs.getD i 0 : Nat)) := fun i hi => hu0.cell (hx i hi) hal
  have hdx0 := hu0.heap hdx hal
  have HXC0 := Lib.hid hxw
  have HDX := Lib.hid hdx0
  clear hxw hdx0 hdx
  have HZ := Lib.hid hz
  have HX := Lib.hid hx
  have HXL := Lib.hid hxl
  have HXB := Lib.hid hxb
  have HXX := Lib.hid hxx
  have HSD := Lib.hid hsd
  have HU0 := Lib.hid hu0
  have HROW0 := Lib.hid hrow0
  clear hz hx hxl hxb hxx hsd hu0 hrow0
  go_enter Tryf.func102, Tryf.ntmps102
  go_wp2_with fail
  refine (bitsSub_any x y 0 s 0 hs hxlt (by omega) (by omega) HSD.out _).mono ?_
  rintro e w1 ⟨rfl, rfl⟩
  go_wp2_with fail
  have HV : Hid (val [s] + y = val (xs.take 1)) := Lib.hid (by
    have h1 := val_take_succ xs 0
    have h2 := HSD.out
    rw [HXX.out] at h1
    simp [val] at h1 ⊢
    omega)
  have HW : Hid ([s].length = 1) := Lib.hid rfl
  have HB : Hid (∀ x ∈ [s], x < 18446744073709551616) := Lib.hid (by simpa using hs)
  clear hx0 hz0 hf0
  generalize w1.setCell ⟨bz, oz, none⟩ (.int .u64 (s : Nat)) = W at *
  have hne := fun nq => neqWordOther (a := oz) (b := ox) (w := W.drewN nq) (fun e => hal e.symm) (heap_drewN HROW0.out nq) (heap_drewN HDX.out nq)
  go_quiet (fail)
  clear hne
  have HU := Lib.hid (HU0.out.drewN nq)
  have HROW := Lib.hid (heap_drewN HROW0.out nq)
  have hxn : ∀ i, i < n → (W.drewN nq).cell? ⟨bx, ox + i, none⟩ = some (.int .u64 (xs.getD i 0 : Nat)) := fun i hi => HXC0.out i hi
  have HXC := Lib.hid hxn
  clear hxn
  generalize W.drewN nq = wp at *
  go_wp2_with fail
  refine wp_region_D preExt mixed [Is (.slice (some ⟨bz, oz, none⟩) n kz), Sl bz oz n 1, Is (.slice (some ⟨bx, ox, none⟩) n kx), Sl bx ox n 1] (by kernel_rfl) ?mono rfl ?steps ?last
  case mono =>
    simp only [List.forall_mem_cons, List.not_mem_nil, false_implies, implies_true, and_true]
    refine ⟨?_, ?_, ?_, ?_⟩
    all_goals exact fun _ _ _ _ q => q
  case steps =>
    refine ⟨?_, ?_, ?_, ?_, trivial⟩
    all_goals
      intro u0 u1 u2 u3 u4 w1 he hk
      simp [KnownD, Oper.looksAt, Op.operands, Call.operands, List.findIdx?_cons, Act.put] at hk
      simp only [Act.put, List.setIfInBounds_toArray, List.set_cons_succ, List.set_cons_zero]
    · go_wp2_with fail
      exact ⟨rfl, Ext.refl _, rfl⟩
    · obtain rfl : u0 = .slice (some ⟨bz, oz, none⟩) n kz := hk
      obtain ⟨v, hv, hS⟩ := slice_from bz oz n kz 1 (by omega) (by omega)
      have HS := Lib.hid hS
      clear hS
      refine wpList_slice_v rfl hv ?_
      refine wpList_nil ?_
      simp only [Act.put, List.setIfInBounds_toArray, List.set_cons_succ, List.set_cons_zero]
      exact ⟨rfl, Ext.refl _, HS.out w1⟩
    · go_wp2_with fail
      exact ⟨rfl, Ext.refl _, rfl⟩
    · obtain rfl : u2 = .slice (some ⟨bx, ox, none⟩) n kx := hk
      obtain ⟨v, hv, hS⟩ := slice_from bx ox n kx 1 (by omega) (by omega)
      have HS := Lib.hid hS
      clear hS
      refine wpList_slice_v rfl hv ?_
      refine wpList_nil ?_
      simp only [Act.put, List.setIfInBounds_toArray, List.set_cons_succ, List.set_cons_zero]
      exact ⟨rfl, Ext.refl _, HS.out w1⟩
  case last =>
    intro w1 he u0 h0 u1 h1 u2 h2 u3 h3
    obtain ⟨az, cz1, hz1, hz2⟩ : ∃ az cz1, u1 = .slice az (n - 1) cz1 ∧ (1 < n → az = some ⟨bz, oz + 1, none⟩) := h1
    obtain ⟨ax, cx1, hx1, hx2⟩ : ∃ ax cx1, u3 = .slice ax (n - 1) cx1 ∧ (1 < n → ax = some ⟨bx, ox + 1, none⟩) := h3
    subst hz1 hx1
    clear h0 h2
    have hrow1 := he.block HROW.out
    have HU1 := Lib.hid ((HU.out.trans (Ext.upd (S := (· = bz)) he)).mono (fun _ _ q => q.elim id id))
    simp only [LastD, Act.put, List.setIfInBounds_toArray, List.set_cons_succ, List.set_cons_zero]
    by_cases hlast : n = 1
    · have HL := Lib.hid hlast
      clear hlast
      have HROW1 := Lib.hid hrow1
      clear hrow1 hz2 hx2
      refine wpList_copy_nothing rfl (.tmp 40) (.tmp 42) 79 79 rfl 93 Tryf.underlying79 sizeWord az ax (n - 1) cz1 (n - 1) cx1 rfl rfl (by rw [HL.out]; simp) ?_
      simp only [Act.put, List.setIfInBounds_toArray, List.set_cons_succ, List.set_cons_zero]
      go_wp2_with fail
      go_ret
      exact vwSub_end HW.out (by have := HL.out; omega) HXL.out HB.out HXB.out HV.out HU1.out HROW1.out
    · obtain rfl := hz2 (by omega)
      obtain rfl := hx2 (by omega)
      have hsrc := vw_src (k := 1) HXL.out (fun i hi => he.cell (HXC.out i hi))
      have HSRC := Lib.hid hsrc
      have HROW1 := Lib.hid hrow1
      clear hsrc hrow1 hz2 hx2
      refine wpList_copy_own rfl (.tmp 40) (.tmp 42) 79 79 rfl 93 Tryf.underlying79 sizeWord bz (oz + 1) _ _ ⟨bx, ox + 1, none⟩ _ _ rfl rfl _ T HROW1.out (words .u64 (xs.drop 1)) ?s1 HSRC.out ?s2 (words_one _ _) ?_
      case s1 => rw [words_len, List.length_drop, HXL.out]; exact (Nat.min_self _).symm
      case s2 => rw [words_len, List.length_drop, HXL.out, put_size _ _ _ (by rw [words_len, HW.out]; omega)]; omega
      simp only [Act.put, List.setIfInBounds_toArray, List.set_cons_succ, List.set_cons_zero]
      go_wp2_with fail
      go_ret
      exact vwSub_copy HW.out (by omega) hfit HXL.out HB.out HXB.out HV.out HU1.out HROW1.out

set_option maxHeartbeats 2000000 in
theorem vwSub_1a (bz oz kz bx ox kx y n : Nat) (cz : Array Value) (T : TypeId) (xs : List Nat) (w : World) (hz : w.heap[bz]? = some (.cells cz T (0, 0))) (hfit : oz + n ≤ cz.size) (hn0 : 0 < n) (hn : n ≤ 9223372036854775806) (hkz1 : n ≤ kz) (hkz2 : kz ≤ 9223372036854775807) (hkx1 : n ≤ kx) (hkx2 : kx ≤ 9223372036854775807) (hy1 : y ≤ 1)
    (hxl : xs.length = n) (hxb : ∀ x ∈ xs, x < 18446744073709551616) (hx : ∀ i, i < n → w.cell? ⟨bx, ox + i, none⟩ = some (.int .u64 (xs.getD i 0 : Nat))) (hal : bz = bx ∧ oz = ox) (s x : Nat) (hs : s < 18446744073709551616) (hxx : xs.getD 0 0 = x) (hsd : s + y + 0 = x + 18446744073709551616 * 1) :
    Calls Tryf.prog 102 #[.slice (some ⟨bz, oz, none⟩) n kz, .slice (some ⟨bx, ox, none⟩) n kx, .int .u64 (y : Nat)] w (vwSubR w bz oz cz T xs y n) := by
  obtain ⟨rfl, rfl⟩ := hal
  have hxlt : x < 18446744073709551616 := by rw [← hxx]; exact getD_lt hxb (by omega) 0
  have hx0 := hx 0 hn0
  rw [hxx, Nat.add_zero] at hx0
  have hz0 : w.cell? ⟨bz, oz, none⟩ = some (cz[oz]'(by omega)) := by rw [blk_cell hz]; exact Array.getElem?_eq_getElem (by omega)
  generalize cz[oz]'(by omega) = z0 at hz0
  have hf0 := blk_free hz oz
  have hu0 : Upd (· = bz) w (w.setCell ⟨bz, oz, none⟩ (.int .u64 (s : Nat))) := (Upd.refl _ _).setCell (by rfl) _
  have hrow0 : (w.setCell ⟨bz, oz, none⟩ (.int .u64 (s : Nat))).heap[bz]? = some (.cells (put cz oz (words .u64 [s])) T (0, 0)) := by
    rw [blk_setc hz, show words IntKind.u64 [s] = [] ++ [.int .u64 (s : Nat)] from rfl, ← put_set _ _ _ _ (by simp; omega), put_nil]
    rfl
  have HZ := Lib.hid hz
  have HX := Lib.hid hx
  have HXL := Lib.hid hxl
  have HXB := Lib.hid hxb
  have HXX := Lib.hid hxx
  have HSD := Lib.hid hsd
  have HU0 := Lib.hid hu0
  have HROW0 := Lib.hid hrow0
  clear hz hx hxl hxb hxx hsd hu0 hrow0
  have H1 : Hid (vwSubL w bz oz cz T xs y n (.int .i64 ((1 : Nat) : Int)) (w.setCell ⟨bz, oz, none⟩ (.int .u64 (s : Nat)))) := Lib.hid ⟨1, [s], by omega, by omega, rfl, rfl, by simpa using hs, by
    have h1 := val_take_succ xs 0
    have h2 := HSD.out
    rw [HXX.out] at h1
    simp [val] at h1 ⊢
    omega, HU0.out, HROW0.out⟩
  go_enter Tryf.func102, Tryf.ntmps102
  go_wp2_with fail
  refine (bitsSub_any x y 0 s 1 hs hxlt (by omega) (by omega) HSD.out _).mono ?_
  rintro e w1 ⟨rfl, rfl⟩
  go_wp2_with fail
  clear hx0 hz0 hf0
  generalize w1.setCell ⟨bz, oz, none⟩ (.int .u64 (s : Nat)) = W at *
  go_loopw [9] (fun iv wr => vwSubL w1 bz oz cz T xs y n iv wr) (fun iv _ => n - (intOf iv).toNat)
  case atStart => exact H1.out
  case round =>
    obtain ⟨k, ws, hk1, hk, rfl, hl, hb, hv, hu, hrow⟩ := hrel
    by_cases hlt : k < n
    · obtain ⟨xi, hxi⟩ : ∃ xi, xs.getD k 0 = xi := ⟨_, rfl⟩
      have hcx := row_read HZ.out hfit hlt hl (fun e => rfl) hu hrow (HX.out k hlt)
      rw [hxi] at hcx
      have hxilt : xi < 18446744073709551616 := by rw [← hxi]; exact getD_lt HXB.out (by omega) k
      have hcz : wr.cell? ⟨bz, oz + k, none⟩ = some (cz[oz + k]'(by omega)) := by rw [blk_cell hrow, put_past _ _ _ _ (by omega) (by rw [words_len]; omega)]; exact Array.getElem?_eq_getElem (by omega)
      clear hcz
      have hfz := blk_free hrow (oz + k)
      have hstep : ∀ t : Nat, t < 18446744073709551616 → (∀ x ∈ ws ++ [t], x < 18446744073709551616) ∧ (ws ++ [t]).length = k + 1 ∧ Upd (· = bz) w1 (wr.setCell ⟨bz, oz + k, none⟩ (.int .u64 (t : Nat))) ∧ (wr.setCell ⟨bz, oz + k, none⟩ (.int .u64 (t : Nat))).heap[bz]? = some (.cells (put cz oz (words .u64 (ws ++ [t]))) T (0, 0)) := by
        intro t ht
        refine ⟨mem_snoc hb ht, by simp [hl], hu.same ((Upd.refl _ _).setCell (by rfl) _), ?_⟩
        rw [blk_setc hrow, words_app, show words IntKind.u64 [t] = [.int .u64 (t : Nat)] from rfl, ← put_set _ _ _ _ (by rw [words_len]; omega), words_len, hl]
      have HST := Lib.hid hstep
      have HV := Lib.hid hv
      have HL := Lib.hid hl
      have HXI := Lib.hid hxi
      clear hstep hv hl hxi hb hrow
      have HUU := Lib.hid hu
      clear hu
      by_cases hbig : xi = 0
      · subst hbig
        have hvk : vwSubL w1 bz oz cz T xs y n (.int .i64 ((k + 1 : Nat) : Int)) (wr.setCell ⟨bz, oz + k, none⟩ (.int .u64 ((18446744073709551615 : Nat) : Int))) := by
          obtain ⟨g1, g2, g3, g4⟩ := HST.out 18446744073709551615 (by omega)
          refine ⟨k + 1, _, by omega, by omega, rfl, g2, g1, ?_, g3, g4⟩
          have h1 := val_take_succ xs k
          have h2 := HV.out
          rw [HXI.out] at h1
          rw [val_snoc, HL.out, h1, Nat.pow_succ]
          omega
        have HVK := Lib.hid hvk
        clear hvk
        go_wp2_with fail
        go_roundw
        case rel => exact HVK.out
        case measure => simp [intOf]; omega
      · have hbb : ((xi : Int) == 0) = false := by simp; omega
        have hbn : ((xi : Int) != 0) = true := by simp; omega
        obtain ⟨g1, g2, g3, g4⟩ := HST.out (xi - 1) (by omega)
        have hvv : val (ws ++ [xi - 1]) + y = val (xs.take (k + 1)) := by
          have h1 := val_take_succ xs k
          have h2 := HV.out
          rw [HXI.out] at h1
          rw [val_snoc, HL.out, h1]
          rw [show xi = xi - 1 + 1 by omega, Nat.mul_add, Nat.add_sub_cancel]; omega
        have hcast : ((xi - 1 : Nat) : Int) = (xi : Int) - 1 := by omega
        rw [hcast] at g3 g4
        clear hcast
        have HB := Lib.hid g1
        have HW := Lib.hid g2
        replace HU0 := Lib.hid g3
        replace HROW0 := Lib.hid g4
        replace HV := Lib.hid hvv
        have hlo : 0 < xi := by omega
        clear g1 g2 g3 g4 hvv hbig
        have hne := neqWordSame ⟨bz, oz, none⟩
        go_wp2_with fail
        clear hcx hfz
        generalize wr.setCell ⟨bz, oz + k, none⟩ (.int .u64 ((xi : Int) - 1)) = W2 at *
        go_quiet (fail)
        clear hne
        go_wp2_with fail
        go_ret
        exact vwSub_alias (k := k + 1) HW.out (by omega) hfit HXL.out HB.out HXB.out HV.out (HU0.out.drewN nq) (heap_drewN HROW0.out nq) HZ.out HX.out
    · obtain rfl : k = n := by omega
      have HR : Hid (vwSubR w1 bz oz cz T xs y k (.returned (.int .u64 ((1 : Nat) : Int))) wr) := Lib.hid ⟨ws, 1, rfl, hl, hb, by omega, by
        have h1 := HXL.out
        rw [List.take_of_length_le (by omega)] at hv; omega, hu, hrow⟩
      clear hv hu hrow hl hb
      go_wp2_with fail
      go_ret
      exact HR.out

set_option maxHeartbeats 2000000 in
theorem vwSub_1o (bz oz kz bx ox kx y n : Nat) (cz : Array Value) (T : TypeId) (xs : List Nat) (w : World) (hz : w.heap[bz]? = some (.cells cz T (0, 0))) (hfit : oz + n ≤ cz.size) (hn0 : 0 < n) (hn : n ≤ 9223372036854775806) (hkz1 : n ≤ kz) (hkz2 : kz ≤ 9223372036854775807) (hkx1 : n ≤ kx) (hkx2 : kx ≤ 9223372036854775807) (hy1 : y ≤ 1)
    (hxl : xs.length = n) (hxb : ∀ x ∈ xs, x < 18446744073709551616) (hx : ∀ i, i < n → w.cell? ⟨bx, ox + i, none⟩ = some (.int .u64 (xs.getD i 0 : Nat))) (hal : bx ≠ bz ∧ ∃ dx Tx, w.heap[bx]? = some (.cells dx Tx (0, 0))) (s x : Nat) (hs : s < 18446744073709551616) (hxx : xs.getD 0 0 = x) (hsd : s + y + 0 = x + 18446744073709551616 * 1) :
    Calls Tryf.prog 102 #[.slice (some ⟨bz, oz, none⟩) n kz, .slice (some ⟨bx, ox, none⟩) n kx, .int .u64 (y : Nat)] w (vwSubR w bz oz cz T xs y n) := by
  obtain ⟨hal, dx, Tx, hdx⟩ := hal
  have hxlt : x < 18446744073709551616 := by rw [← hxx]; exact getD_lt hxb (by omega) 0
  have hx0 := hx 0 hn0
  rw [hxx, Nat.add_zero] at hx0
  have hz0 : w.cell? ⟨bz, oz, none⟩ = some (cz[oz]'(by omega)) := by rw [blk_cell hz]; exact Array.getElem?_eq_getElem (by omega)
  generalize cz[oz]'(by omega) = z0 at hz0
  have hf0 := blk_free hz oz
  have hu0 : Upd (· = bz) w (w.setCell ⟨bz, oz, none⟩ (.int .u64 (s : Nat))) := (Upd.refl _ _).setCell (by rfl) _
  have hrow0 : (w.setCell ⟨bz, oz, none⟩ (.int .u64 (s : Nat))).heap[bz]? = some (.cells (put cz oz (words .u64 [s])) T (0, 0)) := by
    rw [blk_setc hz, show words IntKind.u64 [s] = [] ++ [.int .u64 (s : Nat)] from rfl, ← put_set _ _ _ _ (by simp; omega), put_nil]
    rfl
  have hxw : ∀ i, i < n → (w.setCell ⟨bz, oz, none⟩ (.int .u64 (s : Nat))).cell? ⟨bx, ox + i, none⟩ = some (.int .u64 (xs.getD i 0 : Nat)) := fun i hi => hu0.cell (hx i hi) hal
  have hdx0 := hu0.heap hdx hal
  have HXC0 := Lib.hid hxw
  have HDX := Lib.hid hdx0
  have HDX0 := Lib.hid hdx
  clear hxw hdx0 hdx HXC0
  have HZ := Lib.hid hz
  have HX := Lib.hid hx
  have HXL := Lib.hid hxl
  have HXB := Lib.hid hxb
  have HXX := Lib.hid hxx
  have HSD := Lib.hid hsd
  have HU0 := Lib.hid hu0
  have HROW0 := Lib.hid hrow0
  clear hz hx hxl hxb hxx hsd hu0 hrow0
  have H1 : Hid (vwSubL w bz oz cz T xs y n (.int .i64 ((1 : Nat) : Int)) (w.setCell ⟨bz, oz, none⟩ (.int .u64 (s : Nat)))) := Lib.hid ⟨1, [s], by omega, by omega, rfl, rfl, by simpa using hs, by
    have h1 := val_take_succ xs 0
    have h2 := HSD.out
    rw [HXX.out] at h1
    simp [val] at h1 ⊢
    omega, HU0.out, HROW0.out⟩
  go_enter Tryf.func102, Tryf.ntmps102
  go_wp2_with fail
  refine (bitsSub_any x y 0 s 1 hs hxlt (by omega) (by omega) HSD.out _).mono ?_
  rintro e w1 ⟨rfl, rfl⟩
  go_wp2_with fail
  clear hx0 hz0 hf0
  generalize w1.setCell ⟨bz, oz, none⟩ (.int .u64 (s : Nat)) = W at *
  go_loopw [9] (fun iv wr => vwSubL w1 bz oz cz T xs y n iv wr) (fun iv _ => n - (intOf iv).toNat)
  case atStart => exact H1.out
  case round =>
    obtain ⟨k, ws, hk1, hk, rfl, hl, hb, hv, hu, hrow⟩ := hrel
    by_cases hlt : k < n
    · obtain ⟨xi, hxi⟩ : ∃ xi, xs.getD k 0 = xi := ⟨_, rfl⟩
      have hcx := row_read HZ.out hfit hlt hl (fun e => absurd e hal) hu hrow (HX.out k hlt)
      rw [hxi] at hcx
      have hxilt : xi < 18446744073709551616 := by rw [← hxi]; exact getD_lt HXB.out (by omega) k
      have hcz : wr.cell? ⟨bz, oz + k, none⟩ = some (cz[oz + k]'(by omega)) := by rw [blk_cell hrow, put_past _ _ _ _ (by omega) (by rw [words_len]; omega)]; exact Array.getElem?_eq_getElem (by omega)
      generalize cz[oz + k]'(by omega) = zk at hcz
      have hfz := blk_free hrow (oz + k)
      have hstep : ∀ t : Nat, t < 18446744073709551616 → (∀ x ∈ ws ++ [t], x < 18446744073709551616) ∧ (ws ++ [t]).length = k + 1 ∧ Upd (· = bz) w1 (wr.setCell ⟨bz, oz + k, none⟩ (.int .u64 (t : Nat))) ∧ (wr.setCell ⟨bz, oz + k, none⟩ (.int .u64 (t : Nat))).heap[bz]? = some (.cells (put cz oz (words .u64 (ws ++ [t]))) T (0, 0)) := by
        intro t ht
        refine ⟨mem_snoc hb ht, by simp [hl], hu.same ((Upd.refl _ _).setCell (by rfl) _), ?_⟩
        rw [blk_setc hrow, words_app, show words IntKind.u64 [t] = [.int .u64 (t : Nat)] from rfl, ← put_set _ _ _ _ (by rw [words_len]; omega), words_len, hl]
      have HST := Lib.hid hstep
      have HV := Lib.hid hv
      have HL := Lib.hid hl
      have HXI := Lib.hid hxi
      clear hstep hv hl hxi hb hrow
      have HUU := Lib.hid hu
      clear hu
      by_cases hbig : xi = 0
      · subst hbig
        have hvk : vwSubL w1 bz oz cz T xs y n (.int .i64 ((k + 1 : Nat) : Int)) (wr.setCell ⟨bz, oz + k, none⟩ (.int .u64 ((18446744073709551615 : Nat) : Int))) := by
          obtain ⟨g1, g2, g3, g4⟩ := HST.out 18446744073709551615 (by omega)
          refine ⟨k + 1, _, by omega, by omega, rfl, g2, g1, ?_, g3, g4⟩
          have h1 := val_take_succ xs k
          have h2 := HV.out
          rw [HXI.out] at h1
          rw [val_snoc, HL.out, h1, Nat.pow_succ]
          omega
        have HVK := Lib.hid hvk
        clear hvk
        go_wp2_with fail
        go_roundw
        case rel => exact HVK.out
        case measure => simp [intOf]; omega
      · have hbb : ((xi : Int) == 0) = false := by simp; omega
        have hbn : ((xi : Int) != 0) = true := by simp; omega
        obtain ⟨g1, g2, g3, g4⟩ := HST.out (xi - 1) (by omega)
        have hvv : val (ws ++ [xi - 1]) + y = val (xs.take (k + 1)) := by
          have h1 := val_take_succ xs k
          have h2 := HV.out
          rw [HXI.out] at h1
          rw [val_snoc, HL.out, h1]
          rw [show xi = xi - 1 + 1 by omega, Nat.mul_add, Nat.add_sub_cancel]; omega
        have hcast : ((xi - 1 : Nat) : Int) = (xi : Int) - 1 := by omega
        rw [hcast] at g3 g4
        clear hcast
        have HB := Lib.hid g1
        have HW := Lib.hid g2
        replace HU0 := Lib.hid g3
        replace HROW0 := Lib.hid g4
        replace HV := Lib.hid hvv
        have hlo : 0 < xi := by omega
        clear g1 g2 g3 g4 hvv hbig
        go_wp2_with fail
        clear hcx hcz hfz
        replace HDX := Lib.hid (HU0.out.heap HDX0.out hal)
        have HXC0 := Lib.hid (fun i hi => HU0.out.cell (HX.out i hi) hal)
        generalize wr.setCell ⟨bz, oz + k, none⟩ (.int .u64 ((xi : Int) - 1)) = W2 at *
        have hne := fun nq => neqWordOther (a := oz) (b := ox) (w := W2.drewN nq) (fun e => hal e.symm) (heap_drewN HROW0.out nq) (heap_drewN HDX.out nq)
        go_quiet (fail)
        clear hne
        have HU := Lib.hid (HU0.out.drewN nq)
        have HROW := Lib.hid (heap_drewN HROW0.out nq)
        have hxn : ∀ i, i < n → (W2.drewN nq).cell? ⟨bx, ox + i, none⟩ = some (.int .u64 (xs.getD i 0 : Nat)) := fun i hi => HXC0.out i hi
        have HXC := Lib.hid hxn
        clear hxn
        generalize W2.drewN nq = wp at *
        go_wp2_with fail
        refine wp_region_D preExt mixed [Is (.slice (some ⟨bz, oz, none⟩) n kz), Is (.int .i64 (k : Nat)), Is (.int .i64 ((k : Int) + 1)), Sl bz oz n (k + 1), Is (.slice (some ⟨bx, ox, none⟩) n kx), Is (.int .i64 (k : Nat)), Is (.int .i64 ((k : Int) + 1)), Sl bx ox n (k + 1)] (by kernel_rfl) ?mono rfl ?steps ?last
        case mono =>
          simp only [List.forall_mem_cons, List.not_mem_nil, false_implies, implies_true, and_true]
          refine ⟨?_, ?_, ?_, ?_, ?_, ?_, ?_, ?_⟩
          all_goals exact fun _ _ _ _ q => q
        case steps =>
          refine ⟨?_, ?_, ?_, ?_, ?_, ?_, ?_, ?_, trivial⟩
          all_goals
            intro u0 u1 u2 u3 u4 u5 u6 u7 u8 w1 he hk
            simp [KnownD, Oper.looksAt, Op.operands, Call.operands, List.findIdx?_cons, Act.put] at hk
            simp only [Act.put, List.setIfInBounds_toArray, List.set_cons_succ, List.set_cons_zero]
          · go_wp2_with fail
            exact ⟨rfl, Ext.refl _, rfl⟩
          · go_wp2_with fail
            exact ⟨rfl, Ext.refl _, rfl⟩
          · obtain rfl : u1 = .int .i64 (k : Nat) := hk
            go_wp2_with fail
            exact ⟨rfl, Ext.refl _, rfl⟩
          · obtain ⟨k0, k1⟩ := hk
            obtain rfl : u0 = .slice (some ⟨bz, oz, none⟩) n kz := k0
            obtain rfl : u2 = .int .i64 ((k : Int) + 1) := k1
            obtain ⟨v, hv, hS⟩ := slice_from bz oz n kz (k + 1) (by omega) (by omega)
            rw [show (((k + 1 : Nat)) : Int) = (k : Int) + 1 by omega] at hv
            have HS := Lib.hid hS
            clear hS
            refine wpList_slice_v rfl hv ?_
            refine wpList_nil ?_
            simp only [Act.put, List.setIfInBounds_toArray, List.set_cons_succ, List.set_cons_zero]
            exact ⟨rfl, Ext.refl _, HS.out w1⟩
          · go_wp2_with fail
            exact ⟨rfl, Ext.refl _, rfl⟩
          · go_wp2_with fail
            exact ⟨rfl, Ext.refl _, rfl⟩
          · obtain rfl : u5 = .int .i64 (k : Nat) := hk
            go_wp2_with fail
            exact ⟨rfl, Ext.refl _, rfl⟩
          · obtain ⟨k0, k1⟩ := hk
            obtain rfl : u4 = .slice (some ⟨bx, ox, none⟩) n kx := k0
            obtain rfl : u6 = .int .i64 ((k : Int) + 1) := k1
            obtain ⟨v, hv, hS⟩ := slice_from bx ox n kx (k + 1) (by omega) (by omega)
            rw [show (((k + 1 : Nat)) : Int) = (k : Int) + 1 by omega] at hv
            have HS := Lib.hid hS
            clear hS
            refine wpList_slice_v rfl hv ?_
            refine wpList_nil ?_
            simp only [Act.put, List.setIfInBounds_toArray, List.set_cons_succ, List.set_cons_zero]
            exact ⟨rfl, Ext.refl _, HS.out w1⟩
        case last =>
          intro w1 he u0 h0 u1 h1 u2 h2 u3 h3 u4 h4 u5 h5 u6 h6 u7 h7
          obtain ⟨az, cz1, hz1, hz2⟩ : ∃ az cz1, u3 = .slice az (n - (k + 1)) cz1 ∧ ((k + 1) < n → az = some ⟨bz, oz + (k + 1), none⟩) := h3
          obtain ⟨ax, cx1, hx1, hx2⟩ : ∃ ax cx1, u7 = .slice ax (n - (k + 1)) cx1 ∧ ((k + 1) < n → ax = some ⟨bx, ox + (k + 1), none⟩) := h7
          subst hz1 hx1
          clear h0 h1 h2 h4 h5 h6
          have hrow1 := he.block HROW.out
          have HU1 := Lib.hid ((HU.out.trans (Ext.upd (S := (· = bz)) he)).mono (fun _ _ q => q.elim id id))
          simp only [LastD, Act.put, List.setIfInBounds_toArray, List.set_cons_succ, List.set_cons_zero]
          by_cases hlast : n = (k + 1)
          · have HL := Lib.hid hlast
            clear hlast
            have HROW1 := Lib.hid hrow1
            clear hrow1 hz2 hx2
            refine wpList_copy_nothing rfl (.tmp 69) (.tmp 73) 79 79 rfl 93 Tryf.underlying79 sizeWord az ax (n - (k + 1)) cz1 (n - (k + 1)) cx1 rfl rfl (by rw [HL.out]; simp) ?_
            simp only [Act.put, List.setIfInBounds_toArray, List.set_cons_succ, List.set_cons_zero]
            go_wp2_with fail
            go_ret
            exact vwSub_end HW.out (by have := HL.out; omega) HXL.out HB.out HXB.out HV.out HU1.out HROW1.out
          · obtain rfl := hz2 (by omega)
            obtain rfl := hx2 (by omega)
            have hsrc := vw_src (k := (k + 1)) HXL.out (fun i hi => he.cell (HXC.out i hi))
            have HSRC := Lib.hid hsrc
            have HROW1 := Lib.hid hrow1
            clear hsrc hrow1 hz2 hx2
            refine wpList_copy_own rfl (.tmp 69) (.tmp 73) 79 79 rfl 93 Tryf.underlying79 sizeWord bz (oz + (k + 1)) _ _ ⟨bx, ox + (k + 1), none⟩ _ _ rfl rfl _ T HROW1.out (words .u64 (xs.drop (k + 1))) ?s1 HSRC.out ?s2 (words_one _ _) ?_
            case s1 => rw [words_len, List.length_drop, HXL.out]; exact (Nat.min_self _).symm
            case s2 => rw [words_len, List.length_drop, HXL.out, put_size _ _ _ (by rw [words_len, HW.out]; omega)]; omega
            simp only [Act.put, List.setIfInBounds_toArray, List.set_cons_succ, List.set_cons_zero]
            go_wp2_with fail
            go_ret
            exact vwSub_copy HW.out (by omega) hfit HXL.out HB.out HXB.out HV.out HU1.out HROW1.out
    · obtain rfl : k = n := by omega
      have HR : Hid (vwSubR w1 bz oz cz T xs y k (.returned (.int .u64 ((1 : Nat) : Int))) wr) := Lib.hid ⟨ws, 1, rfl, hl, hb, by omega, by
        have h1 := HXL.out
        rw [List.take_of_length_le (by omega)] at hv; omega, hu, hrow⟩
      clear hv hu hrow hl hb
      go_wp2_with fail
      go_ret
      exact HR.out

theorem vwSub_any (bz oz kz bx ox kx y n : Nat) (cz : Array Value) (T : TypeId) (xs : List Nat) (w : World) (hz : w.heap[bz]? = some (.cells cz T (0, 0))) (hfit : oz + n ≤ cz.size) (hn0 : 0 < n) (hn : n ≤ 9223372036854775806) (hkz1 : n ≤ kz) (hkz2 : kz ≤ 9223372036854775807) (hkx1 : n ≤ kx) (hkx2 : kx ≤ 9223372036854775807) (hy1 : y ≤ 1)
    (hxl : xs.length = n) (hxb : ∀ x ∈ xs, x < 18446744073709551616) (hx : ∀ i, i < n → w.cell? ⟨bx, ox + i, none⟩ = some (.int .u64 (xs.getD i 0 : Nat))) (hax : bx = bz → ox = oz) (hdx : ∃ dx Tx, w.heap[bx]? = some (.cells dx Tx (0, 0))) :
    Calls Tryf.prog 102 #[.slice (some ⟨bz, oz, none⟩) n kz, .slice (some ⟨bx, ox, none⟩) n kx, .int .u64 (y : Nat)] w (vwSubR w bz oz cz T xs y n) := by
  have hxlt : xs.getD 0 0 < 18446744073709551616 := getD_lt hxb (by omega) 0
  obtain ⟨s, d, hs, hd, hsd⟩ : ∃ s d : Nat, s < 18446744073709551616 ∧ d ≤ 1 ∧ s + y + 0 = xs.getD 0 0 + 18446744073709551616 * d := sub_digit hxlt (by omega) (by omega)
  have hd' : d = 0 ∨ d = 1 := by omega
  by_cases hb : bx = bz
  · rcases hd' with rfl | rfl
    · exact vwSub_0a bz oz kz bx ox kx y n cz T xs w hz hfit hn0 hn hkz1 hkz2 hkx1 hkx2 hy1 hxl hxb hx ⟨hb.symm, (hax hb).symm⟩ s _ hs rfl hsd
    · exact vwSub_1a bz oz kz bx ox kx y n cz T xs w hz hfit hn0 hn hkz1 hkz2 hkx1 hkx2 hy1 hxl hxb hx ⟨hb.symm, (hax hb).symm⟩ s _ hs rfl hsd
  · rcases hd' with rfl | rfl
    · exact vwSub_0o bz oz kz bx ox kx y n cz T xs w hz hfit hn0 hn hkz1 hkz2 hkx1 hkx2 hy1 hxl hxb hx ⟨hb, hdx⟩ s _ hs rfl hsd
    · exact vwSub_1o bz oz kz bx ox kx y n cz T xs w hz hfit hn0 hn hkz1 hkz2 hkx1 hkx2 hy1 hxl hxb hx ⟨hb, hdx⟩ s _ hs rfl hsd

end Go.Proofs.YtocadbghhoibnaaFmt

/- nat.add, nat.sub: contracts (printed by gennat.py). -/
namespace Go.Proofs.YtocadbghhoibnaaFmt
open Go.RowKit

theorem addVVR.ext {w w1 w2 : World} {bz oz : Nat} {cz : Array Value} {T : TypeId} {xs ys : List Nat} {n : Nat} {e : Ending} (h : addVVR w bz oz cz T xs ys n e w1) (he : Ext w1 w2) : addVVR w bz oz cz T xs ys n e w2 := by
  obtain ⟨ws, c, h1, h2, h3, h4, h5, h6, h7⟩ := h
  exact ⟨ws, c, h1, h2, h3, h4, h5, h6.same he.upd, he.block h7⟩
theorem addVVR.of {w w1 w2 : World} {bz oz : Nat} {cz : Array Value} {T : TypeId} {xs ys : List Nat} {n : Nat} {e : Ending} (he : Ext w w1) (h : addVVR w1 bz oz cz T xs ys n e w2) : addVVR w bz oz cz T xs ys n e w2 := by
  obtain ⟨ws, c, h1, h2, h3, h4, h5, h6, h7⟩ := h
  exact ⟨ws, c, h1, h2, h3, h4, h5, he.upd.same h6, h7⟩
theorem subVVR.ext {w w1 w2 : World} {bz oz : Nat} {cz : Array Value} {T : TypeId} {xs ys : List Nat} {n : Nat} {e : Ending} (h : subVVR w bz oz cz T xs ys n e w1) (he : Ext w1 w2) : subVVR w bz oz cz T xs ys n e w2 := by
  obtain ⟨ws, c, h1, h2, h3, h4, h5, h6, h7⟩ := h
  exact ⟨ws, c, h1, h2, h3, h4, h5, h6.same he.upd, he.block h7⟩
theorem subVVR.of {w w1 w2 : World} {bz oz : Nat} {cz : Array Value} {T : TypeId} {xs ys : List Nat} {n : Nat} {e : Ending} (he : Ext w w1) (h : subVVR w1 bz oz cz T xs ys n e w2) : subVVR w bz oz cz T xs ys n e w2 := by
  obtain ⟨ws, c, h1, h2, h3, h4, h5, h6, h7⟩ := h
  exact ⟨ws, c, h1, h2, h3, h4, h5, he.upd.same h6, h7⟩
theorem vwAddR.ext {w w1 w2 : World} {bz oz : Nat} {cz : Array Value} {T : TypeId} {xs : List Nat} {y n : Nat} {e : Ending} (h : vwAddR w bz oz cz T xs y n e w1) (he : Ext w1 w2) : vwAddR w bz oz cz T xs y n e w2 := by
  obtain ⟨ws, c, h1, h2, h3, h4, h5, h6, h7⟩ := h
  exact ⟨ws, c, h1, h2, h3, h4, h5, h6.same he.upd, he.block h7⟩
theorem vwAddR.of {w w1 w2 : World} {bz oz : Nat} {cz : Array Value} {T : TypeId} {xs : List Nat} {y n : Nat} {e : Ending} (he : Ext w w1) (h : vwAddR w1 bz oz cz T xs y n e w2) : vwAddR w bz oz cz T xs y n e w2 := by
  obtain ⟨ws, c, h1, h2, h3, h4, h5, h6, h7⟩ := h
  exact ⟨ws, c, h1, h2, h3, h4, h5, he.upd.same h6, h7⟩
theorem vwSubR.ext {w w1 w2 : World} {bz oz : Nat} {cz : Array Value} {T : TypeId} {xs : List Nat} {y n : Nat} {e : Ending} (h : vwSubR w bz oz cz T xs y n e w1) (he : Ext w1 w2) : vwSubR w bz oz cz T xs y n e w2 := by
  obtain ⟨ws, c, h1, h2, h3, h4, h5, h6, h7⟩ := h
  exact ⟨ws, c, h1, h2, h3, h4, h5, h6.same he.upd, he.block h7⟩
theorem vwSubR.of {w w1 w2 : World} {bz oz : Nat} {cz : Array Value} {T : TypeId} {xs : List Nat} {y n : Nat} {e : Ending} (he : Ext w w1) (h : vwSubR w1 bz oz cz T xs y n e w2) : vwSubR w bz oz cz T xs y n e w2 := by
  obtain ⟨ws, c, h1, h2, h3, h4, h5, h6, h7⟩ := h
  exact ⟨ws, c, h1, h2, h3, h4, h5, he.upd.same h6, h7⟩

theorem addVV_call (args : Array Value) (w : World) : (callFunc 98 args).run Tryf.prog w = .ok (.enter 63 args) w :=
  run_callFunc_twin (P := Tryf.prog) (fn := Tryf.f98) (tw := Tryf.f63) (twin := "math/big.addVV_g") (by kernel_rfl) (by kernel_rfl) (by kernel_rfl) (by kernel_rfl) (by kernel_rfl) (by kernel_rfl) (by kernel_rfl) (by kernel_rfl) (by kernel_rfl) args w

theorem subVV_call (args : Array Value) (w : World) : (callFunc 101 args).run Tryf.prog w = .ok (.enter 64 args) w :=
  run_callFunc_twin (P := Tryf.prog) (fn := Tryf.f101) (tw := Tryf.f64) (twin := "math/big.subVV_g") (by kernel_rfl) (by kernel_rfl) (by kernel_rfl) (by kernel_rfl) (by kernel_rfl) (by kernel_rfl) (by kernel_rfl) (by kernel_rfl) (by kernel_rfl) args w

theorem len_mono {xs ys : List Nat} (hx : norm xs = xs) (hy : norm ys = ys) (hb : ∀ q ∈ xs, q < 18446744073709551616) (h : val ys ≤ val xs) : ys.length ≤ xs.length := by
  rcases Nat.lt_or_ge xs.length ys.length with h1 | h1
  · have h2 := norm_last hy (by intro e; rw [e] at h1; simp at h1)
    have h3 := val_lt xs hb
    have h4 : 18446744073709551616 ^ xs.length ≤ 18446744073709551616 ^ (ys.length - 1) := Nat.pow_le_pow_right (by decide) (by omega)
    omega
  · exact h1

theorem getD_take (xs : List Nat) (n i : Nat) (h : i < n) : (xs.take n).getD i 0 = xs.getD i 0 := by
  rw [List.getD_eq_getElem?_getD, List.getD_eq_getElem?_getD, List.getElem?_take, if_pos h]
theorem getD_drop (xs : List Nat) (n i : Nat) : (xs.drop n).getD i 0 = xs.getD (n + i) 0 := by
  rw [List.getD_eq_getElem?_getD, List.getD_eq_getElem?_getD, List.getElem?_drop]

theorem sub_zero {ws xs ys : List Nat} {m c : Nat} (h : val ws + val ys = val xs + 18446744073709551616 ^ m * c) (hge : val ys ≤ val xs) (hb : ∀ q ∈ ws, q < 18446744073709551616) (hl : ws.length = m) : c = 0 := by
  have h1 := val_lt ws hb
  rw [hl] at h1
  rcases Nat.eq_zero_or_pos c with h2 | h2
  · exact h2
  · have : 18446744073709551616 ^ m * 1 ≤ 18446744073709551616 ^ m * c := Nat.mul_le_mul_left _ h2
    omega

/-- What the row holds behind the sums of the words. -/
theorem natAdd_two {w1 w2 w3 : World} {g m n c1 c : Nat} {cur : Array Value} {T : TypeId} {xs ys ws1 ws2 : List Nat} (hm : xs.length = m) (hn : ys.length = n) (hnm : n ≤ m) (hfit : m ≤ cur.size) (h1 : ws1.length = n) (h2 : ws2.length = m - n) (hv1 : val ws1 + 18446744073709551616 ^ n * c1 = val (xs.take n) + val ys) (hv2 : val ws2 + 18446744073709551616 ^ (m - n) * c = val (xs.drop n) + c1) (hr : w3.heap[g]? = some (.cells (put (put cur 0 (words .u64 ws1)) n (words .u64 ws2)) T (0, 0))) :
    ∃ ws, ws = ws1 ++ ws2 ∧ ws.length = m ∧ (val ws + 18446744073709551616 ^ m * c = val xs + val ys) ∧ w3.heap[g]? = some (.cells (put cur 0 (words .u64 ws)) T (0, 0)) := by
  refine ⟨_, rfl, by simp; omega, ?_, ?_⟩
  · have e := val_split xs n
    have e2 : m = n + (m - n) := by omega
    rw [val_append, h1]
    rw [e2, Nat.pow_add]
    generalize hP : 18446744073709551616 ^ n = P at *
    generalize hR : 18446744073709551616 ^ (m - n) = R at *
    have e3 : P * val ws2 + P * R * c = P * val (xs.drop n) + P * c1 := by rw [Nat.mul_assoc, ← Nat.mul_add, hv2, Nat.mul_add]
    omega
  · have e : (words .u64 ws1).length = n := by rw [words_len, h1]
    rw [hr, words_app, ← put_put _ _ _ _ (by rw [words_len, words_len]; omega), e, Nat.zero_add]

set_option maxHeartbeats 1000000 in
theorem natAdd_m0 (v0 x y : Value) (vs xs ys : List Nat) (w : World) (hv : Own .u64 w 0 93 v0 vs) (hx : Own .u64 w 0 93 x xs) (hy : Own .u64 w 0 93 y ys) (hnx : norm xs = xs) (hny : norm ys = ys) (hl : xs.length ≤ 17592186044416) (hle : ys.length ≤ xs.length) (h0 : xs.length = 0) :
    Calls Tryf.prog 89 #[v0, x, y] w (NatVR v0 (val xs + val ys) (xs.length + 1) w) := by
  have hlx := nil_of_len h0
  have hly := nil_of_len (xs := ys) (by omega)
  rw [hlx, hly]
  obtain ⟨a, c, rfl⟩ := hv.form
  obtain ⟨ax, cx, rfl⟩ := hx.form
  obtain ⟨ay, cy, rfl⟩ := hy.form
  obtain ⟨_, k1, k2⟩ := hv.cap
  have hfin : NatVR (.slice a vs.length c) 0 (xs.length + 1) w (.returned (.slice a 0 c)) w := ⟨[], rfl, rfl, by simp, _, rfl, hv.cut, Upd.refl _ _, .inl (by cases a <;> rfl)⟩
  have hly0 : ys.length = 0 := by omega
  rw [h0] at hfin
  have HF := Lib.hid hfin
  rw [h0, hly0]
  clear hv hx hy hnx hny hfin hlx hly
  go_enter Tryf.func89, Tryf.ntmps89
  go_wp2_with fail
  go_ret
  exact HF.out

set_option maxHeartbeats 1000000 in
theorem natAdd_n0 (v0 x y : Value) (vs xs ys : List Nat) (w : World) (hv : Own .u64 w 0 93 v0 vs) (hx : Own .u64 w 0 93 x xs) (hy : Own .u64 w 0 93 y ys) (hnx : norm xs = xs) (hny : norm ys = ys) (hl : xs.length ≤ 17592186044416) (hle : ys.length ≤ xs.length) (h0 : ys.length = 0) (hpos : 0 < xs.length) :
    Calls Tryf.prog 89 #[v0, x, y] w (NatVR v0 (val xs + val ys) (xs.length + 1) w) := by
  have hly := nil_of_len h0
  rw [hly]
  obtain ⟨a, c, rfl⟩ := hv.form
  obtain ⟨ax, cx, rfl⟩ := hx.form
  obtain ⟨ay, cy, rfl⟩ := hy.form
  rw [h0]
  have HV := Lib.hid hv
  have HX := Lib.hid hx
  have HN := Lib.hid hnx
  have hb0 : ((xs.length : Int) == 0) = false := beq_eq_false_iff_ne.2 (by omega)
  clear hv hx hy hnx hny hly h0
  go_enter Tryf.func89, Tryf.ntmps89
  go_wp2_with fail
  refine (natSet_any _ vs _ xs _ HV.out HX.out.read (by omega)).mono ?_
  intro e w1 hR
  obtain ⟨v', rfl, q⟩ := hR
  have HQ := Lib.hid q
  clear q
  go_wp2_with fail
  go_ret
  exact ⟨xs, HN.out, by omega, by omega, _, rfl, HQ.out⟩

set_option maxRecDepth 100000 in
set_option maxHeartbeats 2000000 in
theorem natAdd_main (v0 x y : Value) (vs xs ys : List Nat) (w : World) (hv : Own .u64 w 0 93 v0 vs) (hx : Own .u64 w 0 93 x xs) (hy : Own .u64 w 0 93 y ys) (hnx : norm xs = xs) (hny : norm ys = ys) (hl : xs.length ≤ 17592186044416) (hle : ys.length ≤ xs.length) (hpos : 0 < ys.length) :
    Calls Tryf.prog 89 #[v0, x, y] w (NatVR v0 (val xs + val ys) (xs.length + 1) w) := by
  obtain ⟨a, c0, rfl⟩ := hv.form
  obtain ⟨gx, cx, curx, rfl, hcx1, hcx2, hgx, hsx, hxc⟩ := own_open hx (by omega)
  obtain ⟨gy, cy, cury, rfl, hcy1, hcy2, hgy, hsy, hyc⟩ := own_open hy hpos
  have hxb : ∀ q ∈ xs, q < 18446744073709551616 := hx.1
  have hyb : ∀ q ∈ ys, q < 18446744073709551616 := hy.1
  generalize hm : xs.length = m at *
  generalize hn : ys.length = n at *
  generalize hv0 : Value.slice a vs.length c0 = v0 at *
  have HV0 := Lib.hid hv0
  have HM := Lib.hid hm
  have HN := Lib.hid hn
  have HV := Lib.hid hv
  have HXB := Lib.hid hxb
  have HYB := Lib.hid hyb
  have HXC0 := Lib.hid hxc
  have HYC0 := Lib.hid hyc
  have HGX := Lib.hid hgx
  clear hv hx hy hnx hny hxb hyb hxc hyc hgx hgy hm hn hv0
  have hbm : ((m : Int) == 0) = false := by simp; omega
  have hbn : ((n : Int) == 0) = false := by simp; omega
  go_enter Tryf.func89, Tryf.ntmps89
  go_wp2_with fail
  refine (make_any v0 _ (m + 1) _ _ HV.out.2 (by omega)).mono ?_
  rintro e w1 ⟨z, zs, rfl, hown, hor⟩
  obtain ⟨g, cap, cur, rfl, hcap1, hcap2, hg, hsz⟩ := row_open hown (by omega)
  have hext : Ext w w1 := by rcases hor with ⟨rfl, _⟩ | ⟨_, h⟩; exact Ext.refl _; exact h
  have hxc1 : ∀ i, i < m → w1.cell? ⟨gx, 0 + i, none⟩ = some (.int .u64 (xs.getD i 0 : Nat)) := fun i hi => hext.cell (HXC0.out i hi)
  have hyc1 : ∀ i, i < n → w1.cell? ⟨gy, 0 + i, none⟩ = some (.int .u64 (ys.getD i 0 : Nat)) := fun i hi => hext.cell (HYC0.out i hi)
  have HXC := Lib.hid hxc1
  have HYC := Lib.hid hyc1
  have HMK := Lib.hid (MakeR.upd hor)
  have HG := Lib.hid hg
  have HGX1 := Lib.hid (hext.block HGX.out)
  clear hown hor hext hxc1 hyc1 hg HXC0 HYC0
  go_wp2_with fail
  refine wp_region_H preExt (preUpd (· = g)) (fun _ _ h => h.upd) 9 mixed [Is (.slice (some ⟨g, 0, none⟩) (m + 1) cap), Is (.int .i64 (n : Nat)), Is (.slice (some ⟨g, 0, none⟩) n cap), Is (.slice (some ⟨gx, 0, none⟩) m cx), Is (.int .i64 (n : Nat)), Is (.slice (some ⟨gx, 0, none⟩) n cx), Is (.slice (some ⟨gy, 0, none⟩) n cy), Is (.int .i64 (n : Nat)), Is (.slice (some ⟨gy, 0, none⟩) n cy), fun v wz => addVVR w1 g 0 cur 93 (xs.take n) ys n (.returned v) wz] (by kernel_rfl) ?mono ?monoU rfl ?steps ?last
  case mono =>
    simp only [List.forall_mem_cons, List.not_mem_nil, false_implies, implies_true, and_true]
    refine ⟨?_, ?_, ?_, ?_, ?_, ?_, ?_, ?_, ?_, ?_⟩
    all_goals first | exact fun _ _ _ _ q => q | exact fun _ _ _ he q => q.ext he
  case monoU =>
    intro j hj
    match j, hj with
    | 0, _ => exact fun _ _ _ _ q => q
    | 1, _ => exact fun _ _ _ _ q => q
    | 2, _ => exact fun _ _ _ _ q => q
    | 3, _ => exact fun _ _ _ _ q => q
    | 4, _ => exact fun _ _ _ _ q => q
    | 5, _ => exact fun _ _ _ _ q => q
    | 6, _ => exact fun _ _ _ _ q => q
    | 7, _ => exact fun _ _ _ _ q => q
    | 8, _ => exact fun _ _ _ _ q => q
    | 9, h => exact absurd rfl h
    | j + 10, _ => exact fun _ _ _ _ q => trivial
  case steps =>
    refine ⟨?_, ?_, ?_, ?_, ?_, ?_, ?_, ?_, ?_, ?_, trivial⟩
    all_goals
      intro u0 u1 u2 u3 u4 u5 u6 u7 u8 u9 u10 w9 he hk
      simp [KnownD, Oper.looksAt, Op.operands, Call.operands, List.findIdx?_cons, Act.put] at hk
      simp only [Act.put, List.setIfInBounds_toArray, List.set_cons_succ, List.set_cons_zero]
    · go_wp2_with fail
      exact ⟨rfl, Ext.refl _, by show (_ : Value) = _; first | rfl | simp⟩
    · go_wp2_with fail
      exact ⟨rfl, Ext.refl _, by show (_ : Value) = _; first | rfl | simp⟩
    · obtain ⟨k0, k1⟩ := hk
      obtain rfl : u0 = .slice (some ⟨g, 0, none⟩) (m + 1) cap := k0
      obtain rfl : u1 = .int .i64 (n : Nat) := k1
      go_wp2_with fail
      exact ⟨rfl, Ext.refl _, by show (_ : Value) = _; first | rfl | simp⟩
    · go_wp2_with fail
      exact ⟨rfl, Ext.refl _, by show (_ : Value) = _; first | rfl | simp⟩
    · go_wp2_with fail
      exact ⟨rfl, Ext.refl _, by show (_ : Value) = _; first | rfl | simp⟩
    · obtain ⟨k0, k1⟩ := hk
      obtain rfl : u3 = .slice (some ⟨gx, 0, none⟩) m cx := k0
      obtain rfl : u4 = .int .i64 (n : Nat) := k1
      go_wp2_with fail
      exact ⟨rfl, Ext.refl _, by show (_ : Value) = _; first | rfl | simp⟩
    · go_wp2_with fail
      exact ⟨rfl, Ext.refl _, by show (_ : Value) = _; first | rfl | simp⟩
    · go_wp2_with fail
      exact ⟨rfl, Ext.refl _, by show (_ : Value) = _; first | rfl | simp⟩
    · obtain ⟨k0, k1⟩ := hk
      obtain rfl : u6 = .slice (some ⟨gy, 0, none⟩) n cy := k0
      obtain rfl : u7 = .int .i64 (n : Nat) := k1
      go_wp2_with fail
      exact ⟨rfl, Ext.refl _, by show (_ : Value) = _; first | rfl | simp⟩
    · obtain ⟨k0, k1, k2⟩ := hk
      obtain rfl : u2 = .slice (some ⟨g, 0, none⟩) n cap := k0
      obtain rfl : u5 = .slice (some ⟨gx, 0, none⟩) n cx := k1
      obtain rfl : u8 = .slice (some ⟨gy, 0, none⟩) n cy := k2
      have he1 : Ext w1 w9 := he
      have HE9 := Lib.hid he1
      clear he he1
      have hcall := addVV_call
      go_wp2_with fail
      clear hcall
      refine (addVV_any g 0 cap gx 0 cx gy 0 cy n cur 93 (xs.take n) ys _ (HE9.out.block HG.out) (by omega) (by omega) ⟨by omega, by omega⟩ ⟨by omega, by omega⟩ ⟨by omega, by omega⟩ (by rw [List.length_take, HM.out]; omega) HN.out (fun q hq => HXB.out q (List.mem_of_mem_take hq)) HYB.out (fun i hi => by rw [getD_take _ _ _ hi]; exact HE9.out.cell (HXC.out i (by omega))) (fun i hi => HE9.out.cell (HYC.out i hi)) (fun _ => rfl) (fun _ => rfl)).mono ?_
      intro e w8 hR
      obtain ⟨ws, c, rfl, q⟩ := hR
      have HR := Lib.hid (addVVR.of (xs := xs.take n) HE9.out ⟨ws, c, rfl, q⟩)
      have HU8 := Lib.hid q.2.2.2.2.1
      clear q
      go_wp2_with fail
      exact ⟨rfl, HU8.out, HR.out⟩
  case last =>
    intro w2 he u0 h0 u1 h1 u2 h2 u3 h3 u4 h4 u5 h5 u6 h6 u7 h7 u8 h8 u9 h9
    obtain ⟨ws1, c1, e9, q1, q2, q3, q4, q5, q6⟩ := h9
    obtain rfl : u9 = .int .u64 (c1 : Nat) := Ending.returned.inj e9
    clear h0 h1 h2 h3 h4 h5 h6 h7 h8 e9 he
    simp only [LastD, Act.put, List.setIfInBounds_toArray, List.set_cons_succ, List.set_cons_zero]
    have HW1 := Lib.hid q1
    have HB1 := Lib.hid q2
    have hc1 := q3
    have HV1 := Lib.hid q4
    have HU1 := Lib.hid q5
    have HROW := Lib.hid q6
    clear q1 q2 q3 q4 q5 q6
    by_cases hmn : n < m
    · have hx2 : ∀ i, i < m - n → w2.cell? ⟨gx, n + i, none⟩ = some (.int .u64 (xs.getD (n + i) 0 : Nat)) := by
        intro i hi
        have h0 := HXC.out (n + i) (by omega)
        rw [Nat.zero_add] at h0
        by_cases hb : gx = g
        · subst hb
          rw [blk_cell HG.out] at h0
          rw [blk_cell HROW.out, put_past _ _ _ _ (by omega) (by rw [words_len, HW1.out]; omega)]
          exact h0
        · exact HU1.out.cell h0 hb
      have HXC2 := Lib.hid hx2
      obtain ⟨dx, hdx⟩ : ∃ dx, w2.heap[gx]? = some (.cells dx 93 (0, 0)) := by
        by_cases hb : gx = g
        · subst hb; exact ⟨_, HROW.out⟩
        · exact ⟨_, HU1.out.heap HGX1.out hb⟩
      have HGX2 := Lib.hid hdx
      clear hx2 hdx
      go_wp2_with fail
      have hcb : ¬ (cap = n) := by omega
      have hcxb : ¬ (cx = n) := by omega
      have hmc : m ≤ cap := by omega
      have hnm : n ≤ m := by omega
      go_still_tail 8, (by kernel_rfl)
      generalize hw9 : ({ heap := w2.heap, tape := w2.tape, drawn := w2.drawn + 1, os := w2.os, output := w2.output } : World) = w9
      have he1 : Ext w2 w9 := by rw [← hw9]; exact Ext.drew w2
      have HE9 := Lib.hid he1
      clear he1 hw9 hcb hcxb hmc hnm
      go_wp2_with fail
      refine (vwAdd_any g n (cap - n) gx n (cx - n) c1 (m - n) (put cur 0 (words .u64 ws1)) 93 (xs.drop n) _ (HE9.out.block HROW.out) (by rw [put_size _ _ _ (by rw [words_len, HW1.out]; omega)]; omega) (by omega) (by omega) (by omega) (by omega) (by omega) (by omega) hc1 (by rw [List.length_drop, HM.out]) (fun q hq => HXB.out q (List.mem_of_mem_drop hq)) (fun i hi => by rw [getD_drop]; exact HE9.out.cell (HXC2.out i hi)) (fun _ => rfl) ⟨_, _, HE9.out.block HGX2.out⟩).mono ?_
      intro e wz hR
      obtain ⟨ws2, c, rfl, q⟩ := hR
      obtain ⟨ws2, c, e9, q1, q2, q3, q4, q5, q6⟩ := vwAddR.of (xs := xs.drop n) HE9.out ⟨ws2, c, rfl, q⟩
      obtain rfl := Value.int.inj (Ending.returned.inj e9) |>.2 |> Int.ofNat.inj
      clear e9 q

      obtain ⟨ws, ews, HL1, HV2, HR2⟩ := natAdd_two (w1 := w1) (w2 := w2) (w3 := wz) HM.out HN.out (by omega) (by omega) HW1.out q1 HV1.out q4 q6
      have HB : Hid (∀ q ∈ ws, q < 18446744073709551616) := Lib.hid (by rw [ews]; exact mem_app HB1.out q2)
      have HWL := Lib.hid HL1
      have HVZ := Lib.hid HV2
      have HROWZ := Lib.hid HR2
      have HUZ := Lib.hid (HU1.out.same q5)
      clear ews HL1 HV2 HR2 q1 q2 q4 q5 q6
      have hb2 : ∀ q ∈ ws ++ [c], q < 18446744073709551616 := mem_snoc HB.out (by omega)
      have hrow2 : (wz.setCell ⟨g, m, none⟩ (.int .u64 (c : Nat))).heap[g]? = some (.cells (put cur 0 (words .u64 (ws ++ [c]))) 93 (0, 0)) := by
        have e : 0 + (words .u64 ws).length = m := by rw [words_len, HWL.out]; omega
        rw [blk_setc HROWZ.out, words_app, show words IntKind.u64 [c] = [.int .u64 (c : Nat)] from rfl, ← put_set _ _ _ _ (by omega), e]
      have hcell : wz.cell? ⟨g, m, none⟩ = some (cur[m]'(by omega)) := by
        rw [blk_cell HROWZ.out, put_past _ _ _ _ (by omega) (by rw [words_len, HWL.out]; omega)]; exact Array.getElem?_eq_getElem (by omega)
      generalize cur[m]'(by omega) = zm at hcell
      have hfr := blk_free HROWZ.out m
      have hown := own_put hrow2 (cap := cap) (by omega) (by have := HWL.out; simp; omega) (by omega) hb2
      have hfin := nat_done (v0 := v0) (w := w) HMK.out (HUZ.out.same ((Upd.refl (· = g) wz).setCell (p := ⟨g, m, none⟩) (by rfl) (.int .u64 (c : Nat)))) 
      have HOWN := Lib.hid hown
      have HFIN := Lib.hid hfin
      have HVAL : Hid (val (norm (ws ++ [c])) = val xs + val ys ∧ (norm (ws ++ [c])).length ≤ m + 1) := Lib.hid ⟨by rw [val_norm, val_snoc, HWL.out]; exact HVZ.out, by have := norm_length_le (ws ++ [c]); have := HWL.out; have := HM.out; simp at *; omega⟩
      have hlen : (ws ++ [c]).length = m + 1 := by simp [HWL.out]
      rw [hlen] at hown
      clear hown hrow2 hb2 hfin hlen
      have HOWN2 : Hid (Own .u64 (wz.setCell ⟨g, m, none⟩ (.int .u64 (c : Nat))) 0 93 (.slice (some ⟨g, 0, none⟩) (m + 1) cap) (ws ++ [c])) := Lib.hid (by have := HOWN.out; rwa [show (ws ++ [c]).length = m + 1 by simp [HWL.out]] at this)
      clear HOWN
      go_wp2_with fail
      refine (norm_own 0 93 _ (ws ++ [c]) _ HOWN2.out).mono ?_
      rintro e wn ⟨⟨v', rfl, ho, hob⟩, rfl⟩
      obtain ⟨a', c', rfl⟩ := ho.form
      have HO := Lib.hid ho
      have HOB := Lib.hid hob
      clear ho hob hcell hfr
      go_wp2_with fail
      go_ret
      exact ⟨norm (ws ++ [c]), norm_norm _, HVAL.out.1, HVAL.out.2, _, rfl, HO.out, HFIN.out.1, HFIN.out.2 _ HOB.out⟩
    · obtain rfl : m = n := by omega
      have HB := HB1
      have HWL := HW1
      have HROWZ := HROW
      have HUZ := HU1
      have HVZ : Hid (val ws1 + 18446744073709551616 ^ m * c1 = val xs + val ys) := Lib.hid (by have h := HV1.out; rw [List.take_of_length_le (by rw [HM.out]; omega)] at h; exact h)
      clear HB1 HW1 HROW HU1 HV1
      obtain ⟨ws, hws⟩ : ∃ ws, ws = ws1 := ⟨_, rfl⟩
      subst hws
      obtain ⟨c, hcc⟩ : ∃ c, c = c1 := ⟨_, rfl⟩
      subst hcc
      obtain ⟨wz, hwz⟩ : ∃ wz, wz = w2 := ⟨_, rfl⟩
      subst hwz
      have hb2 : ∀ q ∈ ws ++ [c], q < 18446744073709551616 := mem_snoc HB.out (by omega)
      have hrow2 : (wz.setCell ⟨g, m, none⟩ (.int .u64 (c : Nat))).heap[g]? = some (.cells (put cur 0 (words .u64 (ws ++ [c]))) 93 (0, 0)) := by
        have e : 0 + (words .u64 ws).length = m := by rw [words_len, HWL.out]; omega
        rw [blk_setc HROWZ.out, words_app, show words IntKind.u64 [c] = [.int .u64 (c : Nat)] from rfl, ← put_set _ _ _ _ (by omega), e]
      have hcell : wz.cell? ⟨g, m, none⟩ = some (cur[m]'(by omega)) := by
        rw [blk_cell HROWZ.out, put_past _ _ _ _ (by omega) (by rw [words_len, HWL.out]; omega)]; exact Array.getElem?_eq_getElem (by omega)
      generalize cur[m]'(by omega) = zm at hcell
      have hfr := blk_free HROWZ.out m
      have hown := own_put hrow2 (cap := cap) (by omega) (by have := HWL.out; simp; omega) (by omega) hb2
      have hfin := nat_done (v0 := v0) (w := w) HMK.out (HUZ.out.same ((Upd.refl (· = g) wz).setCell (p := ⟨g, m, none⟩) (by rfl) (.int .u64 (c : Nat)))) 
      have HOWN := Lib.hid hown
      have HFIN := Lib.hid hfin
      have HVAL : Hid (val (norm (ws ++ [c])) = val xs + val ys ∧ (norm (ws ++ [c])).length ≤ m + 1) := Lib.hid ⟨by rw [val_norm, val_snoc, HWL.out]; exact HVZ.out, by have := norm_length_le (ws ++ [c]); have := HWL.out; have := HM.out; simp at *; omega⟩
      have hlen : (ws ++ [c]).length = m + 1 := by simp [HWL.out]
      rw [hlen] at hown
      clear hown hrow2 hb2 hfin hlen
      have HOWN2 : Hid (Own .u64 (wz.setCell ⟨g, m, none⟩ (.int .u64 (c : Nat))) 0 93 (.slice (some ⟨g, 0, none⟩) (m + 1) cap) (ws ++ [c])) := Lib.hid (by have := HOWN.out; rwa [show (ws ++ [c]).length = m + 1 by simp [HWL.out]] at this)
      clear HOWN
      go_wp2_with fail
      refine (norm_own 0 93 _ (ws ++ [c]) _ HOWN2.out).mono ?_
      rintro e wn ⟨⟨v', rfl, ho, hob⟩, rfl⟩
      obtain ⟨a', c', rfl⟩ := ho.form
      have HO := Lib.hid ho
      have HOB := Lib.hid hob
      clear ho hob hcell hfr
      go_wp2_with fail
      go_ret
      exact ⟨norm (ws ++ [c]), norm_norm _, HVAL.out.1, HVAL.out.2, _, rfl, HO.out, HFIN.out.1, HFIN.out.2 _ HOB.out⟩

/-- What the row holds behind the sums of the words. -/
theorem natSub_two {w1 w2 w3 : World} {g m n c1 c : Nat} {cur : Array Value} {T : TypeId} {xs ys ws1 ws2 : List Nat} (hm : xs.length = m) (hn : ys.length = n) (hnm : n ≤ m) (hfit : m ≤ cur.size) (h1 : ws1.length = n) (h2 : ws2.length = m - n) (hv1 : val ws1 + val ys = val (xs.take n) + 18446744073709551616 ^ n * c1) (hv2 : val ws2 + c1 = val (xs.drop n) + 18446744073709551616 ^ (m - n) * c) (hr : w3.heap[g]? = some (.cells (put (put cur 0 (words .u64 ws1)) n (words .u64 ws2)) T (0, 0))) :
    ∃ ws, ws = ws1 ++ ws2 ∧ ws.length = m ∧ (val ws + val ys = val xs + 18446744073709551616 ^ m * c) ∧ w3.heap[g]? = some (.cells (put cur 0 (words .u64 ws)) T (0, 0)) := by
  refine ⟨_, rfl, by simp; omega, ?_, ?_⟩
  · have e := val_split xs n
    have e2 : m = n + (m - n) := by omega
    rw [val_append, h1]
    rw [e2, Nat.pow_add]
    generalize hP : 18446744073709551616 ^ n = P at *
    generalize hR : 18446744073709551616 ^ (m - n) = R at *
    have e3 : P * val ws2 + P * c1 = P * val (xs.drop n) + P * R * c := by rw [← Nat.mul_add, hv2, Nat.mul_add, Nat.mul_assoc]
    omega
  · have e : (words .u64 ws1).length = n := by rw [words_len, h1]
    rw [hr, words_app, ← put_put _ _ _ _ (by rw [words_len, words_len]; omega), e, Nat.zero_add]

set_option maxHeartbeats 1000000 in
theorem natSub_m0 (v0 x y : Value) (vs xs ys : List Nat) (w : World) (hv : Own .u64 w 0 93 v0 vs) (hx : Own .u64 w 0 93 x xs) (hy : Own .u64 w 0 93 y ys) (hnx : norm xs = xs) (hny : norm ys = ys) (hl : xs.length ≤ 17592186044416) (hle : ys.length ≤ xs.length) (hge : val ys ≤ val xs) (h0 : xs.length = 0) :
    Calls Tryf.prog 91 #[v0, x, y] w (NatVR v0 (val xs - val ys) xs.length w) := by
  have hlx := nil_of_len h0
  have hly := nil_of_len (xs := ys) (by omega)
  rw [hlx, hly]
  obtain ⟨a, c, rfl⟩ := hv.form
  obtain ⟨ax, cx, rfl⟩ := hx.form
  obtain ⟨ay, cy, rfl⟩ := hy.form
  obtain ⟨_, k1, k2⟩ := hv.cap
  have hfin : NatVR (.slice a vs.length c) 0 xs.length w (.returned (.slice a 0 c)) w := ⟨[], rfl, rfl, by simp, _, rfl, hv.cut, Upd.refl _ _, .inl (by cases a <;> rfl)⟩
  have hly0 : ys.length = 0 := by omega
  rw [h0] at hfin
  have HF := Lib.hid hfin
  rw [h0, hly0]
  clear hv hx hy hnx hny hfin hlx hly
  go_enter Tryf.func91, Tryf.ntmps91
  go_wp2_with fail
  go_ret
  exact HF.out

set_option maxHeartbeats 1000000 in
theorem natSub_n0 (v0 x y : Value) (vs xs ys : List Nat) (w : World) (hv : Own .u64 w 0 93 v0 vs) (hx : Own .u64 w 0 93 x xs) (hy : Own .u64 w 0 93 y ys) (hnx : norm xs = xs) (hny : norm ys = ys) (hl : xs.length ≤ 17592186044416) (hle : ys.length ≤ xs.length) (hge : val ys ≤ val xs) (h0 : ys.length = 0) (hpos : 0 < xs.length) :
    Calls Tryf.prog 91 #[v0, x, y] w (NatVR v0 (val xs - val ys) xs.length w) := by
  have hly := nil_of_len h0
  rw [hly]
  obtain ⟨a, c, rfl⟩ := hv.form
  obtain ⟨ax, cx, rfl⟩ := hx.form
  obtain ⟨ay, cy, rfl⟩ := hy.form
  rw [h0]
  have HV := Lib.hid hv
  have HX := Lib.hid hx
  have HN := Lib.hid hnx
  have hb0 : ((xs.length : Int) == 0) = false := beq_eq_false_iff_ne.2 (by omega)
  clear hv hx hy hnx hny hly h0
  go_enter Tryf.func91, Tryf.ntmps91
  go_wp2_with fail
  refine (natSet_any _ vs _ xs _ HV.out HX.out.read (by omega)).mono ?_
  intro e w1 hR
  obtain ⟨v', rfl, q⟩ := hR
  have HQ := Lib.hid q
  clear q
  go_wp2_with fail
  go_ret
  exact ⟨xs, HN.out, by omega, by omega, _, rfl, HQ.out⟩

set_option maxRecDepth 100000 in
set_option maxHeartbeats 2000000 in
theorem natSub_main (v0 x y : Value) (vs xs ys : List Nat) (w : World) (hv : Own .u64 w 0 93 v0 vs) (hx : Own .u64 w 0 93 x xs) (hy : Own .u64 w 0 93 y ys) (hnx : norm xs = xs) (hny : norm ys = ys) (hl : xs.length ≤ 17592186044416) (hle : ys.length ≤ xs.length) (hge : val ys ≤ val xs) (hpos : 0 < ys.length) :
    Calls Tryf.prog 91 #[v0, x, y] w (NatVR v0 (val xs - val ys) xs.length w) := by
  obtain ⟨a, c0, rfl⟩ := hv.form
  obtain ⟨gx, cx, curx, rfl, hcx1, hcx2, hgx, hsx, hxc⟩ := own_open hx (by omega)
  obtain ⟨gy, cy, cury, rfl, hcy1, hcy2, hgy, hsy, hyc⟩ := own_open hy hpos
  have hxb : ∀ q ∈ xs, q < 18446744073709551616 := hx.1
  have hyb : ∀ q ∈ ys, q < 18446744073709551616 := hy.1
  generalize hm : xs.length = m at *
  generalize hn : ys.length = n at *
  generalize hv0 : Value.slice a vs.length c0 = v0 at *
  have HV0 := Lib.hid hv0
  have HM := Lib.hid hm
  have HN := Lib.hid hn
  have HV := Lib.hid hv
  have HXB := Lib.hid hxb
  have HYB := Lib.hid hyb
  have HXC0 := Lib.hid hxc
  have HYC0 := Lib.hid hyc
  have HGX := Lib.hid hgx
  clear hv hx hy hnx hny hxb hyb hxc hyc hgx hgy hm hn hv0
  have hbm : ((m : Int) == 0) = false := by simp; omega
  have hbn : ((n : Int) == 0) = false := by simp; omega
  go_enter Tryf.func91, Tryf.ntmps91
  go_wp2_with fail
  refine (make_any v0 _ (m) _ _ HV.out.2 (by omega)).mono ?_
  rintro e w1 ⟨z, zs, rfl, hown, hor⟩
  obtain ⟨g, cap, cur, rfl, hcap1, hcap2, hg, hsz⟩ := row_open hown (by omega)
  have hext : Ext w w1 := by rcases hor with ⟨rfl, _⟩ | ⟨_, h⟩; exact Ext.refl _; exact h
  have hxc1 : ∀ i, i < m → w1.cell? ⟨gx, 0 + i, none⟩ = some (.int .u64 (xs.getD i 0 : Nat)) := fun i hi => hext.cell (HXC0.out i hi)
  have hyc1 : ∀ i, i < n → w1.cell? ⟨gy, 0 + i, none⟩ = some (.int .u64 (ys.getD i 0 : Nat)) := fun i hi => hext.cell (HYC0.out i hi)
  have HXC := Lib.hid hxc1
  have HYC := Lib.hid hyc1
  have HMK := Lib.hid (MakeR.upd hor)
  have HG := Lib.hid hg
  have HGX1 := Lib.hid (hext.block HGX.out)
  clear hown hor hext hxc1 hyc1 hg HXC0 HYC0
  go_wp2_with fail
  refine wp_region_H preExt (preUpd (· = g)) (fun _ _ h => h.upd) 9 mixed [Is (.slice (some ⟨g, 0, none⟩) (m) cap), Is (.int .i64 (n : Nat)), Is (.slice (some ⟨g, 0, none⟩) n cap), Is (.slice (some ⟨gx, 0, none⟩) m cx), Is (.int .i64 (n : Nat)), Is (.slice (some ⟨gx, 0, none⟩) n cx), Is (.slice (some ⟨gy, 0, none⟩) n cy), Is (.int .i64 (n : Nat)), Is (.slice (some ⟨gy, 0, none⟩) n cy), fun v wz => subVVR w1 g 0 cur 93 (xs.take n) ys n (.returned v) wz] (by kernel_rfl) ?mono ?monoU rfl ?steps ?last
  case mono =>
    simp only [List.forall_mem_cons, List.not_mem_nil, false_implies, implies_true, and_true]
    refine ⟨?_, ?_, ?_, ?_, ?_, ?_, ?_, ?_, ?_, ?_⟩
    all_goals first | exact fun _ _ _ _ q => q | exact fun _ _ _ he q => q.ext he
  case monoU =>
    intro j hj
    match j, hj with
    | 0, _ => exact fun _ _ _ _ q => q
    | 1, _ => exact fun _ _ _ _ q => q
    | 2, _ => exact fun _ _ _ _ q => q
    | 3, _ => exact fun _ _ _ _ q => q
    | 4, _ => exact fun _ _ _ _ q => q
    | 5, _ => exact fun _ _ _ _ q => q
    | 6, _ => exact fun _ _ _ _ q => q
    | 7, _ => exact fun _ _ _ _ q => q
    | 8, _ => exact fun _ _ _ _ q => q
    | 9, h => exact absurd rfl h
    | j + 10, _ => exact fun _ _ _ _ q => trivial
  case steps =>
    refine ⟨?_, ?_, ?_, ?_, ?_, ?_, ?_, ?_, ?_, ?_, trivial⟩
    all_goals
      intro u0 u1 u2 u3 u4 u5 u6 u7 u8 u9 u10 w9 he hk
      simp [KnownD, Oper.looksAt, Op.operands, Call.operands, List.findIdx?_cons, Act.put] at hk
      simp only [Act.put, List.setIfInBounds_toArray, List.set_cons_succ, List.set_cons_zero]
    · go_wp2_with fail
      exact ⟨rfl, Ext.refl _, by show (_ : Value) = _; first | rfl | simp⟩
    · go_wp2_with fail
      exact ⟨rfl, Ext.refl _, by show (_ : Value) = _; first | rfl | simp⟩
    · obtain ⟨k0, k1⟩ := hk
      obtain rfl : u0 = .slice (some ⟨g, 0, none⟩) (m) cap := k0
      obtain rfl : u1 = .int .i64 (n : Nat) := k1
      go_wp2_with fail
      exact ⟨rfl, Ext.refl _, by show (_ : Value) = _; first | rfl | simp⟩
    · go_wp2_with fail
      exact ⟨rfl, Ext.refl _, by show (_ : Value) = _; first | rfl | simp⟩
    · go_wp2_with fail
      exact ⟨rfl, Ext.refl _, by show (_ : Value) = _; first | rfl | simp⟩
    · obtain ⟨k0, k1⟩ := hk
      obtain rfl : u3 = .slice (some ⟨gx, 0, none⟩) m cx := k0
      obtain rfl : u4 = .int .i64 (n : Nat) := k1
      go_wp2_with fail
      exact ⟨rfl, Ext.refl _, by show (_ : Value) = _; first | rfl | simp⟩
    · go_wp2_with fail
      exact ⟨rfl, Ext.refl _, by show (_ : Value) = _; first | rfl | simp⟩
    · go_wp2_with fail
      exact ⟨rfl, Ext.refl _, by show (_ : Value) = _; first | rfl | simp⟩
    · obtain ⟨k0, k1⟩ := hk
      obtain rfl : u6 = .slice (some ⟨gy, 0, none⟩) n cy := k0
      obtain rfl : u7 = .int .i64 (n : Nat) := k1
      go_wp2_with fail
      exact ⟨rfl, Ext.refl _, by show (_ : Value) = _; first | rfl | simp⟩
    · obtain ⟨k0, k1, k2⟩ := hk
      obtain rfl : u2 = .slice (some ⟨g, 0, none⟩) n cap := k0
      obtain rfl : u5 = .slice (some ⟨gx, 0, none⟩) n cx := k1
      obtain rfl : u8 = .slice (some ⟨gy, 0, none⟩) n cy := k2
      have he1 : Ext w1 w9 := he
      have HE9 := Lib.hid he1
      clear he he1
      have hcall := subVV_call
      go_wp2_with fail
      clear hcall
      refine (subVV_any g 0 cap gx 0 cx gy 0 cy n cur 93 (xs.take n) ys _ (HE9.out.block HG.out) (by omega) (by omega) ⟨by omega, by omega⟩ ⟨by omega, by omega⟩ ⟨by omega, by omega⟩ (by rw [List.length_take, HM.out]; omega) HN.out (fun q hq => HXB.out q (List.mem_of_mem_take hq)) HYB.out (fun i hi => by rw [getD_take _ _ _ hi]; exact HE9.out.cell (HXC.out i (by omega))) (fun i hi => HE9.out.cell (HYC.out i hi)) (fun _ => rfl) (fun _ => rfl)).mono ?_
      intro e w8 hR
      obtain ⟨ws, c, rfl, q⟩ := hR
      have HR := Lib.hid (subVVR.of (xs := xs.take n) HE9.out ⟨ws, c, rfl, q⟩)
      have HU8 := Lib.hid q.2.2.2.2.1
      clear q
      go_wp2_with fail
      exact ⟨rfl, HU8.out, HR.out⟩
  case last =>
    intro w2 he u0 h0 u1 h1 u2 h2 u3 h3 u4 h4 u5 h5 u6 h6 u7 h7 u8 h8 u9 h9
    obtain ⟨ws1, c1, e9, q1, q2, q3, q4, q5, q6⟩ := h9
    obtain rfl : u9 = .int .u64 (c1 : Nat) := Ending.returned.inj e9
    clear h0 h1 h2 h3 h4 h5 h6 h7 h8 e9 he
    simp only [LastD, Act.put, List.setIfInBounds_toArray, List.set_cons_succ, List.set_cons_zero]
    have HW1 := Lib.hid q1
    have HB1 := Lib.hid q2
    have hc1 := q3
    have HV1 := Lib.hid q4
    have HU1 := Lib.hid q5
    have HROW := Lib.hid q6
    clear q1 q2 q3 q4 q5 q6
    by_cases hmn : n < m
    · have hx2 : ∀ i, i < m - n → w2.cell? ⟨gx, n + i, none⟩ = some (.int .u64 (xs.getD (n + i) 0 : Nat)) := by
        intro i hi
        have h0 := HXC.out (n + i) (by omega)
        rw [Nat.zero_add] at h0
        by_cases hb : gx = g
        · subst hb
          rw [blk_cell HG.out] at h0
          rw [blk_cell HROW.out, put_past _ _ _ _ (by omega) (by rw [words_len, HW1.out]; omega)]
          exact h0
        · exact HU1.out.cell h0 hb
      have HXC2 := Lib.hid hx2
      obtain ⟨dx, hdx⟩ : ∃ dx, w2.heap[gx]? = some (.cells dx 93 (0, 0)) := by
        by_cases hb : gx = g
        · subst hb; exact ⟨_, HROW.out⟩
        · exact ⟨_, HU1.out.heap HGX1.out hb⟩
      have HGX2 := Lib.hid hdx
      clear hx2 hdx
      go_wp2_with fail
      have hcb : ¬ (cap = n) := by omega
      have hcxb : ¬ (cx = n) := by omega
      have hmc : m ≤ cap := by omega
      have hnm : n ≤ m := by omega
      go_still_tail 7, (by kernel_rfl)
      generalize hw9 : ({ heap := w2.heap, tape := w2.tape, drawn := w2.drawn + 1, os := w2.os, output := w2.output } : World) = w9
      have he1 : Ext w2 w9 := by rw [← hw9]; exact Ext.drew w2
      have HE9 := Lib.hid he1
      clear he1 hw9 hcb hcxb hmc hnm
      go_wp2_with fail
      refine (vwSub_any g n (cap - n) gx n (cx - n) c1 (m - n) (put cur 0 (words .u64 ws1)) 93 (xs.drop n) _ (HE9.out.block HROW.out) (by rw [put_size _ _ _ (by rw [words_len, HW1.out]; omega)]; omega) (by omega) (by omega) (by omega) (by omega) (by omega) (by omega) hc1 (by rw [List.length_drop, HM.out]) (fun q hq => HXB.out q (List.mem_of_mem_drop hq)) (fun i hi => by rw [getD_drop]; exact HE9.out.cell (HXC2.out i hi)) (fun _ => rfl) ⟨_, _, HE9.out.block HGX2.out⟩).mono ?_
      intro e wz hR
      obtain ⟨ws2, c, rfl, q⟩ := hR
      obtain ⟨ws2, c, e9, q1, q2, q3, q4, q5, q6⟩ := vwSubR.of (xs := xs.drop n) HE9.out ⟨ws2, c, rfl, q⟩
      obtain rfl := Value.int.inj (Ending.returned.inj e9) |>.2 |> Int.ofNat.inj
      clear e9 q

      obtain ⟨ws, ews, HL1, HV2, HR2⟩ := natSub_two (w1 := w1) (w2 := w2) (w3 := wz) HM.out HN.out (by omega) (by omega) HW1.out q1 HV1.out q4 q6
      have HB : Hid (∀ q ∈ ws, q < 18446744073709551616) := Lib.hid (by rw [ews]; exact mem_app HB1.out q2)
      have HWL := Lib.hid HL1
      have HVZ := Lib.hid HV2
      have HROWZ := Lib.hid HR2
      have HUZ := Lib.hid (HU1.out.same q5)
      clear ews HL1 HV2 HR2 q1 q2 q4 q5 q6
      have hc0 : c = 0 := sub_zero HVZ.out hge HB.out HWL.out
      subst hc0
      have hown := own_put HROWZ.out (cap := cap) (by omega) (by have := HWL.out; omega) (by omega) HB.out
      have hfin := nat_done (v0 := v0) (w := w) HMK.out HUZ.out
      have HFIN := Lib.hid hfin
      have HVAL : Hid (val (norm ws) = val xs - val ys ∧ (norm ws).length ≤ m) := Lib.hid ⟨by rw [val_norm]; have := HVZ.out; simp at this; omega, by have := norm_length_le ws; have := HWL.out; have := HM.out; omega⟩
      have HOWN2 : Hid (Own .u64 wz 0 93 (.slice (some ⟨g, 0, none⟩) m cap) ws) := Lib.hid (by rwa [HWL.out] at hown)
      clear hown hfin
      go_wp2_with fail
      refine (norm_own 0 93 _ ws _ HOWN2.out).mono ?_
      rintro e wn ⟨⟨v', rfl, ho, hob⟩, rfl⟩
      obtain ⟨a', c', rfl⟩ := ho.form
      have HO := Lib.hid ho
      have HOB := Lib.hid hob
      clear ho hob
      go_wp2_with fail
      go_ret
      exact ⟨norm ws, norm_norm _, HVAL.out.1, HVAL.out.2, _, rfl, HO.out, HFIN.out.1, HFIN.out.2 _ HOB.out⟩
    · obtain rfl : m = n := by omega
      have HB := HB1
      have HWL := HW1
      have HROWZ := HROW
      have HUZ := HU1
      have HVZ : Hid (val ws1 + val ys = val xs + 18446744073709551616 ^ m * c1) := Lib.hid (by have h := HV1.out; rw [List.take_of_length_le (by rw [HM.out]; omega)] at h; exact h)
      clear HB1 HW1 HROW HU1 HV1
      obtain ⟨ws, hws⟩ : ∃ ws, ws = ws1 := ⟨_, rfl⟩
      subst hws
      obtain ⟨c, hcc⟩ : ∃ c, c = c1 := ⟨_, rfl⟩
      subst hcc
      obtain ⟨wz, hwz⟩ : ∃ wz, wz = w2 := ⟨_, rfl⟩
      subst hwz
      have hc0 : c = 0 := sub_zero HVZ.out hge HB.out HWL.out
      subst hc0
      have hown := own_put HROWZ.out (cap := cap) (by omega) (by have := HWL.out; omega) (by omega) HB.out
      have hfin := nat_done (v0 := v0) (w := w) HMK.out HUZ.out
      have HFIN := Lib.hid hfin
      have HVAL : Hid (val (norm ws) = val xs - val ys ∧ (norm ws).length ≤ m) := Lib.hid ⟨by rw [val_norm]; have := HVZ.out; simp at this; omega, by have := norm_length_le ws; have := HWL.out; have := HM.out; omega⟩
      have HOWN2 : Hid (Own .u64 wz 0 93 (.slice (some ⟨g, 0, none⟩) m cap) ws) := Lib.hid (by rwa [HWL.out] at hown)
      clear hown hfin
      go_wp2_with fail
      refine (norm_own 0 93 _ ws _ HOWN2.out).mono ?_
      rintro e wn ⟨⟨v', rfl, ho, hob⟩, rfl⟩
      obtain ⟨a', c', rfl⟩ := ho.form
      have HO := Lib.hid ho
      have HOB := Lib.hid hob
      clear ho hob
      go_wp2_with fail
      go_ret
      exact ⟨norm ws, norm_norm _, HVAL.out.1, HVAL.out.2, _, rfl, HO.out, HFIN.out.1, HFIN.out.2 _ HOB.out⟩

theorem natAdd_ge (v0 x y : Value) (vs xs ys : List Nat) (w : World) (hv : Own .u64 w 0 93 v0 vs) (hx : Own .u64 w 0 93 x xs) (hy : Own .u64 w 0 93 y ys) (hnx : norm xs = xs) (hny : norm ys = ys) (hl : xs.length ≤ 17592186044416) (hle : ys.length ≤ xs.length) :
    Calls Tryf.prog 89 #[v0, x, y] w (NatVR v0 (val xs + val ys) (xs.length + 1) w) := by
  by_cases h0 : xs.length = 0
  · exact natAdd_m0 v0 x y vs xs ys w hv hx hy hnx hny hl hle h0
  · by_cases h1 : ys.length = 0
    · exact natAdd_n0 v0 x y vs xs ys w hv hx hy hnx hny hl hle h1 (by omega)
    · exact natAdd_main v0 x y vs xs ys w hv hx hy hnx hny hl hle (by omega)

set_option maxHeartbeats 1000000 in
theorem natAdd_any (v0 x y : Value) (vs xs ys : List Nat) (w : World) (hv : Own .u64 w 0 93 v0 vs) (hx : Own .u64 w 0 93 x xs) (hy : Own .u64 w 0 93 y ys) (hnx : norm xs = xs) (hny : norm ys = ys) (L : Nat) (hL : L ≤ 17592186044416) (hlx : xs.length ≤ L) (hly : ys.length ≤ L) :
    Calls Tryf.prog 89 #[v0, x, y] w (NatVR v0 (val xs + val ys) (L + 1) w) := by
  by_cases hle : ys.length ≤ xs.length
  · refine (natAdd_ge v0 x y vs xs ys w hv hx hy hnx hny (by omega) hle).mono ?_
    rintro e w' ⟨ws, h1, h2, h3, h4⟩
    exact ⟨ws, h1, h2, by omega, h4⟩
  · obtain ⟨ax, cx, rfl⟩ := hx.form
    obtain ⟨ay, cy, rfl⟩ := hy.form
    obtain ⟨a, c, rfl⟩ := hv.form
    have HV := Lib.hid hv
    have HX := Lib.hid hx
    have HY := Lib.hid hy
    have HNX := Lib.hid hnx
    have HNY := Lib.hid hny
    have hlt : xs.length < ys.length := by omega
    clear hv hx hy hnx hny hle
    go_enter Tryf.func89, Tryf.ntmps89
    go_wp2_with fail
    refine (natAdd_ge _ _ _ vs ys xs _ HV.out HY.out HX.out HNY.out HNX.out (by omega) (by omega)).mono ?_
    rintro e w' ⟨ws, h1, h2, h3, v', rfl, h4⟩
    have H1 := Lib.hid h1
    have H2 := Lib.hid h2
    have H4 := Lib.hid h4
    clear h1 h2 h4
    go_wp2_with fail
    go_ret
    exact ⟨ws, H1.out, by rw [H2.out]; omega, by omega, _, rfl, H4.out⟩

theorem natSub_any (v0 x y : Value) (vs xs ys : List Nat) (w : World) (hv : Own .u64 w 0 93 v0 vs) (hx : Own .u64 w 0 93 x xs) (hy : Own .u64 w 0 93 y ys) (hnx : norm xs = xs) (hny : norm ys = ys) (L : Nat) (hL : L ≤ 17592186044416) (hlx : xs.length ≤ L) (hge : val ys ≤ val xs) :
    Calls Tryf.prog 91 #[v0, x, y] w (NatVR v0 (val xs - val ys) L w) := by
  have hle : ys.length ≤ xs.length := len_mono hnx hny hx.1 hge
  have key : Calls Tryf.prog 91 #[v0, x, y] w (NatVR v0 (val xs - val ys) xs.length w) := by
    by_cases h0 : xs.length = 0
    · exact natSub_m0 v0 x y vs xs ys w hv hx hy hnx hny (by omega) hle hge h0
    · by_cases h1 : ys.length = 0
      · exact natSub_n0 v0 x y vs xs ys w hv hx hy hnx hny (by omega) hle hge h1 (by omega)
      · exact natSub_main v0 x y vs xs ys w hv hx hy hnx hny (by omega) hle hge (by omega)
  refine key.mono ?_
  rintro e w' ⟨ws, h1, h2, h3, h4⟩
  exact ⟨ws, h1, h2, by omega, h4⟩

end Go.Proofs.YtocadbghhoibnaaFmt

/- nat.cmp, (*Int).CmpAbs: contracts. -/
namespace Go.Proofs.YtocadbghhoibnaaFmt
open Go.RowKit

theorem val_lt_len {a b : List Nat} (ha : ∀ x ∈ a, x < 18446744073709551616) (hb : norm b = b) (h : a.length < b.length) : val a < val b := by
  have hne : b ≠ [] := by intro e; subst e; simp at h
  have h1 := norm_last hb hne
  have h2 := val_lt a ha
  have : 18446744073709551616 ^ a.length ≤ 18446744073709551616 ^ (b.length - 1) := Nat.pow_le_pow_right (by decide) (by omega)
  omega

theorem Ext.drewN (w : World) (n : Nat) : Ext w (w.drewN n) := by
  induction n with
  | zero => exact Ext.refl w
  | succ n ih => exact ih.trans (Ext.drew _)

theorem cmp_len (aa ab : Option Addr) (a b : List Nat) (ca cb : Nat) (w : World) (hna : norm a = a) (hnb : norm b = b) (ha : ∀ x ∈ a, x < 18446744073709551616) (hb : ∀ x ∈ b, x < 18446744073709551616) (hla : a.length ≤ 17592186044416) (hlb : b.length ≤ 17592186044416) (hd : a.length ≠ b.length ∨ a.length = 0) :
    Calls Tryf.prog 90 #[.slice aa a.length ca, .slice ab b.length cb] w (ValR (.int .i64 (cmpW a b)) w) := by
  rcases Nat.lt_trichotomy a.length b.length with h1 | h1 | h1
  · rw [cmpW_lt (val_lt_len ha hnb h1)]
    have hq : ((a.length : Int) != (b.length : Int)) = true := by rw [bne_iff_ne]; omega
    clear hd hna hnb ha hb
    go_enter Tryf.func90, Tryf.ntmps90
    go_wp2_with fail
    go_ret
    exact ⟨Ext.refl _, rfl⟩
  · have h0 : a.length = 0 := by omega
    have e1 : a = [] := List.eq_nil_of_length_eq_zero h0
    have e2 : b = [] := List.eq_nil_of_length_eq_zero (by omega)
    subst e1 e2
    rw [cmpW_eq rfl]
    clear hd hna hnb ha hb
    go_enter Tryf.func90, Tryf.ntmps90
    go_wp2_with fail
    go_ret
    exact ⟨Ext.refl _, rfl⟩
  · rw [cmpW_gt (val_lt_len hb hna h1)]
    have hq : ((a.length : Int) != (b.length : Int)) = true := by rw [bne_iff_ne]; omega
    clear hd hna hnb ha hb
    go_enter Tryf.func90, Tryf.ntmps90
    go_wp2_with fail
    go_ret
    exact ⟨Ext.refl _, rfl⟩

set_option maxHeartbeats 1000000 in
theorem cmp_words (b1 o1 b2 o2 : Nat) (a b : List Nat) (m ca cb : Nat) (w : World) (ha : ∀ x ∈ a, x < 18446744073709551616) (hb : ∀ x ∈ b, x < 18446744073709551616) (hma : a.length = m) (hmb : b.length = m) (hm : 0 < m) (hml : m ≤ 17592186044416)
    (ka : ∀ i, i < m → w.cell? ⟨b1, o1 + i, none⟩ = some (.int .u64 (a.getD i 0 : Nat))) (kb : ∀ i, i < m → w.cell? ⟨b2, o2 + i, none⟩ = some (.int .u64 (b.getD i 0 : Nat))) :
    Calls Tryf.prog 90 #[.slice (some ⟨b1, o1, none⟩) m ca, .slice (some ⟨b2, o2, none⟩) m cb] w (ValR (.int .i64 (cmpW a b)) w) := by
  generalize hc : cmpW a b = c
  have HC := Lib.hid hc
  have HA := Lib.hid ha
  have HB := Lib.hid hb
  have KA := Lib.hid ka
  have KB := Lib.hid kb
  have HMA := Lib.hid hma
  have HMB := Lib.hid hmb
  have hq : ((m : Int) != (m : Int)) = false := by simp
  have hq0 : ((m : Int) == 0) = false := by simp; omega
  clear hc ha hb ka kb hma hmb
  go_enter Tryf.func90, Tryf.ntmps90
  go_wp2_with fail
  go_loopw [7] (fun i wr => ∃ k : Nat, k < m ∧ i = .int .i64 k ∧ Hid (val (a.drop (k + 1)) = val (b.drop (k + 1))) ∧ Hid (Ext w wr)) (fun i _ => (intOf i).toNat)
  case atStart => exact ⟨m - 1, by omega, by go_num, by rw [val_drop_all a _ (by rw [HMA.out]; omega), val_drop_all b _ (by rw [HMB.out]; omega)]; exact rfl, Ext.refl w⟩
  case round =>
    obtain ⟨k, hk, rfl, hn, hext⟩ := hrel
    obtain ⟨x, hx⟩ : ∃ x, a.getD k 0 = x := ⟨_, rfl⟩
    obtain ⟨y, hy⟩ : ∃ y, b.getD k 0 = y := ⟨_, rfl⟩
    have hca : wr.cell? ⟨b1, o1 + k, none⟩ = some (.int .u64 x) := by rw [← hx]; exact hext.out.cell (KA.out k hk)
    have hcb : wr.cell? ⟨b2, o2 + k, none⟩ = some (.int .u64 y) := by rw [← hy]; exact hext.out.cell (KB.out k hk)
    have HX := Lib.hid hx
    have HY := Lib.hid hy
    clear hx hy
    have hk0 : (0 : Int) ≤ (k : Int) := by omega
    have hk1 : (k : Int) < (m : Int) := by omega
    by_cases hgo : 0 < k ∧ x = y
    · obtain ⟨h0, rfl⟩ := hgo
      go_wp2_with fail
      go_quiet (fail)
      go_wp2_with fail
      go_roundw
      case rel => exact ⟨k - 1, by omega, by go_num, by rw [show k - 1 + 1 = k by omega, val_drop a k, val_drop b k, HX.out, HY.out, hn.out]; exact rfl, hext.out.trans (Ext.drewN _ _)⟩
      case measure => simp [intOf]; omega
    · rcases Nat.lt_trichotomy x y with hxy | hxy | hxy
      · obtain rfl : c = -1 := by rw [← HC.out]; exact cmpW_lt (val_lt_of HA.out k hn.out (by rw [HX.out, HY.out]; exact hxy))
        have hne : ((x : Int) == (y : Int)) = false := by simp; omega
        by_cases h0 : 0 < k
        · go_wp2_with fail; go_quiet (fail); go_wp2_with fail
          go_quiet (fail); go_wp2_with fail
          go_ret
          exact ⟨by first | exact ((hext.out.trans (Ext.drewN _ _)).trans (Ext.drewN _ _)).trans (Ext.drewN _ _) | exact (hext.out.trans (Ext.drewN _ _)).trans (Ext.drewN _ _) | exact hext.out.trans (Ext.drewN _ _), rfl⟩
        · have hd0 : decide ((0 : Int) < (k : Int)) = false := by simp; omega
          go_wp2_with fail; go_quiet (fail); go_wp2_with fail
          go_quiet (fail); go_wp2_with fail
          go_ret
          exact ⟨by first | exact ((hext.out.trans (Ext.drewN _ _)).trans (Ext.drewN _ _)).trans (Ext.drewN _ _) | exact (hext.out.trans (Ext.drewN _ _)).trans (Ext.drewN _ _) | exact hext.out.trans (Ext.drewN _ _), rfl⟩
      · subst hxy
        have h0 : ¬ 0 < k := fun h => hgo ⟨h, rfl⟩
        obtain rfl : c = 0 := by
          obtain rfl : k = 0 := by omega
          rw [← HC.out]
          refine cmpW_eq ?_
          have e1 := val_drop a 0
          have e2 := val_drop b 0
          rw [HX.out, hn.out] at e1
          rw [HY.out] at e2
          simpa using e2.trans e1.symm
        have hd0 : decide ((0 : Int) < (k : Int)) = false := by simp; omega
        go_wp2_with fail; go_quiet (fail); go_wp2_with fail
        go_quiet (fail); go_wp2_with fail
        go_quiet (fail); go_wp2_with fail
        go_ret
        exact ⟨by first | exact ((hext.out.trans (Ext.drewN _ _)).trans (Ext.drewN _ _)).trans (Ext.drewN _ _) | exact (hext.out.trans (Ext.drewN _ _)).trans (Ext.drewN _ _) | exact hext.out.trans (Ext.drewN _ _), rfl⟩
      · obtain rfl : c = 1 := by rw [← HC.out]; exact cmpW_gt (val_lt_of HB.out k hn.out.symm (by rw [HX.out, HY.out]; exact hxy))
        have hne : ((x : Int) == (y : Int)) = false := by simp; omega
        by_cases h0 : 0 < k
        · go_wp2_with fail; go_quiet (fail); go_wp2_with fail
          go_quiet (fail); go_wp2_with fail
          go_quiet (fail); go_wp2_with fail
          go_ret
          exact ⟨by first | exact ((hext.out.trans (Ext.drewN _ _)).trans (Ext.drewN _ _)).trans (Ext.drewN _ _) | exact (hext.out.trans (Ext.drewN _ _)).trans (Ext.drewN _ _) | exact hext.out.trans (Ext.drewN _ _), rfl⟩
        · have hd0 : decide ((0 : Int) < (k : Int)) = false := by simp; omega
          go_wp2_with fail; go_quiet (fail); go_wp2_with fail
          go_quiet (fail); go_wp2_with fail
          go_quiet (fail); go_wp2_with fail
          go_ret
          exact ⟨by first | exact ((hext.out.trans (Ext.drewN _ _)).trans (Ext.drewN _ _)).trans (Ext.drewN _ _) | exact (hext.out.trans (Ext.drewN _ _)).trans (Ext.drewN _ _) | exact hext.out.trans (Ext.drewN _ _), rfl⟩

end Go.Proofs.YtocadbghhoibnaaFmt

/- CmpAbs by values (printed by lawgen.py). -/
namespace Go.Proofs.YtocadbghhoibnaaFmt
open Go.RowKit

/-- A pointer to an Int of value z. -/
def IsI (L : Nat) (z : Int) (x : Value) (w : World) : Prop := ∃ p base, x = .pointer (some ⟨p, 0, none⟩) ∧ IntZ L z w base p

theorem IsI.ext {L : Nat} {z : Int} {x : Value} {w w' : World} (h : IsI L z x w) (he : Ext w w') : IsI L z x w' := by
  obtain ⟨p, base, h1, h2⟩ := h; exact ⟨p, base, h1, h2.ext he⟩

theorem integer_i (L : Nat) (z : Int) (x : Value) (w : World) (h : IsZ L z x w) (hL : L ≤ 17592186044416) :
    Calls Tryf.prog 41 #[x] w (ResR (IsI L z) w) := by
  refine (integer_z L z x w h hL).mono ?_
  rintro e w' ⟨he, p, rfl, hp, hI⟩
  exact ⟨he, _, rfl, p, _, rfl, hI⟩

theorem cmp_own (b1 b2 : Nat) (u v : Value) (a b : List Nat) (w : World) (ha : Own .u64 w b1 93 u a) (hb : Own .u64 w b2 93 v b) (hna : norm a = a) (hnb : norm b = b) (hla : a.length ≤ 17592186044416) (hlb : b.length ≤ 17592186044416) :
    Calls Tryf.prog 90 #[u, v] w (ValR (.int .i64 (cmpW a b)) w) := by
  obtain ⟨a1, c1, rfl⟩ := ha.form
  obtain ⟨a2, c2, rfl⟩ := hb.form
  by_cases hd : a.length ≠ b.length ∨ a.length = 0
  · exact cmp_len a1 a2 a b c1 c2 w hna hnb ha.1 hb.1 hla hlb hd
  · have h1 : a.length = b.length := by omega
    have h2 : 0 < a.length := by omega
    rcases ha.read.shape with ⟨e1, _⟩ | ⟨_, x1, o1, q1, e1, _, _, k1⟩
    · subst e1; simp at h2
    rcases hb.read.shape with ⟨e2, _⟩ | ⟨_, x2, o2, q2, e2, _, _, k2⟩
    · subst e2; rw [h1] at h2; simp at h2
    simp at e1 e2
    obtain ⟨rfl, rfl⟩ := e1
    obtain ⟨rfl, rfl⟩ := e2
    have := cmp_words x1 o1 x2 o2 a b a.length c1 c2 w ha.1 hb.1 rfl h1.symm h2 hla k1 (by rw [h1]; exact k2)
    rw [← h1]
    exact this

end Go.Proofs.YtocadbghhoibnaaFmt
