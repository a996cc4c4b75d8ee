/- addVW, subVW: contracts (printed by gensum.py). -/
import Derived.Test.YtacmojhladdalaaBitsAdd
import Derived.Test.YtacmojhladdalaaSet
set_option linter.unusedSimpArgs false
set_option linter.unusedVariables false
namespace Go.Proofs.Ytacmojhladdalaa
open Go.RowKit

/-- What is left of a slice behind its first k elements. -/
def Sl (b o n k : Nat) (v : Value) (_ : World) : Prop := ∃ a c, v = .slice a (n - k) c ∧ (k < n → a = some ⟨b, o + k, none⟩)

theorem slice_from (b o n c k : Nat) (hk : k ≤ n) (hn : n ≤ c) : ∃ v, (∀ w, (Instr.sliceAt 67 (.slice (some ⟨b, o, none⟩) n c) (some (.int .i64 (k : Nat))) none none).run Try.prog w = .ok v w) ∧ ∀ w, Sl b o n k v w := by
  have hu : Try.prog.underlying 67 = some (.slice (Try.prog.elem 67)) := by kernel_rfl
  have hs : ∀ w, (sizeOf (Try.prog.elem 67)).run Try.prog w = .ok 1 w := fun w => by kernel_rfl
  refine ⟨_, fun w => by rw [run_sliceAt_slice (h := hu), run_slice_l (ht := hu) (h0 := by omega) (h1 := by omega), hs]; rfl, fun w => ⟨_, _, rfl, fun h => ?_⟩⟩
  rw [Int.toNat_natCast, if_neg (by omega)]
  simp [Addr.add]

theorem wpList_slice_v {P : Program} {w : World} {ops : Array Oper} {rest : List Oper} {o : Oper} {a : Act} {Q : Exit → Act → World → Prop} {t : TypeId} {x lo : Operand} {v : Value} (ho : o = { o with op := .slice t x (some lo) none none, guard := none })
    (hv : ∀ w, (Instr.sliceAt t (a.eval x) (some (a.eval lo)) none none).run P w = .ok v w) (h : wpList P ops Q rest (a.put o.dst v) w) : wpList P ops Q (o :: rest) a w := by
  have hg : o.guard = none := by rw [ho]
  have hop : o.op = .slice t x (some lo) none none := by rw [ho]
  refine wpList_plain hg fun K hK => ?_
  unfold Oper.wp execOp
  simp [hop, hv]
  exact hK _ _ h

theorem put_same (c : Array Value) (off : Nat) (l m : List Value) (h : off + l.length + m.length ≤ c.size) (hm : ∀ j, j < m.length → c[off + l.length + j]? = m[j]?) : put c off (l ++ m) = put c off l := by
  rw [← put_put _ _ _ _ h]
  have hs := put_size c off l (by omega)
  apply array_ext
  intro j
  rcases Nat.lt_or_ge j (off + l.length) with h1 | h1
  · rw [put_before _ _ _ _ (by omega) h1]
  · obtain ⟨i, rfl⟩ : ∃ i, j = off + l.length + i := ⟨j - (off + l.length), by omega⟩
    rcases Nat.lt_or_ge i m.length with h2 | h2
    · rw [put_in _ _ _ _ (by omega) h2, put_past _ _ _ _ (by omega) (by omega), hm i h2]
    · rw [put_past _ _ _ _ (by omega) (by omega)]

/-- The cells that are copied. -/
theorem vw_src {w : World} {xs : List Nat} {bx ox k n : Nat} (hl : xs.length = n) (hx : ∀ i, i < n → w.cell? ⟨bx, ox + i, none⟩ = some (.int .u64 (xs.getD i 0 : Nat))) :
    ∀ j v, (words .u64 (xs.drop k))[j]? = some v → w.cell? ((⟨bx, ox + k, none⟩ : Addr).add j) = some v := by
  intro j v hj
  have hjl : j < (xs.drop k).length := by have := (List.getElem?_eq_some_iff.1 hj).1; rwa [words_len] at this
  rw [List.length_drop] at hjl
  have := hx (k + j) (by omega)
  rw [Addr.add_lit, Nat.add_assoc, this, ← hj, words_get, List.getElem?_drop, List.getElem?_eq_getElem (by omega), List.getD_eq_getElem?_getD, List.getElem?_eq_getElem (by omega)]
  rfl

theorem neqWordSame (a : Addr) (w : World) : (binOp .neq 90 (.pointer (some a)) (.pointer (some a))).run Try.prog w = .ok (.bool false) w := by
  obtain ⟨j, h1, _⟩ := Option.map_eq_some_iff.1 infoWord
  exact Lib.run_neq_ptr_same w a Try.underlying90 h1

theorem neqWordOther {p q a b : Nat} (hpq : p ≠ q) {w : World} {c d : Array Value} {T U : TypeId} (hp : w.heap[p]? = some (.cells c T (0, 0))) (hq : w.heap[q]? = some (.cells d U (0, 0))) :
    (binOp .neq 90 (.pointer (some ⟨p, a, none⟩)) (.pointer (some ⟨q, b, none⟩))).run Try.prog w = .ok (.bool true) w := by
  obtain ⟨j, h1, h2⟩ := Option.map_eq_some_iff.1 sizeWord
  have h : ∀ d : Nat, (Op.equalIn (d + 1) 90 (.pointer (some ⟨p, a, none⟩)) (.pointer (some ⟨q, b, none⟩))).run Try.prog w = .ok false w := fun d => by
    simp [Op.equalIn, run_underlying Try.underlying90, sizeOf, typeInfo, h1, h2, run_sameAddr_other w (a := ⟨p, a, none⟩) (b := ⟨q, b, none⟩) (by simp [hpq]) hp hq]
  simp only [binOp]
  simp [Op.equal, Op.maxDepth, h 9999]

def vwAddR (w : World) (bz oz : Nat) (cz : Array Value) (T : TypeId) (xs : List Nat) (y n : Nat) (e : Ending) (w' : World) : Prop :=
  ∃ (ws : List Nat) (c : Nat), e = .returned (.int .u64 (c : Nat)) ∧ ws.length = n ∧ (∀ x ∈ ws, x < 18446744073709551616) ∧ c ≤ 1 ∧ (val ws + 18446744073709551616 ^ n * c = val xs + y) ∧ Upd (· = bz) w w' ∧ w'.heap[bz]? = some (.cells (put cz oz (words .u64 ws)) T (0, 0))

def vwAddL (w : World) (bz oz : Nat) (cz : Array Value) (T : TypeId) (xs : List Nat) (y n : Nat) (iv : Value) (wr : World) : Prop :=
  ∃ (k : Nat) (ws : List Nat), 1 ≤ k ∧ k ≤ n ∧ iv = .int .i64 k ∧ ws.length = k ∧ (∀ x ∈ ws, x < 18446744073709551616) ∧ (val ws + 18446744073709551616 ^ k = val (xs.take k) + y) ∧ Upd (· = bz) w wr ∧ wr.heap[bz]? = some (.cells (put cz oz (words .u64 ws)) T (0, 0))

theorem vwAdd_val {xs ws : List Nat} {y k n : Nat} (hl : ws.length = k) (hk : k ≤ n) (hxl : xs.length = n) (hv : val ws = val (xs.take k) + y) : (ws ++ xs.drop k).length = n ∧ (val (ws ++ xs.drop k) + 18446744073709551616 ^ n * 0 = val xs + y) := by
  refine ⟨by simp; omega, ?_⟩
  have h1 := val_split xs k
  rw [val_append, hl]
  omega

theorem vwAdd_end {w wq : World} {bz oz k n y : Nat} {cz : Array Value} {T : TypeId} {xs ws : List Nat} (hl : ws.length = k) (hk : k = n) (hxl : xs.length = n) (hb : ∀ x ∈ ws, x < 18446744073709551616) (hxb : ∀ x ∈ xs, x < 18446744073709551616) (hv : val ws = val (xs.take k) + y) (hu : Upd (· = bz) w wq) (hrow : wq.heap[bz]? = some (.cells (put cz oz (words .u64 ws)) T (0, 0))) :
    vwAddR w bz oz cz T xs y n (.returned (.int .u64 0)) wq := by
  obtain ⟨_, h2⟩ := vwAdd_val hl (Nat.le_of_eq hk) hxl hv
  rw [List.drop_of_length_le (by omega), List.append_nil] at h2
  exact ⟨ws, 0, rfl, by omega, hb, by omega, by simpa using h2, hu, hrow⟩

theorem vwAdd_copy {w wq : World} {bz oz k n y : Nat} {cz : Array Value} {T : TypeId} {xs ws : List Nat} (hl : ws.length = k) (hk : k ≤ n) (hfit : oz + n ≤ cz.size) (hxl : xs.length = n) (hb : ∀ x ∈ ws, x < 18446744073709551616) (hxb : ∀ x ∈ xs, x < 18446744073709551616) (hv : val ws = val (xs.take k) + y) (hu : Upd (· = bz) w wq) (hrow : wq.heap[bz]? = some (.cells (put cz oz (words .u64 ws)) T (0, 0))) :
    vwAddR w bz oz cz T xs y n (.returned (.int .u64 0)) (wq.setRow bz ((put cz oz (words .u64 ws)).toList.take (oz + k) ++ (words .u64 (xs.drop k) ++ (put cz oz (words .u64 ws)).toList.drop (oz + k + (words .u64 (xs.drop k)).length))).toArray) := by
  obtain ⟨h1, h2⟩ := vwAdd_val hl hk hxl hv
  refine ⟨ws ++ xs.drop k, 0, rfl, h1, mem_app hb (fun x hx => hxb x (List.mem_of_mem_drop hx)), by omega, by simpa using h2, hu.same (updSetRow _ _ _), ?_⟩
  have e : (words .u64 ws).length = k := by rw [words_len, hl]
  rw [setRow_heap _ _ _ _ _ _ hrow, words_app, ← put_put _ _ _ _ (by rw [words_len, words_len, List.length_drop]; omega), e]
  rfl

theorem vwAdd_alias {w wq : World} {bz oz k n y : Nat} {cz : Array Value} {T : TypeId} {xs ws : List Nat} (hl : ws.length = k) (hk : k ≤ n) (hfit : oz + n ≤ cz.size) (hxl : xs.length = n) (hb : ∀ x ∈ ws, x < 18446744073709551616) (hxb : ∀ x ∈ xs, x < 18446744073709551616) (hv : val ws = val (xs.take k) + y) (hu : Upd (· = bz) w wq) (hrow : wq.heap[bz]? = some (.cells (put cz oz (words .u64 ws)) T (0, 0)))
    (hz : w.heap[bz]? = some (.cells cz T (0, 0))) (hx : ∀ i, i < n → w.cell? ⟨bz, oz + i, none⟩ = some (.int .u64 (xs.getD i 0 : Nat))) : vwAddR w bz oz cz T xs y n (.returned (.int .u64 0)) wq := by
  obtain ⟨h1, h2⟩ := vwAdd_val hl hk hxl hv
  refine ⟨ws ++ xs.drop k, 0, rfl, h1, mem_app hb (fun x hx => hxb x (List.mem_of_mem_drop hx)), by omega, by simpa using h2, hu, ?_⟩
  rw [hrow, words_app, put_same _ _ _ _ (by rw [words_len, words_len, List.length_drop]; omega)]
  intro j hj
  rw [words_len, List.length_drop] at hj
  have := hx (k + j) (by omega)
  rw [blk_cell hz] at this
  rw [words_len, hl, Nat.add_assoc, this, words_get, List.getElem?_drop, List.getElem?_eq_getElem (by omega), List.getD_eq_getElem?_getD, List.getElem?_eq_getElem (by omega)]
  rfl

set_option maxHeartbeats 2000000 in
theorem vwAdd_0a (bz oz kz bx ox kx y n : Nat) (cz : Array Value) (T : TypeId) (xs : List Nat) (w : World) (hz : w.heap[bz]? = some (.cells cz T (0, 0))) (hfit : oz + n ≤ cz.size) (hn0 : 0 < n) (hn : n ≤ 9223372036854775806) (hkz1 : n ≤ kz) (hkz2 : kz ≤ 9223372036854775807) (hkx1 : n ≤ kx) (hkx2 : kx ≤ 9223372036854775807) (hy1 : y ≤ 1)
    (hxl : xs.length = n) (hxb : ∀ x ∈ xs, x < 18446744073709551616) (hx : ∀ i, i < n → w.cell? ⟨bx, ox + i, none⟩ = some (.int .u64 (xs.getD i 0 : Nat))) (hal : bz = bx ∧ oz = ox) (s x : Nat) (hs : s < 18446744073709551616) (hxx : xs.getD 0 0 = x) (hsd : s + 18446744073709551616 * 0 = x + y + 0) :
    Calls Try.prog 78 #[.slice (some ⟨bz, oz, none⟩) n kz, .slice (some ⟨bx, ox, none⟩) n kx, .int .u64 (y : Nat)] w (vwAddR w bz oz cz T xs y n) := by
  obtain ⟨rfl, rfl⟩ := hal
  have hxlt : x < 18446744073709551616 := by rw [← hxx]; exact getD_lt hxb (by omega) 0
  have hx0 := hx 0 hn0
  rw [hxx, Nat.add_zero] at hx0
  have hz0 : w.cell? ⟨bz, oz, none⟩ = some (cz[oz]'(by omega)) := by rw [blk_cell hz]; exact Array.getElem?_eq_getElem (by omega)
  generalize cz[oz]'(by omega) = z0 at hz0
  have hf0 := blk_free hz oz
  have hu0 : Upd (· = bz) w (w.setCell ⟨bz, oz, none⟩ (.int .u64 (s : Nat))) := (Upd.refl _ _).setCell (by rfl) _
  have hrow0 : (w.setCell ⟨bz, oz, none⟩ (.int .u64 (s : Nat))).heap[bz]? = some (.cells (put cz oz (words .u64 [s])) T (0, 0)) := by
    rw [blk_setc hz, show words IntKind.u64 [s] = [] ++ [.int .u64 (s : Nat)] from rfl, ← put_set _ _ _ _ (by simp; omega), put_nil]
    rfl
  have HZ := Lib.hid hz
  have HX := Lib.hid hx
  have HXL := Lib.hid hxl
  have HXB := Lib.hid hxb
  have HXX := Lib.hid hxx
  have HSD := Lib.hid hsd
  have HU0 := Lib.hid hu0
  have HROW0 := Lib.hid hrow0
  clear hz hx hxl hxb hxx hsd hu0 hrow0
  go_enter Try.func78, Try.ntmps78
  go_wp2_with fail
  refine (bitsAdd_any x y 0 s 0 hs (by omega) HSD.out _).mono ?_
  rintro e w1 ⟨rfl, rfl⟩
  go_wp2_with fail
  have HV : Hid (val [s] = val (xs.take 1) + y) := Lib.hid (by
    have h1 := val_take_succ xs 0
    have h2 := HSD.out
    rw [HXX.out] at h1
    simp [val] at h1 ⊢
    omega)
  have HW : Hid ([s].length = 1) := Lib.hid rfl
  have HB : Hid (∀ x ∈ [s], x < 18446744073709551616) := Lib.hid (by simpa using hs)
  clear hx0 hz0 hf0
  generalize w1.setCell ⟨bz, oz, none⟩ (.int .u64 (s : Nat)) = W at *
  have hne := neqWordSame ⟨bz, oz, none⟩
  go_quiet (fail)
  clear hne
  go_wp2_with fail
  go_ret
  exact vwAdd_alias (k := 1) HW.out hn0 hfit HXL.out HB.out HXB.out HV.out (HU0.out.drewN nq) (heap_drewN HROW0.out nq) HZ.out HX.out

set_option maxHeartbeats 2000000 in
theorem vwAdd_0o (bz oz kz bx ox kx y n : Nat) (cz : Array Value) (T : TypeId) (xs : List Nat) (w : World) (hz : w.heap[bz]? = some (.cells cz T (0, 0))) (hfit : oz + n ≤ cz.size) (hn0 : 0 < n) (hn : n ≤ 9223372036854775806) (hkz1 : n ≤ kz) (hkz2 : kz ≤ 9223372036854775807) (hkx1 : n ≤ kx) (hkx2 : kx ≤ 9223372036854775807) (hy1 : y ≤ 1)
    (hxl : xs.length = n) (hxb : ∀ x ∈ xs, x < 18446744073709551616) (hx : ∀ i, i < n → w.cell? ⟨bx, ox + i, none⟩ = some (.int .u64 (xs.getD i 0 : Nat))) (hal : bx ≠ bz ∧ ∃ dx Tx, w.heap[bx]? = some (.cells dx Tx (0, 0))) (s x : Nat) (hs : s < 18446744073709551616) (hxx : xs.getD 0 0 = x) (hsd : s + 18446744073709551616 * 0 = x + y + 0) :
    Calls Try.prog 78 #[.slice (some ⟨bz, oz, none⟩) n kz, .slice (some ⟨bx, ox, none⟩) n kx, .int .u64 (y : Nat)] w (vwAddR w bz oz cz T xs y n) := by
  obtain ⟨hal, dx, Tx, hdx⟩ := hal
  have hxlt : x < 18446744073709551616 := by rw [← hxx]; exact getD_lt hxb (by omega) 0
  have hx0 := hx 0 hn0
  rw [hxx, Nat.add_zero] at hx0
  have hz0 : w.cell? ⟨bz, oz, none⟩ = some (cz[oz]'(by omega)) := by rw [blk_cell hz]; exact Array.getElem?_eq_getElem (by omega)
  generalize cz[oz]'(by omega) = z0 at hz0
  have hf0 := blk_free hz oz
  have hu0 : Upd (· = bz) w (w.setCell ⟨bz, oz, none⟩ (.int .u64 (s : Nat))) := (Upd.refl _ _).setCell (by rfl) _
  have hrow0 : (w.setCell ⟨bz, oz, none⟩ (.int .u64 (s : Nat))).heap[bz]? = some (.cells (put cz oz (words .u64 [s])) T (0, 0)) := by
    rw [blk_setc hz, show words IntKind.u64 [s] = [] ++ [.int .u64 (s : Nat)] from rfl, ← put_set _ _ _ _ (by simp; omega), put_nil]
    rfl
  have hxw : ∀ i, i < n → (w.setCell ⟨bz, oz, none⟩ (.int .u64 (s : Nat))).cell? ⟨bx, ox + i, none⟩ = some (.int .u64 (xs.getD i 0 : Nat)) := fun i hi => hu0.cell (hx i hi) hal
  have hdx0 := hu0.heap hdx hal
  have HXC0 := Lib.hid hxw
  have HDX := Lib.hid hdx0
  clear hxw hdx0 hdx
  have HZ := Lib.hid hz
  have HX := Lib.hid hx
  have HXL := Lib.hid hxl
  have HXB := Lib.hid hxb
  have HXX := Lib.hid hxx
  have HSD := Lib.hid hsd
  have HU0 := Lib.hid hu0
  have HROW0 := Lib.hid hrow0
  clear hz hx hxl hxb hxx hsd hu0 hrow0
  go_enter Try.func78, Try.ntmps78
  go_wp2_with fail
  refine (bitsAdd_any x y 0 s 0 hs (by omega) HSD.out _).mono ?_
  rintro e w1 ⟨rfl, rfl⟩
  go_wp2_with fail
  have HV : Hid (val [s] = val (xs.take 1) + y) := Lib.hid (by
    have h1 := val_take_succ xs 0
    have h2 := HSD.out
    rw [HXX.out] at h1
    simp [val] at h1 ⊢
    omega)
  have HW : Hid ([s].length = 1) := Lib.hid rfl
  have HB : Hid (∀ x ∈ [s], x < 18446744073709551616) := Lib.hid (by simpa using hs)
  clear hx0 hz0 hf0
  generalize w1.setCell ⟨bz, oz, none⟩ (.int .u64 (s : Nat)) = W at *
  have hne := fun nq => neqWordOther (a := oz) (b := ox) (w := W.drewN nq) (fun e => hal e.symm) (heap_drewN HROW0.out nq) (heap_drewN HDX.out nq)
  go_quiet (fail)
  clear hne
  have HU := Lib.hid (HU0.out.drewN nq)
  have HROW := Lib.hid (heap_drewN HROW0.out nq)
  have hxn : ∀ i, i < n → (W.drewN nq).cell? ⟨bx, ox + i, none⟩ = some (.int .u64 (xs.getD i 0 : Nat)) := fun i hi => HXC0.out i hi
  have HXC := Lib.hid hxn
  clear hxn
  generalize W.drewN nq = wp at *
  go_wp2_with fail
  refine wp_region_D preExt mixed [Is (.slice (some ⟨bz, oz, none⟩) n kz), Sl bz oz n 1, Is (.slice (some ⟨bx, ox, none⟩) n kx), Sl bx ox n 1] (by kernel_rfl) ?mono rfl ?steps ?last
  case mono =>
    simp only [List.forall_mem_cons, List.not_mem_nil, false_implies, implies_true, and_true]
    refine ⟨?_, ?_, ?_, ?_⟩
    all_goals exact fun _ _ _ _ q => q
  case steps =>
    refine ⟨?_, ?_, ?_, ?_, trivial⟩
    all_goals
      intro u0 u1 u2 u3 u4 w1 he hk
      simp [KnownD, Oper.looksAt, Op.operands, Call.operands, List.findIdx?_cons, Act.put] at hk
      simp only [Act.put, List.setIfInBounds_toArray, List.set_cons_succ, List.set_cons_zero]
    · go_wp2_with fail
      exact ⟨rfl, Ext.refl _, rfl⟩
    · obtain rfl : u0 = .slice (some ⟨bz, oz, none⟩) n kz := hk
      obtain ⟨v, hv, hS⟩ := slice_from bz oz n kz 1 (by omega) (by omega)
      have HS := Lib.hid hS
      clear hS
      refine wpList_slice_v rfl hv ?_
      refine wpList_nil ?_
      simp only [Act.put, List.setIfInBounds_toArray, List.set_cons_succ, List.set_cons_zero]
      exact ⟨rfl, Ext.refl _, HS.out w1⟩
    · go_wp2_with fail
      exact ⟨rfl, Ext.refl _, rfl⟩
    · obtain rfl : u2 = .slice (some ⟨bx, ox, none⟩) n kx := hk
      obtain ⟨v, hv, hS⟩ := slice_from bx ox n kx 1 (by omega) (by omega)
      have HS := Lib.hid hS
      clear hS
      refine wpList_slice_v rfl hv ?_
      refine wpList_nil ?_
      simp only [Act.put, List.setIfInBounds_toArray, List.set_cons_succ, List.set_cons_zero]
      exact ⟨rfl, Ext.refl _, HS.out w1⟩
  case last =>
    intro w1 he u0 h0 u1 h1 u2 h2 u3 h3
    obtain ⟨az, cz1, hz1, hz2⟩ : ∃ az cz1, u1 = .slice az (n - 1) cz1 ∧ (1 < n → az = some ⟨bz, oz + 1, none⟩) := h1
    obtain ⟨ax, cx1, hx1, hx2⟩ : ∃ ax cx1, u3 = .slice ax (n - 1) cx1 ∧ (1 < n → ax = some ⟨bx, ox + 1, none⟩) := h3
    subst hz1 hx1
    clear h0 h2
    have hrow1 := he.block HROW.out
    have HU1 := Lib.hid ((HU.out.trans (Ext.upd (S := (· = bz)) he)).mono (fun _ _ q => q.elim id id))
    simp only [LastD, Act.put, List.setIfInBounds_toArray, List.set_cons_succ, List.set_cons_zero]
    by_cases hlast : n = 1
    · have HL := Lib.hid hlast
      clear hlast
      have HROW1 := Lib.hid hrow1
      clear hrow1 hz2 hx2
      refine wpList_copy_nothing rfl (.tmp 40) (.tmp 42) 67 67 rfl 80 Try.underlying67 sizeWord az ax (n - 1) cz1 (n - 1) cx1 rfl rfl (by rw [HL.out]; simp) ?_
      simp only [Act.put, List.setIfInBounds_toArray, List.set_cons_succ, List.set_cons_zero]
      go_wp2_with fail
      go_ret
      exact vwAdd_end HW.out (by have := HL.out; omega) HXL.out HB.out HXB.out HV.out HU1.out HROW1.out
    · obtain rfl := hz2 (by omega)
      obtain rfl := hx2 (by omega)
      have hsrc := vw_src (k := 1) HXL.out (fun i hi => he.cell (HXC.out i hi))
      have HSRC := Lib.hid hsrc
      have HROW1 := Lib.hid hrow1
      clear hsrc hrow1 hz2 hx2
      refine wpList_copy_own rfl (.tmp 40) (.tmp 42) 67 67 rfl 80 Try.underlying67 sizeWord bz (oz + 1) _ _ ⟨bx, ox + 1, none⟩ _ _ rfl rfl _ T HROW1.out (words .u64 (xs.drop 1)) ?s1 HSRC.out ?s2 (words_one _ _) ?_
      case s1 => rw [words_len, List.length_drop, HXL.out]; exact (Nat.min_self _).symm
      case s2 => rw [words_len, List.length_drop, HXL.out, put_size _ _ _ (by rw [words_len, HW.out]; omega)]; omega
      simp only [Act.put, List.setIfInBounds_toArray, List.set_cons_succ, List.set_cons_zero]
      go_wp2_with fail
      go_ret
      exact vwAdd_copy HW.out (by omega) hfit HXL.out HB.out HXB.out HV.out HU1.out HROW1.out

set_option maxHeartbeats 2000000 in
theorem vwAdd_1a (bz oz kz bx ox kx y n : Nat) (cz : Array Value) (T : TypeId) (xs : List Nat) (w : World) (hz : w.heap[bz]? = some (.cells cz T (0, 0))) (hfit : oz + n ≤ cz.size) (hn0 : 0 < n) (hn : n ≤ 9223372036854775806) (hkz1 : n ≤ kz) (hkz2 : kz ≤ 9223372036854775807) (hkx1 : n ≤ kx) (hkx2 : kx ≤ 9223372036854775807) (hy1 : y ≤ 1)
    (hxl : xs.length = n) (hxb : ∀ x ∈ xs, x < 18446744073709551616) (hx : ∀ i, i < n → w.cell? ⟨bx, ox + i, none⟩ = some (.int .u64 (xs.getD i 0 : Nat))) (hal : bz = bx ∧ oz = ox) (s x : Nat) (hs : s < 18446744073709551616) (hxx : xs.getD 0 0 = x) (hsd : s + 18446744073709551616 * 1 = x + y + 0) :
    Calls Try.prog 78 #[.slice (some ⟨bz, oz, none⟩) n kz, .slice (some ⟨bx, ox, none⟩) n kx, .int .u64 (y : Nat)] w (vwAddR w bz oz cz T xs y n) := by
  obtain ⟨rfl, rfl⟩ := hal
  have hxlt : x < 18446744073709551616 := by rw [← hxx]; exact getD_lt hxb (by omega) 0
  have hx0 := hx 0 hn0
  rw [hxx, Nat.add_zero] at hx0
  have hz0 : w.cell? ⟨bz, oz, none⟩ = some (cz[oz]'(by omega)) := by rw [blk_cell hz]; exact Array.getElem?_eq_getElem (by omega)
  generalize cz[oz]'(by omega) = z0 at hz0
  have hf0 := blk_free hz oz
  have hu0 : Upd (· = bz) w (w.setCell ⟨bz, oz, none⟩ (.int .u64 (s : Nat))) := (Upd.refl _ _).setCell (by rfl) _
  have hrow0 : (w.setCell ⟨bz, oz, none⟩ (.int .u64 (s : Nat))).heap[bz]? = some (.cells (put cz oz (words .u64 [s])) T (0, 0)) := by
    rw [blk_setc hz, show words IntKind.u64 [s] = [] ++ [.int .u64 (s : Nat)] from rfl, ← put_set _ _ _ _ (by simp; omega), put_nil]
    rfl
  have HZ := Lib.hid hz
  have HX := Lib.hid hx
  have HXL := Lib.hid hxl
  have HXB := Lib.hid hxb
  have HXX := Lib.hid hxx
  have HSD := Lib.hid hsd
  have HU0 := Lib.hid hu0
  have HROW0 := Lib.hid hrow0
  clear hz hx hxl hxb hxx hsd hu0 hrow0
  have H1 : Hid (vwAddL w bz oz cz T xs y n (.int .i64 ((1 : Nat) : Int)) (w.setCell ⟨bz, oz, none⟩ (.int .u64 (s : Nat)))) := Lib.hid ⟨1, [s], by omega, by omega, rfl, rfl, by simpa using hs, by
    have h1 := val_take_succ xs 0
    have h2 := HSD.out
    rw [HXX.out] at h1
    simp [val] at h1 ⊢
    omega, HU0.out, HROW0.out⟩
  go_enter Try.func78, Try.ntmps78
  go_wp2_with fail
  refine (bitsAdd_any x y 0 s 1 hs (by omega) HSD.out _).mono ?_
  rintro e w1 ⟨rfl, rfl⟩
  go_wp2_with fail
  clear hx0 hz0 hf0
  generalize w1.setCell ⟨bz, oz, none⟩ (.int .u64 (s : Nat)) = W at *
  go_loopw [9] (fun iv wr => vwAddL w1 bz oz cz T xs y n iv wr) (fun iv _ => n - (intOf iv).toNat)
  case atStart => exact H1.out
  case round =>
    obtain ⟨k, ws, hk1, hk, rfl, hl, hb, hv, hu, hrow⟩ := hrel
    by_cases hlt : k < n
    · obtain ⟨xi, hxi⟩ : ∃ xi, xs.getD k 0 = xi := ⟨_, rfl⟩
      have hcx := row_read HZ.out hfit hlt hl (fun e => rfl) hu hrow (HX.out k hlt)
      rw [hxi] at hcx
      have hxilt : xi < 18446744073709551616 := by rw [← hxi]; exact getD_lt HXB.out (by omega) k
      have hcz : wr.cell? ⟨bz, oz + k, none⟩ = some (cz[oz + k]'(by omega)) := by rw [blk_cell hrow, put_past _ _ _ _ (by omega) (by rw [words_len]; omega)]; exact Array.getElem?_eq_getElem (by omega)
      clear hcz
      have hfz := blk_free hrow (oz + k)
      have hstep : ∀ t : Nat, t < 18446744073709551616 → (∀ x ∈ ws ++ [t], x < 18446744073709551616) ∧ (ws ++ [t]).length = k + 1 ∧ Upd (· = bz) w1 (wr.setCell ⟨bz, oz + k, none⟩ (.int .u64 (t : Nat))) ∧ (wr.setCell ⟨bz, oz + k, none⟩ (.int .u64 (t : Nat))).heap[bz]? = some (.cells (put cz oz (words .u64 (ws ++ [t]))) T (0, 0)) := by
        intro t ht
        refine ⟨mem_snoc hb ht, by simp [hl], hu.same ((Upd.refl _ _).setCell (by rfl) _), ?_⟩
        rw [blk_setc hrow, words_app, show words IntKind.u64 [t] = [.int .u64 (t : Nat)] from rfl, ← put_set _ _ _ _ (by rw [words_len]; omega), words_len, hl]
      have HST := Lib.hid hstep
      have HV := Lib.hid hv
      have HL := Lib.hid hl
      have HXI := Lib.hid hxi
      clear hstep hv hl hxi hb hrow
      have HUU := Lib.hid hu
      clear hu
      by_cases hbig : xi = 18446744073709551615
      · subst hbig
        have hvk : vwAddL w1 bz oz cz T xs y n (.int .i64 ((k + 1 : Nat) : Int)) (wr.setCell ⟨bz, oz + k, none⟩ (.int .u64 ((0 : Nat) : Int))) := by
          obtain ⟨g1, g2, g3, g4⟩ := HST.out 0 (by omega)
          refine ⟨k + 1, _, by omega, by omega, rfl, g2, g1, ?_, g3, g4⟩
          have h1 := val_take_succ xs k
          have h2 := HV.out
          rw [HXI.out] at h1
          rw [val_snoc, HL.out, h1, Nat.pow_succ]
          omega
        have HVK := Lib.hid hvk
        clear hvk
        go_wp2_with fail
        go_roundw
        case rel => exact HVK.out
        case measure => simp [intOf]; omega
      · have hbb : ((xi : Int) == 18446744073709551615) = false := by simp; omega
        have hbn : ((xi : Int) != 18446744073709551615) = true := by simp; omega
        obtain ⟨g1, g2, g3, g4⟩ := HST.out (xi + 1) (by omega)
        have hvv : val (ws ++ [xi + 1]) = val (xs.take (k + 1)) + y := by
          have h1 := val_take_succ xs k
          have h2 := HV.out
          rw [HXI.out] at h1
          rw [val_snoc, HL.out, h1]
          rw [Nat.mul_add]; omega
        have hcast : ((xi + 1 : Nat) : Int) = (xi : Int) + 1 := by omega
        rw [hcast] at g3 g4
        clear hcast
        have HB := Lib.hid g1
        have HW := Lib.hid g2
        replace HU0 := Lib.hid g3
        replace HROW0 := Lib.hid g4
        replace HV := Lib.hid hvv
        have hlo : xi < 18446744073709551615 := by omega
        clear g1 g2 g3 g4 hvv hbig
        have hne := neqWordSame ⟨bz, oz, none⟩
        go_wp2_with fail
        clear hcx hfz
        generalize wr.setCell ⟨bz, oz + k, none⟩ (.int .u64 ((xi : Int) + 1)) = W2 at *
        go_quiet (fail)
        clear hne
        go_wp2_with fail
        go_ret
        exact vwAdd_alias (k := k + 1) HW.out (by omega) hfit HXL.out HB.out HXB.out HV.out (HU0.out.drewN nq) (heap_drewN HROW0.out nq) HZ.out HX.out
    · obtain rfl : k = n := by omega
      have HR : Hid (vwAddR w1 bz oz cz T xs y k (.returned (.int .u64 ((1 : Nat) : Int))) wr) := Lib.hid ⟨ws, 1, rfl, hl, hb, by omega, by
        have h1 := HXL.out
        rw [List.take_of_length_le (by omega)] at hv; omega, hu, hrow⟩
      clear hv hu hrow hl hb
      go_wp2_with fail
      go_ret
      exact HR.out

set_option maxHeartbeats 2000000 in
theorem vwAdd_1o (bz oz kz bx ox kx y n : Nat) (cz : Array Value) (T : TypeId) (xs : List Nat) (w : World) (hz : w.heap[bz]? = some (.cells cz T (0, 0))) (hfit : oz + n ≤ cz.size) (hn0 : 0 < n) (hn : n ≤ 9223372036854775806) (hkz1 : n ≤ kz) (hkz2 : kz ≤ 9223372036854775807) (hkx1 : n ≤ kx) (hkx2 : kx ≤ 9223372036854775807) (hy1 : y ≤ 1)
    (hxl : xs.length = n) (hxb : ∀ x ∈ xs, x < 18446744073709551616) (hx : ∀ i, i < n → w.cell? ⟨bx, ox + i, none⟩ = some (.int .u64 (xs.getD i 0 : Nat))) (hal : bx ≠ bz ∧ ∃ dx Tx, w.heap[bx]? = some (.cells dx Tx (0, 0))) (s x : Nat) (hs : s < 18446744073709551616) (hxx : xs.getD 0 0 = x) (hsd : s + 18446744073709551616 * 1 = x + y + 0) :
    Calls Try.prog 78 #[.slice (some ⟨bz, oz, none⟩) n kz, .slice (some ⟨bx, ox, none⟩) n kx, .int .u64 (y : Nat)] w (vwAddR w bz oz cz T xs y n) := by
  obtain ⟨hal, dx, Tx, hdx⟩ := hal
  have hxlt : x < 18446744073709551616 := by rw [← hxx]; exact getD_lt hxb (by omega) 0
  have hx0 := hx 0 hn0
  rw [hxx, Nat.add_zero] at hx0
  have hz0 : w.cell? ⟨bz, oz, none⟩ = some (cz[oz]'(by omega)) := by rw [blk_cell hz]; exact Array.getElem?_eq_getElem (by omega)
  generalize cz[oz]'(by omega) = z0 at hz0
  have hf0 := blk_free hz oz
  have hu0 : Upd (· = bz) w (w.setCell ⟨bz, oz, none⟩ (.int .u64 (s : Nat))) := (Upd.refl _ _).setCell (by rfl) _
  have hrow0 : (w.setCell ⟨bz, oz, none⟩ (.int .u64 (s : Nat))).heap[bz]? = some (.cells (put cz oz (words .u64 [s])) T (0, 0)) := by
    rw [blk_setc hz, show words IntKind.u64 [s] = [] ++ [.int .u64 (s : Nat)] from rfl, ← put_set _ _ _ _ (by simp; omega), put_nil]
    rfl
  have hxw : ∀ i, i < n → (w.setCell ⟨bz, oz, none⟩ (.int .u64 (s : Nat))).cell? ⟨bx, ox + i, none⟩ = some (.int .u64 (xs.getD i 0 : Nat)) := fun i hi => hu0.cell (hx i hi) hal
  have hdx0 := hu0.heap hdx hal
  have HXC0 := Lib.hid hxw
  have HDX := Lib.hid hdx0
  have HDX0 := Lib.hid hdx
  clear hxw hdx0 hdx HXC0
  have HZ := Lib.hid hz
  have HX := Lib.hid hx
  have HXL := Lib.hid hxl
  have HXB := Lib.hid hxb
  have HXX := Lib.hid hxx
  have HSD := Lib.hid hsd
  have HU0 := Lib.hid hu0
  have HROW0 := Lib.hid hrow0
  clear hz hx hxl hxb hxx hsd hu0 hrow0
  have H1 : Hid (vwAddL w bz oz cz T xs y n (.int .i64 ((1 : Nat) : Int)) (w.setCell ⟨bz, oz, none⟩ (.int .u64 (s : Nat)))) := Lib.hid ⟨1, [s], by omega, by omega, rfl, rfl, by simpa using hs, by
    have h1 := val_take_succ xs 0
    have h2 := HSD.out
    rw [HXX.out] at h1
    simp [val] at h1 ⊢
    omega, HU0.out, HROW0.out⟩
  go_enter Try.func78, Try.ntmps78
  go_wp2_with fail
  refine (bitsAdd_any x y 0 s 1 hs (by omega) HSD.out _).mono ?_
  rintro e w1 ⟨rfl, rfl⟩
  go_wp2_with fail
  clear hx0 hz0 hf0
  generalize w1.setCell ⟨bz, oz, none⟩ (.int .u64 (s : Nat)) = W at *
  go_loopw [9] (fun iv wr => vwAddL w1 bz oz cz T xs y n iv wr) (fun iv _ => n - (intOf iv).toNat)
  case atStart => exact H1.out
  case round =>
    obtain ⟨k, ws, hk1, hk, rfl, hl, hb, hv, hu, hrow⟩ := hrel
    by_cases hlt : k < n
    · obtain ⟨xi, hxi⟩ : ∃ xi, xs.getD k 0 = xi := ⟨_, rfl⟩
      have hcx := row_read HZ.out hfit hlt hl (fun e => absurd e hal) hu hrow (HX.out k hlt)
      rw [hxi] at hcx
      have hxilt : xi < 18446744073709551616 := by rw [← hxi]; exact getD_lt HXB.out (by omega) k
      have hcz : wr.cell? ⟨bz, oz + k, none⟩ = some (cz[oz + k]'(by omega)) := by rw [blk_cell hrow, put_past _ _ _ _ (by omega) (by rw [words_len]; omega)]; exact Array.getElem?_eq_getElem (by omega)
      generalize cz[oz + k]'(by omega) = zk at hcz
      have hfz := blk_free hrow (oz + k)
      have hstep : ∀ t : Nat, t < 18446744073709551616 → (∀ x ∈ ws ++ [t], x < 18446744073709551616) ∧ (ws ++ [t]).length = k + 1 ∧ Upd (· = bz) w1 (wr.setCell ⟨bz, oz + k, none⟩ (.int .u64 (t : Nat))) ∧ (wr.setCell ⟨bz, oz + k, none⟩ (.int .u64 (t : Nat))).heap[bz]? = some (.cells (put cz oz (words .u64 (ws ++ [t]))) T (0, 0)) := by
        intro t ht
        refine ⟨mem_snoc hb ht, by simp [hl], hu.same ((Upd.refl _ _).setCell (by rfl) _), ?_⟩
        rw [blk_setc hrow, words_app, show words IntKind.u64 [t] = [.int .u64 (t : Nat)] from rfl, ← put_set _ _ _ _ (by rw [words_len]; omega), words_len, hl]
      have HST := Lib.hid hstep
      have HV := Lib.hid hv
      have HL := Lib.hid hl
      have HXI := Lib.hid hxi
      clear hstep hv hl hxi hb hrow
      have HUU := Lib.hid hu
      clear hu
      by_cases hbig : xi = 18446744073709551615
      · subst hbig
        have hvk : vwAddL w1 bz oz cz T xs y n (.int .i64 ((k + 1 : Nat) : Int)) (wr.setCell ⟨bz, oz + k, none⟩ (.int .u64 ((0 : Nat) : Int))) := by
          obtain ⟨g1, g2, g3, g4⟩ := HST.out 0 (by omega)
          refine ⟨k + 1, _, by omega, by omega, rfl, g2, g1, ?_, g3, g4⟩
          have h1 := val_take_succ xs k
          have h2 := HV.out
          rw [HXI.out] at h1
          rw [val_snoc, HL.out, h1, Nat.pow_succ]
          omega
        have HVK := Lib.hid hvk
        clear hvk
        go_wp2_with fail
        go_roundw
        case rel => exact HVK.out
        case measure => simp [intOf]; omega
      · have hbb : ((xi : Int) == 18446744073709551615) = false := by simp; omega
        have hbn : ((xi : Int) != 18446744073709551615) = true := by simp; omega
        obtain ⟨g1, g2, g3, g4⟩ := HST.out (xi + 1) (by omega)
        have hvv : val (ws ++ [xi + 1]) = val (xs.take (k + 1)) + y := by
          have h1 := val_take_succ xs k
          have h2 := HV.out
          rw [HXI.out] at h1
          rw [val_snoc, HL.out, h1]
          rw [Nat.mul_add]; omega
        have hcast : ((xi + 1 : Nat) : Int) = (xi : Int) + 1 := by omega
        rw [hcast] at g3 g4
        clear hcast
        have HB := Lib.hid g1
        have HW := Lib.hid g2
        replace HU0 := Lib.hid g3
        replace HROW0 := Lib.hid g4
        replace HV := Lib.hid hvv
        have hlo : xi < 18446744073709551615 := by omega
        clear g1 g2 g3 g4 hvv hbig
        go_wp2_with fail
        clear hcx hcz hfz
        replace HDX := Lib.hid (HU0.out.heap HDX0.out hal)
        have HXC0 := Lib.hid (fun i hi => HU0.out.cell (HX.out i hi) hal)
        generalize wr.setCell ⟨bz, oz + k, none⟩ (.int .u64 ((xi : Int) + 1)) = W2 at *
        have hne := fun nq => neqWordOther (a := oz) (b := ox) (w := W2.drewN nq) (fun e => hal e.symm) (heap_drewN HROW0.out nq) (heap_drewN HDX.out nq)
        go_quiet (fail)
        clear hne
        have HU := Lib.hid (HU0.out.drewN nq)
        have HROW := Lib.hid (heap_drewN HROW0.out nq)
        have hxn : ∀ i, i < n → (W2.drewN nq).cell? ⟨bx, ox + i, none⟩ = some (.int .u64 (xs.getD i 0 : Nat)) := fun i hi => HXC0.out i hi
        have HXC := Lib.hid hxn
        clear hxn
        generalize W2.drewN nq = wp at *
        go_wp2_with fail
        refine wp_region_D preExt mixed [Is (.slice (some ⟨bz, oz, none⟩) n kz), Is (.int .i64 (k : Nat)), Is (.int .i64 ((k : Int) + 1)), Sl bz oz n (k + 1), Is (.slice (some ⟨bx, ox, none⟩) n kx), Is (.int .i64 (k : Nat)), Is (.int .i64 ((k : Int) + 1)), Sl bx ox n (k + 1)] (by kernel_rfl) ?mono rfl ?steps ?last
        case mono =>
          simp only [List.forall_mem_cons, List.not_mem_nil, false_implies, implies_true, and_true]
          refine ⟨?_, ?_, ?_, ?_, ?_, ?_, ?_, ?_⟩
          all_goals exact fun _ _ _ _ q => q
        case steps =>
          refine ⟨?_, ?_, ?_, ?_, ?_, ?_, ?_, ?_, trivial⟩
          all_goals
            intro u0 u1 u2 u3 u4 u5 u6 u7 u8 w1 he hk
            simp [KnownD, Oper.looksAt, Op.operands, Call.operands, List.findIdx?_cons, Act.put] at hk
            simp only [Act.put, List.setIfInBounds_toArray, List.set_cons_succ, List.set_cons_zero]
          · go_wp2_with fail
            exact ⟨rfl, Ext.refl _, rfl⟩
          · go_wp2_with fail
            exact ⟨rfl, Ext.refl _, rfl⟩
          · obtain rfl : u1 = .int .i64 (k : Nat) := hk
            go_wp2_with fail
            exact ⟨rfl, Ext.refl _, rfl⟩
          · obtain ⟨k0, k1⟩ := hk
            obtain rfl : u0 = .slice (some ⟨bz, oz, none⟩) n kz := k0
            obtain rfl : u2 = .int .i64 ((k : Int) + 1) := k1
            obtain ⟨v, hv, hS⟩ := slice_from bz oz n kz (k + 1) (by omega) (by omega)
            rw [show (((k + 1 : Nat)) : Int) = (k : Int) + 1 by omega] at hv
            have HS := Lib.hid hS
            clear hS
            refine wpList_slice_v rfl hv ?_
            refine wpList_nil ?_
            simp only [Act.put, List.setIfInBounds_toArray, List.set_cons_succ, List.set_cons_zero]
            exact ⟨rfl, Ext.refl _, HS.out w1⟩
          · go_wp2_with fail
            exact ⟨rfl, Ext.refl _, rfl⟩
          · go_wp2_with fail
            exact ⟨rfl, Ext.refl _, rfl⟩
          · obtain rfl : u5 = .int .i64 (k : Nat) := hk
            go_wp2_with fail
            exact ⟨rfl, Ext.refl _, rfl⟩
          · obtain ⟨k0, k1⟩ := hk
            obtain rfl : u4 = .slice (some ⟨bx, ox, none⟩) n kx := k0
            obtain rfl : u6 = .int .i64 ((k : Int) + 1) := k1
            obtain ⟨v, hv, hS⟩ := slice_from bx ox n kx (k + 1) (by omega) (by omega)
            rw [show (((k + 1 : Nat)) : Int) = (k : Int) + 1 by omega] at hv
            have HS := Lib.hid hS
            clear hS
            refine wpList_slice_v rfl hv ?_
            refine wpList_nil ?_
            simp only [Act.put, List.setIfInBounds_toArray, List.set_cons_succ, List.set_cons_zero]
            exact ⟨rfl, Ext.refl _, HS.out w1⟩
        case last =>
          intro w1 he u0 h0 u1 h1 u2 h2 u3 h3 u4 h4 u5 h5 u6 h6 u7 h7
          obtain ⟨az, cz1, hz1, hz2⟩ : ∃ az cz1, u3 = .slice az (n - (k + 1)) cz1 ∧ ((k + 1) < n → az = some ⟨bz, oz + (k + 1), none⟩) := h3
          obtain ⟨ax, cx1, hx1, hx2⟩ : ∃ ax cx1, u7 = .slice ax (n - (k + 1)) cx1 ∧ ((k + 1) < n → ax = some ⟨bx, ox + (k + 1), none⟩) := h7
          subst hz1 hx1
          clear h0 h1 h2 h4 h5 h6
          have hrow1 := he.block HROW.out
          have HU1 := Lib.hid ((HU.out.trans (Ext.upd (S := (· = bz)) he)).mono (fun _ _ q => q.elim id id))
          simp only [LastD, Act.put, List.setIfInBounds_toArray, List.set_cons_succ, List.set_cons_zero]
          by_cases hlast : n = (k + 1)
          · have HL := Lib.hid hlast
            clear hlast
            have HROW1 := Lib.hid hrow1
            clear hrow1 hz2 hx2
            refine wpList_copy_nothing rfl (.tmp 69) (.tmp 73) 67 67 rfl 80 Try.underlying67 sizeWord az ax (n - (k + 1)) cz1 (n - (k + 1)) cx1 rfl rfl (by rw [HL.out]; simp) ?_
            simp only [Act.put, List.setIfInBounds_toArray, List.set_cons_succ, List.set_cons_zero]
            go_wp2_with fail
            go_ret
            exact vwAdd_end HW.out (by have := HL.out; omega) HXL.out HB.out HXB.out HV.out HU1.out HROW1.out
          · obtain rfl := hz2 (by omega)
            obtain rfl := hx2 (by omega)
            have hsrc := vw_src (k := (k + 1)) HXL.out (fun i hi => he.cell (HXC.out i hi))
            have HSRC := Lib.hid hsrc
            have HROW1 := Lib.hid hrow1
            clear hsrc hrow1 hz2 hx2
            refine wpList_copy_own rfl (.tmp 69) (.tmp 73) 67 67 rfl 80 Try.underlying67 sizeWord bz (oz + (k + 1)) _ _ ⟨bx, ox + (k + 1), none⟩ _ _ rfl rfl _ T HROW1.out (words .u64 (xs.drop (k + 1))) ?s1 HSRC.out ?s2 (words_one _ _) ?_
            case s1 => rw [words_len, List.length_drop, HXL.out]; exact (Nat.min_self _).symm
            case s2 => rw [words_len, List.length_drop, HXL.out, put_size _ _ _ (by rw [words_len, HW.out]; omega)]; omega
            simp only [Act.put, List.setIfInBounds_toArray, List.set_cons_succ, List.set_cons_zero]
            go_wp2_with fail
            go_ret
            exact vwAdd_copy HW.out (by omega) hfit HXL.out HB.out HXB.out HV.out HU1.out HROW1.out
    · obtain rfl : k = n := by omega
      have HR : Hid (vwAddR w1 bz oz cz T xs y k (.returned (.int .u64 ((1 : Nat) : Int))) wr) := Lib.hid ⟨ws, 1, rfl, hl, hb, by omega, by
        have h1 := HXL.out
        rw [List.take_of_length_le (by omega)] at hv; omega, hu, hrow⟩
      clear hv hu hrow hl hb
      go_wp2_with fail
      go_ret
      exact HR.out

theorem vwAdd_any (bz oz kz bx ox kx y n : Nat) (cz : Array Value) (T : TypeId) (xs : List Nat) (w : World) (hz : w.heap[bz]? = some (.cells cz T (0, 0))) (hfit : oz + n ≤ cz.size) (hn0 : 0 < n) (hn : n ≤ 9223372036854775806) (hkz1 : n ≤ kz) (hkz2 : kz ≤ 9223372036854775807) (hkx1 : n ≤ kx) (hkx2 : kx ≤ 9223372036854775807) (hy1 : y ≤ 1)
    (hxl : xs.length = n) (hxb : ∀ x ∈ xs, x < 18446744073709551616) (hx : ∀ i, i < n → w.cell? ⟨bx, ox + i, none⟩ = some (.int .u64 (xs.getD i 0 : Nat))) (hax : bx = bz → ox = oz) (hdx : ∃ dx Tx, w.heap[bx]? = some (.cells dx Tx (0, 0))) :
    Calls Try.prog 78 #[.slice (some ⟨bz, oz, none⟩) n kz, .slice (some ⟨bx, ox, none⟩) n kx, .int .u64 (y : Nat)] w (vwAddR w bz oz cz T xs y n) := by
  have hxlt : xs.getD 0 0 < 18446744073709551616 := getD_lt hxb (by omega) 0
  obtain ⟨s, d, hs, hd, hsd⟩ : ∃ s d : Nat, s < 18446744073709551616 ∧ d ≤ 1 ∧ s + 18446744073709551616 * d = xs.getD 0 0 + y + 0 := ⟨(xs.getD 0 0 + y + 0) % 18446744073709551616, (xs.getD 0 0 + y + 0) / 18446744073709551616, Nat.mod_lt _ (by decide), by omega, by omega⟩
  have hd' : d = 0 ∨ d = 1 := by omega
  by_cases hb : bx = bz
  · rcases hd' with rfl | rfl
    · exact vwAdd_0a bz oz kz bx ox kx y n cz T xs w hz hfit hn0 hn hkz1 hkz2 hkx1 hkx2 hy1 hxl hxb hx ⟨hb.symm, (hax hb).symm⟩ s _ hs rfl hsd
    · exact vwAdd_1a bz oz kz bx ox kx y n cz T xs w hz hfit hn0 hn hkz1 hkz2 hkx1 hkx2 hy1 hxl hxb hx ⟨hb.symm, (hax hb).symm⟩ s _ hs rfl hsd
  · rcases hd' with rfl | rfl
    · exact vwAdd_0o bz oz kz bx ox kx y n cz T xs w hz hfit hn0 hn hkz1 hkz2 hkx1 hkx2 hy1 hxl hxb hx ⟨hb, hdx⟩ s _ hs rfl hsd
    · exact vwAdd_1o bz oz kz bx ox kx y n cz T xs w hz hfit hn0 hn hkz1 hkz2 hkx1 hkx2 hy1 hxl hxb hx ⟨hb, hdx⟩ s _ hs rfl hsd

def vwSubR (w : World) (bz oz : Nat) (cz : Array Value) (T : TypeId) (xs : List Nat) (y n : Nat) (e : Ending) (w' : World) : Prop :=
  ∃ (ws : List Nat) (c : Nat), e = .returned (.int .u64 (c : Nat)) ∧ ws.length = n ∧ (∀ x ∈ ws, x < 18446744073709551616) ∧ c ≤ 1 ∧ (val ws + y = val xs + 18446744073709551616 ^ n * c) ∧ Upd (· = bz) w w' ∧ w'.heap[bz]? = some (.cells (put cz oz (words .u64 ws)) T (0, 0))

def vwSubL (w : World) (bz oz : Nat) (cz : Array Value) (T : TypeId) (xs : List Nat) (y n : Nat) (iv : Value) (wr : World) : Prop :=
  ∃ (k : Nat) (ws : List Nat), 1 ≤ k ∧ k ≤ n ∧ iv = .int .i64 k ∧ ws.length = k ∧ (∀ x ∈ ws, x < 18446744073709551616) ∧ (val ws + y = val (xs.take k) + 18446744073709551616 ^ k) ∧ Upd (· = bz) w wr ∧ wr.heap[bz]? = some (.cells (put cz oz (words .u64 ws)) T (0, 0))

theorem vwSub_val {xs ws : List Nat} {y k n : Nat} (hl : ws.length = k) (hk : k ≤ n) (hxl : xs.length = n) (hv : val ws + y = val (xs.take k)) : (ws ++ xs.drop k).length = n ∧ (val (ws ++ xs.drop k) + y = val xs + 18446744073709551616 ^ n * 0) := by
  refine ⟨by simp; omega, ?_⟩
  have h1 := val_split xs k
  rw [val_append, hl]
  omega

theorem vwSub_end {w wq : World} {bz oz k n y : Nat} {cz : Array Value} {T : TypeId} {xs ws : List Nat} (hl : ws.length = k) (hk : k = n) (hxl : xs.length = n) (hb : ∀ x ∈ ws, x < 18446744073709551616) (hxb : ∀ x ∈ xs, x < 18446744073709551616) (hv : val ws + y = val (xs.take k)) (hu : Upd (· = bz) w wq) (hrow : wq.heap[bz]? = some (.cells (put cz oz (words .u64 ws)) T (0, 0))) :
    vwSubR w bz oz cz T xs y n (.returned (.int .u64 0)) wq := by
  obtain ⟨_, h2⟩ := vwSub_val hl (Nat.le_of_eq hk) hxl hv
  rw [List.drop_of_length_le (by omega), List.append_nil] at h2
  exact ⟨ws, 0, rfl, by omega, hb, by omega, by simpa using h2, hu, hrow⟩

theorem vwSub_copy {w wq : World} {bz oz k n y : Nat} {cz : Array Value} {T : TypeId} {xs ws : List Nat} (hl : ws.length = k) (hk : k ≤ n) (hfit : oz + n ≤ cz.size) (hxl : xs.length = n) (hb : ∀ x ∈ ws, x < 18446744073709551616) (hxb : ∀ x ∈ xs, x < 18446744073709551616) (hv : val ws + y = val (xs.take k)) (hu : Upd (· = bz) w wq) (hrow : wq.heap[bz]? = some (.cells (put cz oz (words .u64 ws)) T (0, 0))) :
    vwSubR w bz oz cz T xs y n (.returned (.int .u64 0)) (wq.setRow bz ((put cz oz (words .u64 ws)).toList.take (oz + k) ++ (words .u64 (xs.drop k) ++ (put cz oz (words .u64 ws)).toList.drop (oz + k + (words .u64 (xs.drop k)).length))).toArray) := by
  obtain ⟨h1, h2⟩ := vwSub_val hl hk hxl hv
  refine ⟨ws ++ xs.drop k, 0, rfl, h1, mem_app hb (fun x hx => hxb x (List.mem_of_mem_drop hx)), by omega, by simpa using h2, hu.same (updSetRow _ _ _), ?_⟩
  have e : (words .u64 ws).length = k := by rw [words_len, hl]
  rw [setRow_heap _ _ _ _ _ _ hrow, words_app, ← put_put _ _ _ _ (by rw [words_len, words_len, List.length_drop]; omega), e]
  rfl

theorem vwSub_alias {w wq : World} {bz oz k n y : Nat} {cz : Array Value} {T : TypeId} {xs ws : List Nat} (hl : ws.length = k) (hk : k ≤ n) (hfit : oz + n ≤ cz.size) (hxl : xs.length = n) (hb : ∀ x ∈ ws, x < 18446744073709551616) (hxb : ∀ x ∈ xs, x < 18446744073709551616) (hv : val ws + y = val (xs.take k)) (hu : Upd (· = bz) w wq) (hrow : wq.heap[bz]? = some (.cells (put cz oz (words .u64 ws)) T (0, 0)))
    (hz : w.heap[bz]? = some (.cells cz T (0, 0))) (hx : ∀ i, i < n → w.cell? ⟨bz, oz + i, none⟩ = some (.int .u64 (xs.getD i 0 : Nat))) : vwSubR w bz oz cz T xs y n (.returned (.int .u64 0)) wq := by
  obtain ⟨h1, h2⟩ := vwSub_val hl hk hxl hv
  refine ⟨ws ++ xs.drop k, 0, rfl, h1, mem_app hb (fun x hx => hxb x (List.mem_of_mem_drop hx)), by omega, by simpa using h2, hu, ?_⟩
  rw [hrow, words_app, put_same _ _ _ _ (by rw [words_len, words_len, List.length_drop]; omega)]
  intro j hj
  rw [words_len, List.length_drop] at hj
  have := hx (k + j) (by omega)
  rw [blk_cell hz] at this
  rw [words_len, hl, Nat.add_assoc, this, words_get, List.getElem?_drop, List.getElem?_eq_getElem (by omega), List.getD_eq_getElem?_getD, List.getElem?_eq_getElem (by omega)]
  rfl

set_option maxHeartbeats 2000000 in
theorem vwSub_0a (bz oz kz bx ox kx y n : Nat) (cz : Array Value) (T : TypeId) (xs : List Nat) (w : World) (hz : w.heap[bz]? = some (.cells cz T (0, 0))) (hfit : oz + n ≤ cz.size) (hn0 : 0 < n) (hn : n ≤ 9223372036854775806) (hkz1 : n ≤ kz) (hkz2 : kz ≤ 9223372036854775807) (hkx1 : n ≤ kx) (hkx2 : kx ≤ 9223372036854775807) (hy1 : y ≤ 1)
    (hxl : xs.length = n) (hxb : ∀ x ∈ xs, x < 18446744073709551616) (hx : ∀ i, i < n → w.cell? ⟨bx, ox + i, none⟩ = some (.int .u64 (xs.getD i 0 : Nat))) (hal : bz = bx ∧ oz = ox) (s x : Nat) (hs : s < 18446744073709551616) (hxx : xs.getD 0 0 = x) (hsd : s + y + 0 = x + 18446744073709551616 * 0) :
    Calls Try.prog 82 #[.slice (some ⟨bz, oz, none⟩) n kz, .slice (some ⟨bx, ox, none⟩) n kx, .int .u64 (y : Nat)] w (vwSubR w bz oz cz T xs y n) := by
  obtain ⟨rfl, rfl⟩ := hal
  have hxlt : x < 18446744073709551616 := by rw [← hxx]; exact getD_lt hxb (by omega) 0
  have hx0 := hx 0 hn0
  rw [hxx, Nat.add_zero] at hx0
  have hz0 : w.cell? ⟨bz, oz, none⟩ = some (cz[oz]'(by omega)) := by rw [blk_cell hz]; exact Array.getElem?_eq_getElem (by omega)
  generalize cz[oz]'(by omega) = z0 at hz0
  have hf0 := blk_free hz oz
  have hu0 : Upd (· = bz) w (w.setCell ⟨bz, oz, none⟩ (.int .u64 (s : Nat))) := (Upd.refl _ _).setCell (by rfl) _
  have hrow0 : (w.setCell ⟨bz, oz, none⟩ (.int .u64 (s : Nat))).heap[bz]? = some (.cells (put cz oz (words .u64 [s])) T (0, 0)) := by
    rw [blk_setc hz, show words IntKind.u64 [s] = [] ++ [.int .u64 (s : Nat)] from rfl, ← put_set _ _ _ _ (by simp; omega), put_nil]
    rfl
  have HZ := Lib.hid hz
  have HX := Lib.hid hx
  have HXL := Lib.hid hxl
  have HXB := Lib.hid hxb
  have HXX := Lib.hid hxx
  have HSD := Lib.hid hsd
  have HU0 := Lib.hid hu0
  have HROW0 := Lib.hid hrow0
  clear hz hx hxl hxb hxx hsd hu0 hrow0
  go_enter Try.func82, Try.ntmps82
  go_wp2_with fail
  refine (bitsSub_any x y 0 s 0 hs hxlt (by omega) (by omega) HSD.out _).mono ?_
  rintro e w1 ⟨rfl, rfl⟩
  go_wp2_with fail
  have HV : Hid (val [s] + y = val (xs.take 1)) := Lib.hid (by
    have h1 := val_take_succ xs 0
    have h2 := HSD.out
    rw [HXX.out] at h1
    simp [val] at h1 ⊢
    omega)
  have HW : Hid ([s].length = 1) := Lib.hid rfl
  have HB : Hid (∀ x ∈ [s], x < 18446744073709551616) := Lib.hid (by simpa using hs)
  clear hx0 hz0 hf0
  generalize w1.setCell ⟨bz, oz, none⟩ (.int .u64 (s : Nat)) = W at *
  have hne := neqWordSame ⟨bz, oz, none⟩
  go_quiet (fail)
  clear hne
  go_wp2_with fail
  go_ret
  exact vwSub_alias (k := 1) HW.out hn0 hfit HXL.out HB.out HXB.out HV.out (HU0.out.drewN nq) (heap_drewN HROW0.out nq) HZ.out HX.out

set_option maxHeartbeats 2000000 in
theorem vwSub_0o (bz oz kz bx ox kx y n : Nat) (cz : Array Value) (T : TypeId) (xs : List Nat) (w : World) (hz : w.heap[bz]? = some (.cells cz T (0, 0))) (hfit : oz + n ≤ cz.size) (hn0 : 0 < n) (hn : n ≤ 9223372036854775806) (hkz1 : n ≤ kz) (hkz2 : kz ≤ 9223372036854775807) (hkx1 : n ≤ kx) (hkx2 : kx ≤ 9223372036854775807) (hy1 : y ≤ 1)
    (hxl : xs.length = n) (hxb : ∀ x ∈ xs, x < 18446744073709551616) (hx : ∀ i, i < n → w.cell? ⟨bx, ox + i, none⟩ = some (.int .u64 (xs.getD i 0 : Nat))) (hal : bx ≠ bz ∧ ∃ dx Tx, w.heap[bx]? = some (.cells dx Tx (0, 0))) (s x : Nat) (hs : s < 18446744073709551616) (hxx : xs.getD 0 0 = x) (hsd : s + y + 0 = x + 18446744073709551616 * 0) :
    Calls Try.prog 82 #[.slice (some ⟨bz, oz, none⟩) n kz, .slice (some ⟨bx, ox, none⟩) n kx, .int .u64 (y : Nat)] w (vwSubR w bz oz cz T xs y n) := by
  obtain ⟨hal, dx, Tx, hdx⟩ := hal
  have hxlt : x < 18446744073709551616 := by rw [← hxx]; exact getD_lt hxb (by omega) 0
  have hx0 := hx 0 hn0
  rw [hxx, Nat.add_zero] at hx0
  have hz0 : w.cell? ⟨bz, oz, none⟩ = some (cz[oz]'(by omega)) := by rw [blk_cell hz]; exact Array.getElem?_eq_getElem (by omega)
  generalize cz[oz]'(by omega) = z0 at hz0
  have hf0 := blk_free hz oz
  have hu0 : Upd (· = bz) w (w.setCell ⟨bz, oz, none⟩ (.int .u64 (s : Nat))) := (Upd.refl _ _).setCell (by rfl) _
  have hrow0 : (w.setCell ⟨bz, oz, none⟩ (.int .u64 (s : Nat))).heap[bz]? = some (.cells (put cz oz (words .u64 [s])) T (0, 0)) := by
    rw [blk_setc hz, show words IntKind.u64 [s] = [] ++ [.int .u64 (s : Nat)] from rfl, ← put_set _ _ _ _ (by simp; omega), put_nil]
    rfl
  have hxw : ∀ i, i < n → (w.setCell ⟨bz, oz, none⟩ (.int .u64 (s : Nat))).cell? ⟨bx, ox + i, none⟩ = some (.int .u64 (xs.getD i 0 : Nat)) := fun i hi => hu0.cell (hx i hi) hal
  have hdx0 := hu0.heap hdx hal
  have HXC0 := Lib.hid hxw
  have HDX := Lib.hid hdx0
  clear hxw hdx0 hdx
  have HZ := Lib.hid hz
  have HX := Lib.hid hx
  have HXL := Lib.hid hxl
  have HXB := Lib.hid hxb
  have HXX := Lib.hid hxx
  have HSD := Lib.hid hsd
  have HU0 := Lib.hid hu0
  have HROW0 := Lib.hid hrow0
  clear hz hx hxl hxb hxx hsd hu0 hrow0
  go_enter Try.func82, Try.ntmps82
  go_wp2_with fail
  refine (bitsSub_any x y 0 s 0 hs hxlt (by omega) (by omega) HSD.out _).mono ?_
  rintro e w1 ⟨rfl, rfl⟩
  go_wp2_with fail
  have HV : Hid (val [s] + y = val (xs.take 1)) := Lib.hid (by
    have h1 := val_take_succ xs 0
    have h2 := HSD.out
    rw [HXX.out] at h1
    simp [val] at h1 ⊢
    omega)
  have HW : Hid ([s].length = 1) := Lib.hid rfl
  have HB : Hid (∀ x ∈ [s], x < 18446744073709551616) := Lib.hid (by simpa using hs)
  clear hx0 hz0 hf0
  generalize w1.setCell ⟨bz, oz, none⟩ (.int .u64 (s : Nat)) = W at *
  have hne := fun nq => neqWordOther (a := oz) (b := ox) (w := W.drewN nq) (fun e => hal e.symm) (heap_drewN HROW0.out nq) (heap_drewN HDX.out nq)
  go_quiet (fail)
  clear hne
  have HU := Lib.hid (HU0.out.drewN nq)
  have HROW := Lib.hid (heap_drewN HROW0.out nq)
  have hxn : ∀ i, i < n → (W.drewN nq).cell? ⟨bx, ox + i, none⟩ = some (.int .u64 (xs.getD i 0 : Nat)) := fun i hi => HXC0.out i hi
  have HXC := Lib.hid hxn
  clear hxn
  generalize W.drewN nq = wp at *
  go_wp2_with fail
  refine wp_region_D preExt mixed [Is (.slice (some ⟨bz, oz, none⟩) n kz), Sl bz oz n 1, Is (.slice (some ⟨bx, ox, none⟩) n kx), Sl bx ox n 1] (by kernel_rfl) ?mono rfl ?steps ?last
  case mono =>
    simp only [List.forall_mem_cons, List.not_mem_nil, false_implies, implies_true, and_true]
    refine ⟨?_, ?_, ?_, ?_⟩
    all_goals exact fun _ _ _ _ q => q
  case steps =>
    refine ⟨?_, ?_, ?_, ?_, trivial⟩
    all_goals
      intro u0 u1 u2 u3 u4 w1 he hk
      simp [KnownD, Oper.looksAt, Op.operands, Call.operands, List.findIdx?_cons, Act.put] at hk
      simp only [Act.put, List.setIfInBounds_toArray, List.set_cons_succ, List.set_cons_zero]
    · go_wp2_with fail
      exact ⟨rfl, Ext.refl _, rfl⟩
    · obtain rfl : u0 = .slice (some ⟨bz, oz, none⟩) n kz := hk
      obtain ⟨v, hv, hS⟩ := slice_from bz oz n kz 1 (by omega) (by omega)
      have HS := Lib.hid hS
      clear hS
      refine wpList_slice_v rfl hv ?_
      refine wpList_nil ?_
      simp only [Act.put, List.setIfInBounds_toArray, List.set_cons_succ, List.set_cons_zero]
      exact ⟨rfl, Ext.refl _, HS.out w1⟩
    · go_wp2_with fail
      exact ⟨rfl, Ext.refl _, rfl⟩
    · obtain rfl : u2 = .slice (some ⟨bx, ox, none⟩) n kx := hk
      obtain ⟨v, hv, hS⟩ := slice_from bx ox n kx 1 (by omega) (by omega)
      have HS := Lib.hid hS
      clear hS
      refine wpList_slice_v rfl hv ?_
      refine wpList_nil ?_
      simp only [Act.put, List.setIfInBounds_toArray, List.set_cons_succ, List.set_cons_zero]
      exact ⟨rfl, Ext.refl _, HS.out w1⟩
  case last =>
    intro w1 he u0 h0 u1 h1 u2 h2 u3 h3
    obtain ⟨az, cz1, hz1, hz2⟩ : ∃ az cz1, u1 = .slice az (n - 1) cz1 ∧ (1 < n → az = some ⟨bz, oz + 1, none⟩) := h1
    obtain ⟨ax, cx1, hx1, hx2⟩ : ∃ ax cx1, u3 = .slice ax (n - 1) cx1 ∧ (1 < n → ax = some ⟨bx, ox + 1, none⟩) := h3
    subst hz1 hx1
    clear h0 h2
    have hrow1 := he.block HROW.out
    have HU1 := Lib.hid ((HU.out.trans (Ext.upd (S := (· = bz)) he)).mono (fun _ _ q => q.elim id id))
    simp only [LastD, Act.put, List.setIfInBounds_toArray, List.set_cons_succ, List.set_cons_zero]
    by_cases hlast : n = 1
    · have HL := Lib.hid hlast
      clear hlast
      have HROW1 := Lib.hid hrow1
      clear hrow1 hz2 hx2
      refine wpList_copy_nothing rfl (.tmp 40) (.tmp 42) 67 67 rfl 80 Try.underlying67 sizeWord az ax (n - 1) cz1 (n - 1) cx1 rfl rfl (by rw [HL.out]; simp) ?_
      simp only [Act.put, List.setIfInBounds_toArray, List.set_cons_succ, List.set_cons_zero]
      go_wp2_with fail
      go_ret
      exact vwSub_end HW.out (by have := HL.out; omega) HXL.out HB.out HXB.out HV.out HU1.out HROW1.out
    · obtain rfl := hz2 (by omega)
      obtain rfl := hx2 (by omega)
      have hsrc := vw_src (k := 1) HXL.out (fun i hi => he.cell (HXC.out i hi))
      have HSRC := Lib.hid hsrc
      have HROW1 := Lib.hid hrow1
      clear hsrc hrow1 hz2 hx2
      refine wpList_copy_own rfl (.tmp 40) (.tmp 42) 67 67 rfl 80 Try.underlying67 sizeWord bz (oz + 1) _ _ ⟨bx, ox + 1, none⟩ _ _ rfl rfl _ T HROW1.out (words .u64 (xs.drop 1)) ?s1 HSRC.out ?s2 (words_one _ _) ?_
      case s1 => rw [words_len, List.length_drop, HXL.out]; exact (Nat.min_self _).symm
      case s2 => rw [words_len, List.length_drop, HXL.out, put_size _ _ _ (by rw [words_len, HW.out]; omega)]; omega
      simp only [Act.put, List.setIfInBounds_toArray, List.set_cons_succ, List.set_cons_zero]
      go_wp2_with fail
      go_ret
      exact vwSub_copy HW.out (by omega) hfit HXL.out HB.out HXB.out HV.out HU1.out HROW1.out

set_option maxHeartbeats 2000000 in
theorem vwSub_1a (bz oz kz bx ox kx y n : Nat) (cz : Array Value) (T : TypeId) (xs : List Nat) (w : World) (hz : w.heap[bz]? = some (.cells cz T (0, 0))) (hfit : oz + n ≤ cz.size) (hn0 : 0 < n) (hn : n ≤ 9223372036854775806) (hkz1 : n ≤ kz) (hkz2 : kz ≤ 9223372036854775807) (hkx1 : n ≤ kx) (hkx2 : kx ≤ 9223372036854775807) (hy1 : y ≤ 1)
    (hxl : xs.length = n) (hxb : ∀ x ∈ xs, x < 18446744073709551616) (hx : ∀ i, i < n → w.cell? ⟨bx, ox + i, none⟩ = some (.int .u64 (xs.getD i 0 : Nat))) (hal : bz = bx ∧ oz = ox) (s x : Nat) (hs : s < 18446744073709551616) (hxx : xs.getD 0 0 = x) (hsd : s + y + 0 = x + 18446744073709551616 * 1) :
    Calls Try.prog 82 #[.slice (some ⟨bz, oz, none⟩) n kz, .slice (some ⟨bx, ox, none⟩) n kx, .int .u64 (y : Nat)] w (vwSubR w bz oz cz T xs y n) := by
  obtain ⟨rfl, rfl⟩ := hal
  have hxlt : x < 18446744073709551616 := by rw [← hxx]; exact getD_lt hxb (by omega) 0
  have hx0 := hx 0 hn0
  rw [hxx, Nat.add_zero] at hx0
  have hz0 : w.cell? ⟨bz, oz, none⟩ = some (cz[oz]'(by omega)) := by rw [blk_cell hz]; exact Array.getElem?_eq_getElem (by omega)
  generalize cz[oz]'(by omega) = z0 at hz0
  have hf0 := blk_free hz oz
  have hu0 : Upd (· = bz) w (w.setCell ⟨bz, oz, none⟩ (.int .u64 (s : Nat))) := (Upd.refl _ _).setCell (by rfl) _
  have hrow0 : (w.setCell ⟨bz, oz, none⟩ (.int .u64 (s : Nat))).heap[bz]? = some (.cells (put cz oz (words .u64 [s])) T (0, 0)) := by
    rw [blk_setc hz, show words IntKind.u64 [s] = [] ++ [.int .u64 (s : Nat)] from rfl, ← put_set _ _ _ _ (by simp; omega), put_nil]
    rfl
  have HZ := Lib.hid hz
  have HX := Lib.hid hx
  have HXL := Lib.hid hxl
  have HXB := Lib.hid hxb
  have HXX := Lib.hid hxx
  have HSD := Lib.hid hsd
  have HU0 := Lib.hid hu0
  have HROW0 := Lib.hid hrow0
  clear hz hx hxl hxb hxx hsd hu0 hrow0
  have H1 : Hid (vwSubL w bz oz cz T xs y n (.int .i64 ((1 : Nat) : Int)) (w.setCell ⟨bz, oz, none⟩ (.int .u64 (s : Nat)))) := Lib.hid ⟨1, [s], by omega, by omega, rfl, rfl, by simpa using hs, by
    have h1 := val_take_succ xs 0
    have h2 := HSD.out
    rw [HXX.out] at h1
    simp [val] at h1 ⊢
    omega, HU0.out, HROW0.out⟩
  go_enter Try.func82, Try.ntmps82
  go_wp2_with fail
  refine (bitsSub_any x y 0 s 1 hs hxlt (by omega) (by omega) HSD.out _).mono ?_
  rintro e w1 ⟨rfl, rfl⟩
  go_wp2_with fail
  clear hx0 hz0 hf0
  generalize w1.setCell ⟨bz, oz, none⟩ (.int .u64 (s : Nat)) = W at *
  go_loopw [9] (fun iv wr => vwSubL w1 bz oz cz T xs y n iv wr) (fun iv _ => n - (intOf iv).toNat)
  case atStart => exact H1.out
  case round =>
    obtain ⟨k, ws, hk1, hk, rfl, hl, hb, hv, hu, hrow⟩ := hrel
    by_cases hlt : k < n
    · obtain ⟨xi, hxi⟩ : ∃ xi, xs.getD k 0 = xi := ⟨_, rfl⟩
      have hcx := row_read HZ.out hfit hlt hl (fun e => rfl) hu hrow (HX.out k hlt)
      rw [hxi] at hcx
      have hxilt : xi < 18446744073709551616 := by rw [← hxi]; exact getD_lt HXB.out (by omega) k
      have hcz : wr.cell? ⟨bz, oz + k, none⟩ = some (cz[oz + k]'(by omega)) := by rw [blk_cell hrow, put_past _ _ _ _ (by omega) (by rw [words_len]; omega)]; exact Array.getElem?_eq_getElem (by omega)
      clear hcz
      have hfz := blk_free hrow (oz + k)
      have hstep : ∀ t : Nat, t < 18446744073709551616 → (∀ x ∈ ws ++ [t], x < 18446744073709551616) ∧ (ws ++ [t]).length = k + 1 ∧ Upd (· = bz) w1 (wr.setCell ⟨bz, oz + k, none⟩ (.int .u64 (t : Nat))) ∧ (wr.setCell ⟨bz, oz + k, none⟩ (.int .u64 (t : Nat))).heap[bz]? = some (.cells (put cz oz (words .u64 (ws ++ [t]))) T (0, 0)) := by
        intro t ht
        refine ⟨mem_snoc hb ht, by simp [hl], hu.same ((Upd.refl _ _).setCell (by rfl) _), ?_⟩
        rw [blk_setc hrow, words_app, show words IntKind.u64 [t] = [.int .u64 (t : Nat)] from rfl, ← put_set _ _ _ _ (by rw [words_len]; omega), words_len, hl]
      have HST := Lib.hid hstep
      have HV := Lib.hid hv
      have HL := Lib.hid hl
      have HXI := Lib.hid hxi
      clear hstep hv hl hxi hb hrow
      have HUU := Lib.hid hu
      clear hu
      by_cases hbig : xi = 0
      · subst hbig
        have hvk : vwSubL w1 bz oz cz T xs y n (.int .i64 ((k + 1 : Nat) : Int)) (wr.setCell ⟨bz, oz + k, none⟩ (.int .u64 ((18446744073709551615 : Nat) : Int))) := by
          obtain ⟨g1, g2, g3, g4⟩ := HST.out 18446744073709551615 (by omega)
          refine ⟨k + 1, _, by omega, by omega, rfl, g2, g1, ?_, g3, g4⟩
          have h1 := val_take_succ xs k
          have h2 := HV.out
          rw [HXI.out] at h1
          rw [val_snoc, HL.out, h1, Nat.pow_succ]
          omega
        have HVK := Lib.hid hvk
        clear hvk
        go_wp2_with fail
        go_roundw
        case rel => exact HVK.out
        case measure => simp [intOf]; omega
      · have hbb : ((xi : Int) == 0) = false := by simp; omega
        have hbn : ((xi : Int) != 0) = true := by simp; omega
        obtain ⟨g1, g2, g3, g4⟩ := HST.out (xi - 1) (by omega)
        have hvv : val (ws ++ [xi - 1]) + y = val (xs.take (k + 1)) := by
          have h1 := val_take_succ xs k
          have h2 := HV.out
          rw [HXI.out] at h1
          rw [val_snoc, HL.out, h1]
          rw [show xi = xi - 1 + 1 by omega, Nat.mul_add, Nat.add_sub_cancel]; omega
        have hcast : ((xi - 1 : Nat) : Int) = (xi : Int) - 1 := by omega
        rw [hcast] at g3 g4
        clear hcast
        have HB := Lib.hid g1
        have HW := Lib.hid g2
        replace HU0 := Lib.hid g3
        replace HROW0 := Lib.hid g4
        replace HV := Lib.hid hvv
        have hlo : 0 < xi := by omega
        clear g1 g2 g3 g4 hvv hbig
        have hne := neqWordSame ⟨bz, oz, none⟩
        go_wp2_with fail
        clear hcx hfz
        generalize wr.setCell ⟨bz, oz + k, none⟩ (.int .u64 ((xi : Int) - 1)) = W2 at *
        go_quiet (fail)
        clear hne
        go_wp2_with fail
        go_ret
        exact vwSub_alias (k := k + 1) HW.out (by omega) hfit HXL.out HB.out HXB.out HV.out (HU0.out.drewN nq) (heap_drewN HROW0.out nq) HZ.out HX.out
    · obtain rfl : k = n := by omega
      have HR : Hid (vwSubR w1 bz oz cz T xs y k (.returned (.int .u64 ((1 : Nat) : Int))) wr) := Lib.hid ⟨ws, 1, rfl, hl, hb, by omega, by
        have h1 := HXL.out
        rw [List.take_of_length_le (by omega)] at hv; omega, hu, hrow⟩
      clear hv hu hrow hl hb
      go_wp2_with fail
      go_ret
      exact HR.out

set_option maxHeartbeats 2000000 in
theorem vwSub_1o (bz oz kz bx ox kx y n : Nat) (cz : Array Value) (T : TypeId) (xs : List Nat) (w : World) (hz : w.heap[bz]? = some (.cells cz T (0, 0))) (hfit : oz + n ≤ cz.size) (hn0 : 0 < n) (hn : n ≤ 9223372036854775806) (hkz1 : n ≤ kz) (hkz2 : kz ≤ 9223372036854775807) (hkx1 : n ≤ kx) (hkx2 : kx ≤ 9223372036854775807) (hy1 : y ≤ 1)
    (hxl : xs.length = n) (hxb : ∀ x ∈ xs, x < 18446744073709551616) (hx : ∀ i, i < n → w.cell? ⟨bx, ox + i, none⟩ = some (.int .u64 (xs.getD i 0 : Nat))) (hal : bx ≠ bz ∧ ∃ dx Tx, w.heap[bx]? = some (.cells dx Tx (0, 0))) (s x : Nat) (hs : s < 18446744073709551616) (hxx : xs.getD 0 0 = x) (hsd : s + y + 0 = x + 18446744073709551616 * 1) :
    Calls Try.prog 82 #[.slice (some ⟨bz, oz, none⟩) n kz, .slice (some ⟨bx, ox, none⟩) n kx, .int .u64 (y : Nat)] w (vwSubR w bz oz cz T xs y n) := by
  obtain ⟨hal, dx, Tx, hdx⟩ := hal
  have hxlt : x < 18446744073709551616 := by rw [← hxx]; exact getD_lt hxb (by omega) 0
  have hx0 := hx 0 hn0
  rw [hxx, Nat.add_zero] at hx0
  have hz0 : w.cell? ⟨bz, oz, none⟩ = some (cz[oz]'(by omega)) := by rw [blk_cell hz]; exact Array.getElem?_eq_getElem (by omega)
  generalize cz[oz]'(by omega) = z0 at hz0
  have hf0 := blk_free hz oz
  have hu0 : Upd (· = bz) w (w.setCell ⟨bz, oz, none⟩ (.int .u64 (s : Nat))) := (Upd.refl _ _).setCell (by rfl) _
  have hrow0 : (w.setCell ⟨bz, oz, none⟩ (.int .u64 (s : Nat))).heap[bz]? = some (.cells (put cz oz (words .u64 [s])) T (0, 0)) := by
    rw [blk_setc hz, show words IntKind.u64 [s] = [] ++ [.int .u64 (s : Nat)] from rfl, ← put_set _ _ _ _ (by simp; omega), put_nil]
    rfl
  have hxw : ∀ i, i < n → (w.setCell ⟨bz, oz, none⟩ (.int .u64 (s : Nat))).cell? ⟨bx, ox + i, none⟩ = some (.int .u64 (xs.getD i 0 : Nat)) := fun i hi => hu0.cell (hx i hi) hal
  have hdx0 := hu0.heap hdx hal
  have HXC0 := Lib.hid hxw
  have HDX := Lib.hid hdx0
  have HDX0 := Lib.hid hdx
  clear hxw hdx0 hdx HXC0
  have HZ := Lib.hid hz
  have HX := Lib.hid hx
  have HXL := Lib.hid hxl
  have HXB := Lib.hid hxb
  have HXX := Lib.hid hxx
  have HSD := Lib.hid hsd
  have HU0 := Lib.hid hu0
  have HROW0 := Lib.hid hrow0
  clear hz hx hxl hxb hxx hsd hu0 hrow0
  have H1 : Hid (vwSubL w bz oz cz T xs y n (.int .i64 ((1 : Nat) : Int)) (w.setCell ⟨bz, oz, none⟩ (.int .u64 (s : Nat)))) := Lib.hid ⟨1, [s], by omega, by omega, rfl, rfl, by simpa using hs, by
    have h1 := val_take_succ xs 0
    have h2 := HSD.out
    rw [HXX.out] at h1
    simp [val] at h1 ⊢
    omega, HU0.out, HROW0.out⟩
  go_enter Try.func82, Try.ntmps82
  go_wp2_with fail
  refine (bitsSub_any x y 0 s 1 hs hxlt (by omega) (by omega) HSD.out _).mono ?_
  rintro e w1 ⟨rfl, rfl⟩
  go_wp2_with fail
  clear hx0 hz0 hf0
  generalize w1.setCell ⟨bz, oz, none⟩ (.int .u64 (s : Nat)) = W at *
  go_loopw [9] (fun iv wr => vwSubL w1 bz oz cz T xs y n iv wr) (fun iv _ => n - (intOf iv).toNat)
  case atStart => exact H1.out
  case round =>
    obtain ⟨k, ws, hk1, hk, rfl, hl, hb, hv, hu, hrow⟩ := hrel
    by_cases hlt : k < n
    · obtain ⟨xi, hxi⟩ : ∃ xi, xs.getD k 0 = xi := ⟨_, rfl⟩
      have hcx := row_read HZ.out hfit hlt hl (fun e => absurd e hal) hu hrow (HX.out k hlt)
      rw [hxi] at hcx
      have hxilt : xi < 18446744073709551616 := by rw [← hxi]; exact getD_lt HXB.out (by omega) k
      have hcz : wr.cell? ⟨bz, oz + k, none⟩ = some (cz[oz + k]'(by omega)) := by rw [blk_cell hrow, put_past _ _ _ _ (by omega) (by rw [words_len]; omega)]; exact Array.getElem?_eq_getElem (by omega)
      generalize cz[oz + k]'(by omega) = zk at hcz
      have hfz := blk_free hrow (oz + k)
      have hstep : ∀ t : Nat, t < 18446744073709551616 → (∀ x ∈ ws ++ [t], x < 18446744073709551616) ∧ (ws ++ [t]).length = k + 1 ∧ Upd (· = bz) w1 (wr.setCell ⟨bz, oz + k, none⟩ (.int .u64 (t : Nat))) ∧ (wr.setCell ⟨bz, oz + k, none⟩ (.int .u64 (t : Nat))).heap[bz]? = some (.cells (put cz oz (words .u64 (ws ++ [t]))) T (0, 0)) := by
        intro t ht
        refine ⟨mem_snoc hb ht, by simp [hl], hu.same ((Upd.refl _ _).setCell (by rfl) _), ?_⟩
        rw [blk_setc hrow, words_app, show words IntKind.u64 [t] = [.int .u64 (t : Nat)] from rfl, ← put_set _ _ _ _ (by rw [words_len]; omega), words_len, hl]
      have HST := Lib.hid hstep
      have HV := Lib.hid hv
      have HL := Lib.hid hl
      have HXI := Lib.hid hxi
      clear hstep hv hl hxi hb hrow
      have HUU := Lib.hid hu
      clear hu
      by_cases hbig : xi = 0
      · subst hbig
        have hvk : vwSubL w1 bz oz cz T xs y n (.int .i64 ((k + 1 : Nat) : Int)) (wr.setCell ⟨bz, oz + k, none⟩ (.int .u64 ((18446744073709551615 : Nat) : Int))) := by
          obtain ⟨g1, g2, g3, g4⟩ := HST.out 18446744073709551615 (by omega)
          refine ⟨k + 1, _, by omega, by omega, rfl, g2, g1, ?_, g3, g4⟩
          have h1 := val_take_succ xs k
          have h2 := HV.out
          rw [HXI.out] at h1
          rw [val_snoc, HL.out, h1, Nat.pow_succ]
          omega
        have HVK := Lib.hid hvk
        clear hvk
        go_wp2_with fail
        go_roundw
        case rel => exact HVK.out
        case measure => simp [intOf]; omega
      · have hbb : ((xi : Int) == 0) = false := by simp; omega
        have hbn : ((xi : Int) != 0) = true := by simp; omega
        obtain ⟨g1, g2, g3, g4⟩ := HST.out (xi - 1) (by omega)
        have hvv : val (ws ++ [xi - 1]) + y = val (xs.take (k + 1)) := by
          have h1 := val_take_succ xs k
          have h2 := HV.out
          rw [HXI.out] at h1
          rw [val_snoc, HL.out, h1]
          rw [show xi = xi - 1 + 1 by omega, Nat.mul_add, Nat.add_sub_cancel]; omega
        have hcast : ((xi - 1 : Nat) : Int) = (xi : Int) - 1 := by omega
        rw [hcast] at g3 g4
        clear hcast
        have HB := Lib.hid g1
        have HW := Lib.hid g2
        replace HU0 := Lib.hid g3
        replace HROW0 := Lib.hid g4
        replace HV := Lib.hid hvv
        have hlo : 0 < xi := by omega
        clear g1 g2 g3 g4 hvv hbig
        go_wp2_with fail
        clear hcx hcz hfz
        replace HDX := Lib.hid (HU0.out.heap HDX0.out hal)
        have HXC0 := Lib.hid (fun i hi => HU0.out.cell (HX.out i hi) hal)
        generalize wr.setCell ⟨bz, oz + k, none⟩ (.int .u64 ((xi : Int) - 1)) = W2 at *
        have hne := fun nq => neqWordOther (a := oz) (b := ox) (w := W2.drewN nq) (fun e => hal e.symm) (heap_drewN HROW0.out nq) (heap_drewN HDX.out nq)
        go_quiet (fail)
        clear hne
        have HU := Lib.hid (HU0.out.drewN nq)
        have HROW := Lib.hid (heap_drewN HROW0.out nq)
        have hxn : ∀ i, i < n → (W2.drewN nq).cell? ⟨bx, ox + i, none⟩ = some (.int .u64 (xs.getD i 0 : Nat)) := fun i hi => HXC0.out i hi
        have HXC := Lib.hid hxn
        clear hxn
        generalize W2.drewN nq = wp at *
        go_wp2_with fail
        refine wp_region_D preExt mixed [Is (.slice (some ⟨bz, oz, none⟩) n kz), Is (.int .i64 (k : Nat)), Is (.int .i64 ((k : Int) + 1)), Sl bz oz n (k + 1), Is (.slice (some ⟨bx, ox, none⟩) n kx), Is (.int .i64 (k : Nat)), Is (.int .i64 ((k : Int) + 1)), Sl bx ox n (k + 1)] (by kernel_rfl) ?mono rfl ?steps ?last
        case mono =>
          simp only [List.forall_mem_cons, List.not_mem_nil, false_implies, implies_true, and_true]
          refine ⟨?_, ?_, ?_, ?_, ?_, ?_, ?_, ?_⟩
          all_goals exact fun _ _ _ _ q => q
        case steps =>
          refine ⟨?_, ?_, ?_, ?_, ?_, ?_, ?_, ?_, trivial⟩
          all_goals
            intro u0 u1 u2 u3 u4 u5 u6 u7 u8 w1 he hk
            simp [KnownD, Oper.looksAt, Op.operands, Call.operands, List.findIdx?_cons, Act.put] at hk
            simp only [Act.put, List.setIfInBounds_toArray, List.set_cons_succ, List.set_cons_zero]
          · go_wp2_with fail
            exact ⟨rfl, Ext.refl _, rfl⟩
          · go_wp2_with fail
            exact ⟨rfl, Ext.refl _, rfl⟩
          · obtain rfl : u1 = .int .i64 (k : Nat) := hk
            go_wp2_with fail
            exact ⟨rfl, Ext.refl _, rfl⟩
          · obtain ⟨k0, k1⟩ := hk
            obtain rfl : u0 = .slice (some ⟨bz, oz, none⟩) n kz := k0
            obtain rfl : u2 = .int .i64 ((k : Int) + 1) := k1
            obtain ⟨v, hv, hS⟩ := slice_from bz oz n kz (k + 1) (by omega) (by omega)
            rw [show (((k + 1 : Nat)) : Int) = (k : Int) + 1 by omega] at hv
            have HS := Lib.hid hS
            clear hS
            refine wpList_slice_v rfl hv ?_
            refine wpList_nil ?_
            simp only [Act.put, List.setIfInBounds_toArray, List.set_cons_succ, List.set_cons_zero]
            exact ⟨rfl, Ext.refl _, HS.out w1⟩
          · go_wp2_with fail
            exact ⟨rfl, Ext.refl _, rfl⟩
          · go_wp2_with fail
            exact ⟨rfl, Ext.refl _, rfl⟩
          · obtain rfl : u5 = .int .i64 (k : Nat) := hk
            go_wp2_with fail
            exact ⟨rfl, Ext.refl _, rfl⟩
          · obtain ⟨k0, k1⟩ := hk
            obtain rfl : u4 = .slice (some ⟨bx, ox, none⟩) n kx := k0
            obtain rfl : u6 = .int .i64 ((k : Int) + 1) := k1
            obtain ⟨v, hv, hS⟩ := slice_from bx ox n kx (k + 1) (by omega) (by omega)
            rw [show (((k + 1 : Nat)) : Int) = (k : Int) + 1 by omega] at hv
            have HS := Lib.hid hS
            clear hS
            refine wpList_slice_v rfl hv ?_
            refine wpList_nil ?_
            simp only [Act.put, List.setIfInBounds_toArray, List.set_cons_succ, List.set_cons_zero]
            exact ⟨rfl, Ext.refl _, HS.out w1⟩
        case last =>
          intro w1 he u0 h0 u1 h1 u2 h2 u3 h3 u4 h4 u5 h5 u6 h6 u7 h7
          obtain ⟨az, cz1, hz1, hz2⟩ : ∃ az cz1, u3 = .slice az (n - (k + 1)) cz1 ∧ ((k + 1) < n → az = some ⟨bz, oz + (k + 1), none⟩) := h3
          obtain ⟨ax, cx1, hx1, hx2⟩ : ∃ ax cx1, u7 = .slice ax (n - (k + 1)) cx1 ∧ ((k + 1) < n → ax = some ⟨bx, ox + (k + 1), none⟩) := h7
          subst hz1 hx1
          clear h0 h1 h2 h4 h5 h6
          have hrow1 := he.block HROW.out
          have HU1 := Lib.hid ((HU.out.trans (Ext.upd (S := (· = bz)) he)).mono (fun _ _ q => q.elim id id))
          simp only [LastD, Act.put, List.setIfInBounds_toArray, List.set_cons_succ, List.set_cons_zero]
          by_cases hlast : n = (k + 1)
          · have HL := Lib.hid hlast
            clear hlast
            have HROW1 := Lib.hid hrow1
            clear hrow1 hz2 hx2
            refine wpList_copy_nothing rfl (.tmp 69) (.tmp 73) 67 67 rfl 80 Try.underlying67 sizeWord az ax (n - (k + 1)) cz1 (n - (k + 1)) cx1 rfl rfl (by rw [HL.out]; simp) ?_
            simp only [Act.put, List.setIfInBounds_toArray, List.set_cons_succ, List.set_cons_zero]
            go_wp2_with fail
            go_ret
            exact vwSub_end HW.out (by have := HL.out; omega) HXL.out HB.out HXB.out HV.out HU1.out HROW1.out
          · obtain rfl := hz2 (by omega)
            obtain rfl := hx2 (by omega)
            have hsrc := vw_src (k := (k + 1)) HXL.out (fun i hi => he.cell (HXC.out i hi))
            have HSRC := Lib.hid hsrc
            have HROW1 := Lib.hid hrow1
            clear hsrc hrow1 hz2 hx2
            refine wpList_copy_own rfl (.tmp 69) (.tmp 73) 67 67 rfl 80 Try.underlying67 sizeWord bz (oz + (k + 1)) _ _ ⟨bx, ox + (k + 1), none⟩ _ _ rfl rfl _ T HROW1.out (words .u64 (xs.drop (k + 1))) ?s1 HSRC.out ?s2 (words_one _ _) ?_
            case s1 => rw [words_len, List.length_drop, HXL.out]; exact (Nat.min_self _).symm
            case s2 => rw [words_len, List.length_drop, HXL.out, put_size _ _ _ (by rw [words_len, HW.out]; omega)]; omega
            simp only [Act.put, List.setIfInBounds_toArray, List.set_cons_succ, List.set_cons_zero]
            go_wp2_with fail
            go_ret
            exact vwSub_copy HW.out (by omega) hfit HXL.out HB.out HXB.out HV.out HU1.out HROW1.out
    · obtain rfl : k = n := by omega
      have HR : Hid (vwSubR w1 bz oz cz T xs y k (.returned (.int .u64 ((1 : Nat) : Int))) wr) := Lib.hid ⟨ws, 1, rfl, hl, hb, by omega, by
        have h1 := HXL.out
        rw [List.take_of_length_le (by omega)] at hv; omega, hu, hrow⟩
      clear hv hu hrow hl hb
      go_wp2_with fail
      go_ret
      exact HR.out

theorem vwSub_any (bz oz kz bx ox kx y n : Nat) (cz : Array Value) (T : TypeId) (xs : List Nat) (w : World) (hz : w.heap[bz]? = some (.cells cz T (0, 0))) (hfit : oz + n ≤ cz.size) (hn0 : 0 < n) (hn : n ≤ 9223372036854775806) (hkz1 : n ≤ kz) (hkz2 : kz ≤ 9223372036854775807) (hkx1 : n ≤ kx) (hkx2 : kx ≤ 9223372036854775807) (hy1 : y ≤ 1)
    (hxl : xs.length = n) (hxb : ∀ x ∈ xs, x < 18446744073709551616) (hx : ∀ i, i < n → w.cell? ⟨bx, ox + i, none⟩ = some (.int .u64 (xs.getD i 0 : Nat))) (hax : bx = bz → ox = oz) (hdx : ∃ dx Tx, w.heap[bx]? = some (.cells dx Tx (0, 0))) :
    Calls Try.prog 82 #[.slice (some ⟨bz, oz, none⟩) n kz, .slice (some ⟨bx, ox, none⟩) n kx, .int .u64 (y : Nat)] w (vwSubR w bz oz cz T xs y n) := by
  have hxlt : xs.getD 0 0 < 18446744073709551616 := getD_lt hxb (by omega) 0
  obtain ⟨s, d, hs, hd, hsd⟩ : ∃ s d : Nat, s < 18446744073709551616 ∧ d ≤ 1 ∧ s + y + 0 = xs.getD 0 0 + 18446744073709551616 * d := sub_digit hxlt (by omega) (by omega)
  have hd' : d = 0 ∨ d = 1 := by omega
  by_cases hb : bx = bz
  · rcases hd' with rfl | rfl
    · exact vwSub_0a bz oz kz bx ox kx y n cz T xs w hz hfit hn0 hn hkz1 hkz2 hkx1 hkx2 hy1 hxl hxb hx ⟨hb.symm, (hax hb).symm⟩ s _ hs rfl hsd
    · exact vwSub_1a bz oz kz bx ox kx y n cz T xs w hz hfit hn0 hn hkz1 hkz2 hkx1 hkx2 hy1 hxl hxb hx ⟨hb.symm, (hax hb).symm⟩ s _ hs rfl hsd
  · rcases hd' with rfl | rfl
    · exact vwSub_0o bz oz kz bx ox kx y n cz T xs w hz hfit hn0 hn hkz1 hkz2 hkx1 hkx2 hy1 hxl hxb hx ⟨hb, hdx⟩ s _ hs rfl hsd
    · exact vwSub_1o bz oz kz bx ox kx y n cz T xs w hz hfit hn0 hn hkz1 hkz2 hkx1 hkx2 hy1 hxl hxb hx ⟨hb, hdx⟩ s _ hs rfl hsd

end Go.Proofs.Ytacmojhladdalaa
