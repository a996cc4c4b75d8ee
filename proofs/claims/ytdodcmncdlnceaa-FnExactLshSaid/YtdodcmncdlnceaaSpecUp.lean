/- spec.double, spec.up: contracts. -/
import Derived.Test.YtdodcmncdlnceaaShl
import Derived.Test.YtdodcmncdlnceaaSpec
import Derived.Test.YtdodcmncdlnceaaSetU
import Derived.Laws.Bits64b
set_option linter.unusedSimpArgs false
set_option linter.unusedVariables false
namespace Go.Proofs.Ytdodcmncdlnceaa
open Go.RowKit

/-- A row that a loop of the reference collects. -/
def Acc (B : Nat) (w0 : World) (ws : List Nat) (v : Value) (wr : World) : Prop :=
  (∀ x ∈ ws, x < 18446744073709551616) ∧ wr.ownsRow B 32 1 v ws.length (words .u64 ws) ∧ Below B w0 wr

theorem shlC_lt (s c : Nat) (hs : s ≤ 64) (xs : List Nat) (hc : c < 2 ^ s) (hb : ∀ x ∈ xs, x < 18446744073709551616) : shlC s c xs < 2 ^ s := by
  induction xs generalizing c with
  | nil => exact hc
  | cons x xs ih =>
    have e := pow_split hs
    have hp : 0 < 2 ^ (64 - s) := Nat.pow_pos (by decide)
    exact ih _ (by rw [Nat.div_lt_iff_lt_mul hp, Nat.mul_comm, e]; exact hb x (by simp)) (fun z hz => hb z (List.mem_cons_of_mem _ hz))

def DblL (w : World) (ws : List Nat) (low : Nat) (v1 v5 v6 : Value) (wr : World) : Prop :=
  ∃ k : Nat, k ≤ ws.length ∧ v6 = .int .i64 (k : Nat) ∧ v1 = .int .u64 (shlC 1 low (ws.take k) : Nat) ∧ Acc w.heap.size w (shlL 1 low (ws.take k)) v5 wr

theorem dbl_word {x c : Nat} (hx : x < 18446744073709551616) (hc : c < 2) : bits BinOp.or IntKind.u64 (IntKind.u64.wrap ((x : Int) * 2)) (c : Int) = (((x % 2 ^ 63) * 2 ^ 1 + c : Nat) : Int) := by
  have h1 : IntKind.u64.wrap ((x : Int) * 2) = (((x % 2 ^ 63) * 2 ^ 1 : Nat) : Int) := by
    rw [IntKind.wrap_u64]; omega
  rw [h1, bits_or_u64_nat _ _ (by omega) (by omega), or_parts _ _ _ (by omega)]

set_option maxHeartbeats 1000000 in
theorem double_any (v : Value) (ws : List Nat) (low : Nat) (w : World) (h : Rd .u64 w v ws) (hl : ws.length + 1 ≤ 17592186044416) (hlow : low < 2) :
    Calls Try.prog 62 #[v, .int .u64 (low : Nat)] w (WordsR .u64 32 (norm (shlL 1 low ws ++ [shlC 1 low ws])) w) := by
  have hbw : ∀ x ∈ ws, x < 18446744073709551616 := h.1
  obtain ⟨_, a, cap, rfl, hlc, hcap, hnil, hcells⟩ := h
  have HC := Lib.hid hcells
  have HB := Lib.hid hbw
  clear hcells hnil hbw
  obtain ⟨i0, hi, hz0, hz1, hz2⟩ := info_parts infoUint
  have HI := Lib.hid hi
  have HI0 := Lib.hid hz0
  have HI1 := Lib.hid hz1
  have HI2 := Lib.hid hz2
  clear hi hz0 hz1 hz2
  go_enter Try.func62, Try.ntmps62
  go_wp2_with fail
  go_loopw [1, 5, 6] (fun v1 v5 v6 wr => DblL w ws low v1 v5 v6 wr) (fun _ _ i _ => ws.length - (intOf i).toNat)
  case atStart => exact ⟨0, by omega, rfl, rfl, by simp [shlL], row_start .u64 _ _ _ _ rfl (Nat.le_refl _), (Below.refl _ _).alloc (Nat.le_refl _) _⟩
  case round =>
    obtain ⟨k, hk, rfl, rfl, hab, hown, hbel⟩ := hrel
    rw [shl_len, List.length_take, Nat.min_eq_left hk] at hown
    have hclt : shlC 1 low (ws.take k) < 2 := shlC_lt 1 low (by omega) _ (by omega) (fun x hx => HB.out x (List.mem_of_mem_take hx))
    generalize hcc : shlC 1 low (ws.take k) = c at *
    have HCC := Lib.hid hcc
    have hsz := hbel.size
    clear hcc
    by_cases hlt : k < ws.length
    · obtain ⟨b, off, rfl, hc0⟩ := HC.out k hlt
      have hbb : b < w.heap.size := World.block_lt_of_cell? w ⟨b, off + k, none⟩ hc0
      obtain ⟨x, hcell, HX⟩ : ∃ x : Nat, wr.cell? ⟨b, off + k, none⟩ = some (.int .u64 (x : Nat)) ∧ Hid (x = ws.getD k 0) := ⟨ws.getD k 0, by
        rw [hbel.cell (p := ⟨b, off + k, none⟩) hbb]; exact hc0, rfl⟩
      have hxlt : x < 18446744073709551616 := by rw [HX.out]; exact getD_lt HB.out (by omega) k
      have hsn := shl_snoc 1 low (ws.take k) x
      have htk : ws.take (k + 1) = ws.take k ++ [x] := by rw [List.take_succ_eq_append_getElem hlt, HX.out]; simp [hlt]
      rw [← htk, HCC.out, show 64 - 1 = 63 from rfl] at hsn
      have HSN := Lib.hid hsn
      have s1 := dbl_word hxlt hclt
      have HBEL := Lib.hid hbel
      have HAB := Lib.hid hab
      generalize hnw : (x % 2 ^ 63) * 2 ^ 1 + c = nw at *
      have hnwlt : nw < 18446744073709551616 := by omega
      have HNW := Lib.hid hnw
      clear hc0 hsn htk hbel hab hnw
      go_wp2_with (at_builtin; refine wpList_append_own _ rfl _ _ 22 rfl w.heap.size 32 i0 (.int .u64 0) 1 8 Try.underlying22 HI.out HI0.out HI1.out HI2.out rfl (by decide) _ _ _ rfl (hown.alloc _) ⟨wr.heap.size, 0, none⟩ 1 1 [.int .u64 (nw : Nat)] rfl rfl ?c1 ?c2 ?c3 ?c4 ?c5 ?_)
      case c1 => exact cell_one_new _ _ _
      case c2 => simp [Value.oneCell']
      case c3 => simp only [maxLen]; omega
      case c4 => omega
      case c5 => simp; omega
      intro v' w1 hown' hgrow _
      have hbel1 := ((HBEL.out.alloc (by omega) (.cells #[.int .u64 (nw : Nat)] 32)).grown hgrow (by simp; omega) (fun j hj => (hown.lt j hj).1))
      have hcell1 : w1.cell? ⟨b, off + k, none⟩ = some (.int .u64 (x : Nat)) := by
        rw [hbel1.cell (p := ⟨b, off + k, none⟩) hbb, ← HBEL.out.cell (p := ⟨b, off + k, none⟩) hbb]; exact hcell
      have hrel' : DblL w ws low (.int .u64 ((x / 2 ^ 63 : Nat) : Int)) v' (.int .i64 ((k + 1 : Nat) : Int)) w1 := by
        refine ⟨k + 1, by omega, rfl, by rw [HSN.out.2], ?_⟩
        rw [HSN.out.1]
        refine ⟨mem_snoc HAB.out hnwlt, ?_, hbel1⟩
        rw [List.length_append, shl_len, List.length_take, Nat.min_eq_left hk, words_app]
        exact hown'
      have HR := Lib.hid hrel'
      clear hrel' hown' hgrow hown hbel1 hcell s1
      go_wp2_with fail
      go_roundw
      case rel => exact HR.out
      case measure => simp [intOf]; omega
    · obtain rfl : k = ws.length := by omega
      rw [List.take_length] at *
      have HBEL := Lib.hid hbel
      have HAB := Lib.hid hab
      clear hbel hab
      go_wp2_with (at_builtin; refine wpList_append_own _ rfl _ _ 22 rfl w.heap.size 32 i0 (.int .u64 0) 1 8 Try.underlying22 HI.out HI0.out HI1.out HI2.out rfl (by decide) _ _ _ rfl (hown.alloc _) ⟨wr.heap.size, 0, none⟩ 1 1 [.int .u64 (c : Nat)] rfl rfl ?d1 ?d2 ?d3 ?d4 ?d5 ?_)
      case d1 => exact cell_one_new _ _ _
      case d2 => simp [Value.oneCell']
      case d3 => simp only [maxLen]; omega
      case d4 => omega
      case d5 => simp; omega
      intro v' w1 hown' hgrow _
      have hbel1 := ((HBEL.out.alloc (by omega) (.cells #[.int .u64 (c : Nat)] 32)).grown hgrow (by simp; omega) (fun j hj => (hown.lt j hj).1))
      have hE : Ext w w1 := hbel1
      have hrd : Rd .u64 w1 v' (shlL 1 low ws ++ [c]) := by
        refine ownsRow.read (base := w.heap.size) (E := 32) (n := ws.length + 1) ?_ (mem_snoc HAB.out (by show c < 18446744073709551616; omega))
        rw [words_app]; exact hown'
      have HE := Lib.hid hE
      have HRD := Lib.hid hrd
      clear hown' hgrow hown hbel1 hE hrd
      go_wp2_with fail
      refine (trim_any _ _ _ HRD.out (by simp [shl_len]; omega)).mono ?_
      rintro e w2 ⟨he, v2, rfl, ho⟩
      have HO := Lib.hid ho
      have HE2 := Lib.hid (HE.out.trans he)
      clear ho he
      go_wp2_with fail
      go_ret
      exact ⟨HE2.out, _, rfl, by rw [HCC.out]; exact HO.out⟩

theorem val_zeros' (q : Nat) (ys : List Nat) : val (List.replicate q 0 ++ ys) = 18446744073709551616 ^ q * val ys := by
  induction q with
  | zero => simp
  | succ q ih =>
    rw [List.replicate_succ, List.cons_append, val, ih, Nat.pow_succ, Nat.mul_comm (18446744073709551616 ^ q) 18446744073709551616, Nat.mul_assoc]; omega

/-- Words of value t come back, without zeros at their end, in new memory. -/
def SpecR (t L : Nat) (w : World) (e : Ending) (w' : World) : Prop :=
  Ext w w' ∧ ∃ v' rs, e = .returned v' ∧ Own .u64 w' 0 32 v' rs ∧ norm rs = rs ∧ val rs = t ∧ rs.length ≤ L

theorem len_of_val {rs : List Nat} {m : Nat} (hn : norm rs = rs) (h : val rs < 18446744073709551616 ^ m) : rs.length ≤ m := by
  rcases Nat.lt_or_ge m rs.length with h1 | h1
  · have h2 := norm_last hn (by intro e; rw [e] at h1; simp at h1)
    have h3 : 18446744073709551616 ^ m ≤ 18446744073709551616 ^ (rs.length - 1) := Nat.pow_le_pow_right (by decide) (by omega)
    omega
  · exact h1

/-- 'append(out, xs...)' with a nil xs. -/
theorem wpList_append_none {P : Program} {w : World} {ops : Array Oper} {rest : List Oper} {o : Oper} {a : Act} {Q : Exit → Act → World → Prop} (hgd : o.guard = none) (s x : Operand) (t : TypeId)
    (ho : o.op = .call { callee := .builtin .append, args := #[s, x], argTypes := #[t, t] }) (base : Nat) (e : TypeId) (i : TypeInfo) (size : Nat) (ht : P.underlying t = some (.slice e)) (hi : P.info? e = some i)
    (v : Value) (n : Nat) (xs : List Value) (hs : a.eval s = v) (hx : a.eval x = .slice none 0 0) (hown : w.ownsRow base e size v n xs) (h : wpList P ops Q rest (a.put o.dst v) w) : wpList P ops Q (o :: rest) a w := by
  refine wpList_plain hgd fun K hK => ?_
  have hr := run_append_owned_none (P := P) w base t o.type e i size ht hi v n xs hown
  unfold Oper.wp execOp
  simp only [ho, resolve, invoke, builtin, Sem.run_bind, Sem.run_pure, Result.andThen_ok, List.map_toArray, List.map_cons, List.map_nil, hs, hx, hr]
  exact hK _ _ h

theorem up_lt {v a k j : Nat} (h : v < 18446744073709551616 ^ a) (hj : j + 1 ≤ 64) : v * 18446744073709551616 ^ k * 2 ^ (j + 1) < 18446744073709551616 ^ (a + k + 1) := by
  have h5 : 2 ^ (j + 1) ≤ 2 ^ 64 := Nat.pow_le_pow_right (by decide) hj
  have e : (2 : Nat) ^ 64 = 18446744073709551616 := by rfl
  rw [e] at h5
  rw [Nat.pow_succ 18446744073709551616, Nat.pow_add 18446744073709551616]
  have h6 := pow_pos' k
  have h7 : v * 18446744073709551616 ^ k < 18446744073709551616 ^ a * 18446744073709551616 ^ k := Nat.mul_lt_mul_of_pos_right h h6
  exact Nat.lt_of_le_of_lt (Nat.mul_le_mul_left _ h5) (Nat.mul_lt_mul_of_pos_right h7 (by decide))

def UpZ (w : World) (q : Nat) (v5 v6 : Value) (wr : World) : Prop := ∃ k : Nat, k ≤ q ∧ v6 = .int .u64 (k : Nat) ∧ Acc w.heap.size w (List.replicate k 0) v5 wr

def UpD (w : World) (t m r : Nat) (v5 v7 : Value) (wr : World) : Prop := ∃ (j : Nat) (rs : List Nat), j ≤ r ∧ v7 = .int .u64 (j : Nat) ∧ Rd .u64 wr v5 rs ∧ val rs = t * 2 ^ j ∧ rs.length ≤ m ∧ Ext w wr

set_option maxRecDepth 10000 in
set_option maxHeartbeats 1000000 in
theorem up_any (v : Value) (ws : List Nat) (n : Nat) (w : World) (h : Rd .u64 w v ws) (hn : n < 18446744073709551616) (hl : ws.length + n / 64 + 2 ≤ 17592186044416) :
    Calls Try.prog 36 #[v, .int .u64 (n : Nat)] w (SpecR (val ws * 2 ^ n) (ws.length + n / 64 + 1) w) := by
  have hbw : ∀ x ∈ ws, x < 18446744073709551616 := h.1
  obtain ⟨q, r, hqr, hrl⟩ : ∃ q r, n = 64 * q + r ∧ r < 64 := ⟨n / 64, n % 64, by omega, by omega⟩
  have hdiv : n / 64 = q := by omega
  rw [hdiv] at hl ⊢
  have hni : (n : Int) / 64 = (q : Int) := by omega
  have hnm : (n : Int) % 64 = (r : Int) := by omega
  obtain ⟨a, cap, rfl⟩ := h.form
  have H := Lib.hid h
  have HB := Lib.hid hbw
  have HQR := Lib.hid hqr
  have hcap : ws.length ≤ cap ∧ cap ≤ 9223372036854775807 ∧ (a = none → cap = 0) := by
    obtain ⟨_, a', c', q1, q2, q3, q4, _⟩ := h
    simp at q1; obtain ⟨rfl, rfl⟩ := q1
    exact ⟨q2, q3, q4⟩
  clear h hbw hqr hdiv
  obtain ⟨i0, hi, hz0, hz1, hz2⟩ := info_parts infoUint
  have HI := Lib.hid hi
  have HI0 := Lib.hid hz0
  have HI1 := Lib.hid hz1
  have HI2 := Lib.hid hz2
  clear hi hz0 hz1 hz2
  go_enter Try.func36, Try.ntmps36
  go_wp2_with fail
  go_loopw [5, 6] (fun v5 v6 wr => UpZ w q v5 v6 wr) (fun _ i _ => q - (intOf i).toNat)
  case atStart => exact ⟨0, by omega, rfl, by simp, row_start .u64 _ _ _ _ rfl (Nat.le_refl _), (Below.refl _ _).alloc (Nat.le_refl _) _⟩
  case round =>
    obtain ⟨k, hk, rfl, hab, hown, hbel⟩ := hrel
    rw [List.length_replicate] at hown
    have hsz := hbel.size
    by_cases hlt : k < q
    · have HBEL := Lib.hid hbel
      have HAB := Lib.hid hab
      clear hbel hab
      go_wp2_with (at_builtin; refine wpList_append_own _ rfl _ _ 22 rfl w.heap.size 32 i0 (.int .u64 0) 1 8 Try.underlying22 HI.out HI0.out HI1.out HI2.out rfl (by decide) _ _ _ rfl (hown.alloc _) ⟨wr.heap.size, 0, none⟩ 1 1 [.int .u64 ((0 : Nat) : Int)] rfl rfl ?c1 ?c2 ?c3 ?c4 ?c5 ?_)
      case c1 => exact cell_one_new _ _ _
      case c2 => simp [Value.oneCell']
      case c3 => simp only [maxLen]; omega
      case c4 => omega
      case c5 => simp; omega
      intro v' w1 hown' hgrow _
      have hrel' : UpZ w q v' (.int .u64 ((k + 1 : Nat) : Int)) w1 := by
        refine ⟨k + 1, by omega, rfl, ?_, ?_, ((HBEL.out.alloc (by omega) _).grown hgrow (by simp; omega) (fun j hj => (hown.lt j hj).1))⟩
        · intro x hx; rw [List.eq_of_mem_replicate hx]; decide
        · rw [List.length_replicate, List.replicate_succ', words_app]; exact hown'
      have HR := Lib.hid hrel'
      clear hrel' hown' hgrow hown
      go_wp2_with fail
      go_roundw
      case rel => exact HR.out
      case measure => simp [intOf]; omega
    · obtain rfl : k = q := by omega
      have HBEL := Lib.hid hbel
      have HAB := Lib.hid hab
      clear hbel hab
      have hstart : ∀ v' w1, Rd .u64 w1 v' (List.replicate k 0 ++ ws) → Ext w w1 → UpD w (val ws * 18446744073709551616 ^ k) (ws.length + k + 1) r v' (.int .u64 ((0 : Nat) : Int)) w1 := by
        intro v' w1 h1 h2
        refine ⟨0, _, by omega, rfl, h1, ?_, by simp; omega, h2⟩
        rw [val_zeros', Nat.pow_zero, Nat.mul_one, Nat.mul_comm]
      have HST := Lib.hid hstart
      clear hstart
      have hfin : ∀ v' w1, UpD w (val ws * 18446744073709551616 ^ k) (ws.length + k + 1) r v' (.int .u64 ((r : Nat) : Int)) w1 → ∃ rs, Rd .u64 w1 v' rs ∧ rs.length ≤ ws.length + k + 1 ∧ val rs = val ws * 2 ^ n ∧ Ext w w1 := by
        rintro v' w1 ⟨j, rs, h1, h2, h3, h4, h5, h6⟩
        have : j = r := by have h := h2; simp at h; omega
        subst this
        refine ⟨rs, h3, h5, ?_, h6⟩
        rw [h4, HQR.out, Nat.pow_add, ← pow64, Nat.mul_assoc]
      have hstep : ∀ (j : Nat) (rs : List Nat) (w1 : World), j < r → norm rs = rs → val rs = val ws * 18446744073709551616 ^ k * 2 ^ (j + 1) → rs.length ≤ ws.length + k + 1 := by
        intro j rs w1 h1 h2 h3
        exact len_of_val h2 (by rw [h3]; exact up_lt (val_lt ws HB.out) (by omega))
      have HFIN := Lib.hid hfin
      have HSTEP := Lib.hid hstep
      clear hfin hstep
      rcases a with _ | ad
      · obtain rfl : cap = 0 := hcap.2.2 rfl
        obtain rfl : ws = [] := List.eq_nil_of_length_eq_zero (by omega)
        have hR : UpD w (val [] * 18446744073709551616 ^ k) ([].length + k + 1) r u5 (.int .u64 ((0 : Nat) : Int)) wr := HST.out u5 wr (by
          rw [List.append_nil]
          refine ownsRow.read (base := w.heap.size) (E := 32) (n := k) hown HAB.out) HBEL.out
        have HR := Lib.hid hR
        clear hR
        go_wp2_with (at_builtin; refine wpList_append_none rfl _ _ 22 rfl w.heap.size 32 i0 1 Try.underlying22 HI.out _ _ _ rfl rfl hown ?_)
        clear hown
        go_loopw [5, 7] (fun v5 v7 wr => UpD w (val ([] : List Nat) * 18446744073709551616 ^ k) (([] : List Nat).length + k + 1) r v5 v7 wr) (fun _ i _ => r - (intOf i).toNat)
        case atStart => exact HR.out
        case round =>
          rename_i wr2
          obtain ⟨j, rs, hj, rfl, hrd, hvv, hlen, hext⟩ := hrel
          have HRD := Lib.hid hrd
          have HVV := Lib.hid hvv
          have HEX := Lib.hid hext
          obtain ⟨a5, c5, rfl⟩ := hrd.form
          clear hrd hvv hext
          by_cases hlt2 : j < r
          · go_wp2_with fail
            refine (double_any _ rs 0 _ HRD.out (by omega) (by omega)).mono ?_
            rintro e w2 ⟨he, v2, rfl, ho⟩
            have hval : val (norm (shlL 1 0 rs ++ [shlC 1 0 rs])) = val ([] : List Nat) * 18446744073709551616 ^ k * 2 ^ (j + 1) := by
              rw [val_norm, val_snoc, shl_len, shl_val 1 0 (by omega), HVV.out, Nat.add_zero, Nat.mul_assoc (val ([] : List Nat) * 18446744073709551616 ^ k), ← Nat.pow_add]
            have hr2 : UpD w (val ([] : List Nat) * 18446744073709551616 ^ k) (([] : List Nat).length + k + 1) r v2 (.int .u64 ((j + 1 : Nat) : Int)) w2 :=
              ⟨j + 1, _, by omega, rfl, ho.read, hval, HSTEP.out j _ w2 hlt2 (norm_norm _) hval, HEX.out.trans he⟩
            have HR2 := Lib.hid hr2
            clear hr2 hval ho he
            go_wp2_with fail
            go_roundw
            case rel => exact HR2.out
            case measure => simp [intOf]; omega
          · obtain rfl : j = r := by omega
            obtain ⟨rs', g1, g2, g3, g4⟩ := HFIN.out _ _ ⟨j, rs, Nat.le_refl _, rfl, HRD.out, HVV.out, hlen, HEX.out⟩
            have G1 := Lib.hid g1
            have G3 := Lib.hid g3
            have G4 := Lib.hid g4
            clear g1 g3 g4
            go_wp2_with fail
            refine (trim_any _ rs' _ G1.out (by omega)).mono ?_
            rintro e w2 ⟨he, v2, rfl, ho⟩
            have HO := Lib.hid ho
            have HE2 := Lib.hid (G4.out.trans he)
            clear ho he
            go_wp2_with fail
            go_ret
            exact ⟨HE2.out, _, _, rfl, HO.out, norm_norm _, by rw [val_norm, G3.out], Nat.le_trans (norm_length_le rs') g2⟩
      · have hnews : ∀ j u, (words .u64 ws)[j]? = some u → wr.cell? (ad.add j) = some u := by
          intro j u hu
          have hj : j < ws.length := by have := (List.getElem?_eq_some_iff.1 hu).1; rwa [words_len] at this
          obtain ⟨_, a', c', q1, _, _, _, q2⟩ := H.out
          simp at q1
          obtain ⟨rfl, rfl⟩ := q1
          obtain ⟨b', off', h9, h10⟩ := q2 j hj
          simp at h9
          obtain rfl := h9
          have hb : b' < w.heap.size := World.block_lt_of_cell? w ⟨b', off' + j, none⟩ h10
          rw [Addr.add_lit, HBEL.out.cell (p := ⟨b', off' + j, none⟩) hb, h10, ← hu, words_get, List.getElem?_eq_getElem hj, List.getD_eq_getElem?_getD, List.getElem?_eq_getElem hj]
          rfl
        have HNEWS := Lib.hid hnews
        clear hnews
        go_wp2_with (at_builtin; refine wpList_append_own _ rfl _ _ 22 rfl w.heap.size 32 i0 (.int .u64 0) 1 8 Try.underlying22 HI.out HI0.out HI1.out HI2.out rfl (by decide) _ _ _ rfl hown ad ws.length cap (words .u64 ws) rfl ?e0 HNEWS.out (words_one _ _) ?e1 ?e2 ?e3 ?_)
        case e0 => rw [words_len, Nat.mul_one]
        case e1 => simp only [maxLen]; omega
        case e2 => omega
        case e3 => omega
        intro v' w1 hown' hgrow _
        have hR : UpD w (val ws * 18446744073709551616 ^ k) (ws.length + k + 1) r v' (.int .u64 ((0 : Nat) : Int)) w1 := HST.out v' w1 (by
          refine ownsRow.read (base := w.heap.size) (E := 32) (n := k + ws.length) ?_ (mem_app HAB.out HB.out)
          rw [words_app]; exact hown') (HBEL.out.grown hgrow (by omega) (fun j hj => (hown.lt j hj).1))
        have HR := Lib.hid hR
        clear hR hown hown' hgrow
        go_wp2_with fail
        go_loopw [5, 7] (fun v5 v7 wr => UpD w (val ws * 18446744073709551616 ^ k) (ws.length + k + 1) r v5 v7 wr) (fun _ i _ => r - (intOf i).toNat)
        case atStart => exact HR.out
        case round =>
          rename_i wr2
          obtain ⟨j, rs, hj, rfl, hrd, hvv, hlen, hext⟩ := hrel
          have HRD := Lib.hid hrd
          have HVV := Lib.hid hvv
          have HEX := Lib.hid hext
          obtain ⟨a5, c5, rfl⟩ := hrd.form
          clear hrd hvv hext
          by_cases hlt2 : j < r
          · go_wp2_with fail
            refine (double_any _ rs 0 _ HRD.out (by omega) (by omega)).mono ?_
            rintro e w2 ⟨he, v2, rfl, ho⟩
            have hval : val (norm (shlL 1 0 rs ++ [shlC 1 0 rs])) = val ws * 18446744073709551616 ^ k * 2 ^ (j + 1) := by
              rw [val_norm, val_snoc, shl_len, shl_val 1 0 (by omega), HVV.out, Nat.add_zero, Nat.mul_assoc (val ws * 18446744073709551616 ^ k), ← Nat.pow_add]
            have hr2 : UpD w (val ws * 18446744073709551616 ^ k) (ws.length + k + 1) r v2 (.int .u64 ((j + 1 : Nat) : Int)) w2 :=
              ⟨j + 1, _, by omega, rfl, ho.read, hval, HSTEP.out j _ w2 hlt2 (norm_norm _) hval, HEX.out.trans he⟩
            have HR2 := Lib.hid hr2
            clear hr2 hval ho he
            go_wp2_with fail
            go_roundw
            case rel => exact HR2.out
            case measure => simp [intOf]; omega
          · obtain rfl : j = r := by omega
            obtain ⟨rs', g1, g2, g3, g4⟩ := HFIN.out _ _ ⟨j, rs, Nat.le_refl _, rfl, HRD.out, HVV.out, hlen, HEX.out⟩
            have G1 := Lib.hid g1
            have G3 := Lib.hid g3
            have G4 := Lib.hid g4
            clear g1 g3 g4
            go_wp2_with fail
            refine (trim_any _ rs' _ G1.out (by omega)).mono ?_
            rintro e w2 ⟨he, v2, rfl, ho⟩
            have HO := Lib.hid ho
            have HE2 := Lib.hid (G4.out.trans he)
            clear ho he
            go_wp2_with fail
            go_ret
            exact ⟨HE2.out, _, _, rfl, HO.out, norm_norm _, by rw [val_norm, G3.out], Nat.le_trans (norm_length_le rs') g2⟩

end Go.Proofs.Ytdodcmncdlnceaa
