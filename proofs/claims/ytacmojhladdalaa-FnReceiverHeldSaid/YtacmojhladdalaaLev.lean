/- Numbers told by their values; integer, number, Sign by values: contracts. -/
import Derived.Test.YtacmojhladdalaaSame
set_option linter.unusedSimpArgs false
set_option linter.unusedVariables false
namespace Go.Proofs.Ytacmojhladdalaa
open Go.RowKit

/-- Something comes back of which D holds; memory has only grown. -/
def ResR (D : Value → World → Prop) (w : World) (e : Ending) (w' : World) : Prop := Ext w w' ∧ ∃ x, e = .returned x ∧ D x w'

/-- The very value. -/
def Is (v : Value) (x : Value) (_ : World) : Prop := x = v

/-- Nothing is said. -/
def Any (_ : Value) (_ : World) : Prop := True

theorem Any.ext {x : Value} {w w' : World} (h : Any x w) (he : Ext w w') : Any x w' := trivial

/-- A number of at most L words and of value z; one in a row of its own; one without zeros at its end. -/
def IsZ (L : Nat) (z : Int) (x : Value) (w : World) : Prop := ∃ n s ws, x = .agg #[.bool n, s] ∧ Rd .u64 w s ws ∧ ws.length ≤ L ∧ ival n ws = z

def IsW (L : Nat) (z : Int) (x : Value) (w : World) : Prop := ∃ n s ws, x = .agg #[.bool n, s] ∧ Own .u64 w 0 63 s ws ∧ ws.length ≤ L ∧ ival n ws = z

def IsC (L : Nat) (z : Int) (x : Value) (w : World) : Prop := ∃ s ws, x = .agg #[.bool (decide (z < 0)), s] ∧ Own .u64 w 0 63 s ws ∧ norm ws = ws ∧ val ws = z.natAbs ∧ ws.length ≤ L

theorem IsZ.ext {L : Nat} {z : Int} {x : Value} {w w' : World} (h : IsZ L z x w) (he : Ext w w') : IsZ L z x w' := by
  obtain ⟨n, s, ws, h1, h2, h3⟩ := h; exact ⟨n, s, ws, h1, h2.ext he, h3⟩

theorem IsW.ext {L : Nat} {z : Int} {x : Value} {w w' : World} (h : IsW L z x w) (he : Ext w w') : IsW L z x w' := by
  obtain ⟨n, s, ws, h1, h2, h3⟩ := h; exact ⟨n, s, ws, h1, h2.ext he, h3⟩

theorem IsC.ext {L : Nat} {z : Int} {x : Value} {w w' : World} (h : IsC L z x w) (he : Ext w w') : IsC L z x w' := by
  obtain ⟨s, ws, h1, h2, h3⟩ := h; exact ⟨s, ws, h1, h2.ext he, h3⟩

theorem Is.ext {v x : Value} {w w' : World} (h : Is v x w) (he : Ext w w') : Is v x w' := h

theorem IsW.z {L : Nat} {z : Int} {x : Value} {w : World} (h : IsW L z x w) : IsZ L z x w := by
  obtain ⟨n, s, ws, h1, h2, h3⟩ := h; exact ⟨n, s, ws, h1, h2.read, h3⟩

theorem ival_of_abs {z : Int} {ws : List Nat} (h : val ws = z.natAbs) : ival (decide (z < 0)) ws = z := by
  unfold ival
  by_cases hz : z < 0
  · simp only [hz, decide_true, cond_true]; omega
  · simp only [hz, decide_false, cond_false]; omega

theorem IsC.w {L : Nat} {z : Int} {x : Value} {w : World} (h : IsC L z x w) : IsW L z x w := by
  obtain ⟨s, ws, h1, h2, h3, h4, h5⟩ := h; exact ⟨_, s, ws, h1, h2, h5, ival_of_abs h4⟩

theorem IsC.z {L : Nat} {z : Int} {x : Value} {w : World} (h : IsC L z x w) : IsZ L z x w := h.w.z

theorem IsZ.mono {L M : Nat} {z : Int} {x : Value} {w : World} (h : IsZ L z x w) (hl : L ≤ M) : IsZ M z x w := by
  obtain ⟨n, s, ws, h1, h2, h3, h4⟩ := h; exact ⟨n, s, ws, h1, h2, Nat.le_trans h3 hl, h4⟩

theorem IsC.mono {L M : Nat} {z : Int} {x : Value} {w : World} (h : IsC L z x w) (hl : L ≤ M) : IsC M z x w := by
  obtain ⟨s, ws, h1, h2, h3, h4, h5⟩ := h; exact ⟨s, ws, h1, h2, h3, h4, Nat.le_trans h5 hl⟩

theorem IsZ.form {L : Nat} {z : Int} {x : Value} {w : World} (h : IsZ L z x w) : ∃ n a l c, x = .agg #[.bool n, .slice a l c] := by
  obtain ⟨n, s, ws, h1, h2, h3, h4⟩ := h
  obtain ⟨a, c, rfl⟩ := h2.form
  exact ⟨n, a, _, c, h1⟩

/-- An Int at block p of value z and of at most L words. -/
def IntZ (L : Nat) (z : Int) (w : World) (base p : Nat) : Prop := ∃ ws, IntAt w base p (decide (z < 0)) ws ∧ norm ws = ws ∧ val ws = z.natAbs ∧ ws.length ≤ L

theorem IntAt.ext {w w' : World} {base p : Nat} {n : Bool} {ws : List Nat} (h : IntAt w base p n ws) (he : Ext w w') : IntAt w' base p n ws := by
  obtain ⟨s, h1, h2⟩ := h; exact ⟨s, he.block h1, h2.ext he⟩

theorem IntZ.ext {L : Nat} {z : Int} {w w' : World} {base p : Nat} (h : IntZ L z w base p) (he : Ext w w') : IntZ L z w' base p := by
  obtain ⟨ws, h1, h2⟩ := h; exact ⟨ws, h1.ext he, h2⟩

def IntRZ (L : Nat) (z : Int) (w : World) (e : Ending) (w' : World) : Prop :=
  Ext w w' ∧ ∃ p, e = .returned (.pointer (some ⟨p, 0, none⟩)) ∧ w.heap.size ≤ p ∧ IntZ L z w' w.heap.size p

theorem abs_ival (n : Bool) (ws : List Nat) : val (norm ws) = (ival n ws).natAbs := by rw [ival_abs, val_norm]

theorem integer_z (L : Nat) (z : Int) (x : Value) (w : World) (h : IsZ L z x w) (hL : L ≤ 17592186044416) :
    Calls Try.prog 57 #[x] w (IntRZ L z w) := by
  obtain ⟨n, s, ws, rfl, hr, hl, rfl⟩ := h
  refine (integer_any n s ws w hr (by omega)).mono ?_
  rintro e w' ⟨he, p, rfl, hp, hI⟩
  rw [neg_norm] at hI
  exact ⟨he, p, rfl, hp, norm ws, hI, norm_norm ws, abs_ival n ws, Nat.le_trans (norm_length_le ws) hl⟩

theorem toImpl_z (L : Nat) (z : Int) (x : Value) (w : World) (h : IsZ L z x w) (hL : L ≤ 17592186044416) :
    Calls Try.prog 20 #[x] w (ResR (IsW L z) w) := by
  obtain ⟨n, s, ws, rfl, hr, hl, hz⟩ := h
  refine (toImpl_any n s ws w hr (by omega)).mono ?_
  rintro e w' ⟨he, v', rfl, ho⟩
  exact ⟨he, _, rfl, n, v', ws, rfl, ho, hl, hz⟩

theorem toSpec_z (L : Nat) (z : Int) (x : Value) (w : World) (h : IsZ L z x w) (hL : L ≤ 17592186044416) :
    Calls Try.prog 16 #[x] w (ResR (IsW L z) w) := by
  obtain ⟨n, s, ws, rfl, hr, hl, hz⟩ := h
  refine (toSpec_any n s ws w hr (by omega)).mono ?_
  rintro e w' ⟨he, v', rfl, ho⟩
  exact ⟨he, _, rfl, n, v', ws, rfl, ho, hl, hz⟩

theorem fromImpl_z (L : Nat) (z : Int) (x : Value) (w : World) (h : IsC L z x w) :
    Calls Try.prog 31 #[x] w (ResR (IsC L z) w) := by
  obtain ⟨s, ws, rfl, ho, h3⟩ := h
  refine (fromImpl_any _ s ws w ho).mono ?_
  rintro e w' ⟨he, v', rfl, ho'⟩
  exact ⟨he, _, rfl, v', ws, rfl, ho', h3⟩

theorem fromSpec_z (L : Nat) (z : Int) (x : Value) (w : World) (h : IsW L z x w) :
    Calls Try.prog 21 #[x] w (ResR (IsW L z) w) := by
  obtain ⟨n, s, ws, rfl, ho, h3⟩ := h
  refine (fromSpec_any n s ws w ho).mono ?_
  rintro e w' ⟨he, v', rfl, ho'⟩
  exact ⟨he, _, rfl, n, v', ws, rfl, ho', h3⟩

theorem same_z (L M : Nat) (a b : Int) (x y : Value) (w : World) (hx : IsZ L a x w) (hy : IsZ M b y w) (hL : L ≤ 17592186044416) (hM : M ≤ 17592186044416) :
    Calls Try.prog 24 #[x, y] w (ResR (Is (.bool (decide (a = b)))) w) := by
  obtain ⟨n, s, ws, rfl, hr, hl, rfl⟩ := hx
  obtain ⟨m, t, vs, rfl, ht, hl', rfl⟩ := hy
  refine (same_any n m s t ws vs w hr ht (by omega) (by omega)).mono ?_
  rintro e w' ⟨he, rfl⟩
  exact ⟨he, _, rfl, rfl⟩

theorem numC_of {n : Bool} {ws : List Nat} {w : World} {e : Ending} {w' : World} (L : Nat) (hl : ws.length ≤ L) (h : NumR (decide (0 < (norm ws).length) && n) (norm ws) w e w') : ResR (IsC L (ival n ws)) w e w' := by
  obtain ⟨he, v', rfl, ho⟩ := h
  rw [neg_norm]
  exact ⟨he, _, rfl, v', norm ws, rfl, ho, norm_norm ws, abs_ival n ws, Nat.le_trans (norm_length_le ws) hl⟩

theorem specTrim_z (L : Nat) (z : Int) (x : Value) (w : World) (h : IsZ L z x w) (hL : L ≤ 17592186044416) :
    Calls Try.prog 36 #[x] w (ResR (IsC L z) w) := by
  obtain ⟨n, s, ws, rfl, hr, hl, rfl⟩ := h
  exact (specTrim_any n s ws w hr (by omega)).mono fun e w' h => numC_of L hl h

theorem specAbs_z (L : Nat) (z : Int) (x : Value) (w : World) (h : IsZ L z x w) (hL : L ≤ 17592186044416) :
    Calls Try.prog 33 #[x] w (ResR (IsC L (z.natAbs : Int)) w) := by
  obtain ⟨n, s, ws, rfl, hr, hl, rfl⟩ := h
  rw [show ((ival n ws).natAbs : Int) = ival false ws by rw [ival_abs]; rfl]
  exact (specAbs_any n s ws w hr (by omega)).mono fun e w' h => numC_of L hl h

theorem specNeg_z (L : Nat) (z : Int) (x : Value) (w : World) (h : IsZ L z x w) (hL : L ≤ 17592186044416) :
    Calls Try.prog 44 #[x] w (ResR (IsC L (-z)) w) := by
  obtain ⟨n, s, ws, rfl, hr, hl, rfl⟩ := h
  rw [show -(ival n ws) = ival (!n) ws by cases n <;> simp [ival]]
  exact (specNeg_any n s ws w hr (by omega)).mono fun e w' h => numC_of L hl h

theorem isZero_z (L : Nat) (z : Int) (x : Value) (w : World) (h : IsZ L z x w) (hL : L ≤ 17592186044416) :
    Calls Try.prog 53 #[x] w (ResR (Is (.bool (decide (z = 0)))) w) := by
  obtain ⟨n, s, ws, rfl, hr, hl, rfl⟩ := h
  rw [← isZ_ival n ws]
  refine (isZero_any n s ws w hr (by omega)).mono ?_
  rintro e w' ⟨he, rfl⟩
  exact ⟨he, _, rfl, rfl⟩

theorem specSign_z (L : Nat) (z : Int) (x : Value) (w : World) (h : IsZ L z x w) (hL : L ≤ 17592186044416) :
    Calls Try.prog 52 #[x] w (ResR (Is (.int .i64 (sgnZ z))) w) := by
  obtain ⟨n, s, ws, rfl, hr, hl, rfl⟩ := h
  rw [← sgnW_eq n ws]
  refine (specSign_any n s ws w hr (by omega)).mono ?_
  rintro e w' ⟨he, rfl⟩
  exact ⟨he, _, rfl, rfl⟩

theorem sgnZ_cases (z : Int) : (0 < z.natAbs ∧ z < 0 ∧ sgnZ z = -1) ∨ (z.natAbs = 0 ∧ sgnZ z = 0) ∨ (0 < z.natAbs ∧ ¬ z < 0 ∧ sgnZ z = 1) := by
  unfold sgnZ
  rcases Int.lt_trichotomy z 0 with h | h | h
  · exact .inl ⟨by omega, h, if_pos h⟩
  · exact .inr (.inl ⟨by omega, by rw [if_neg (by omega), if_pos h]⟩)
  · exact .inr (.inr ⟨by omega, by omega, by rw [if_neg (by omega), if_neg (by omega)]⟩)

theorem len_pos_iff {ws : List Nat} (h : norm ws = ws) : 0 < ws.length ↔ 0 < val ws := by
  have := norm_nil_iff ws
  rw [h] at this
  constructor
  · intro h1
    rcases Nat.eq_zero_or_pos (val ws) with h2 | h2
    · rw [this.2 h2] at h1; simp at h1
    · exact h2
  · intro h1
    rcases Nat.eq_zero_or_pos ws.length with h2 | h2
    · rw [this.1 (List.eq_nil_of_length_eq_zero h2)] at h1; omega
    · exact h2

theorem intSign_z (L : Nat) (z : Int) (base p : Nat) (w : World) (h : IntZ L z w base p) (hL : L ≤ 17592186044416) :
    Calls Try.prog 72 #[.pointer (some ⟨p, 0, none⟩)] w fun e w' => e = .returned (.int .i64 (sgnZ z)) ∧ w = w' := by
  obtain ⟨ws, hI, hn, hv, hl⟩ := h
  obtain ⟨a, c, hp, ho⟩ := hI.cells
  have c0 := blk_cell hp 0
  have c1 := blk_cell hp 1
  simp at c0 c1
  have hlp := len_pos_iff hn
  clear hp hI ho hn
  rcases sgnZ_cases z with ⟨h1, h2, h3⟩ | ⟨h1, h3⟩ | ⟨h1, h2, h3⟩
  all_goals rw [h3]
  · rw [show decide (z < 0) = true by simp [h2]] at c0
    have hpos : 0 < ws.length := hlp.2 (by omega)
    clear hlp h1 h2 h3 hv
    go_enter Try.func72, Try.ntmps72
    go_wp2
    go_ret
    exact ⟨rfl, rfl⟩
  · have hpos : ws.length = 0 := by
      rcases Nat.eq_zero_or_pos ws.length with h | h
      · exact h
      · have := hlp.1 h; omega
    rw [hpos] at c1
    clear hlp h1 h3 hv hpos
    go_enter Try.func72, Try.ntmps72
    go_wp2
    go_ret
    exact ⟨rfl, rfl⟩
  · rw [show decide (z < 0) = false by simp [h2]] at c0
    have hpos : 0 < ws.length := hlp.2 (by omega)
    clear hlp h1 h2 h3 hv
    go_enter Try.func72, Try.ntmps72
    go_wp2
    go_ret
    exact ⟨rfl, rfl⟩

theorem bits_any (p base : Nat) (n : Bool) (a : Option Addr) (l c : Nat) (w : World) (hp : w.heap[p]? = some (.cells #[.bool n, .slice a l c] 70 (0, 0))) :
    Calls Try.prog 84 #[.pointer (some ⟨p, 0, none⟩)] w fun e w' => e = .returned (.slice a l c) ∧ w = w' := by
  have c0 := blk_cell hp 0
  have c1 := blk_cell hp 1
  simp at c0 c1
  clear hp
  go_enter Try.func84, Try.ntmps84
  go_wp2
  go_ret
  exact ⟨rfl, rfl⟩

/-- The relation of the loop in 'number'. -/
def GotUints (B : Nat) (w0 : World) (ws : List Nat) (len : Nat) (v i : Value) (wr : World) : Prop :=
  ∃ k : Nat, k ≤ len ∧ i = .int .i64 k ∧ wr.ownsRow B 63 1 v k (words .u64 (ws.take k)) ∧ Below B w0 wr

set_option maxHeartbeats 1000000 in
theorem number_z (L : Nat) (z : Int) (base p : Nat) (w : World) (h : IntZ L z w base p) (hL : L ≤ 17592186044416) :
    Calls Try.prog 67 #[.pointer (some ⟨p, 0, none⟩)] w (ResR (IsC L z) w) := by
  have HZ := Lib.hid h
  obtain ⟨ws, hI, hn, hv, hl⟩ := h
  obtain ⟨a, c, hp, ho⟩ := hI.cells
  have HN := Lib.hid hn
  have HV := Lib.hid hv
  have HO := Lib.hid ho.read
  have HPp := Lib.hid hp
  have hlim := ho.1
  have HLIM := Lib.hid hlim
  have hpl : p < w.heap.size := (Array.getElem?_eq_some_iff.1 hp).1
  clear hI hn hv hp ho hlim
  obtain ⟨i0, hi, hz0, hz1, hz2⟩ := info_parts infoUint
  have HI := Lib.hid hi
  have HI0 := Lib.hid hz0
  have HI1 := Lib.hid hz1
  have HI2 := Lib.hid hz2
  clear hi hz0 hz1 hz2
  go_enter Try.func67, Try.ntmps67
  go_wp2_with fail
  refine (bits_any p base _ a ws.length c _ (((Ext.alloc _ _).trans (Ext.alloc _ _)).block HPp.out)).mono ?_
  rintro e w1 ⟨rfl, rfl⟩
  go_wp2_with fail
  go_loopw [3, 5, 10] (fun v _ i wr => GotUints (w.heap.size + 1) (w.alloc (.cells #[.bool false, .slice none 0 0] 30)) ws ws.length v i wr) (fun _ _ i _ => ws.length - (intOf i).toNat)
  case atStart => exact ⟨0, by omega, rfl, row_start .u64 _ _ _ _ (by simp) (Nat.le_refl _), (Below.refl _ _).alloc (by simp) _⟩
  case round =>
    obtain ⟨k, hk, rfl, hown, hbel⟩ := hrel
    by_cases hlt : k < ws.length
    · obtain ⟨_, a', cap', q1, _, _, _, q2⟩ := HO.out
      simp at q1
      obtain ⟨rfl, rfl⟩ := q1
      obtain ⟨b, off, rfl, hc0⟩ := q2 k hlt
      clear q2
      have hbw : b < w.heap.size := World.block_lt_of_cell? w ⟨b, off + k, none⟩ hc0
      obtain ⟨x, hcell, HX⟩ : ∃ x : Nat, wr.cell? ⟨b, off + k, none⟩ = some (.int .u64 x) ∧ Hid (x = ws.getD k 0) := ⟨ws.getD k 0, by
        rw [hbel.cell (p := ⟨b, off + k, none⟩) (by show b < _; omega), World.cell?_alloc_past _ _ _ (by simpa using hbw)]
        exact hc0, rfl⟩
      clear hc0
      have HBEL := Lib.hid hbel
      have hsz := hbel.size
      simp only [World.size_alloc] at hsz
      clear hbel
      go_wp2_with (at_builtin; refine wpList_append_own _ rfl _ _ 22 rfl (w.heap.size + 1) 63 i0 (.int .u64 0) 1 8 Try.underlying22 HI.out HI0.out HI1.out HI2.out rfl (by decide) _ _ _ rfl (hown.alloc _) ⟨wr.heap.size, 0, none⟩ 1 1 [.int .u64 (x : Nat)] rfl rfl ?c1 ?c2 ?c3 ?c4 ?c5 ?_)
      case c1 => exact cell_one_new _ _ _
      case c2 => simp [Value.oneCell']
      case c3 => simp only [maxLen]; omega
      case c4 => omega
      case c5 => simp; omega
      intro v' w1 hown' hgrow _
      have hrel' : GotUints (w.heap.size + 1) (w.alloc (.cells #[.bool false, .slice none 0 0] 30)) ws ws.length v' (.int .i64 ((k + 1 : Nat) : Int)) w1 :=
        ⟨k + 1, by omega, rfl, by rw [← words_snoc .u64 ws k hlt, ← HX.out]; exact hown', ((HBEL.out.alloc (by omega) _).grown hgrow (by simp; omega) (fun j hj => (hown.lt j hj).1))⟩
      have HR := Lib.hid hrel'
      clear hrel' hown' hgrow hown
      go_wp2_with fail
      go_roundw
      case rel => exact HR.out
      case measure => simp [intOf]; omega
    · obtain rfl : k = ws.length := by omega
      rw [List.take_length] at hown
      have hO1 : Own .u64 wr (w.heap.size + 1) 63 u3 ws := ⟨HLIM.out, hown⟩
      have hO : Own .u64 wr 0 63 u3 ws := hO1.mono (Nat.zero_le _)
      clear hO1
      have hE : Ext w wr := (Ext.alloc w _).trans ⟨hbel.os, hbel.tape, hbel.output, hbel.size, fun j hj => hbel.block j (by simpa using hj)⟩
      have hp : wr.heap[w.heap.size]? = some (.cells #[.bool false, .slice none 0 0] 30 (0, 0)) := by
        rw [hbel.block _ (by omega)]; exact heap_alloc_new _ _
      have c0 := blk_cell hp 0
      have c1 := blk_cell hp 1
      have f0 := blk_free hp 0
      have f1 := blk_free hp 1
      simp at c0 c1
      have HP := Lib.hid hp
      have HE := Lib.hid hE
      have HOO := Lib.hid hO
      obtain ⟨a3, c3, rfl⟩ := hO.form
      clear hbel hown hO hE hp
      go_wp2_with fail
      refine (intSign_z L z base p _ (HZ.out.ext HE.out) hL).mono ?_
      rintro e w2 ⟨rfl, rfl⟩
      have hneg : decide (sgnZ z < 0) = decide (z < 0) := by
        rcases sgnZ_cases z with ⟨h1, h2, h3⟩ | ⟨h1, h3⟩ | ⟨h1, h2, h3⟩ <;> simp [h3] <;> omega
      generalize hg : sgnZ z = sg at *
      have HNEG := Lib.hid hneg
      clear hneg hg
      go_wp2_with fail
      obtain ⟨d0, d1, hu⟩ := set2 HP.out (.bool (decide (sg < 0))) (.slice a3 ws.length c3)
      exact bodyPost_ret (results_impl rfl _ rfl d0 d1) rfl ⟨hu.ext HE.out (by omega), _, rfl, _, ws, by rw [HNEG.out], HOO.out.upd HP.out (by decide) hu, HN.out, HV.out, hl⟩

/-- What the words of an Int are. -/
theorem IntZ.low {L : Nat} {z : Int} {w : World} {base p : Nat} (h : IntZ L z w base p) : ∃ a c ws, w.heap[p]? = some (.cells #[.bool (decide (z < 0)), .slice a ws.length c] 70 (0, 0)) ∧ Own .u64 w base 80 (.slice a ws.length c) ws ∧ norm ws = ws ∧ val ws = z.natAbs ∧ ws.length ≤ L := by
  obtain ⟨ws, hI, h2, h3, h4⟩ := h
  obtain ⟨a, c, h5, h6⟩ := hI.cells
  exact ⟨a, c, ws, h5, h6, h2, h3, h4⟩

theorem IsC.upd {L : Nat} {z : Int} {x : Value} {w w' : World} {p : Nat} {cs : Array Value} {T : TypeId} {fr : Nat × Nat} (h : IsC L z x w) (hp : w.heap[p]? = some (.cells cs T fr)) (hT : T ≠ 63) (hu : Upd (· = p) w w') : IsC L z x w' := by
  obtain ⟨s, ws, h1, h2, h3⟩ := h
  exact ⟨s, ws, h1, h2.upd hp hT hu, h3⟩

theorem IsW.upd {L : Nat} {z : Int} {x : Value} {w w' : World} {p : Nat} {cs : Array Value} {T : TypeId} {fr : Nat × Nat} (h : IsW L z x w) (hp : w.heap[p]? = some (.cells cs T fr)) (hT : T ≠ 63) (hu : Upd (· = p) w w') : IsW L z x w' := by
  obtain ⟨n, s, ws, h1, h2, h3⟩ := h
  exact ⟨n, s, ws, h1, h2.upd hp hT hu, h3⟩

theorem IsW.form {L : Nat} {z : Int} {x : Value} {w : World} (h : IsW L z x w) : ∃ n a l c, x = .agg #[.bool n, .slice a l c] := h.z.form

theorem heap_third (w : World) (o o' o'' : Obj) : (((w.alloc o).alloc o').alloc o'').heap[w.heap.size + 2]? = some o'' := by
  have := heap_alloc_new ((w.alloc o).alloc o') o''
  rwa [World.size_alloc, World.size_alloc] at this

theorem heap_third' (w : World) (o o' o'' : Obj) : (((w.alloc o).alloc o').alloc o'').heap[w.heap.size + 1 + 1]? = some o'' := heap_third w o o' o''

theorem heap_fourth (w : World) (o o' o'' o3 : Obj) : ((((w.alloc o).alloc o').alloc o'').alloc o3).heap[w.heap.size + 1 + 1 + 1]? = some o3 := by
  have := heap_alloc_new (((w.alloc o).alloc o').alloc o'') o3
  rwa [World.size_alloc, World.size_alloc, World.size_alloc] at this

theorem IsZ.zeroN (w : World) : IsZ 0 0 (.agg #[.bool false, .slice none 0 0]) w := ⟨false, _, [], rfl, ⟨by simp, none, 0, rfl, by simp, by simp, fun _ => rfl, by simp⟩, by simp, rfl⟩

theorem IsC.form {L : Nat} {z : Int} {x : Value} {w : World} (h : IsC L z x w) : ∃ n a l c, x = .agg #[.bool n, .slice a l c] := h.z.form

end Go.Proofs.Ytacmojhladdalaa
