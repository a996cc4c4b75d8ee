/- Numbers told by their values; integer, number, Sign by values: contracts. -/
import Derived.Test.YtdodcmncdlnceaaDoorSame
set_option linter.unusedSimpArgs false
set_option linter.unusedVariables false
namespace Go.Proofs.YtdodcmncdlnceaaDoor
open Go.RowKit

/-- Something comes back of which D holds; memory has only grown. -/
def ResR (D : Value → World → Prop) (w : World) (e : Ending) (w' : World) : Prop := Ext w w' ∧ ∃ x, e = .returned x ∧ D x w'

/-- The very value. -/
def Is (v : Value) (x : Value) (_ : World) : Prop := x = v

/-- Nothing is said. -/
def Any (_ : Value) (_ : World) : Prop := True

theorem Any.ext {x : Value} {w w' : World} (h : Any x w) (he : Ext w w') : Any x w' := trivial

/-- A number of at most L words and of value z; one in a row of its own; one without zeros at its end. -/
def IsZ (L : Nat) (z : Int) (x : Value) (w : World) : Prop := ∃ n s ws, x = .agg #[.bool n, s] ∧ Rd .u64 w s ws ∧ ws.length ≤ L ∧ ival n ws = z

def IsW (L : Nat) (z : Int) (x : Value) (w : World) : Prop := ∃ n s ws, x = .agg #[.bool n, s] ∧ Own .u64 w 0 28 s ws ∧ ws.length ≤ L ∧ ival n ws = z

def IsC (L : Nat) (z : Int) (x : Value) (w : World) : Prop := ∃ s ws, x = .agg #[.bool (decide (z < 0)), s] ∧ Own .u64 w 0 28 s ws ∧ norm ws = ws ∧ val ws = z.natAbs ∧ ws.length ≤ L

theorem IsZ.ext {L : Nat} {z : Int} {x : Value} {w w' : World} (h : IsZ L z x w) (he : Ext w w') : IsZ L z x w' := by
  obtain ⟨n, s, ws, h1, h2, h3⟩ := h; exact ⟨n, s, ws, h1, h2.ext he, h3⟩

theorem IsW.ext {L : Nat} {z : Int} {x : Value} {w w' : World} (h : IsW L z x w) (he : Ext w w') : IsW L z x w' := by
  obtain ⟨n, s, ws, h1, h2, h3⟩ := h; exact ⟨n, s, ws, h1, h2.ext he, h3⟩

theorem IsC.ext {L : Nat} {z : Int} {x : Value} {w w' : World} (h : IsC L z x w) (he : Ext w w') : IsC L z x w' := by
  obtain ⟨s, ws, h1, h2, h3⟩ := h; exact ⟨s, ws, h1, h2.ext he, h3⟩

theorem Is.ext {v x : Value} {w w' : World} (h : Is v x w) (he : Ext w w') : Is v x w' := h

theorem IsW.z {L : Nat} {z : Int} {x : Value} {w : World} (h : IsW L z x w) : IsZ L z x w := by
  obtain ⟨n, s, ws, h1, h2, h3⟩ := h; exact ⟨n, s, ws, h1, h2.read, h3⟩

theorem ival_of_abs {z : Int} {ws : List Nat} (h : val ws = z.natAbs) : ival (decide (z < 0)) ws = z := by
  unfold ival
  by_cases hz : z < 0
  · simp only [hz, decide_true, cond_true]; omega
  · simp only [hz, decide_false, cond_false]; omega

theorem IsC.w {L : Nat} {z : Int} {x : Value} {w : World} (h : IsC L z x w) : IsW L z x w := by
  obtain ⟨s, ws, h1, h2, h3, h4, h5⟩ := h; exact ⟨_, s, ws, h1, h2, h5, ival_of_abs h4⟩

theorem IsC.z {L : Nat} {z : Int} {x : Value} {w : World} (h : IsC L z x w) : IsZ L z x w := h.w.z

theorem IsZ.mono {L M : Nat} {z : Int} {x : Value} {w : World} (h : IsZ L z x w) (hl : L ≤ M) : IsZ M z x w := by
  obtain ⟨n, s, ws, h1, h2, h3, h4⟩ := h; exact ⟨n, s, ws, h1, h2, Nat.le_trans h3 hl, h4⟩

theorem IsC.mono {L M : Nat} {z : Int} {x : Value} {w : World} (h : IsC L z x w) (hl : L ≤ M) : IsC M z x w := by
  obtain ⟨s, ws, h1, h2, h3, h4, h5⟩ := h; exact ⟨s, ws, h1, h2, h3, h4, Nat.le_trans h5 hl⟩

theorem IsZ.form {L : Nat} {z : Int} {x : Value} {w : World} (h : IsZ L z x w) : ∃ n a l c, x = .agg #[.bool n, .slice a l c] := by
  obtain ⟨n, s, ws, h1, h2, h3, h4⟩ := h
  obtain ⟨a, c, rfl⟩ := h2.form
  exact ⟨n, a, _, c, h1⟩

/-- An Int at block p of value z and of at most L words. -/
def IntZ (L : Nat) (z : Int) (w : World) (base p : Nat) : Prop := ∃ ws, IntAt w base p (decide (z < 0)) ws ∧ norm ws = ws ∧ val ws = z.natAbs ∧ ws.length ≤ L

theorem IntAt.ext {w w' : World} {base p : Nat} {n : Bool} {ws : List Nat} (h : IntAt w base p n ws) (he : Ext w w') : IntAt w' base p n ws := by
  obtain ⟨s, h1, h2⟩ := h; exact ⟨s, he.block h1, h2.ext he⟩

theorem IntZ.ext {L : Nat} {z : Int} {w w' : World} {base p : Nat} (h : IntZ L z w base p) (he : Ext w w') : IntZ L z w' base p := by
  obtain ⟨ws, h1, h2⟩ := h; exact ⟨ws, h1.ext he, h2⟩

def IntRZ (L : Nat) (z : Int) (w : World) (e : Ending) (w' : World) : Prop :=
  Ext w w' ∧ ∃ p, e = .returned (.pointer (some ⟨p, 0, none⟩)) ∧ w.heap.size ≤ p ∧ IntZ L z w' w.heap.size p

theorem abs_ival (n : Bool) (ws : List Nat) : val (norm ws) = (ival n ws).natAbs := by rw [ival_abs, val_norm]

theorem integer_z (L : Nat) (z : Int) (x : Value) (w : World) (h : IsZ L z x w) (hL : L ≤ 17592186044416) :
    Calls Tryd.prog 13 #[x] w (IntRZ L z w) := by
  obtain ⟨n, s, ws, rfl, hr, hl, rfl⟩ := h
  refine (integer_any n s ws w hr (by omega)).mono ?_
  rintro e w' ⟨he, p, rfl, hp, hI⟩
  rw [neg_norm] at hI
  exact ⟨he, p, rfl, hp, norm ws, hI, norm_norm ws, abs_ival n ws, Nat.le_trans (norm_length_le ws) hl⟩

theorem toImpl_z (L : Nat) (z : Int) (x : Value) (w : World) (h : IsZ L z x w) (hL : L ≤ 17592186044416) :
    Calls Tryd.prog 8 #[x] w (ResR (IsW L z) w) := by
  obtain ⟨n, s, ws, rfl, hr, hl, hz⟩ := h
  refine (toImpl_any n s ws w hr (by omega)).mono ?_
  rintro e w' ⟨he, v', rfl, ho⟩
  exact ⟨he, _, rfl, n, v', ws, rfl, ho, hl, hz⟩

theorem toSpec_z (L : Nat) (z : Int) (x : Value) (w : World) (h : IsZ L z x w) (hL : L ≤ 17592186044416) :
    Calls Tryd.prog 6 #[x] w (ResR (IsW L z) w) := by
  obtain ⟨n, s, ws, rfl, hr, hl, hz⟩ := h
  refine (toSpec_any n s ws w hr (by omega)).mono ?_
  rintro e w' ⟨he, v', rfl, ho⟩
  exact ⟨he, _, rfl, n, v', ws, rfl, ho, hl, hz⟩

theorem fromSpec_z (L : Nat) (z : Int) (x : Value) (w : World) (h : IsW L z x w) :
    Calls Tryd.prog 16 #[x] w (ResR (IsW L z) w) := by
  obtain ⟨n, s, ws, rfl, ho, h3⟩ := h
  refine (fromSpec_any n s ws w ho).mono ?_
  rintro e w' ⟨he, v', rfl, ho'⟩
  exact ⟨he, _, rfl, n, v', ws, rfl, ho', h3⟩

theorem numC_of {n : Bool} {ws : List Nat} {w : World} {e : Ending} {w' : World} (L : Nat) (hl : ws.length ≤ L) (h : NumR (decide (0 < (norm ws).length) && n) (norm ws) w e w') : ResR (IsC L (ival n ws)) w e w' := by
  obtain ⟨he, v', rfl, ho⟩ := h
  rw [neg_norm]
  exact ⟨he, _, rfl, v', norm ws, rfl, ho, norm_norm ws, abs_ival n ws, Nat.le_trans (norm_length_le ws) hl⟩

theorem isZero_z (L : Nat) (z : Int) (x : Value) (w : World) (h : IsZ L z x w) (hL : L ≤ 17592186044416) :
    Calls Tryd.prog 5 #[x] w (ResR (Is (.bool (decide (z = 0)))) w) := by
  obtain ⟨n, s, ws, rfl, hr, hl, rfl⟩ := h
  rw [← isZ_ival n ws]
  refine (isZero_any n s ws w hr (by omega)).mono ?_
  rintro e w' ⟨he, rfl⟩
  exact ⟨he, _, rfl, rfl⟩

theorem sgnZ_cases (z : Int) : (0 < z.natAbs ∧ z < 0 ∧ sgnZ z = -1) ∨ (z.natAbs = 0 ∧ sgnZ z = 0) ∨ (0 < z.natAbs ∧ ¬ z < 0 ∧ sgnZ z = 1) := by
  unfold sgnZ
  rcases Int.lt_trichotomy z 0 with h | h | h
  · exact .inl ⟨by omega, h, if_pos h⟩
  · exact .inr (.inl ⟨by omega, by rw [if_neg (by omega), if_pos h]⟩)
  · exact .inr (.inr ⟨by omega, by omega, by rw [if_neg (by omega), if_neg (by omega)]⟩)

theorem len_pos_iff {ws : List Nat} (h : norm ws = ws) : 0 < ws.length ↔ 0 < val ws := by
  have := norm_nil_iff ws
  rw [h] at this
  constructor
  · intro h1
    rcases Nat.eq_zero_or_pos (val ws) with h2 | h2
    · rw [this.2 h2] at h1; simp at h1
    · exact h2
  · intro h1
    rcases Nat.eq_zero_or_pos ws.length with h2 | h2
    · rw [this.1 (List.eq_nil_of_length_eq_zero h2)] at h1; omega
    · exact h2

/-- The relation of the loop in 'number'. -/
def GotUints (B : Nat) (w0 : World) (ws : List Nat) (len : Nat) (v i : Value) (wr : World) : Prop :=
  ∃ k : Nat, k ≤ len ∧ i = .int .i64 k ∧ wr.ownsRow B 28 1 v k (words .u64 (ws.take k)) ∧ Below B w0 wr

/-- What the words of an Int are. -/
theorem IntZ.low {L : Nat} {z : Int} {w : World} {base p : Nat} (h : IntZ L z w base p) : ∃ a c ws, w.heap[p]? = some (.cells #[.bool (decide (z < 0)), .slice a ws.length c] 48 (0, 0)) ∧ Own .u64 w base 45 (.slice a ws.length c) ws ∧ norm ws = ws ∧ val ws = z.natAbs ∧ ws.length ≤ L := by
  obtain ⟨ws, hI, h2, h3, h4⟩ := h
  obtain ⟨a, c, h5, h6⟩ := hI.cells
  exact ⟨a, c, ws, h5, h6, h2, h3, h4⟩

theorem IsC.upd {L : Nat} {z : Int} {x : Value} {w w' : World} {p : Nat} {cs : Array Value} {T : TypeId} {fr : Nat × Nat} (h : IsC L z x w) (hp : w.heap[p]? = some (.cells cs T fr)) (hT : T ≠ 28) (hu : Upd (· = p) w w') : IsC L z x w' := by
  obtain ⟨s, ws, h1, h2, h3⟩ := h
  exact ⟨s, ws, h1, h2.upd hp hT hu, h3⟩

theorem IsW.upd {L : Nat} {z : Int} {x : Value} {w w' : World} {p : Nat} {cs : Array Value} {T : TypeId} {fr : Nat × Nat} (h : IsW L z x w) (hp : w.heap[p]? = some (.cells cs T fr)) (hT : T ≠ 28) (hu : Upd (· = p) w w') : IsW L z x w' := by
  obtain ⟨n, s, ws, h1, h2, h3⟩ := h
  exact ⟨n, s, ws, h1, h2.upd hp hT hu, h3⟩

theorem IsW.form {L : Nat} {z : Int} {x : Value} {w : World} (h : IsW L z x w) : ∃ n a l c, x = .agg #[.bool n, .slice a l c] := h.z.form

theorem heap_third (w : World) (o o' o'' : Obj) : (((w.alloc o).alloc o').alloc o'').heap[w.heap.size + 2]? = some o'' := by
  have := heap_alloc_new ((w.alloc o).alloc o') o''
  rwa [World.size_alloc, World.size_alloc] at this

theorem heap_third' (w : World) (o o' o'' : Obj) : (((w.alloc o).alloc o').alloc o'').heap[w.heap.size + 1 + 1]? = some o'' := heap_third w o o' o''

theorem heap_fourth (w : World) (o o' o'' o3 : Obj) : ((((w.alloc o).alloc o').alloc o'').alloc o3).heap[w.heap.size + 1 + 1 + 1]? = some o3 := by
  have := heap_alloc_new (((w.alloc o).alloc o').alloc o'') o3
  rwa [World.size_alloc, World.size_alloc, World.size_alloc] at this

theorem IsZ.zeroN (w : World) : IsZ 0 0 (.agg #[.bool false, .slice none 0 0]) w := ⟨false, _, [], rfl, ⟨by simp, none, 0, rfl, by simp, by simp, fun _ => rfl, by simp⟩, by simp, rfl⟩

theorem IsC.form {L : Nat} {z : Int} {x : Value} {w : World} (h : IsC L z x w) : ∃ n a l c, x = .agg #[.bool n, .slice a l c] := h.z.form

end Go.Proofs.YtdodcmncdlnceaaDoor
