/- Lists of words and their values: plain laws, nothing of the program. -/
set_option linter.unusedSimpArgs false
set_option linter.unusedVariables false
namespace Go.Proofs.Ytacmojhladdalaa

/-- The words without the zeros at their end. -/
def normLen (ws : List Nat) : Nat := (ws.reverse.dropWhile (· = 0)).length

def norm (ws : List Nat) : List Nat := ws.take (normLen ws)

theorem normLen_nil : normLen [] = 0 := rfl

theorem normLen_snoc_zero (ws : List Nat) : normLen (ws ++ [0]) = normLen ws := by simp [normLen]

theorem normLen_snoc_pos (ws : List Nat) (x : Nat) (h : x ≠ 0) : normLen (ws ++ [x]) = ws.length + 1 := by
  simp [normLen, h]

theorem normLen_le (ws : List Nat) : normLen ws ≤ ws.length := by
  unfold normLen
  have := (List.dropWhile_suffix (fun x => decide (x = 0)) (l := ws.reverse)).length_le
  simpa using this

theorem normLen_step (ws : List Nat) (k : Nat) (hk : 0 < k) (hl : k ≤ ws.length) (h0 : ws.getD (k - 1) 0 = 0) : normLen (ws.take k) = normLen (ws.take (k - 1)) := by
  obtain ⟨j, rfl⟩ : ∃ j, k = j + 1 := ⟨k - 1, by omega⟩
  simp only [Nat.add_sub_cancel] at *
  rw [List.take_succ_eq_append_getElem (by omega), show ws[j] = 0 by simpa [show j < ws.length by omega] using h0, normLen_snoc_zero]

theorem normLen_stop (ws : List Nat) (k : Nat) (hk : 0 < k) (hl : k ≤ ws.length) (h0 : ws.getD (k - 1) 0 ≠ 0) : normLen (ws.take k) = k := by
  obtain ⟨j, rfl⟩ : ∃ j, k = j + 1 := ⟨k - 1, by omega⟩
  simp only [Nat.add_sub_cancel] at *
  rw [List.take_succ_eq_append_getElem (by omega), normLen_snoc_pos _ _ (by simpa [show j < ws.length by omega] using h0), List.length_take]
  omega

theorem norm_zero {ws : List Nat} (h : ws = []) : norm ws = [] := by subst h; rfl

theorem norm_length (ws : List Nat) : (norm ws).length = normLen ws := by rw [norm, List.length_take]; have := normLen_le ws; omega

theorem norm_length_le (ws : List Nat) : (norm ws).length ≤ ws.length := by rw [norm_length]; exact normLen_le ws

theorem norm_mem {ws : List Nat} {x : Nat} (h : x ∈ norm ws) : x ∈ ws := List.mem_of_mem_take h

theorem norm_snoc_zero (ws : List Nat) : norm (ws ++ [0]) = norm ws := by
  have := normLen_le ws
  rw [norm, norm, normLen_snoc_zero, List.take_append_of_le_length this]

theorem norm_snoc_pos (ws : List Nat) (x : Nat) (h : x ≠ 0) : norm (ws ++ [x]) = ws ++ [x] := by
  rw [norm, normLen_snoc_pos _ _ h, List.take_of_length_le (by simp)]

/-- The value of words, the lowest first. -/
def val : List Nat → Nat
  | [] => 0
  | x :: ws => x + 18446744073709551616 * val ws

theorem val_append (a b : List Nat) : val (a ++ b) = val a + 18446744073709551616 ^ a.length * val b := by
  induction a with
  | nil => simp [val]
  | cons x a ih =>
    simp only [List.cons_append, val, ih, List.length_cons, Nat.pow_succ]
    rw [Nat.mul_add, ← Nat.mul_assoc, Nat.mul_comm (18446744073709551616 ^ a.length) 18446744073709551616, Nat.add_assoc]

theorem val_norm (ws : List Nat) : val (norm ws) = val ws := by
  generalize hn : ws.length = n
  induction n generalizing ws with
  | zero => rw [List.eq_nil_of_length_eq_zero hn]; rfl
  | succ n ih =>
    obtain ⟨as, x, rfl⟩ : ∃ as x, ws = as ++ [x] := ⟨ws.dropLast, ws.getLast (by intro h; simp [h] at hn), (List.dropLast_concat_getLast _).symm⟩
    by_cases h : x = 0
    · subst h
      rw [norm_snoc_zero, ih as (by simpa using hn), val_append]
      simp [val]
    · rw [norm_snoc_pos _ _ h]

theorem norm_norm (ws : List Nat) : norm (norm ws) = norm ws := by
  generalize hn : ws.length = n
  induction n generalizing ws with
  | zero => rw [List.eq_nil_of_length_eq_zero hn]; rfl
  | succ n ih =>
    obtain ⟨as, x, rfl⟩ : ∃ as x, ws = as ++ [x] := ⟨ws.dropLast, ws.getLast (by intro h; simp [h] at hn), (List.dropLast_concat_getLast _).symm⟩
    by_cases h : x = 0
    · subst h
      rw [norm_snoc_zero, ih as (by simpa using hn)]
    · rw [norm_snoc_pos _ _ h, norm_snoc_pos _ _ h]

theorem val_lt (ws : List Nat) (h : ∀ x ∈ ws, x < 18446744073709551616) : val ws < 18446744073709551616 ^ ws.length := by
  induction ws with
  | nil => simp [val]
  | cons x ws ih =>
    have h1 := ih fun y hy => h y (List.mem_cons_of_mem _ hy)
    have h2 := h x (by simp)
    simp only [val, List.length_cons, Nat.pow_succ]
    have : 18446744073709551616 * val ws + 18446744073709551616 ≤ 18446744073709551616 ^ ws.length * 18446744073709551616 := by
      rw [← Nat.mul_succ, Nat.mul_comm]
      exact Nat.mul_le_mul_right _ h1
    omega

theorem val_take_drop (ws : List Nat) (k : Nat) : val ws = val (ws.take k) + 18446744073709551616 ^ (min k ws.length) * val (ws.drop k) := by
  conv => lhs; rw [← List.take_append_drop k ws, val_append, List.length_take]

theorem val_drop (ws : List Nat) (i : Nat) : val (ws.drop i) = ws.getD i 0 + 18446744073709551616 * val (ws.drop (i + 1)) := by
  by_cases h : i < ws.length
  · rw [List.drop_eq_getElem_cons h, val]; simp [h]
  · rw [List.drop_of_length_le (by omega), List.drop_of_length_le (by omega)]
    simp [val, Nat.not_lt.1 h]

theorem val_drop_all (ws : List Nat) (i : Nat) (h : ws.length ≤ i) : val (ws.drop i) = 0 := by rw [List.drop_of_length_le h]; rfl

theorem pow_pos' (n : Nat) : 0 < 18446744073709551616 ^ n := Nat.pow_pos (by decide)

theorem val_take_lt (ws : List Nat) (h : ∀ x ∈ ws, x < 18446744073709551616) (k : Nat) : val (ws.take k) < 18446744073709551616 ^ k := by
  refine Nat.lt_of_lt_of_le (val_lt _ fun x hx => h x (List.mem_of_mem_take hx)) (Nat.pow_le_pow_right (by decide) ?_)
  simp; omega

/-- The value in two parts, at any place. -/
theorem val_split (ws : List Nat) (k : Nat) : val ws = val (ws.take k) + 18446744073709551616 ^ k * val (ws.drop k) := by
  by_cases h : k ≤ ws.length
  · rw [val_take_drop ws k, Nat.min_eq_left h]
  · rw [val_drop_all ws k (by omega), List.take_of_length_le (by omega)]; simp

theorem val_lt_of {a b : List Nat} (ha : ∀ x ∈ a, x < 18446744073709551616) (i : Nat) (he : val (a.drop (i + 1)) = val (b.drop (i + 1))) (hlt : a.getD i 0 < b.getD i 0) : val a < val b := by
  rw [val_split a i, val_split b i, val_drop a i, val_drop b i, he]
  have h1 := val_take_lt a ha i
  generalize 18446744073709551616 * val (b.drop (i + 1)) = D
  have h2 : 18446744073709551616 ^ i * (a.getD i 0 + D) + 18446744073709551616 ^ i ≤ 18446744073709551616 ^ i * (b.getD i 0 + D) := by
    rw [← Nat.mul_succ]; exact Nat.mul_le_mul_left _ (by omega)
  omega

theorem norm_nil_iff (ws : List Nat) : norm ws = [] ↔ val ws = 0 := by
  constructor
  · intro h; rw [← val_norm, h]; rfl
  · intro h
    generalize hn : ws.length = n at *
    induction n generalizing ws with
    | zero => rw [List.eq_nil_of_length_eq_zero hn]; rfl
    | succ n ih =>
      obtain ⟨as, x, rfl⟩ : ∃ as x, ws = as ++ [x] := ⟨ws.dropLast, ws.getLast (by intro h; simp [h] at hn), (List.dropLast_concat_getLast _).symm⟩
      rw [val_append] at h
      have hp := pow_pos' as.length
      have h0 : 18446744073709551616 ^ as.length * val [x] = 0 := by omega
      have hx : x = 0 := by
        rcases Nat.mul_eq_zero.1 h0 with h1 | h1
        · omega
        · simpa [val] using h1
      subst hx
      rw [norm_snoc_zero]
      exact ih as (by omega) (by simpa using hn)

/-- Words are told by their value. -/
theorem words_ext {a b : List Nat} (ha : ∀ x ∈ a, x < 18446744073709551616) (hb : ∀ x ∈ b, x < 18446744073709551616) (hl : a.length = b.length) (h : val a = val b) : a = b := by
  induction a generalizing b with
  | nil => cases b with
    | nil => rfl
    | cons y b => simp at hl
  | cons x a ih => cases b with
    | nil => simp at hl
    | cons y b =>
      have h1 := ha x (by simp)
      have h2 := hb y (by simp)
      simp only [val] at h
      have : x = y := by omega
      subst this
      rw [ih (fun z hz => ha z (List.mem_cons_of_mem _ hz)) (fun z hz => hb z (List.mem_cons_of_mem _ hz)) (by simpa using hl) (by omega)]

theorem norm_last {ws : List Nat} (h : norm ws = ws) (hne : ws ≠ []) : 18446744073709551616 ^ (ws.length - 1) ≤ val ws := by
  obtain ⟨as, x, rfl⟩ : ∃ as x, ws = as ++ [x] := ⟨ws.dropLast, ws.getLast hne, (List.dropLast_concat_getLast _).symm⟩
  by_cases hx : x = 0
  · subst hx
    rw [norm_snoc_zero] at h
    have := norm_length_le as
    rw [h] at this
    simp at this
    omega
  · rw [val_append]
    simp only [List.length_append, List.length_cons, List.length_nil, Nat.zero_add, Nat.add_sub_cancel, val, Nat.mul_zero, Nat.add_zero]
    have : 18446744073709551616 ^ as.length * 1 ≤ 18446744073709551616 ^ as.length * x := Nat.mul_le_mul_left _ (by omega)
    omega

theorem norm_ext {a b : List Nat} (ha : ∀ x ∈ a, x < 18446744073709551616) (hb : ∀ x ∈ b, x < 18446744073709551616) (h : val a = val b) : norm a = norm b := by
  have na : ∀ x ∈ norm a, x < 18446744073709551616 := fun x hx => ha x (norm_mem hx)
  have nb : ∀ x ∈ norm b, x < 18446744073709551616 := fun x hx => hb x (norm_mem hx)
  have hv : val (norm a) = val (norm b) := by rw [val_norm, val_norm, h]
  refine words_ext na nb ?_ hv
  have key : ∀ (c d : List Nat), norm c = c → (∀ x ∈ c, x < 18446744073709551616) → (∀ x ∈ d, x < 18446744073709551616) → val c = val d → c.length ≤ d.length := by
    intro c d hc h1 h2 h3
    rcases Nat.lt_or_ge d.length c.length with hlt | hge
    · have hne : c ≠ [] := by intro e; subst e; simp at hlt
      have l1 := norm_last hc hne
      have l2 := val_lt d h2
      have : 18446744073709551616 ^ d.length ≤ 18446744073709551616 ^ (c.length - 1) := Nat.pow_le_pow_right (by decide) (by omega)
      omega
    · exact hge
  exact Nat.le_antisymm (key _ _ (norm_norm a) na nb hv) (key _ _ (norm_norm b) nb na hv.symm)

/-- The integer of a sign and words. -/
def ival (n : Bool) (ws : List Nat) : Int := bif n then -(val ws : Int) else (val ws : Int)

/-- The sign of an integer; how two of them compare. -/
def sgnZ (z : Int) : Int := if z < 0 then -1 else if z = 0 then 0 else 1

def cmpZ (a b : Int) : Int := if a < b then -1 else if b < a then 1 else 0

/-- Whether the words are all zero; the sign. -/
def isZ (ws : List Nat) : Bool := (norm ws).isEmpty

def sgnW (n : Bool) (ws : List Nat) : Int := bif isZ ws then 0 else bif n then -1 else 1

theorem isZ_iff (ws : List Nat) : isZ ws = true ↔ (norm ws).length = 0 := by simp [isZ]

theorem isZ_val (ws : List Nat) : isZ ws = decide (val ws = 0) := by
  rw [Bool.eq_iff_iff, decide_eq_true_iff, ← norm_nil_iff]; simp [isZ]

theorem ival_zero (n : Bool) (ws : List Nat) : ival n ws = 0 ↔ val ws = 0 := by cases n <;> simp [ival] <;> omega

theorem isZ_ival (n : Bool) (ws : List Nat) : isZ ws = decide (ival n ws = 0) := by
  rw [isZ_val, Bool.eq_iff_iff, decide_eq_true_iff, decide_eq_true_iff, ival_zero]

theorem sgnW_eq (n : Bool) (ws : List Nat) : sgnW n ws = sgnZ (ival n ws) := by
  unfold sgnW sgnZ
  rw [isZ_val]
  cases n <;> by_cases h : val ws = 0 <;> simp [ival, h] <;> omega

theorem ival_norm (n : Bool) (ws : List Nat) : ival (decide (0 < (norm ws).length) && n) (norm ws) = ival n ws := by
  unfold ival
  rw [val_norm]
  by_cases h : 0 < (norm ws).length
  · simp [h]
  · have : norm ws = [] := List.eq_nil_of_length_eq_zero (by omega)
    have h0 := (norm_nil_iff ws).1 this
    rw [h0]; simp

theorem neg_norm (n : Bool) (ws : List Nat) : (decide (0 < (norm ws).length) && n) = decide (ival n ws < 0) := by
  have h1 := norm_nil_iff ws
  by_cases h : 0 < (norm ws).length
  · have : val ws ≠ 0 := fun e => by rw [h1.2 e] at h; simp at h
    cases n
    · simp only [Bool.and_false, ival, cond_false]
      exact (decide_eq_false (by omega)).symm
    · simp only [h, decide_true, Bool.and_true, ival, cond_true]
      exact (decide_eq_true (by omega)).symm
  · have : norm ws = [] := List.eq_nil_of_length_eq_zero (by omega)
    have h0 := h1.1 this
    cases n <;> simp [this, ival, h0]

theorem ival_abs (n : Bool) (ws : List Nat) : (ival n ws).natAbs = val ws := by cases n <;> simp [ival]

theorem ival_eq_iff (n m : Bool) (a b : List Nat) (hn : n = true → val a ≠ 0) (hm : m = true → val b ≠ 0) : ival n a = ival m b ↔ n = m ∧ val a = val b := by
  cases n <;> cases m <;> simp [ival] at * <;> omega

end Go.Proofs.Ytacmojhladdalaa
