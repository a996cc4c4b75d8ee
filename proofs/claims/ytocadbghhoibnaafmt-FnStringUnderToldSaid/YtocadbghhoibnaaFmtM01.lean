/- Base texts of the seat, merged: Math, ScanMath, BitMath, ScanLaw. -/
set_option linter.unusedSimpArgs false
set_option linter.unusedVariables false

/- Lists of words and their values: plain laws, nothing of the program. -/
namespace Go.Proofs.YtocadbghhoibnaaFmt

/-- The words without the zeros at their end. -/
def normLen (ws : List Nat) : Nat := (ws.reverse.dropWhile (· = 0)).length

def norm (ws : List Nat) : List Nat := ws.take (normLen ws)

theorem normLen_nil : normLen [] = 0 := rfl

theorem normLen_snoc_zero (ws : List Nat) : normLen (ws ++ [0]) = normLen ws := by simp [normLen]

theorem normLen_snoc_pos (ws : List Nat) (x : Nat) (h : x ≠ 0) : normLen (ws ++ [x]) = ws.length + 1 := by
  simp [normLen, h]

theorem normLen_le (ws : List Nat) : normLen ws ≤ ws.length := by
  unfold normLen
  have := (List.dropWhile_suffix (fun x => decide (x = 0)) (l := ws.reverse)).length_le
  simpa using this

theorem normLen_step (ws : List Nat) (k : Nat) (hk : 0 < k) (hl : k ≤ ws.length) (h0 : ws.getD (k - 1) 0 = 0) : normLen (ws.take k) = normLen (ws.take (k - 1)) := by
  obtain ⟨j, rfl⟩ : ∃ j, k = j + 1 := ⟨k - 1, by omega⟩
  simp only [Nat.add_sub_cancel] at *
  rw [List.take_succ_eq_append_getElem (by omega), show ws[j] = 0 by simpa [show j < ws.length by omega] using h0, normLen_snoc_zero]

theorem normLen_stop (ws : List Nat) (k : Nat) (hk : 0 < k) (hl : k ≤ ws.length) (h0 : ws.getD (k - 1) 0 ≠ 0) : normLen (ws.take k) = k := by
  obtain ⟨j, rfl⟩ : ∃ j, k = j + 1 := ⟨k - 1, by omega⟩
  simp only [Nat.add_sub_cancel] at *
  rw [List.take_succ_eq_append_getElem (by omega), normLen_snoc_pos _ _ (by simpa [show j < ws.length by omega] using h0), List.length_take]
  omega

theorem norm_zero {ws : List Nat} (h : ws = []) : norm ws = [] := by subst h; rfl

theorem norm_length (ws : List Nat) : (norm ws).length = normLen ws := by rw [norm, List.length_take]; have := normLen_le ws; omega

theorem norm_length_le (ws : List Nat) : (norm ws).length ≤ ws.length := by rw [norm_length]; exact normLen_le ws

theorem norm_mem {ws : List Nat} {x : Nat} (h : x ∈ norm ws) : x ∈ ws := List.mem_of_mem_take h

theorem norm_snoc_zero (ws : List Nat) : norm (ws ++ [0]) = norm ws := by
  have := normLen_le ws
  rw [norm, norm, normLen_snoc_zero, List.take_append_of_le_length this]

theorem norm_snoc_pos (ws : List Nat) (x : Nat) (h : x ≠ 0) : norm (ws ++ [x]) = ws ++ [x] := by
  rw [norm, normLen_snoc_pos _ _ h, List.take_of_length_le (by simp)]

/-- The value of words, the lowest first. -/
def val : List Nat → Nat
  | [] => 0
  | x :: ws => x + 18446744073709551616 * val ws

theorem val_append (a b : List Nat) : val (a ++ b) = val a + 18446744073709551616 ^ a.length * val b := by
  induction a with
  | nil => simp [val]
  | cons x a ih =>
    simp only [List.cons_append, val, ih, List.length_cons, Nat.pow_succ]
    rw [Nat.mul_add, ← Nat.mul_assoc, Nat.mul_comm (18446744073709551616 ^ a.length) 18446744073709551616, Nat.add_assoc]

theorem val_norm (ws : List Nat) : val (norm ws) = val ws := by
  generalize hn : ws.length = n
  induction n generalizing ws with
  | zero => rw [List.eq_nil_of_length_eq_zero hn]; rfl
  | succ n ih =>
    obtain ⟨as, x, rfl⟩ : ∃ as x, ws = as ++ [x] := ⟨ws.dropLast, ws.getLast (by intro h; simp [h] at hn), (List.dropLast_concat_getLast _).symm⟩
    by_cases h : x = 0
    · subst h
      rw [norm_snoc_zero, ih as (by simpa using hn), val_append]
      simp [val]
    · rw [norm_snoc_pos _ _ h]

theorem norm_norm (ws : List Nat) : norm (norm ws) = norm ws := by
  generalize hn : ws.length = n
  induction n generalizing ws with
  | zero => rw [List.eq_nil_of_length_eq_zero hn]; rfl
  | succ n ih =>
    obtain ⟨as, x, rfl⟩ : ∃ as x, ws = as ++ [x] := ⟨ws.dropLast, ws.getLast (by intro h; simp [h] at hn), (List.dropLast_concat_getLast _).symm⟩
    by_cases h : x = 0
    · subst h
      rw [norm_snoc_zero, ih as (by simpa using hn)]
    · rw [norm_snoc_pos _ _ h, norm_snoc_pos _ _ h]

theorem val_lt (ws : List Nat) (h : ∀ x ∈ ws, x < 18446744073709551616) : val ws < 18446744073709551616 ^ ws.length := by
  induction ws with
  | nil => simp [val]
  | cons x ws ih =>
    have h1 := ih fun y hy => h y (List.mem_cons_of_mem _ hy)
    have h2 := h x (by simp)
    simp only [val, List.length_cons, Nat.pow_succ]
    have : 18446744073709551616 * val ws + 18446744073709551616 ≤ 18446744073709551616 ^ ws.length * 18446744073709551616 := by
      rw [← Nat.mul_succ, Nat.mul_comm]
      exact Nat.mul_le_mul_right _ h1
    omega

theorem val_take_drop (ws : List Nat) (k : Nat) : val ws = val (ws.take k) + 18446744073709551616 ^ (min k ws.length) * val (ws.drop k) := by
  conv => lhs; rw [← List.take_append_drop k ws, val_append, List.length_take]

theorem val_drop (ws : List Nat) (i : Nat) : val (ws.drop i) = ws.getD i 0 + 18446744073709551616 * val (ws.drop (i + 1)) := by
  by_cases h : i < ws.length
  · rw [List.drop_eq_getElem_cons h, val]; simp [h]
  · rw [List.drop_of_length_le (by omega), List.drop_of_length_le (by omega)]
    simp [val, Nat.not_lt.1 h]

theorem val_drop_all (ws : List Nat) (i : Nat) (h : ws.length ≤ i) : val (ws.drop i) = 0 := by rw [List.drop_of_length_le h]; rfl

theorem pow_pos' (n : Nat) : 0 < 18446744073709551616 ^ n := Nat.pow_pos (by decide)

theorem val_take_lt (ws : List Nat) (h : ∀ x ∈ ws, x < 18446744073709551616) (k : Nat) : val (ws.take k) < 18446744073709551616 ^ k := by
  refine Nat.lt_of_lt_of_le (val_lt _ fun x hx => h x (List.mem_of_mem_take hx)) (Nat.pow_le_pow_right (by decide) ?_)
  simp; omega

/-- The value in two parts, at any place. -/
theorem val_split (ws : List Nat) (k : Nat) : val ws = val (ws.take k) + 18446744073709551616 ^ k * val (ws.drop k) := by
  by_cases h : k ≤ ws.length
  · rw [val_take_drop ws k, Nat.min_eq_left h]
  · rw [val_drop_all ws k (by omega), List.take_of_length_le (by omega)]; simp

theorem val_lt_of {a b : List Nat} (ha : ∀ x ∈ a, x < 18446744073709551616) (i : Nat) (he : val (a.drop (i + 1)) = val (b.drop (i + 1))) (hlt : a.getD i 0 < b.getD i 0) : val a < val b := by
  rw [val_split a i, val_split b i, val_drop a i, val_drop b i, he]
  have h1 := val_take_lt a ha i
  generalize 18446744073709551616 * val (b.drop (i + 1)) = D
  have h2 : 18446744073709551616 ^ i * (a.getD i 0 + D) + 18446744073709551616 ^ i ≤ 18446744073709551616 ^ i * (b.getD i 0 + D) := by
    rw [← Nat.mul_succ]; exact Nat.mul_le_mul_left _ (by omega)
  omega

theorem norm_nil_iff (ws : List Nat) : norm ws = [] ↔ val ws = 0 := by
  constructor
  · intro h; rw [← val_norm, h]; rfl
  · intro h
    generalize hn : ws.length = n at *
    induction n generalizing ws with
    | zero => rw [List.eq_nil_of_length_eq_zero hn]; rfl
    | succ n ih =>
      obtain ⟨as, x, rfl⟩ : ∃ as x, ws = as ++ [x] := ⟨ws.dropLast, ws.getLast (by intro h; simp [h] at hn), (List.dropLast_concat_getLast _).symm⟩
      rw [val_append] at h
      have hp := pow_pos' as.length
      have h0 : 18446744073709551616 ^ as.length * val [x] = 0 := by omega
      have hx : x = 0 := by
        rcases Nat.mul_eq_zero.1 h0 with h1 | h1
        · omega
        · simpa [val] using h1
      subst hx
      rw [norm_snoc_zero]
      exact ih as (by omega) (by simpa using hn)

/-- Words are told by their value. -/
theorem words_ext {a b : List Nat} (ha : ∀ x ∈ a, x < 18446744073709551616) (hb : ∀ x ∈ b, x < 18446744073709551616) (hl : a.length = b.length) (h : val a = val b) : a = b := by
  induction a generalizing b with
  | nil => cases b with
    | nil => rfl
    | cons y b => simp at hl
  | cons x a ih => cases b with
    | nil => simp at hl
    | cons y b =>
      have h1 := ha x (by simp)
      have h2 := hb y (by simp)
      simp only [val] at h
      have : x = y := by omega
      subst this
      rw [ih (fun z hz => ha z (List.mem_cons_of_mem _ hz)) (fun z hz => hb z (List.mem_cons_of_mem _ hz)) (by simpa using hl) (by omega)]

theorem norm_last {ws : List Nat} (h : norm ws = ws) (hne : ws ≠ []) : 18446744073709551616 ^ (ws.length - 1) ≤ val ws := by
  obtain ⟨as, x, rfl⟩ : ∃ as x, ws = as ++ [x] := ⟨ws.dropLast, ws.getLast hne, (List.dropLast_concat_getLast _).symm⟩
  by_cases hx : x = 0
  · subst hx
    rw [norm_snoc_zero] at h
    have := norm_length_le as
    rw [h] at this
    simp at this
    omega
  · rw [val_append]
    simp only [List.length_append, List.length_cons, List.length_nil, Nat.zero_add, Nat.add_sub_cancel, val, Nat.mul_zero, Nat.add_zero]
    have : 18446744073709551616 ^ as.length * 1 ≤ 18446744073709551616 ^ as.length * x := Nat.mul_le_mul_left _ (by omega)
    omega

theorem norm_ext {a b : List Nat} (ha : ∀ x ∈ a, x < 18446744073709551616) (hb : ∀ x ∈ b, x < 18446744073709551616) (h : val a = val b) : norm a = norm b := by
  have na : ∀ x ∈ norm a, x < 18446744073709551616 := fun x hx => ha x (norm_mem hx)
  have nb : ∀ x ∈ norm b, x < 18446744073709551616 := fun x hx => hb x (norm_mem hx)
  have hv : val (norm a) = val (norm b) := by rw [val_norm, val_norm, h]
  refine words_ext na nb ?_ hv
  have key : ∀ (c d : List Nat), norm c = c → (∀ x ∈ c, x < 18446744073709551616) → (∀ x ∈ d, x < 18446744073709551616) → val c = val d → c.length ≤ d.length := by
    intro c d hc h1 h2 h3
    rcases Nat.lt_or_ge d.length c.length with hlt | hge
    · have hne : c ≠ [] := by intro e; subst e; simp at hlt
      have l1 := norm_last hc hne
      have l2 := val_lt d h2
      have : 18446744073709551616 ^ d.length ≤ 18446744073709551616 ^ (c.length - 1) := Nat.pow_le_pow_right (by decide) (by omega)
      omega
    · exact hge
  exact Nat.le_antisymm (key _ _ (norm_norm a) na nb hv) (key _ _ (norm_norm b) nb na hv.symm)

/-- The integer of a sign and words. -/
def ival (n : Bool) (ws : List Nat) : Int := bif n then -(val ws : Int) else (val ws : Int)

/-- The sign of an integer; how two of them compare. -/
def sgnZ (z : Int) : Int := if z < 0 then -1 else if z = 0 then 0 else 1

def cmpZ (a b : Int) : Int := if a < b then -1 else if b < a then 1 else 0

/-- Whether the words are all zero; the sign. -/
def isZ (ws : List Nat) : Bool := (norm ws).isEmpty

def sgnW (n : Bool) (ws : List Nat) : Int := bif isZ ws then 0 else bif n then -1 else 1

theorem isZ_iff (ws : List Nat) : isZ ws = true ↔ (norm ws).length = 0 := by simp [isZ]

theorem isZ_val (ws : List Nat) : isZ ws = decide (val ws = 0) := by
  rw [Bool.eq_iff_iff, decide_eq_true_iff, ← norm_nil_iff]; simp [isZ]

theorem ival_zero (n : Bool) (ws : List Nat) : ival n ws = 0 ↔ val ws = 0 := by cases n <;> simp [ival] <;> omega

theorem isZ_ival (n : Bool) (ws : List Nat) : isZ ws = decide (ival n ws = 0) := by
  rw [isZ_val, Bool.eq_iff_iff, decide_eq_true_iff, decide_eq_true_iff, ival_zero]

theorem sgnW_eq (n : Bool) (ws : List Nat) : sgnW n ws = sgnZ (ival n ws) := by
  unfold sgnW sgnZ
  rw [isZ_val]
  cases n <;> by_cases h : val ws = 0 <;> simp [ival, h] <;> omega

theorem ival_norm (n : Bool) (ws : List Nat) : ival (decide (0 < (norm ws).length) && n) (norm ws) = ival n ws := by
  unfold ival
  rw [val_norm]
  by_cases h : 0 < (norm ws).length
  · simp [h]
  · have : norm ws = [] := List.eq_nil_of_length_eq_zero (by omega)
    have h0 := (norm_nil_iff ws).1 this
    rw [h0]; simp

theorem neg_norm (n : Bool) (ws : List Nat) : (decide (0 < (norm ws).length) && n) = decide (ival n ws < 0) := by
  have h1 := norm_nil_iff ws
  by_cases h : 0 < (norm ws).length
  · have : val ws ≠ 0 := fun e => by rw [h1.2 e] at h; simp at h
    cases n
    · simp only [Bool.and_false, ival, cond_false]
      exact (decide_eq_false (by omega)).symm
    · simp only [h, decide_true, Bool.and_true, ival, cond_true]
      exact (decide_eq_true (by omega)).symm
  · have : norm ws = [] := List.eq_nil_of_length_eq_zero (by omega)
    have h0 := h1.1 this
    cases n <;> simp [this, ival, h0]

theorem ival_abs (n : Bool) (ws : List Nat) : (ival n ws).natAbs = val ws := by cases n <;> simp [ival]

theorem ival_eq_iff (n m : Bool) (a b : List Nat) (hn : n = true → val a ≠ 0) (hm : m = true → val b ≠ 0) : ival n a = ival m b ↔ n = m ∧ val a = val b := by
  cases n <;> cases m <;> simp [ival] at * <;> omega

end Go.Proofs.YtocadbghhoibnaaFmt

/- What a text tells in a base: plain laws (no program in sight). -/
namespace Go.Proofs.YtocadbghhoibnaaFmt

/-- The value of a digit in the base b; 63 if it is none. -/
def dgv (c b : Nat) : Nat := if 48 ≤ c ∧ c ≤ 57 then c - 48 else if 97 ≤ c ∧ c ≤ 122 then c - 97 + 10 else if 65 ≤ c ∧ c ≤ 90 then (if b ≤ 36 then c - 65 + 10 else c - 65 + 36) else 63

theorem dgv_le (c b : Nat) : dgv c b ≤ 63 := by
  unfold dgv
  split
  · omega
  · split
    · omega
    · split
      · split <;> omega
      · omega

theorem dgv_under (b : Nat) : dgv 95 b = 63 := by unfold dgv; simp

/-- What the library's scan knows: the kind of the last byte (46, 48 or 95), whether an underscore stood wrong, how many digits there were, their value. -/
structure Sc where
  pv : Nat
  iv : Bool
  ct : Nat
  v : Nat

def scStep (u : Bool) (b : Nat) (st : Sc) (c : Nat) : Option Sc :=
  if c = 95 ∧ u = true then some ⟨95, st.iv || decide (st.pv ≠ 48), st.ct, st.v⟩
  else if b ≤ dgv c b then none
  else some ⟨48, st.iv, st.ct + 1, st.v * b + dgv c b⟩

def scRun (u : Bool) (b : Nat) : Sc → List Nat → Sc × List Nat
  | st, [] => (st, [])
  | st, c :: cs => match scStep u b st c with
    | none => (st, c :: cs)
    | some st' => scRun u b st' cs

/-- The reference's run: whether an underscore may come, whether a digit was the last, the value. -/
def spRun (u : Bool) (b : Nat) : Bool → Bool → Nat → List Nat → Option Nat
  | _, done, v, [] => if done then some v else none
  | may, done, v, c :: cs =>
    if c = 95 then (if u = true ∧ may = true then spRun u b false false v cs else none)
    else if b ≤ dgv c b then none
    else spRun u b true true (v * b + dgv c b) cs

/-- The run is good. -/
def scOk (r : Sc × List Nat) : Prop := r.2 = [] ∧ r.1.iv = false ∧ r.1.pv = 48 ∧ 0 < r.1.ct

theorem scRun_iv (u : Bool) (b : Nat) : ∀ (l : List Nat) (st : Sc), st.iv = true → (scRun u b st l).1.iv = true
  | [], st, h => h
  | c :: cs, st, h => by
    unfold scRun
    cases hs : scStep u b st c with
    | none => exact h
    | some st' =>
      refine scRun_iv u b cs st' ?_
      unfold scStep at hs
      split at hs
      · cases hs; simp [h]
      · split at hs
        · cases hs
        · cases hs; exact h

/-- Both runs tell the same. -/
theorem run_same (u : Bool) (b : Nat) (hb : b ≤ 62) : ∀ (l : List Nat) (st : Sc), st.iv = false →
    (∀ r, spRun u b (decide (st.pv = 48)) (decide (st.pv = 48 ∧ 0 < st.ct)) st.v l = some r ↔ (scOk (scRun u b st l) ∧ (scRun u b st l).1.v = r))
  | [], st, h, r => by
    unfold spRun scRun scOk
    by_cases hd : st.pv = 48 ∧ 0 < st.ct
    · simp [hd, h]
    · simp only [hd, h, decide_false, Bool.false_eq_true, if_false]
      constructor
      · intro q; cases q
      · rintro ⟨⟨_, _, q1, q2⟩, _⟩
  | c :: cs, st, h, r => by
    unfold spRun scRun
    by_cases hc : c = 95
    · subst hc
      rw [if_pos rfl]
      by_cases hu : u = true
      · have hs : scStep u b st 95 = some ⟨95, st.iv || decide (st.pv ≠ 48), st.ct, st.v⟩ := by unfold scStep; rw [if_pos ⟨rfl, hu⟩]
        rw [hs]
        by_cases hp : st.pv = 48
        · have ih := run_same u b hb cs ⟨95, false, st.ct, st.v⟩ rfl r
          simp only [hp, hu, h] at ih ⊢
          simpa using ih
        · have hi := scRun_iv u b cs ⟨95, st.iv || decide (st.pv ≠ 48), st.ct, st.v⟩ (by simp [hp])
          rw [if_neg (by simp [hp])]
          constructor
          · intro q; cases q
          · rintro ⟨⟨_, q, _⟩, _⟩
            rw [hi] at q
            cases q
      · have hs : scStep u b st 95 = none := by
          unfold scStep
          rw [if_neg (by simp [hu]), if_pos (by rw [dgv_under]; omega)]
        rw [hs, if_neg (by simp [hu])]
        constructor
        · intro q; cases q
        · rintro ⟨⟨q, _⟩, _⟩; cases q
    · rw [if_neg hc]
      by_cases hd : b ≤ dgv c b
      · have hs : scStep u b st c = none := by unfold scStep; rw [if_neg (by simp [hc]), if_pos hd]
        rw [hs, if_pos hd]
        constructor
        · intro q; cases q
        · rintro ⟨⟨q, _⟩, _⟩; cases q
      · have hs : scStep u b st c = some ⟨48, st.iv, st.ct + 1, st.v * b + dgv c b⟩ := by unfold scStep; rw [if_neg (by simp [hc]), if_neg hd]
        rw [hs, if_neg hd]
        have ih := run_same u b hb cs ⟨48, st.iv, st.ct + 1, st.v * b + dgv c b⟩ h r
        simpa using ih

/-- The base that the beginning of a text without a sign selects, how long that beginning is. -/
def pfx : List Nat → Nat × Nat
  | 48 :: c :: _ => if c = 98 ∨ c = 66 then (2, 2) else if c = 111 ∨ c = 79 then (8, 2) else if c = 120 ∨ c = 88 then (16, 2) else (8, 1)
  | _ => (10, 0)

/-- The natural number that a text without a sign tells. -/
def natS (l : List Nat) (base : Nat) : Option Nat :=
  if base = 0 then spRun true (pfx l).1 (decide (0 < (pfx l).2)) false 0 (l.drop (pfx l).2) else spRun false base false false 0 l

/-- The integer that a text tells. -/
def numS (l : List Nat) (base : Nat) : Option Int :=
  match l with
  | 45 :: l' => (natS l' base).map fun n => -(n : Int)
  | 43 :: l' => (natS l' base).map fun n => (n : Int)
  | l => (natS l base).map fun n => (n : Int)

end Go.Proofs.YtocadbghhoibnaaFmt

/- Bits of words and bit lengths: plain laws. -/
namespace Go.Proofs.YtocadbghhoibnaaFmt

/-- Bit i of a natural number; its length in bits. -/
def bitN (v i : Nat) : Nat := v / 2 ^ i % 2

def blenN (v : Nat) : Nat := if v = 0 then 0 else Nat.log2 v + 1

theorem pow64 (j : Nat) : 18446744073709551616 ^ j = 2 ^ (64 * j) := by
  rw [Nat.pow_mul]

theorem word_val (ws : List Nat) (h : ∀ x ∈ ws, x < 18446744073709551616) (j : Nat) : ws.getD j 0 = val ws / 18446744073709551616 ^ j % 18446744073709551616 := by
  rw [val_split ws j, val_drop ws j]
  have h1 := val_take_lt ws h j
  have hp := pow_pos' j
  rw [Nat.add_mul_div_left _ _ hp, Nat.div_eq_of_lt h1, Nat.zero_add]
  have h2 : ws.getD j 0 < 18446744073709551616 := by
    by_cases hj : j < ws.length
    · rw [List.getD_eq_getElem?_getD, List.getElem?_eq_getElem hj]; exact h _ (List.getElem_mem _)
    · simp [Nat.not_lt.1 hj]
  omega

theorem word_bit (ws : List Nat) (h : ∀ x ∈ ws, x < 18446744073709551616) (i : Nat) : ws.getD (i / 64) 0 / 2 ^ (i % 64) % 2 = bitN (val ws) i := by
  rw [word_val ws h, pow64, bitN]
  have e : i = 64 * (i / 64) + i % 64 := by omega
  have e1 : 2 ^ i = 2 ^ (64 * (i / 64)) * 2 ^ (i % 64) := by rw [← Nat.pow_add, ← e]
  rw [e1, ← Nat.div_div_eq_div_mul]
  generalize val ws / 2 ^ (64 * (i / 64)) = q
  have h64 : i % 64 < 64 := Nat.mod_lt _ (by decide)
  generalize i % 64 = r at h64
  have e2 : (18446744073709551616 : Nat) = 2 ^ r * (2 * 2 ^ (63 - r)) := by
    rw [← Nat.pow_succ', ← Nat.pow_add, show r + (63 - r).succ = 64 by omega]
  rw [e2, Nat.mod_mul_right_div_self, Nat.mod_mul_right_mod]

theorem blenN_zero : blenN 0 = 0 := rfl

theorem lt_blenN (v : Nat) : v < 2 ^ blenN v := by
  unfold blenN
  split
  · subst_vars; simp
  · exact Nat.lt_log2_self

theorem blenN_le (v : Nat) (h : v ≠ 0) : 2 ^ (blenN v - 1) ≤ v := by
  unfold blenN
  rw [if_neg h, Nat.add_sub_cancel]
  exact Nat.log2_self_le h

theorem blenN_unique {v n : Nat} (h1 : v < 2 ^ n) (h2 : n = 0 ∨ 2 ^ (n - 1) ≤ v) : blenN v = n := by
  rcases Nat.eq_zero_or_pos v with rfl | hv
  · rcases h2 with rfl | h2
    · rfl
    · have : 0 < 2 ^ (n - 1) := Nat.pow_pos (by decide)
      omega
  · have a1 := lt_blenN v
    have a2 := blenN_le v (by omega)
    have hn : n ≠ 0 := by rintro rfl; simp at h1; omega
    have h2' : 2 ^ (n - 1) ≤ v := h2.resolve_left hn
    have l1 : blenN v - 1 < n := (Nat.pow_lt_pow_iff_right (by decide : 1 < 2)).1 (Nat.lt_of_le_of_lt a2 h1)
    have l2 : n - 1 < blenN v := (Nat.pow_lt_pow_iff_right (by decide : 1 < 2)).1 (Nat.lt_of_le_of_lt h2' a1)
    omega

theorem blenN_le_iff (v n : Nat) : blenN v ≤ n ↔ v < 2 ^ n := by
  constructor
  · intro h; exact Nat.lt_of_lt_of_le (lt_blenN v) (Nat.pow_le_pow_right (by decide) h)
  · intro h
    rcases Nat.eq_zero_or_pos v with rfl | hv
    · exact Nat.zero_le _
    · have a2 := blenN_le v (by omega)
      have l1 : blenN v - 1 < n := (Nat.pow_lt_pow_iff_right (by decide : 1 < 2)).1 (Nat.lt_of_le_of_lt a2 h)
      omega

theorem bit_step {v n : Nat} (h : v < 2 ^ (n + 1)) (h0 : bitN v n = 0) : v < 2 ^ n := by
  unfold bitN at h0
  have hp : 0 < 2 ^ n := Nat.pow_pos (by decide)
  have h1 : v / 2 ^ n < 2 := (Nat.div_lt_iff_lt_mul hp).2 (by rw [Nat.pow_succ] at h; omega)
  have h2 : v / 2 ^ n = 0 := by
    generalize v / 2 ^ n = q at h0 h1
    omega
  rcases Nat.lt_or_ge v (2 ^ n) with h3 | h3
  · exact h3
  · have := Nat.div_pos h3 hp; omega

theorem bit_stop {v n : Nat} (h0 : bitN v n ≠ 0) : 2 ^ n ≤ v := by
  rcases Nat.lt_or_ge v (2 ^ n) with h3 | h3
  · unfold bitN at h0; rw [Nat.div_eq_of_lt h3] at h0; simp at h0
  · exact h3

theorem bitN_lt (v i : Nat) : bitN v i < 2 := Nat.mod_lt _ (by decide)

end Go.Proofs.YtocadbghhoibnaaFmt

/- What texts tell: plain laws (no program in sight). -/
namespace Go.Proofs.YtocadbghhoibnaaFmt

/-- Without underscores it does not matter whether they may come. -/
theorem spRun_plain (b : Nat) : ∀ (l : List Nat) (u u' m m' d : Bool) (v : Nat), (∀ c ∈ l, c ≠ 95) → spRun u b m d v l = spRun u' b m' d v l
  | [], u, u', m, m', d, v, h => by simp [spRun]
  | c :: cs, u, u', m, m', d, v, h => by
    have hc : c ≠ 95 := h c (by simp)
    unfold spRun
    rw [if_neg hc, if_neg hc, spRun_plain b cs u u' true true true _ (fun x hx => h x (by simp [hx]))]

theorem spRun_may (b : Nat) : ∀ (l : List Nat) (m m' d : Bool) (v : Nat), spRun false b m d v l = spRun false b m' d v l
  | [], m, m', d, v => by simp [spRun]
  | c :: cs, m, m', d, v => by unfold spRun; simp

theorem spRun_done (u : Bool) (b : Nat) (l : List Nat) (m d d' : Bool) (v : Nat) (h : l ≠ []) : spRun u b m d v l = spRun u b m d' v l := by
  cases l with
  | nil => exact absurd rfl h
  | cons c cs => unfold spRun; rfl

/-- Texts behind one another. -/
theorem spRun_app (b : Nat) : ∀ (s t : List Nat) (m d : Bool) (v x : Nat), spRun false b m d v s = some x → spRun false b m d v (s ++ t) = spRun false b true true x t
  | [], t, m, d, v, x, h => by
    unfold spRun at h
    cases d with
    | false => simp at h
    | true => simp at h; subst h; exact spRun_may b t m true true v
  | c :: cs, t, m, d, v, x, h => by
    rw [List.cons_append, spRun]
    unfold spRun at h
    by_cases hc : c = 95
    · rw [if_pos hc] at h; simp at h
    · rw [if_neg hc] at h ⊢
      by_cases hd : b ≤ dgv c b
      · rw [if_pos hd] at h; cases h
      · rw [if_neg hd] at h ⊢
        exact spRun_app b cs t true true _ x h

theorem spRun_shift (b v : Nat) : ∀ (t : List Nat) (m d : Bool) (v0 y : Nat), spRun false b m d v0 t = some y → spRun false b m d (v + v0) t = some (v * b ^ t.length + y) := by
  intro t
  induction t generalizing v with
  | nil =>
    intro m d v0 y h
    unfold spRun at h ⊢
    cases d with
    | false => simp at h
    | true => simp at h ⊢; omega
  | cons c cs ih =>
    intro m d v0 y h
    unfold spRun at h ⊢
    by_cases hc : c = 95
    · rw [if_pos hc] at h; simp at h
    · rw [if_neg hc] at h ⊢
      by_cases hd : b ≤ dgv c b
      · rw [if_pos hd] at h; cases h
      · rw [if_neg hd] at h ⊢
        have := ih (v * b) true true _ y h
        rw [show (v + v0) * b + dgv c b = v * b + (v0 * b + dgv c b) by rw [Nat.add_mul]; omega, this, List.length_cons, Nat.pow_succ, Nat.mul_assoc, Nat.mul_comm b]

theorem natS_base {l : List Nat} {b : Nat} (hb : b ≠ 0) : natS l b = spRun false b false false 0 l := by unfold natS; rw [if_neg hb]

theorem natS_join {s t : List Nat} {b x y : Nat} (hb : b ≠ 0) (hs : natS s b = some x) (ht : natS t b = some y) : natS (s ++ t) b = some (x * b ^ t.length + y) := by
  rw [natS_base hb] at hs ht ⊢
  rw [spRun_app b s t _ _ _ _ hs]
  have hne : t ≠ [] := by rintro rfl; simp [spRun] at ht
  have h1 := spRun_shift b x t _ _ _ _ ht
  rw [spRun_may b t true false true, spRun_done false b t false true false _ hne]
  exact h1

/-- Zeros ahead. -/
theorem natS_zeros {l : List Nat} {b : Nat} (hb : 2 ≤ b) (hl : l ≠ []) : ∀ n : Nat, natS (List.replicate n 48 ++ l) b = natS l b
  | 0 => by simp
  | n + 1 => by
    have ih := natS_zeros hb hl n
    rw [natS_base (by omega), natS_base (by omega)] at ih ⊢
    rw [List.replicate_succ, List.cons_append]
    rw [spRun, if_neg (by omega), if_neg (by simp [dgv]; omega)]
    have e : 0 * b + dgv 48 b = 0 := by simp [dgv]
    rw [e, ← ih, spRun_may b _ true false true, spRun_done false b _ false true false _ (by simp [hl])]

/-- No sign ahead. -/
def unsg (l : List Nat) : Prop := ∀ t, l ≠ 45 :: t ∧ l ≠ 43 :: t

theorem numS_un {l : List Nat} {b : Nat} (h : unsg l) : numS l b = (natS l b).map fun n => (n : Int) := by
  unfold numS
  split
  · exact absurd rfl (h _).1
  · exact absurd rfl (h _).2
  · rfl

theorem numS_minus (l : List Nat) (b : Nat) : numS (45 :: l) b = (natS l b).map fun n => -(n : Int) := rfl
theorem numS_plus (l : List Nat) (b : Nat) : numS (43 :: l) b = (natS l b).map fun n => (n : Int) := rfl

theorem unsg_cons {c : Nat} {l : List Nat} (h1 : c ≠ 45) (h2 : c ≠ 43) : unsg (c :: l) := fun t => ⟨fun q => h1 (by simpa using (List.cons.inj q).1), fun q => h2 (by simpa using (List.cons.inj q).1)⟩

/-- The letters a to z as A to Z. -/
def upC (c : Nat) : Nat := if 97 ≤ c ∧ c ≤ 122 then c - 32 else c

theorem dgv_up (c b : Nat) (hb : b ≤ 36) : dgv (upC c) b = dgv c b := by
  unfold upC
  by_cases h : 97 ≤ c ∧ c ≤ 122
  · rw [if_pos h]
    unfold dgv
    rw [if_neg (by omega), if_neg (by omega), if_pos (by omega), if_pos hb, if_neg (by omega), if_pos h]
    omega
  · rw [if_neg h]

theorem upC_iff (c x : Nat) (h1 : x < 65 ∨ 122 < x ∨ (90 < x ∧ x < 97)) : upC c = x ↔ c = x := by
  unfold upC
  split <;> omega

theorem spRun_up (u : Bool) (b : Nat) (hb : b ≤ 36) : ∀ (l : List Nat) (m d : Bool) (v : Nat), spRun u b m d v (l.map upC) = spRun u b m d v l
  | [], m, d, v => by simp [spRun]
  | c :: cs, m, d, v => by
    rw [List.map_cons]
    unfold spRun
    rw [dgv_up c b hb]
    have e : (upC c = 95) = (c = 95) := propext (upC_iff c 95 (by omega))
    simp only [e, spRun_up u b hb cs]

theorem pfx_up : ∀ l : List Nat, pfx (l.map upC) = pfx l
  | [] => rfl
  | [a] => by
    have h1 : pfx [upC a] = (10, 0) := by unfold pfx; split <;> simp_all
    have h2 : pfx [a] = (10, 0) := by unfold pfx; split <;> simp_all
    rw [List.map_cons, List.map_nil, h1, h2]
  | a :: c :: l => by
    rw [List.map_cons, List.map_cons]
    by_cases ha : a = 48
    · subst ha
      have e : upC 48 = 48 := by decide
      rw [e]
      unfold pfx
      have e1 : (upC c = 98 ∨ upC c = 66) = (c = 98 ∨ c = 66) := by apply propext; unfold upC; split <;> omega
      have e2 : (upC c = 111 ∨ upC c = 79) = (c = 111 ∨ c = 79) := by apply propext; unfold upC; split <;> omega
      have e3 : (upC c = 120 ∨ upC c = 88) = (c = 120 ∨ c = 88) := by apply propext; unfold upC; split <;> omega
      simp only [e1, e2, e3]
    · have h1 : pfx (upC a :: upC c :: l.map upC) = (10, 0) := by
        unfold pfx
        split
        · rename_i hq; simp at hq; exact absurd ((upC_iff a 48 (by omega)).1 hq.1) ha
        · rfl
      have h2 : pfx (a :: c :: l) = (10, 0) := by
        unfold pfx
        split
        · rename_i hq; simp at hq; exact absurd hq.1 ha
        · rfl
      rw [h1, h2]

theorem pfx_le (l : List Nat) : (pfx l).1 ≤ 16 := by
  unfold pfx
  split
  · repeat' split
    all_goals simp
  · simp

theorem natS_up {l : List Nat} {b : Nat} (hb : b ≤ 36) : natS (l.map upC) b = natS l b := by
  unfold natS
  rw [pfx_up, ← List.map_drop]
  split
  · exact spRun_up _ _ (by have := pfx_le l; omega) _ _ _ _
  · exact spRun_up _ _ hb _ _ _ _

theorem unsg_up {l : List Nat} (h : unsg l) : unsg (l.map upC) := by
  intro t
  cases l with
  | nil => simp
  | cons c l =>
    rw [List.map_cons]
    constructor
    · intro q
      have := (List.cons.inj q).1
      exact (h l).1 (by rw [(upC_iff c 45 (by omega)).1 this])
    · intro q
      have := (List.cons.inj q).1
      exact (h l).2 (by rw [(upC_iff c 43 (by omega)).1 this])

/-- Behind a beginning that selects the base. -/
theorem natS_pfx {l p : List Nat} {b : Nat} (hp : pfx (p ++ l) = (b, p.length)) (hb : b ≠ 0) (hu : ∀ c ∈ l, c ≠ 95) : natS (p ++ l) 0 = natS l b := by
  rw [natS_base hb]
  unfold natS
  rw [if_pos rfl, hp, List.drop_left]
  exact spRun_plain b l _ _ _ _ _ _ hu

/-- The value of digits behind the value v. -/
def dvb (b : Nat) : Nat → List Nat → Nat
  | v, [] => v
  | v, c :: cs => dvb b (v * b + dgv c b) cs

theorem dvb_app (b : Nat) : ∀ (l t : List Nat) (v : Nat), dvb b v (l ++ t) = dvb b (dvb b v l) t
  | [], t, v => rfl
  | c :: cs, t, v => by rw [List.cons_append, dvb, dvb_app b cs t, dvb]

theorem dvb_lin (b : Nat) : ∀ (l : List Nat) (v : Nat), dvb b v l = v * b ^ l.length + dvb b 0 l
  | [], v => by simp [dvb]
  | c :: cs, v => by
    rw [dvb, dvb, dvb_lin b cs (v * b + dgv c b), dvb_lin b cs (0 * b + dgv c b), List.length_cons, Nat.pow_succ, Nat.zero_mul, Nat.zero_add, Nat.add_mul, Nat.mul_assoc, Nat.mul_comm b, Nat.add_assoc]

/-- Digits are read. -/
theorem spRun_digs (u : Bool) (b : Nat) : ∀ (l t : List Nat) (m d : Bool) (v : Nat), l ≠ [] → (∀ c ∈ l, c ≠ 95 ∧ dgv c b < b) → spRun u b m d v (l ++ t) = spRun u b true true (dvb b v l) t
  | [], t, m, d, v, h, _ => absurd rfl h
  | c :: cs, t, m, d, v, _, h => by
    have hc := h c (by simp)
    rw [List.cons_append, spRun, if_neg hc.1, if_neg (by omega)]
    cases cs with
    | nil => rfl
    | cons c' cs' => exact spRun_digs u b (c' :: cs') t true true _ (by simp) (fun x hx => h x (List.mem_cons_of_mem _ hx))

theorem natS_digs {l : List Nat} {b : Nat} (hb : b ≠ 0) (hl : l ≠ []) (h : ∀ c ∈ l, c ≠ 95 ∧ dgv c b < b) : natS l b = some (dvb b 0 l) := by
  rw [natS_base hb]
  have := spRun_digs false b l [] false false 0 hl h
  rw [List.append_nil] at this
  rw [this]
  simp [spRun]

/-- A digit ahead of digits. -/
theorem dvb_cons (b c : Nat) (l : List Nat) : dvb b 0 (c :: l) = dgv c b * b ^ l.length + dvb b 0 l := by
  rw [dvb, dvb_lin, Nat.zero_mul, Nat.zero_add]

theorem dec_dig {c : Nat} (h : 48 ≤ c ∧ c ≤ 57) : c ≠ 95 ∧ dgv c 10 < 10 := by
  refine ⟨by omega, ?_⟩
  unfold dgv
  rw [if_pos h]
  omega

theorem pfx_ten {c : Nat} {l : List Nat} (h : c ≠ 48) : pfx (c :: l) = (10, 0) := by
  unfold pfx
  split
  · rename_i hq; simp at hq; exact absurd hq.1 h
  · rfl

/-- Underscores between decimal digits, and where there must be none. -/
theorem under_law {a c : List Nat} {x : Nat} {a' : List Nat} (ha : a = x :: a') (hx : x ≠ 48) (hc : c ≠ []) (hda : ∀ y ∈ a, 48 ≤ y ∧ y ≤ 57) (hdc : ∀ y ∈ c, 48 ≤ y ∧ y ≤ 57) :
    numS (a ++ c) 10 = some (dvb 10 0 (a ++ c) : Nat) ∧ numS (a ++ 95 :: c) 0 = some (dvb 10 0 (a ++ c) : Nat) ∧ numS (a ++ 95 :: c) 10 = none ∧ numS (a ++ 95 :: 95 :: c) 0 = none ∧ numS (a ++ c ++ [95]) 0 = none := by
  have hne : a ≠ [] := by rw [ha]; simp
  have hxd := hda x (by rw [ha]; simp)
  have hua : ∀ t, unsg (a ++ t) := fun t => by rw [ha]; exact unsg_cons (by omega) (by omega)
  have hda' : ∀ y ∈ a, y ≠ 95 ∧ dgv y 10 < 10 := fun y hy => dec_dig (hda y hy)
  have hdc' : ∀ y ∈ c, y ≠ 95 ∧ dgv y 10 < 10 := fun y hy => dec_dig (hdc y hy)
  have hpf : ∀ t, natS (a ++ t) 0 = spRun true 10 false false 0 (a ++ t) := fun t => by
    unfold natS
    rw [if_pos rfl, ha, List.cons_append, pfx_ten hx]
    simp
  have hpc : ∀ v, spRun true 10 false false v c = some (dvb 10 v c) := fun v => by
    have := spRun_digs true 10 c [] false false v hc hdc'
    rw [List.append_nil] at this
    rw [this]
    simp [spRun]
  refine ⟨?_, ?_, ?_, ?_, ?_⟩
  · rw [numS_un (hua c), natS_digs (by omega) (by simp [hne]) (by intro y hy; rcases List.mem_append.1 hy with h | h; exact hda' y h; exact hdc' y h)]
    rfl
  · rw [numS_un (hua _), hpf, spRun_digs true 10 a _ _ _ _ hne hda', spRun, if_pos rfl, if_pos ⟨rfl, rfl⟩, hpc, dvb_app]
    rfl
  · rw [numS_un (hua _), natS_base (by omega), spRun_digs false 10 a _ _ _ _ hne hda', spRun, if_pos rfl, if_neg (by simp)]
    rfl
  · rw [numS_un (hua _), hpf, spRun_digs true 10 a _ _ _ _ hne hda', spRun, if_pos rfl, if_pos ⟨rfl, rfl⟩, spRun, if_pos rfl, if_neg (by simp)]
    rfl
  · rw [List.append_assoc, numS_un (hua _), hpf, spRun_digs true 10 a _ _ _ _ hne hda', spRun_digs true 10 c _ _ _ _ hc hdc', spRun, if_pos rfl, if_pos ⟨rfl, rfl⟩]
    simp [spRun]

end Go.Proofs.YtocadbghhoibnaaFmt
