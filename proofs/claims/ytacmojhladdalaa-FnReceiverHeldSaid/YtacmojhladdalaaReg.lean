/- A rule for a region that draws its order: each operation but the last keeps what is known of the others (worlds only grow by a preorder E); the last one comes when all others are done. Plain: no program in sight. -/
import Derived.Orders
import Derived.Tactics
import Derived.Below
namespace Go.Proofs.Ytacmojhladdalaa
open Go.RowKit

section region
variable {P : Program} {Q : Exit → Act → World → Prop}

/-- Operation o of the region l has an edge to operation j. -/
def hasEdge (o : Oper) (j : Nat) : Bool := o.after.any fun e => Region.binds .any e && e.on == j

def okOp (l : List Oper) (k : Nat) (o : Oper) : Bool :=
  o.after.all (fun e => !Region.binds .any e || decide (e.on < k)) &&
  (o.looksAt l.toArray).all (fun t => (List.range l.length).all fun j => match l[j]? with
    | some oj => oj.dst != some t || hasEdge o j
    | none => true) &&
  (match o.op with | .defer _ => false | .select .. => false | _ => true) &&
  (List.range l.length).all (fun j => j == k || match l[j]? with | some oj => oj.dst == none || oj.dst != o.dst | none => true)

def okD (l : List Oper) : Bool :=
  (List.range l.length).all (fun k => match l[k]? with | some o => okOp l k o | none => true) &&
  (List.range (l.length - 1)).all (fun j => (List.range l.length).any fun k => decide (j < k) && match l[k]? with | some o => hasEdge o j | none => false)

/-- Every frame that the region's operations may have made of a. -/
def AllPuts (F : Act → Prop) : List Oper → Act → Prop
  | [], a => F a
  | o :: l, a => ∀ u, AllPuts F l (a.put o.dst u)

/-- What is known of the slots that an operation looks at. -/
def KnownD (Ds : List (Value → World → Prop)) (l : List Oper) (ts : List Tmp) (a : Act) (w : World) : Prop :=
  match ts with
  | [] => True
  | t :: ts => (match l.findIdx? (fun o => o.dst == some t) with
      | some j => (Ds.getD j fun _ _ => True) (a.tmps.getD t undef) w
      | none => True) ∧ KnownD Ds l ts a w

/-- What an operation's run must come to. -/
def StepPost (E : World → World → Prop) (D : Value → World → Prop) (d : Option Tmp) (ds : List Deferred) (w : World) (Q : Exit → Act → World → Prop) : Exit → Act → World → Prop
  | .normal, a', w' => a'.defers = ds ∧ E w w' ∧ D (match d with | some t => a'.tmps.getD t undef | none => undef) w'
  | e, a', w' => Q e a' w'

/-- The operations but the last, one by one. -/
def StepsD (P : Program) (E : World → World → Prop) (Q : Exit → Act → World → Prop) (a0 : Act) (w0 : World) (Ds : List (Value → World → Prop)) (l : List Oper) : Nat → List Oper → Prop
  | _, [] => True
  | k, o :: rest => (match rest with
      | [] => True
      | _ :: _ => AllPuts (fun a => ∀ w, E w0 w → KnownD Ds l (o.looksAt l.toArray) a w → wpList P l.toArray (StepPost E (Ds.getD k fun _ _ => True) o.dst a0.defers w Q) [o] a w) l a0 ∧ StepsD P E Q a0 w0 Ds l (k + 1) rest)

/-- The last operation, all others done. -/
def LastD (P : Program) (Q : Exit → Act → World → Prop) (l : List Oper) (w : World) : List Oper → List (Value → World → Prop) → Act → Prop
  | [], _, _ => True
  | [o], _, a => wpList P l.toArray Q [o] a w
  | o :: o' :: rest, Ds, a => ∀ u, (Ds.headD fun _ _ => True) u w → LastD P Q l w (o' :: rest) Ds.tail (a.put o.dst u)

/-- The frame a, with the values of the operations that are listed. -/
structure Held (E : World → World → Prop) (Ds : List (Value → World → Prop)) (l : List Oper) (a0 : Act) (w0 : World) (listed : Array Bool) (a : Act) (w : World) : Prop where
  ext : E w0 w
  defers : a.defers = a0.defers
  size : a.tmps.size = a0.tmps.size
  other : ∀ t, (∀ j o, l[j]? = some o → o.dst = some t → listed.getD j false = false) → a.tmps[t]? = a0.tmps[t]?
  vals : ∀ j o, l[j]? = some o → listed.getD j false = true → (Ds.getD j fun _ _ => True) (match o.dst with | some t => a.tmps.getD t undef | none => undef) w
  down : ∀ j o, l[j]? = some o → listed.getD j false = true → ∀ i, hasEdge o i = true → listed.getD i false = true
  len : listed.size = l.length

theorem putAll_of {l : List Oper} {a0 a : Act} (hd : a.defers = a0.defers) (hs : a.tmps.size = a0.tmps.size) (F : Act → Prop) :
    ∀ (l' : List Oper) (b : Act), b.defers = a.defers → b.tmps.size = a.tmps.size → (∀ t, (∀ o ∈ l', o.dst ≠ some t) → b.tmps[t]? = a.tmps[t]?) → AllPuts F l' b → F a
  | [], b, h1, h2, h3, h => by
    have : b = a := by
      cases a; cases b
      simp only at h1 h2 h3 ⊢
      subst h1
      congr 1
      apply Array.ext_getElem?
      intro t
      exact h3 t (by simp)
    exact this ▸ h
  | o :: l', b, h1, h2, h3, h => by
    cases hdst : o.dst with
    | none =>
      refine putAll_of (l := l) hd hs F l' (b.put o.dst undef) ?_ ?_ ?_ (h undef)
      · rw [hdst]; exact h1
      · rw [hdst]; exact h2
      · rw [hdst]; intro t ht; exact h3 t (fun o' ho' => by
          rcases List.mem_cons.1 ho' with rfl | ho'
          · rw [hdst]; simp
          · exact ht o' ho')
    | some d =>
      refine putAll_of (l := l) hd hs F l' (b.put o.dst (a.tmps.getD d undef)) ?_ ?_ ?_ (h _)
      · rw [hdst]; exact h1
      · rw [hdst]; simp [Act.put, h2]
      · rw [hdst]; intro t ht
        simp only [Act.put]
        by_cases hdt : d = t
        · subst hdt
          by_cases hlt : d < b.tmps.size
          · rw [Array.getElem?_setIfInBounds_self_of_lt hlt]
            have : d < a.tmps.size := h2 ▸ hlt
            simp [this]
          · rw [Array.getElem?_eq_none (by simpa using hlt), Array.getElem?_eq_none (by rw [← h2]; simpa using hlt)]
        · rw [Array.getElem?_setIfInBounds_ne hdt]
          exact h3 t (fun o' ho' => by
            rcases List.mem_cons.1 ho' with rfl | ho'
            · rw [hdst]; simpa using hdt
            · exact ht o' ho')

theorem stepsD_get {E : World → World → Prop} {a0 : Act} {w0 : World} {Ds : List (Value → World → Prop)} {l : List Oper} :
    ∀ (l' : List Oper) (k i : Nat) (o : Oper), StepsD P E Q a0 w0 Ds l k l' → l'[i]? = some o → i + 1 < l'.length →
      AllPuts (fun a => ∀ w, E w0 w → KnownD Ds l (o.looksAt l.toArray) a w → wpList P l.toArray (StepPost E (Ds.getD (k + i) fun _ _ => True) o.dst a0.defers w Q) [o] a w) l a0
  | [], _, _, _, _, h, _ => by simp at h
  | [_], _, i, _, _, _, h => by simp at h
  | o' :: o'' :: rest, k, 0, o, hs, h, _ => by
    simp at h; subst h; simpa using hs.1
  | o' :: o'' :: rest, k, i + 1, o, hs, h, hl => by
    have := stepsD_get (o'' :: rest) (k + 1) i o hs.2 (by simpa using h) (by simp at hl ⊢; omega)
    rw [show k + (i + 1) = k + 1 + i by omega]
    exact this

theorem known_of {E : World → World → Prop} {Ds : List (Value → World → Prop)} {l : List Oper} {a0 : Act} {w0 : World} {listed : Array Bool} {a : Act} {w : World}
    (h : Held E Ds l a0 w0 listed a w) : ∀ (ts : List Tmp), (∀ t ∈ ts, ∀ j o, l[j]? = some o → o.dst = some t → listed.getD j false = true) → KnownD Ds l ts a w
  | [], _ => trivial
  | t :: ts, hts => by
    refine ⟨?_, known_of h ts fun t' ht' => hts t' (List.mem_cons_of_mem _ ht')⟩
    split
    · rename_i j hj
      rw [List.findIdx?_eq_some_iff_getElem] at hj
      obtain ⟨hlt, hp, _⟩ := hj
      have hd : (l[j]).dst = some t := by simpa using hp
      have hg : l[j]? = some l[j] := List.getElem?_eq_getElem hlt
      have := h.vals j _ hg (hts t (by simp) j _ hg hd)
      simpa [hd] using this
    · trivial

theorem wp_put {o : Oper} {a : Act} {w : World} {K : Act → World → Prop} (h : o.wp P a w K Q) :
    o.wp P a w (fun a' w' => K a' w' ∧ ((∃ v, a' = a.put o.dst v) ∨ a'.defers.length = a.defers.length + 1)) Q := by
  unfold Oper.wp at *
  generalize hr : (execOp a.eval o).run P w = r at *
  cases r with
  | ok n w' =>
    cases n <;> simp only [Oper.upon] at h ⊢
    case value v => exact ⟨h, .inl ⟨v, rfl⟩⟩
    case skip => exact ⟨h, .inl ⟨_, rfl⟩⟩
    case enter f args =>
      refine h.mono fun e w'' he => ?_
      cases e with
      | returned u => exact ⟨he, .inl ⟨u, rfl⟩⟩
      | panicked c => exact he
      | outgrown => exact he
    case row row args => exact h.mono fun u w'' he => ⟨he, .inl ⟨u, rfl⟩⟩
    case defer d => refine ⟨h, .inr ?_⟩; cases o.dst <;> simp [Act.put]
  | halt x w' => cases x <;> simp only [Oper.upon] at h ⊢ <;> exact h

theorem wpList_one {ops : Array Oper} {R : Exit → Act → World → Prop} {o : Oper} {a : Act} {w : World} {K : Act → World → Prop} (hK : ∀ a' w', R .normal a' w' → (∃ v, a' = a.put o.dst v) → K a' w')
    (hR : ∀ a' w', R .normal a' w' → a'.defers = a.defers) (hp : ∀ c a' w', R (.panic c) a' w' → Q (.panic c) a' w') (ho : ∀ a' w', R .outgrown a' w' → Q .outgrown a' w') {i : Nat} (hi : ops[i]? = some o)
    (h : wpList P ops R [o] a w) : wpOp P ops Q i K a w := by
  unfold wpOp
  simp only [hi]
  unfold wpList at h
  split
  · rename_i hw
    rw [if_pos hw] at h
    rcases h with h | ⟨h1, a1, w1, h2⟩
    · left
      have h' := wp_put h
      have : ∀ r, o.upon P a (fun a' w' => wpList P ops R [] a' w' ∧ ((∃ v, a' = a.put o.dst v) ∨ a'.defers.length = a.defers.length + 1)) R r → o.upon P a K Q r := by
        intro r hr
        have key : ∀ a' w', wpList P ops R [] a' w' ∧ ((∃ v, a' = a.put o.dst v) ∨ a'.defers.length = a.defers.length + 1) → K a' w' := by
          rintro a' w' ⟨q1, q2⟩
          refine hK a' w' q1 (q2.resolve_right fun q => ?_)
          have := hR a' w' q1
          rw [this] at q; omega
        cases r with
        | ok n w' =>
          cases n <;> simp only [Oper.upon] at hr ⊢
          case value v => exact key _ _ hr
          case skip => exact key _ _ hr
          case defer d => exact key _ _ hr
          case enter f args =>
            refine hr.mono fun e w'' he => ?_
            cases e with
            | returned u => exact key _ _ he
            | panicked c => exact hp _ _ _ he
            | outgrown => obtain ⟨a2, w2, h2⟩ := he; exact ⟨a2, w2, ho _ _ h2⟩
          case row row args => exact hr.mono fun u w'' he => key _ _ he
        | halt x w' => cases x <;> simp only [Oper.upon] at hr ⊢ <;> first | exact hp _ _ _ hr | exact hr
      exact this _ h'
    · right; exact ⟨h1, a1, w1, ho _ _ h2⟩
  · rename_i hw
    rw [if_neg hw] at h
    exact hK _ _ h ⟨undef, rfl⟩

theorem lastD_of {l : List Oper} {a : Act} {w : World} :
    ∀ (l' : List Oper) (Ds : List (Value → World → Prop)) (b : Act) (o : Oper), l'.getLast? = some o → b.defers = a.defers → b.tmps.size = a.tmps.size →
      (∀ t, (∀ o ∈ l'.dropLast, o.dst ≠ some t) → b.tmps[t]? = a.tmps[t]?) →
      (∀ i o, l'[i]? = some o → i + 1 < l'.length → (Ds.getD i fun _ _ => True) (match o.dst with | some t => a.tmps.getD t undef | none => undef) w) →
      LastD P Q l w l' Ds b → wpList P l.toArray Q [o] a w
  | [], _, _, _, h, _, _, _, _, _ => by simp at h
  | [o], _, b, o', h0, h1, h2, h3, _, h => by
    simp at h0; subst h0
    have : b = a := by
      cases a; cases b
      simp only at h1 h2 h3 ⊢
      subst h1
      congr 1
      apply Array.ext_getElem?
      intro t
      exact h3 t (by simp)
    exact this ▸ h
  | o :: o' :: rest, Ds, b, ol, h0, h1, h2, h3, h4, h => by
    have hv := h4 0 o (by simp) (by simp)
    have hv' : (Ds.headD fun _ _ => True) (match o.dst with | some t => a.tmps.getD t undef | none => undef) w := by
      cases Ds with | nil => trivial | cons D Ds => exact hv
    have hD : ∀ i o1, (o' :: rest)[i]? = some o1 → i + 1 < (o' :: rest).length → (Ds.tail.getD i fun _ _ => True) (match o1.dst with | some t => a.tmps.getD t undef | none => undef) w := by
      intro i o1 hi hl
      have := h4 (i + 1) o1 (by simpa using hi) (by simp at hl ⊢; omega)
      cases Ds with | nil => trivial | cons D Ds => exact this
    refine lastD_of (o' :: rest) Ds.tail _ ol (by simpa using h0) ?_ ?_ ?_ hD (h _ hv')
    · cases hd : o.dst <;> simpa [Act.put] using h1
    · cases hd : o.dst <;> simpa [Act.put] using h2
    · intro t ht
      cases hdst : o.dst with
      | none =>
        exact h3 t (fun o1 ho1 => by
          rw [List.dropLast_cons_cons] at ho1
          rcases List.mem_cons.1 ho1 with rfl | ho1
          · rw [hdst]; simp
          · exact ht o1 ho1)
      | some d =>
        simp only [Act.put]
        by_cases hdt : d = t
        · subst hdt
          by_cases hlt : d < b.tmps.size
          · rw [Array.getElem?_setIfInBounds_self_of_lt hlt]
            have : d < a.tmps.size := h2 ▸ hlt
            simp [this]
          · rw [Array.getElem?_eq_none (by simpa using hlt), Array.getElem?_eq_none (by rw [← h2]; simpa using hlt)]
        · rw [Array.getElem?_setIfInBounds_ne hdt]
          exact h3 t (fun o1 ho1 => by
            rw [List.dropLast_cons_cons] at ho1
            rcases List.mem_cons.1 ho1 with rfl | ho1
            · rw [hdst]; simpa using hdt
            · exact ht o1 ho1)

/-- A preorder of worlds that a draw keeps. -/
structure PreW (E : World → World → Prop) : Prop where
  refl : ∀ w, E w w
  trans : ∀ {a b c}, E a b → E b c → E a c
  drew : ∀ w, E w w.drew

theorem okD_op {l : List Oper} (h : okD l = true) {k : Nat} {o : Oper} (hk : l[k]? = some o) : okOp l k o = true := by
  simp only [okD, Bool.and_eq_true, List.all_eq_true, List.mem_range] at h
  have := h.1 k (List.getElem?_eq_some_iff.1 hk).1
  simpa [hk] using this

theorem okD_edge {l : List Oper} (h : okD l = true) {k : Nat} {o : Oper} (hk : l[k]? = some o) {e : Edge} (he : e ∈ o.after) (hb : Region.binds .any e = true) : e.on < k := by
  have := okD_op h hk
  simp only [okOp, Bool.and_eq_true] at this
  have h1 := Array.all_eq_true_iff_forall_mem.1 this.1.1.1 e he
  simpa [hb] using h1

theorem okD_looks {l : List Oper} (h : okD l = true) {k : Nat} {o : Oper} (hk : l[k]? = some o) {t : Tmp} (ht : t ∈ o.looksAt l.toArray) {j : Nat} {oj : Oper} (hj : l[j]? = some oj) (hd : oj.dst = some t) : hasEdge o j = true := by
  have := okD_op h hk
  simp only [okOp, Bool.and_eq_true, List.all_eq_true, List.mem_range] at this
  have h1 := this.1.1.2 t ht j (List.getElem?_eq_some_iff.1 hj).1
  simpa [hj, hd] using h1

theorem okD_dst {l : List Oper} (h : okD l = true) {k : Nat} {o : Oper} (hk : l[k]? = some o) {j : Nat} {oj : Oper} (hj : l[j]? = some oj) {t : Tmp} (hd : oj.dst = some t) (hne : j ≠ k) : o.dst ≠ some t := by
  have := okD_op h hk
  simp only [okOp, Bool.and_eq_true, List.all_eq_true, List.mem_range] at this
  have h1 := this.2 j (List.getElem?_eq_some_iff.1 hj).1
  simp only [hj, hd, Bool.or_eq_true, beq_iff_eq, hne, false_or, reduceCtorEq, bne_iff_ne, ne_eq] at h1
  exact fun e => h1 e.symm

theorem okD_last {l : List Oper} (h : okD l = true) {j : Nat} (hj : j + 1 < l.length) : ∃ k o, j < k ∧ l[k]? = some o ∧ hasEdge o j = true := by
  simp only [okD, Bool.and_eq_true, List.all_eq_true, List.mem_range, List.any_eq_true, decide_eq_true_eq] at h
  obtain ⟨k, hk, hlt, h2⟩ := h.2 j (by omega)
  refine ⟨k, l[k], hlt, List.getElem?_eq_getElem hk, ?_⟩
  simpa [List.getElem?_eq_getElem hk] using h2

theorem hasEdge_iff {o : Oper} {j : Nat} : hasEdge o j = true ↔ ∃ e ∈ o.after, Region.binds .any e = true ∧ e.on = j := by
  unfold hasEdge
  rw [Array.any_eq_true']
  simp

theorem getD_both {listed : Array Bool} {j : Nat} (h : j < listed.size) (d e : Bool) : listed.getD j d = listed.getD j e := by simp [h]

theorem ready_ne {l : List Oper} (hok : okD l = true) {listed : Array Bool} (hs : listed.size = l.length) : ∀ (k : Nat), k < l.length → listed.getD k true = false → ∃ i, i ∈ Region.ready .any l.toArray listed := by
  intro k
  induction k using Nat.strongRecOn with
  | _ k ih =>
    intro hk hu
    have ho : l[k]? = some l[k] := List.getElem?_eq_getElem hk
    by_cases hall : ∀ e ∈ (l[k]).after, Region.binds .any e = true → listed.getD e.on false = true
    · exact ⟨k, mem_ready.2 ⟨hu, l[k], by rw [← ho]; simp, hall⟩⟩
    · simp only [Classical.not_forall] at hall
      obtain ⟨e, he, hb, hf⟩ := hall
      have hlt := okD_edge hok ho he hb
      refine ih e.on hlt (by omega) ?_
      rw [getD_both (by omega) true false]
      simpa using hf

theorem count_set {listed : Array Bool} {i : Nat} (h : listed.getD i true = false) : (listed.setIfInBounds i true).toList.count false + 1 = listed.toList.count false := by
  have hi : i < listed.size := by
    rcases Nat.lt_or_ge i listed.size with h' | h'
    · exact h'
    · simp [Array.getElem?_eq_none h'] at h
  have hv : listed.toList[i]'(by simpa using hi) = false := by simpa [hi] using h
  rw [Array.toList_setIfInBounds, List.count_set (by simpa using hi), hv]
  have hpos : 0 < listed.toList.count false := List.count_pos_iff.2 (hv ▸ List.getElem_mem _)
  have e1 : (if (false == false) = true then 1 else 0) = 1 := by decide
  have e2 : (if (true == false) = true then 1 else 0) = 0 := by decide
  rw [e1, e2]; omega

theorem wp_region_D {E : World → World → Prop} (hE : PreW E) {id : Nat} {l : List Oper} {a0 : Act} {w0 : World} (hm : P.follows .mixedOrders = true)
    (Ds : List (Value → World → Prop)) (hok : okD l = true) (hmono : ∀ D ∈ Ds, ∀ v w w', E w w' → D v w → D v w') (hne : l.isEmpty = false)
    (hsteps : StepsD P E Q a0 w0 Ds l 0 l) (hlast : ∀ w, E w0 w → LastD P Q l w l Ds a0) : (Code.region id l.toArray true).wp P Q a0 w0 := by
  have hmono' : ∀ j v w w', E w w' → (Ds.getD j fun _ _ => True) v w → (Ds.getD j fun _ _ => True) v w' := by
    intro j v w w' he h
    by_cases hj : j < Ds.length
    · have : (Ds.getD j fun _ _ => True) = Ds[j] := by simp [hj]
      rw [this] at h ⊢
      exact hmono _ (List.getElem_mem _) v w w' he h
    · have : (Ds.getD j fun _ _ => True) = fun _ _ => True := by simp [Nat.not_lt.1 hj]
      rw [this]; trivial
  refine wp_region_any hm ?_
  change wpAny P .any l.toArray Q l.toArray.size (Array.replicate l.toArray.size false) a0 w0.drew
  have hl0 : 0 < l.length := by cases l <;> simp at hne ⊢
  obtain ⟨m, hmlen⟩ : ∃ m, l.length = m + 1 := ⟨l.length - 1, by omega⟩
  have hlastop : l[m]? = some l[m] := List.getElem?_eq_getElem (by omega)
  have hgl : l.getLast? = some l[m] := by rw [List.getLast?_eq_getElem?]; simp [hmlen]
  suffices H : ∀ (fuel : Nat) (listed : Array Bool) (a : Act) (w : World), Held E Ds l a0 w0 listed a w → listed.getD m true = false → listed.toList.count false ≤ fuel → wpAny P .any l.toArray Q fuel listed a w by
    refine H _ _ _ _ ⟨hE.drew w0, rfl, rfl, fun _ _ => rfl, fun j o hj h => ?_, fun j o hj h => ?_, by simp⟩ (by simp [hmlen]) ?_
    · have : j < l.length := (List.getElem?_eq_some_iff.1 hj).1
      simp [this] at h
    · have : j < l.length := (List.getElem?_eq_some_iff.1 hj).1
      simp [this] at h
    · simp
  intro fuel
  induction fuel with
  | zero =>
    intro listed a w hH hmu hc
    exfalso
    have hi : m < listed.size := by rw [hH.len]; omega
    have hv : listed.toList[m]'(by simpa using hi) = false := by simpa [hi] using hmu
    have : 0 < listed.toList.count false := List.count_pos_iff.2 (hv ▸ List.getElem_mem _)
    omega
  | succ fuel ih =>
    intro listed a w hH hmu hc
    refine ⟨fun h0 => ?_, fun i hi => ?_⟩
    · obtain ⟨i, hi⟩ := ready_ne hok hH.len m (by omega) hmu
      rw [h0] at hi; cases hi
    · obtain ⟨hiu, o, ho, hdep⟩ := mem_ready.1 hi
      have ho' : l[i]? = some o := by simpa using ho
      have hil : i < l.length := (List.getElem?_eq_some_iff.1 ho').1
      have hedge : ∀ j, hasEdge o j = true → listed.getD j false = true := by
        intro j hj
        obtain ⟨e, he, hb, rfl⟩ := hasEdge_iff.1 hj
        exact hdep e he hb
      by_cases him : i = m
      · subst him
        have hall : ∀ j, j < i → listed.getD j false = true := by
          have : ∀ d j, i - j = d → j < i → listed.getD j false = true := by
            intro d
            induction d using Nat.strongRecOn with
            | _ d ihd =>
              intro j hd hj
              obtain ⟨k, ok, hjk, hok', hek⟩ := okD_last hok (j := j) (by omega)
              have hkl : k < l.length := (List.getElem?_eq_some_iff.1 hok').1
              by_cases hki : k = i
              · subst hki
                rw [ho'] at hok'
                cases hok'
                exact hedge j hek
              · exact hH.down k ok hok' (ihd (i - k) (by omega) k rfl (by omega)) j hek
          exact fun j hj => this _ j rfl hj
        have hoe : o = l[i] := by rw [ho'] at hlastop; exact Option.some.inj hlastop
        have hwl : wpList P l.toArray Q [o] a w := by
          refine lastD_of l Ds a0 o (by rw [hgl, hoe]) hH.defers.symm hH.size.symm ?_ ?_ (hlast w hH.ext)
          · intro t ht
            refine (hH.other t fun j oj hj hd => ?_).symm
            have hjl : j < l.length := (List.getElem?_eq_some_iff.1 hj).1
            by_cases hji : j = i
            · subst hji; rw [getD_both (by rw [hH.len]; omega) false true]; exact hiu
            · exact absurd hd (ht oj (by
                rw [List.dropLast_eq_take]
                have : (l.take (l.length - 1))[j]? = some oj := by rw [List.getElem?_take, if_pos (by omega)]; exact hj
                exact List.mem_of_getElem? this))
          · intro j oj hj hjl
            exact hH.vals j oj hj (hall j (by omega))
        have hdone : ∀ a' w', Q .normal a' w' → wpAny P .any l.toArray Q fuel (listed.setIfInBounds i true) a' w' := by
          intro a' w' hq
          refine wpAny_done ?_ hq fuel
          rw [List.eq_nil_iff_forall_not_mem]
          intro j hj
          obtain ⟨hju, oj, hoj, _⟩ := mem_ready.1 hj
          have hjl : j < l.length := by have := (Array.getElem?_eq_some_iff.1 hoj).1; simpa using this
          have : (listed.setIfInBounds i true).getD j false = true := by
            by_cases hji : j = i
            · subst hji; simp [hH.len, hil]
            · exact getD_set_true (hall j (by omega))
          rw [getD_both (by simp [hH.len, hjl]) false true] at this
          rw [this] at hju; cases hju
        have hop : wpOp P l.toArray Q i (fun a' w' => Q .normal a' w') a w := by
          unfold wpOp
          simp only [ho]
          exact hwl
        exact wpOp_mono hdone hop
      · have hi1 : i + 1 < l.length := by omega
        have hst := stepsD_get l 0 i o hsteps ho' hi1
        rw [Nat.zero_add] at hst
        have hst' := putAll_of (l := l) hH.defers hH.size _ l a0 hH.defers.symm hH.size.symm (fun t ht => (hH.other t fun j oj hj hd => absurd hd (ht oj (List.mem_of_getElem? hj))).symm) hst
        have hkn := known_of hH (o.looksAt l.toArray) (fun t ht j oj hj hd => hedge j (okD_looks hok ho' ht hj hd))
        refine wpList_one (R := StepPost E (Ds.getD i fun _ _ => True) o.dst a0.defers w Q) ?_ (fun a' w' h => h.1.trans hH.defers.symm) (fun _ _ _ h => h) (fun _ _ h => h) ho (hst' w hH.ext hkn)
        rintro a' w' ⟨h1, h2, h3⟩ ⟨v, rfl⟩
        refine ih _ _ _ ⟨hE.trans hH.ext h2, h1, ?_, ?_, ?_, ?_, by simp [hH.len]⟩ ?_ ?_
        · cases o.dst <;> simpa [Act.put] using hH.size
        · intro t ht
          have hne' : o.dst ≠ some t := fun hd => by
            have := ht i o ho' hd
            simp [hH.len, hil] at this
          have hold : a.tmps[t]? = a0.tmps[t]? := hH.other t fun j oj hj hd => by
            have := ht j oj hj hd
            by_cases hji : i = j
            · subst hji; rw [ho'] at hj; cases hj; exact absurd hd hne'
            · rwa [getD_set_ne false hji] at this
          cases hd : o.dst with
          | none => exact hold
          | some d => simp only [Act.put]; rw [Array.getElem?_setIfInBounds_ne (fun e => hne' (by rw [hd, e]))]; exact hold
        · intro j oj hj hjl
          by_cases hji : i = j
          · subst hji
            rw [ho'] at hj
            cases hj
            exact h3
          · rw [getD_set_ne false hji] at hjl
            have hv := hmono' j _ w w' h2 (hH.vals j oj hj hjl)
            cases hdj : oj.dst with
            | none => simpa [hdj] using hv
            | some t =>
              have hne' := okD_dst hok ho' hj hdj (fun e => hji e.symm)
              simp only [hdj] at hv ⊢
              cases hd : o.dst with
              | none => simpa [Act.put] using hv
              | some d =>
                have : d ≠ t := fun e => hne' (by rw [hd, e])
                simpa [Act.put, Array.getElem?_setIfInBounds_ne this] using hv
        · intro j oj hj hjl k hk
          by_cases hji : i = j
          · subst hji
            rw [ho'] at hj
            cases hj
            exact getD_set_true (hedge k hk)
          · rw [getD_set_ne false hji] at hjl
            exact getD_set_true (hH.down j oj hj hjl k hk)
        · rw [getD_set_ne true him]; exact hmu
        · have := count_set hiu
          omega

end region
end Go.Proofs.Ytacmojhladdalaa
