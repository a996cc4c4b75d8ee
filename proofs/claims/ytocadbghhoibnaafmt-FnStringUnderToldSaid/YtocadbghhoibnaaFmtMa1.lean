/- Base texts of the seat, merged: Reg, Base, Row, Nat, Spec, Help, Spec2, Spec3, Same, Lev, Put, Str1, Make. -/
import Derived.Orders
import Derived.Tactics
import Derived.Below
import Derived.WalkKit
import Derived.WalkSpells
import Derived.WalkLawsBesides
import Derived.Lib.Hide
import Derived.Test.YtocadbghhoibnaaFmtRows
import Derived.ProofKit
import Derived.OpenShut
import Derived.ShutString
import Derived.ChangeOld
import Derived.SizedLaws
import Derived.Lib.SmallJoins
import Derived.Test.YtocadbghhoibnaaFmtProg
import Derived.Test.YtocadbghhoibnaaFmtM01
import Derived.BigQuiet
import Derived.Deep.QuietTactic
import Derived.Outline
import Derived.LaidEqlPtr
import Derived.Lib.Builder
import Derived.Laws.Tables
import Derived.RegionTactic
import Derived.LaidEql
set_option linter.unusedSimpArgs false
set_option linter.unusedVariables false

/- A rule for a region that draws its order: each operation but the last keeps what is known of the others (worlds only grow by a preorder E); the last one comes when all others are done. Plain: no program in sight. -/
namespace Go.Proofs.YtocadbghhoibnaaFmt
open Go.RowKit

section region
variable {P : Program} {Q : Exit → Act → World → Prop}

/-- Operation o of the region l has an edge to operation j. -/
def hasEdge (o : Oper) (j : Nat) : Bool := o.after.any fun e => Region.binds .any e && e.on == j

def okOp (l : List Oper) (k : Nat) (o : Oper) : Bool :=
  o.after.all (fun e => !Region.binds .any e || decide (e.on < k)) &&
  (o.looksAt l.toArray).all (fun t => (List.range l.length).all fun j => match l[j]? with
    | some oj => oj.dst != some t || hasEdge o j
    | none => true) &&
  (match o.op with | .defer _ => false | .select .. => false | _ => true) &&
  (List.range l.length).all (fun j => j == k || match l[j]? with | some oj => oj.dst == none || oj.dst != o.dst | none => true)

def okD (l : List Oper) : Bool :=
  (List.range l.length).all (fun k => match l[k]? with | some o => okOp l k o | none => true) &&
  (List.range (l.length - 1)).all (fun j => (List.range l.length).any fun k => decide (j < k) && match l[k]? with | some o => hasEdge o j | none => false)

/-- Every frame that the region's operations may have made of a. -/
def AllPuts (F : Act → Prop) : List Oper → Act → Prop
  | [], a => F a
  | o :: l, a => ∀ u, AllPuts F l (a.put o.dst u)

/-- What is known of the slots that an operation looks at. -/
def KnownD (Ds : List (Value → World → Prop)) (l : List Oper) (ts : List Tmp) (a : Act) (w : World) : Prop :=
  match ts with
  | [] => True
  | t :: ts => (match l.findIdx? (fun o => o.dst == some t) with
      | some j => (Ds.getD j fun _ _ => True) (a.tmps.getD t undef) w
      | none => True) ∧ KnownD Ds l ts a w

/-- What an operation's run must come to. -/
def StepPost (E : World → World → Prop) (D : Value → World → Prop) (d : Option Tmp) (ds : List Deferred) (w : World) (Q : Exit → Act → World → Prop) : Exit → Act → World → Prop
  | .normal, a', w' => a'.defers = ds ∧ E w w' ∧ D (match d with | some t => a'.tmps.getD t undef | none => undef) w'
  | e, a', w' => Q e a' w'

/-- The operations but the last, one by one. -/
def StepsD (P : Program) (E : World → World → Prop) (Q : Exit → Act → World → Prop) (a0 : Act) (w0 : World) (Ds : List (Value → World → Prop)) (l : List Oper) : Nat → List Oper → Prop
  | _, [] => True
  | k, o :: rest => (match rest with
      | [] => True
      | _ :: _ => AllPuts (fun a => ∀ w, E w0 w → KnownD Ds l (o.looksAt l.toArray) a w → wpList P l.toArray (StepPost E (Ds.getD k fun _ _ => True) o.dst a0.defers w Q) [o] a w) l a0 ∧ StepsD P E Q a0 w0 Ds l (k + 1) rest)

/-- The last operation, all others done. -/
def LastD (P : Program) (Q : Exit → Act → World → Prop) (l : List Oper) (w : World) : List Oper → List (Value → World → Prop) → Act → Prop
  | [], _, _ => True
  | [o], _, a => wpList P l.toArray Q [o] a w
  | o :: o' :: rest, Ds, a => ∀ u, (Ds.headD fun _ _ => True) u w → LastD P Q l w (o' :: rest) Ds.tail (a.put o.dst u)

/-- The frame a, with the values of the operations that are listed. -/
structure Held (E : World → World → Prop) (Ds : List (Value → World → Prop)) (l : List Oper) (a0 : Act) (w0 : World) (listed : Array Bool) (a : Act) (w : World) : Prop where
  ext : E w0 w
  defers : a.defers = a0.defers
  size : a.tmps.size = a0.tmps.size
  other : ∀ t, (∀ j o, l[j]? = some o → o.dst = some t → listed.getD j false = false) → a.tmps[t]? = a0.tmps[t]?
  vals : ∀ j o, l[j]? = some o → listed.getD j false = true → (Ds.getD j fun _ _ => True) (match o.dst with | some t => a.tmps.getD t undef | none => undef) w
  down : ∀ j o, l[j]? = some o → listed.getD j false = true → ∀ i, hasEdge o i = true → listed.getD i false = true
  len : listed.size = l.length

theorem putAll_of {l : List Oper} {a0 a : Act} (hd : a.defers = a0.defers) (hs : a.tmps.size = a0.tmps.size) (F : Act → Prop) :
    ∀ (l' : List Oper) (b : Act), b.defers = a.defers → b.tmps.size = a.tmps.size → (∀ t, (∀ o ∈ l', o.dst ≠ some t) → b.tmps[t]? = a.tmps[t]?) → AllPuts F l' b → F a
  | [], b, h1, h2, h3, h => by
    have : b = a := by
      cases a; cases b
      simp only at h1 h2 h3 ⊢
      subst h1
      congr 1
      apply Array.ext_getElem?
      intro t
      exact h3 t (by simp)
    exact this ▸ h
  | o :: l', b, h1, h2, h3, h => by
    cases hdst : o.dst with
    | none =>
      refine putAll_of (l := l) hd hs F l' (b.put o.dst undef) ?_ ?_ ?_ (h undef)
      · rw [hdst]; exact h1
      · rw [hdst]; exact h2
      · rw [hdst]; intro t ht; exact h3 t (fun o' ho' => by
          rcases List.mem_cons.1 ho' with rfl | ho'
          · rw [hdst]; simp
          · exact ht o' ho')
    | some d =>
      refine putAll_of (l := l) hd hs F l' (b.put o.dst (a.tmps.getD d undef)) ?_ ?_ ?_ (h _)
      · rw [hdst]; exact h1
      · rw [hdst]; simp [Act.put, h2]
      · rw [hdst]; intro t ht
        simp only [Act.put]
        by_cases hdt : d = t
        · subst hdt
          by_cases hlt : d < b.tmps.size
          · rw [Array.getElem?_setIfInBounds_self_of_lt hlt]
            have : d < a.tmps.size := h2 ▸ hlt
            simp [this]
          · rw [Array.getElem?_eq_none (by simpa using hlt), Array.getElem?_eq_none (by rw [← h2]; simpa using hlt)]
        · rw [Array.getElem?_setIfInBounds_ne hdt]
          exact h3 t (fun o' ho' => by
            rcases List.mem_cons.1 ho' with rfl | ho'
            · rw [hdst]; simpa using hdt
            · exact ht o' ho')

theorem stepsD_get {E : World → World → Prop} {a0 : Act} {w0 : World} {Ds : List (Value → World → Prop)} {l : List Oper} :
    ∀ (l' : List Oper) (k i : Nat) (o : Oper), StepsD P E Q a0 w0 Ds l k l' → l'[i]? = some o → i + 1 < l'.length →
      AllPuts (fun a => ∀ w, E w0 w → KnownD Ds l (o.looksAt l.toArray) a w → wpList P l.toArray (StepPost E (Ds.getD (k + i) fun _ _ => True) o.dst a0.defers w Q) [o] a w) l a0
  | [], _, _, _, _, h, _ => by simp at h
  | [_], _, i, _, _, _, h => by simp at h
  | o' :: o'' :: rest, k, 0, o, hs, h, _ => by
    simp at h; subst h; simpa using hs.1
  | o' :: o'' :: rest, k, i + 1, o, hs, h, hl => by
    have := stepsD_get (o'' :: rest) (k + 1) i o hs.2 (by simpa using h) (by simp at hl ⊢; omega)
    rw [show k + (i + 1) = k + 1 + i by omega]
    exact this

theorem known_of {E : World → World → Prop} {Ds : List (Value → World → Prop)} {l : List Oper} {a0 : Act} {w0 : World} {listed : Array Bool} {a : Act} {w : World}
    (h : Held E Ds l a0 w0 listed a w) : ∀ (ts : List Tmp), (∀ t ∈ ts, ∀ j o, l[j]? = some o → o.dst = some t → listed.getD j false = true) → KnownD Ds l ts a w
  | [], _ => trivial
  | t :: ts, hts => by
    refine ⟨?_, known_of h ts fun t' ht' => hts t' (List.mem_cons_of_mem _ ht')⟩
    split
    · rename_i j hj
      rw [List.findIdx?_eq_some_iff_getElem] at hj
      obtain ⟨hlt, hp, _⟩ := hj
      have hd : (l[j]).dst = some t := by simpa using hp
      have hg : l[j]? = some l[j] := List.getElem?_eq_getElem hlt
      have := h.vals j _ hg (hts t (by simp) j _ hg hd)
      simpa [hd] using this
    · trivial

theorem wp_put {o : Oper} {a : Act} {w : World} {K : Act → World → Prop} (h : o.wp P a w K Q) :
    o.wp P a w (fun a' w' => K a' w' ∧ ((∃ v, a' = a.put o.dst v) ∨ a'.defers.length = a.defers.length + 1)) Q := by
  unfold Oper.wp at *
  generalize hr : (execOp a.eval o).run P w = r at *
  cases r with
  | ok n w' =>
    cases n <;> simp only [Oper.upon] at h ⊢
    case value v => exact ⟨h, .inl ⟨v, rfl⟩⟩
    case skip => exact ⟨h, .inl ⟨_, rfl⟩⟩
    case enter f args =>
      refine h.mono fun e w'' he => ?_
      cases e with
      | returned u => exact ⟨he, .inl ⟨u, rfl⟩⟩
      | panicked c => exact he
      | outgrown => exact he
    case row row args => exact h.mono fun u w'' he => ⟨he, .inl ⟨u, rfl⟩⟩
    case defer d => refine ⟨h, .inr ?_⟩; cases o.dst <;> simp [Act.put]
  | halt x w' => cases x <;> simp only [Oper.upon] at h ⊢ <;> exact h

theorem wpList_one {ops : Array Oper} {R : Exit → Act → World → Prop} {o : Oper} {a : Act} {w : World} {K : Act → World → Prop} (hK : ∀ a' w', R .normal a' w' → (∃ v, a' = a.put o.dst v) → K a' w')
    (hR : ∀ a' w', R .normal a' w' → a'.defers = a.defers) (hp : ∀ c a' w', R (.panic c) a' w' → Q (.panic c) a' w') (ho : ∀ a' w', R .outgrown a' w' → Q .outgrown a' w') {i : Nat} (hi : ops[i]? = some o)
    (h : wpList P ops R [o] a w) : wpOp P ops Q i K a w := by
  unfold wpOp
  simp only [hi]
  unfold wpList at h
  split
  · rename_i hw
    rw [if_pos hw] at h
    rcases h with h | ⟨h1, a1, w1, h2⟩
    · left
      have h' := wp_put h
      have : ∀ r, o.upon P a (fun a' w' => wpList P ops R [] a' w' ∧ ((∃ v, a' = a.put o.dst v) ∨ a'.defers.length = a.defers.length + 1)) R r → o.upon P a K Q r := by
        intro r hr
        have key : ∀ a' w', wpList P ops R [] a' w' ∧ ((∃ v, a' = a.put o.dst v) ∨ a'.defers.length = a.defers.length + 1) → K a' w' := by
          rintro a' w' ⟨q1, q2⟩
          refine hK a' w' q1 (q2.resolve_right fun q => ?_)
          have := hR a' w' q1
          rw [this] at q; omega
        cases r with
        | ok n w' =>
          cases n <;> simp only [Oper.upon] at hr ⊢
          case value v => exact key _ _ hr
          case skip => exact key _ _ hr
          case defer d => exact key _ _ hr
          case enter f args =>
            refine hr.mono fun e w'' he => ?_
            cases e with
            | returned u => exact key _ _ he
            | panicked c => exact hp _ _ _ he
            | outgrown => obtain ⟨a2, w2, h2⟩ := he; exact ⟨a2, w2, ho _ _ h2⟩
          case row row args => exact hr.mono fun u w'' he => key _ _ he
        | halt x w' => cases x <;> simp only [Oper.upon] at hr ⊢ <;> first | exact hp _ _ _ hr | exact hr
      exact this _ h'
    · right; exact ⟨h1, a1, w1, ho _ _ h2⟩
  · rename_i hw
    rw [if_neg hw] at h
    exact hK _ _ h ⟨undef, rfl⟩

theorem lastD_of {l : List Oper} {a : Act} {w : World} :
    ∀ (l' : List Oper) (Ds : List (Value → World → Prop)) (b : Act) (o : Oper), l'.getLast? = some o → b.defers = a.defers → b.tmps.size = a.tmps.size →
      (∀ t, (∀ o ∈ l'.dropLast, o.dst ≠ some t) → b.tmps[t]? = a.tmps[t]?) →
      (∀ i o, l'[i]? = some o → i + 1 < l'.length → (Ds.getD i fun _ _ => True) (match o.dst with | some t => a.tmps.getD t undef | none => undef) w) →
      LastD P Q l w l' Ds b → wpList P l.toArray Q [o] a w
  | [], _, _, _, h, _, _, _, _, _ => by simp at h
  | [o], _, b, o', h0, h1, h2, h3, _, h => by
    simp at h0; subst h0
    have : b = a := by
      cases a; cases b
      simp only at h1 h2 h3 ⊢
      subst h1
      congr 1
      apply Array.ext_getElem?
      intro t
      exact h3 t (by simp)
    exact this ▸ h
  | o :: o' :: rest, Ds, b, ol, h0, h1, h2, h3, h4, h => by
    have hv := h4 0 o (by simp) (by simp)
    have hv' : (Ds.headD fun _ _ => True) (match o.dst with | some t => a.tmps.getD t undef | none => undef) w := by
      cases Ds with | nil => trivial | cons D Ds => exact hv
    have hD : ∀ i o1, (o' :: rest)[i]? = some o1 → i + 1 < (o' :: rest).length → (Ds.tail.getD i fun _ _ => True) (match o1.dst with | some t => a.tmps.getD t undef | none => undef) w := by
      intro i o1 hi hl
      have := h4 (i + 1) o1 (by simpa using hi) (by simp at hl ⊢; omega)
      cases Ds with | nil => trivial | cons D Ds => exact this
    refine lastD_of (o' :: rest) Ds.tail _ ol (by simpa using h0) ?_ ?_ ?_ hD (h _ hv')
    · cases hd : o.dst <;> simpa [Act.put] using h1
    · cases hd : o.dst <;> simpa [Act.put] using h2
    · intro t ht
      cases hdst : o.dst with
      | none =>
        exact h3 t (fun o1 ho1 => by
          rw [List.dropLast_cons_cons] at ho1
          rcases List.mem_cons.1 ho1 with rfl | ho1
          · rw [hdst]; simp
          · exact ht o1 ho1)
      | some d =>
        simp only [Act.put]
        by_cases hdt : d = t
        · subst hdt
          by_cases hlt : d < b.tmps.size
          · rw [Array.getElem?_setIfInBounds_self_of_lt hlt]
            have : d < a.tmps.size := h2 ▸ hlt
            simp [this]
          · rw [Array.getElem?_eq_none (by simpa using hlt), Array.getElem?_eq_none (by rw [← h2]; simpa using hlt)]
        · rw [Array.getElem?_setIfInBounds_ne hdt]
          exact h3 t (fun o1 ho1 => by
            rw [List.dropLast_cons_cons] at ho1
            rcases List.mem_cons.1 ho1 with rfl | ho1
            · rw [hdst]; simpa using hdt
            · exact ht o1 ho1)

/-- A preorder of worlds that a draw keeps. -/
structure PreW (E : World → World → Prop) : Prop where
  refl : ∀ w, E w w
  trans : ∀ {a b c}, E a b → E b c → E a c
  drew : ∀ w, E w w.drew

theorem okD_op {l : List Oper} (h : okD l = true) {k : Nat} {o : Oper} (hk : l[k]? = some o) : okOp l k o = true := by
  simp only [okD, Bool.and_eq_true, List.all_eq_true, List.mem_range] at h
  have := h.1 k (List.getElem?_eq_some_iff.1 hk).1
  simpa [hk] using this

theorem okD_edge {l : List Oper} (h : okD l = true) {k : Nat} {o : Oper} (hk : l[k]? = some o) {e : Edge} (he : e ∈ o.after) (hb : Region.binds .any e = true) : e.on < k := by
  have := okD_op h hk
  simp only [okOp, Bool.and_eq_true] at this
  have h1 := Array.all_eq_true_iff_forall_mem.1 this.1.1.1 e he
  simpa [hb] using h1

theorem okD_looks {l : List Oper} (h : okD l = true) {k : Nat} {o : Oper} (hk : l[k]? = some o) {t : Tmp} (ht : t ∈ o.looksAt l.toArray) {j : Nat} {oj : Oper} (hj : l[j]? = some oj) (hd : oj.dst = some t) : hasEdge o j = true := by
  have := okD_op h hk
  simp only [okOp, Bool.and_eq_true, List.all_eq_true, List.mem_range] at this
  have h1 := this.1.1.2 t ht j (List.getElem?_eq_some_iff.1 hj).1
  simpa [hj, hd] using h1

theorem okD_dst {l : List Oper} (h : okD l = true) {k : Nat} {o : Oper} (hk : l[k]? = some o) {j : Nat} {oj : Oper} (hj : l[j]? = some oj) {t : Tmp} (hd : oj.dst = some t) (hne : j ≠ k) : o.dst ≠ some t := by
  have := okD_op h hk
  simp only [okOp, Bool.and_eq_true, List.all_eq_true, List.mem_range] at this
  have h1 := this.2 j (List.getElem?_eq_some_iff.1 hj).1
  simp only [hj, hd, Bool.or_eq_true, beq_iff_eq, hne, false_or, reduceCtorEq, bne_iff_ne, ne_eq] at h1
  exact fun e => h1 e.symm

theorem okD_last {l : List Oper} (h : okD l = true) {j : Nat} (hj : j + 1 < l.length) : ∃ k o, j < k ∧ l[k]? = some o ∧ hasEdge o j = true := by
  simp only [okD, Bool.and_eq_true, List.all_eq_true, List.mem_range, List.any_eq_true, decide_eq_true_eq] at h
  obtain ⟨k, hk, hlt, h2⟩ := h.2 j (by omega)
  refine ⟨k, l[k], hlt, List.getElem?_eq_getElem hk, ?_⟩
  simpa [List.getElem?_eq_getElem hk] using h2

theorem hasEdge_iff {o : Oper} {j : Nat} : hasEdge o j = true ↔ ∃ e ∈ o.after, Region.binds .any e = true ∧ e.on = j := by
  unfold hasEdge
  rw [Array.any_eq_true']
  simp

theorem getD_both {listed : Array Bool} {j : Nat} (h : j < listed.size) (d e : Bool) : listed.getD j d = listed.getD j e := by simp [h]

theorem ready_ne {l : List Oper} (hok : okD l = true) {listed : Array Bool} (hs : listed.size = l.length) : ∀ (k : Nat), k < l.length → listed.getD k true = false → ∃ i, i ∈ Region.ready .any l.toArray listed := by
  intro k
  induction k using Nat.strongRecOn with
  | _ k ih =>
    intro hk hu
    have ho : l[k]? = some l[k] := List.getElem?_eq_getElem hk
    by_cases hall : ∀ e ∈ (l[k]).after, Region.binds .any e = true → listed.getD e.on false = true
    · exact ⟨k, mem_ready.2 ⟨hu, l[k], by rw [← ho]; simp, hall⟩⟩
    · simp only [Classical.not_forall] at hall
      obtain ⟨e, he, hb, hf⟩ := hall
      have hlt := okD_edge hok ho he hb
      refine ih e.on hlt (by omega) ?_
      rw [getD_both (by omega) true false]
      simpa using hf

theorem count_set {listed : Array Bool} {i : Nat} (h : listed.getD i true = false) : (listed.setIfInBounds i true).toList.count false + 1 = listed.toList.count false := by
  have hi : i < listed.size := by
    rcases Nat.lt_or_ge i listed.size with h' | h'
    · exact h'
    · simp [Array.getElem?_eq_none h'] at h
  have hv : listed.toList[i]'(by simpa using hi) = false := by simpa [hi] using h
  rw [Array.toList_setIfInBounds, List.count_set (by simpa using hi), hv]
  have hpos : 0 < listed.toList.count false := List.count_pos_iff.2 (hv ▸ List.getElem_mem _)
  have e1 : (if (false == false) = true then 1 else 0) = 1 := by decide
  have e2 : (if (true == false) = true then 1 else 0) = 0 := by decide
  rw [e1, e2]; omega

theorem wp_region_D {E : World → World → Prop} (hE : PreW E) {id : Nat} {l : List Oper} {a0 : Act} {w0 : World} (hm : P.follows .mixedOrders = true)
    (Ds : List (Value → World → Prop)) (hok : okD l = true) (hmono : ∀ D ∈ Ds, ∀ v w w', E w w' → D v w → D v w') (hne : l.isEmpty = false)
    (hsteps : StepsD P E Q a0 w0 Ds l 0 l) (hlast : ∀ w, E w0 w → LastD P Q l w l Ds a0) : (Code.region id l.toArray true).wp P Q a0 w0 := by
  have hmono' : ∀ j v w w', E w w' → (Ds.getD j fun _ _ => True) v w → (Ds.getD j fun _ _ => True) v w' := by
    intro j v w w' he h
    by_cases hj : j < Ds.length
    · have : (Ds.getD j fun _ _ => True) = Ds[j] := by simp [hj]
      rw [this] at h ⊢
      exact hmono _ (List.getElem_mem _) v w w' he h
    · have : (Ds.getD j fun _ _ => True) = fun _ _ => True := by simp [Nat.not_lt.1 hj]
      rw [this]; trivial
  refine wp_region_any hm ?_
  change wpAny P .any l.toArray Q l.toArray.size (Array.replicate l.toArray.size false) a0 w0.drew
  have hl0 : 0 < l.length := by cases l <;> simp at hne ⊢
  obtain ⟨m, hmlen⟩ : ∃ m, l.length = m + 1 := ⟨l.length - 1, by omega⟩
  have hlastop : l[m]? = some l[m] := List.getElem?_eq_getElem (by omega)
  have hgl : l.getLast? = some l[m] := by rw [List.getLast?_eq_getElem?]; simp [hmlen]
  suffices H : ∀ (fuel : Nat) (listed : Array Bool) (a : Act) (w : World), Held E Ds l a0 w0 listed a w → listed.getD m true = false → listed.toList.count false ≤ fuel → wpAny P .any l.toArray Q fuel listed a w by
    refine H _ _ _ _ ⟨hE.drew w0, rfl, rfl, fun _ _ => rfl, fun j o hj h => ?_, fun j o hj h => ?_, by simp⟩ (by simp [hmlen]) ?_
    · have : j < l.length := (List.getElem?_eq_some_iff.1 hj).1
      simp [this] at h
    · have : j < l.length := (List.getElem?_eq_some_iff.1 hj).1
      simp [this] at h
    · simp
  intro fuel
  induction fuel with
  | zero =>
    intro listed a w hH hmu hc
    exfalso
    have hi : m < listed.size := by rw [hH.len]; omega
    have hv : listed.toList[m]'(by simpa using hi) = false := by simpa [hi] using hmu
    have : 0 < listed.toList.count false := List.count_pos_iff.2 (hv ▸ List.getElem_mem _)
    omega
  | succ fuel ih =>
    intro listed a w hH hmu hc
    refine ⟨fun h0 => ?_, fun i hi => ?_⟩
    · obtain ⟨i, hi⟩ := ready_ne hok hH.len m (by omega) hmu
      rw [h0] at hi; cases hi
    · obtain ⟨hiu, o, ho, hdep⟩ := mem_ready.1 hi
      have ho' : l[i]? = some o := by simpa using ho
      have hil : i < l.length := (List.getElem?_eq_some_iff.1 ho').1
      have hedge : ∀ j, hasEdge o j = true → listed.getD j false = true := by
        intro j hj
        obtain ⟨e, he, hb, rfl⟩ := hasEdge_iff.1 hj
        exact hdep e he hb
      by_cases him : i = m
      · subst him
        have hall : ∀ j, j < i → listed.getD j false = true := by
          have : ∀ d j, i - j = d → j < i → listed.getD j false = true := by
            intro d
            induction d using Nat.strongRecOn with
            | _ d ihd =>
              intro j hd hj
              obtain ⟨k, ok, hjk, hok', hek⟩ := okD_last hok (j := j) (by omega)
              have hkl : k < l.length := (List.getElem?_eq_some_iff.1 hok').1
              by_cases hki : k = i
              · subst hki
                rw [ho'] at hok'
                cases hok'
                exact hedge j hek
              · exact hH.down k ok hok' (ihd (i - k) (by omega) k rfl (by omega)) j hek
          exact fun j hj => this _ j rfl hj
        have hoe : o = l[i] := by rw [ho'] at hlastop; exact Option.some.inj hlastop
        have hwl : wpList P l.toArray Q [o] a w := by
          refine lastD_of l Ds a0 o (by rw [hgl, hoe]) hH.defers.symm hH.size.symm ?_ ?_ (hlast w hH.ext)
          · intro t ht
            refine (hH.other t fun j oj hj hd => ?_).symm
            have hjl : j < l.length := (List.getElem?_eq_some_iff.1 hj).1
            by_cases hji : j = i
            · subst hji; rw [getD_both (by rw [hH.len]; omega) false true]; exact hiu
            · exact absurd hd (ht oj (by
                rw [List.dropLast_eq_take]
                have : (l.take (l.length - 1))[j]? = some oj := by rw [List.getElem?_take, if_pos (by omega)]; exact hj
                exact List.mem_of_getElem? this))
          · intro j oj hj hjl
            exact hH.vals j oj hj (hall j (by omega))
        have hdone : ∀ a' w', Q .normal a' w' → wpAny P .any l.toArray Q fuel (listed.setIfInBounds i true) a' w' := by
          intro a' w' hq
          refine wpAny_done ?_ hq fuel
          rw [List.eq_nil_iff_forall_not_mem]
          intro j hj
          obtain ⟨hju, oj, hoj, _⟩ := mem_ready.1 hj
          have hjl : j < l.length := by have := (Array.getElem?_eq_some_iff.1 hoj).1; simpa using this
          have : (listed.setIfInBounds i true).getD j false = true := by
            by_cases hji : j = i
            · subst hji; simp [hH.len, hil]
            · exact getD_set_true (hall j (by omega))
          rw [getD_both (by simp [hH.len, hjl]) false true] at this
          rw [this] at hju; cases hju
        have hop : wpOp P l.toArray Q i (fun a' w' => Q .normal a' w') a w := by
          unfold wpOp
          simp only [ho]
          exact hwl
        exact wpOp_mono hdone hop
      · have hi1 : i + 1 < l.length := by omega
        have hst := stepsD_get l 0 i o hsteps ho' hi1
        rw [Nat.zero_add] at hst
        have hst' := putAll_of (l := l) hH.defers hH.size _ l a0 hH.defers.symm hH.size.symm (fun t ht => (hH.other t fun j oj hj hd => absurd hd (ht oj (List.mem_of_getElem? hj))).symm) hst
        have hkn := known_of hH (o.looksAt l.toArray) (fun t ht j oj hj hd => hedge j (okD_looks hok ho' ht hj hd))
        refine wpList_one (R := StepPost E (Ds.getD i fun _ _ => True) o.dst a0.defers w Q) ?_ (fun a' w' h => h.1.trans hH.defers.symm) (fun _ _ _ h => h) (fun _ _ h => h) ho (hst' w hH.ext hkn)
        rintro a' w' ⟨h1, h2, h3⟩ ⟨v, rfl⟩
        refine ih _ _ _ ⟨hE.trans hH.ext h2, h1, ?_, ?_, ?_, ?_, by simp [hH.len]⟩ ?_ ?_
        · cases o.dst <;> simpa [Act.put] using hH.size
        · intro t ht
          have hne' : o.dst ≠ some t := fun hd => by
            have := ht i o ho' hd
            simp [hH.len, hil] at this
          have hold : a.tmps[t]? = a0.tmps[t]? := hH.other t fun j oj hj hd => by
            have := ht j oj hj hd
            by_cases hji : i = j
            · subst hji; rw [ho'] at hj; cases hj; exact absurd hd hne'
            · rwa [getD_set_ne false hji] at this
          cases hd : o.dst with
          | none => exact hold
          | some d => simp only [Act.put]; rw [Array.getElem?_setIfInBounds_ne (fun e => hne' (by rw [hd, e]))]; exact hold
        · intro j oj hj hjl
          by_cases hji : i = j
          · subst hji
            rw [ho'] at hj
            cases hj
            exact h3
          · rw [getD_set_ne false hji] at hjl
            have hv := hmono' j _ w w' h2 (hH.vals j oj hj hjl)
            cases hdj : oj.dst with
            | none => simpa [hdj] using hv
            | some t =>
              have hne' := okD_dst hok ho' hj hdj (fun e => hji e.symm)
              simp only [hdj] at hv ⊢
              cases hd : o.dst with
              | none => simpa [Act.put] using hv
              | some d =>
                have : d ≠ t := fun e => hne' (by rw [hd, e])
                simpa [Act.put, Array.getElem?_setIfInBounds_ne this] using hv
        · intro j oj hj hjl k hk
          by_cases hji : i = j
          · subst hji
            rw [ho'] at hj
            cases hj
            exact getD_set_true (hedge k hk)
          · rw [getD_set_ne false hji] at hjl
            exact getD_set_true (hH.down j oj hj hjl k hk)
        · rw [getD_set_ne true him]; exact hmu
        · have := count_set hiu
          omega

end region
end Go.Proofs.YtocadbghhoibnaaFmt

/- What a slice of words reads as, worlds that only grow, and an append to an empty slice: plain laws, no function of the program in sight. -/
namespace Go.Proofs.YtocadbghhoibnaaFmt
open Go.RowKit

/-- Nothing that was there has turned. -/
def Ext (w w' : World) : Prop := Below w.heap.size w w'

theorem Ext.refl (w : World) : Ext w w := Below.refl _ _
theorem Ext.trans {a b c : World} (h : Ext a b) (k : Ext b c) : Ext a c := Below.trans h (Below.mono k h.size)
theorem Ext.drew (w : World) : Ext w w.drew := (Below.refl _ _).drew
theorem Ext.alloc (w : World) (o : Obj) : Ext w (w.alloc o) := (Below.refl _ _).alloc (Nat.le_refl _) o
theorem preExt : PreW Ext := ⟨Ext.refl, Ext.trans, Ext.drew⟩
theorem Ext.block {w w' : World} (h : Ext w w') {k : Nat} {o : Obj} (hk : w.heap[k]? = some o) : w'.heap[k]? = some o := by
  rw [Below.block h k (Array.getElem?_eq_some_iff.1 hk).1]; exact hk
theorem Ext.cell {w w' : World} (h : Ext w w') {a : Addr} {v : Value} (hk : w.cell? a = some v) : w'.cell? a = some v := by
  rw [Below.cell h (World.block_lt_of_cell? w a hk)]; exact hk

/-- How great a number of the kind may be. -/
def lim : IntKind → Nat | .u8 => 256 | _ => 18446744073709551616

/-- The value is a slice whose elements are the words ws. -/
def Rd (k : IntKind) (w : World) (v : Value) (ws : List Nat) : Prop :=
  (∀ x ∈ ws, x < lim k) ∧ ∃ a cap, v = .slice a ws.length cap ∧ ws.length ≤ cap ∧ cap ≤ 9223372036854775807 ∧ (a = none → cap = 0) ∧
    ∀ i, i < ws.length → ∃ b off, a = some ⟨b, off, none⟩ ∧ w.cell? ⟨b, off + i, none⟩ = some (.int k (ws.getD i 0 : Nat))

theorem Rd.ext {k : IntKind} {w w' : World} {v : Value} {ws : List Nat} (h : Rd k w v ws) (he : Ext w w') : Rd k w' v ws := by
  obtain ⟨h1, a, cap, h2, h3, h4, h5, h6⟩ := h
  refine ⟨h1, a, cap, h2, h3, h4, h5, fun i hi => ?_⟩
  obtain ⟨b, off, h7, h8⟩ := h6 i hi
  exact ⟨b, off, h7, he.cell h8⟩

/-- Two shapes: no element, or a known address. -/
theorem Rd.shape {k : IntKind} {w : World} {v : Value} {ws : List Nat} (h : Rd k w v ws) :
    (ws = [] ∧ ∃ a cap, v = .slice a 0 cap ∧ cap ≤ 9223372036854775807 ∧ (a = none → cap = 0)) ∨
    (0 < ws.length ∧ ∃ b off cap, v = .slice (some ⟨b, off, none⟩) ws.length cap ∧ ws.length ≤ cap ∧ cap ≤ 9223372036854775807 ∧
      ∀ i, i < ws.length → w.cell? ⟨b, off + i, none⟩ = some (.int k (ws.getD i 0 : Nat))) := by
  obtain ⟨h1, a, cap, h2, h3, h4, h5, h6⟩ := h
  cases ws with
  | nil => exact .inl ⟨rfl, a, cap, h2, h4, h5⟩
  | cons x ws =>
    right
    obtain ⟨b, off, rfl, h8⟩ := h6 0 (by simp)
    refine ⟨by simp, b, off, cap, h2, h3, h4, fun i hi => ?_⟩
    obtain ⟨b', off', h9, h10⟩ := h6 i hi
    simp at h9
    obtain ⟨rfl, rfl⟩ := h9
    exact h10

def words (k : IntKind) (ws : List Nat) : List Value := ws.map fun x => .int k (x : Nat)

theorem words_get (k : IntKind) (ws : List Nat) (i : Nat) : (words k ws)[i]? = (ws[i]?).map fun x => .int k (x : Nat) := by simp [words]
theorem words_len (k : IntKind) (ws : List Nat) : (words k ws).length = ws.length := by simp [words]
theorem words_one (k : IntKind) (ws : List Nat) : ∀ u ∈ words k ws, u.oneCell' = true := by
  intro u hu
  obtain ⟨_, _, rfl⟩ := List.mem_map.1 hu
  rfl

/-- The value is a slice that owns its row, from block base on. -/
def Own (k : IntKind) (w : World) (base : Nat) (E : TypeId) (v : Value) (ws : List Nat) : Prop :=
  (∀ x ∈ ws, x < lim k) ∧ w.ownsRow base E 1 v ws.length (words k ws)

theorem Own.ext {k : IntKind} {w w' : World} {base : Nat} {E : TypeId} {v : Value} {ws : List Nat} (h : Own k w base E v ws) (he : Ext w w') : Own k w' base E v ws := by
  refine ⟨h.1, h.2.1, ?_⟩
  rcases h.2.2 with hn | ⟨g, cap, cur, rfl, hb, hg, rest⟩
  · exact .inl hn
  · exact .inr ⟨g, cap, cur, rfl, hb, he.block hg, rest⟩

theorem Own.mono {k : IntKind} {w : World} {base base' : Nat} {E : TypeId} {v : Value} {ws : List Nat} (h : Own k w base E v ws) (hb : base' ≤ base) : Own k w base' E v ws := by
  refine ⟨h.1, h.2.1, ?_⟩
  rcases h.2.2 with hn | ⟨g, cap, cur, rfl, hb', rest⟩
  · exact .inl hn
  · exact .inr ⟨g, cap, cur, rfl, Nat.le_trans hb hb', rest⟩

theorem ownsRow.read {k : IntKind} {w : World} {base : Nat} {E : TypeId} {v : Value} {n : Nat} {ws : List Nat} (h : w.ownsRow base E 1 v n (words k ws)) (hb : ∀ x ∈ ws, x < lim k) : Rd k w v ws := by
  have hn : ws.length = n := by have := h.1; rw [words_len] at this; omega
  subst hn
  rcases h.2 with ⟨hv, h0⟩ | ⟨g, cap, cur, hv, _, hg, hle, hcap, hsz, htake⟩
  · exact ⟨hb, none, 0, by rw [hv, h0], by omega, by omega, fun _ => rfl, fun i hi => by omega⟩
  · refine ⟨hb, _, cap, hv, hle, by simpa [maxLen] using hcap, by simp, fun i hi => ⟨g, 0, rfl, ?_⟩⟩
    rw [cell_of_row w g (0 + i) cur E (0, 0) hg, Nat.zero_add]
    have h1 : (words k ws)[i]? = some (.int k (ws.getD i 0 : Nat)) := by
      rw [words_get]; simp [hi]
    rw [← htake, List.getElem?_take, if_pos (by omega)] at h1
    simpa using h1

theorem Own.read {k : IntKind} {w : World} {base : Nat} {E : TypeId} {v : Value} {ws : List Nat} (h : Own k w base E v ws) : Rd k w v ws := ownsRow.read h.2 h.1

theorem Own.form {k : IntKind} {w : World} {base : Nat} {E : TypeId} {v : Value} {ws : List Nat} (h : Own k w base E v ws) : ∃ a c, v = .slice a ws.length c := by
  rcases h.2.2 with ⟨rfl, h0⟩ | ⟨g, cap, cur, rfl, _⟩
  · exact ⟨none, 0, by rw [h0]⟩
  · exact ⟨_, _, rfl⟩
theorem Rd.form {k : IntKind} {w : World} {v : Value} {ws : List Nat} (h : Rd k w v ws) : ∃ a c, v = .slice a ws.length c := by
  obtain ⟨_, a, c, rfl, _⟩ := h
  exact ⟨a, c, rfl⟩

theorem Rd.take {k : IntKind} {w : World} {a : Option Addr} {n cap : Nat} {ws : List Nat} (h : Rd k w (.slice a n cap) ws) (m : Nat) (hm : m ≤ n) : Rd k w (.slice a m cap) (ws.take m) := by
  obtain ⟨h1, a', cap', h2, h3, h4, h5, h6⟩ := h
  simp at h2
  obtain ⟨rfl, rfl, rfl⟩ := h2
  refine ⟨fun x hx => h1 x (List.mem_of_mem_take hx), a, cap, by simp; omega, by simp; omega, h4, h5, fun i hi => ?_⟩
  simp at hi
  obtain ⟨b, off, h7, h8⟩ := h6 i (by omega)
  refine ⟨b, off, h7, ?_⟩
  rw [h8, List.getD_eq_getElem?_getD, List.getD_eq_getElem?_getD, List.getElem?_take, if_pos (by omega)]

/-- 'append([]T{}, xs...)': a row of its own; nothing that was there has turned. -/
theorem wpList_copy_words {k : IntKind} {bytes : Nat} {P : Program} {w : World} {ops : Array Oper} {rest : List Oper} {o : Oper} {a : Act} {Q : Exit → Act → World → Prop} (hgd : o.guard = none) (s x : Operand) (t : TypeId)
    (ho : o.op = .call { callee := .builtin .append, args := #[s, x], argTypes := #[t, t] })
    (e : TypeId) (ht : P.underlying t = some (.slice e)) (hinfo : (P.info? e).map (fun i => (i.zero, i.size, i.bytes)) = some (some (.int k 0), 1, bytes))
    (base g : Nat) (hs : a.eval s = .slice (some ⟨g, 0, none⟩) 0 0) (hg : w.heap[g]? = some (.cells #[] e (0, 0))) (hgb : base ≤ g) (v : Value) (hx : a.eval x = v) (ws : List Nat) (hrd : Rd k w v ws) (hlen : ws.length * bytes ≤ 140737488355328) (hl63 : ws.length ≤ 9223372036854775807)
    (h : ∀ v' w', Own k w' base e v' ws → Ext w w' → wpList P ops Q rest (a.put o.dst v') w') : wpList P ops Q (o :: rest) a w := by
  obtain ⟨i, hi, hz, hsz, hby⟩ := info_parts hinfo
  obtain ⟨hb, ad, cap, rfl, hle, hcap, hnil, hcells⟩ := hrd
  refine wpList_plain hgd fun K hK => ?_
  have hown : w.ownsRow base e i.size (.slice (some ⟨g, 0, none⟩) 0 0) 0 [] := ⟨by simp, .inr ⟨g, 0, #[], rfl, hgb, hg, by omega, by simp [maxLen], by simp, by simp⟩⟩
  have hlt : g < w.heap.size := (Array.getElem?_eq_some_iff.1 hg).1
  cases ws with
  | nil =>
    have hown' : Own k w base e (.slice (some ⟨g, 0, none⟩) 0 0) [] := ⟨by simp, by rw [hsz] at hown; exact hown⟩
    have hrun : (Builtin.append_ #[t, t] o.type #[.slice (some ⟨g, 0, none⟩) 0 0, .slice ad 0 cap]).run P w = .ok (.slice (some ⟨g, 0, none⟩) 0 0) w := by
      cases ad with
      | none =>
        obtain rfl := hnil rfl
        exact run_append_owned_none (P := P) w base t o.type e i i.size ht hi _ 0 [] hown
      | some ad =>
        have := run_append_room (P := P) w t o.type e i ht hi g 0 0 #[] hg ad 0 cap [] (by simp) (by simp) (by simp) (by omega) (by simp)
        rw [this]
        have : (w.setRow g #[]).heap = w.heap := by
          simp only [World.setRow]
          apply Array.ext_getElem?
          intro k
          rw [Array.getElem?_modify]
          split
          · subst_vars; rw [hg]; rfl
          · rfl
        have e1 : w.setRow g #[] = w := by
          have : w.setRow g #[] = { w with heap := (w.setRow g #[]).heap } := rfl
          rw [this, ‹(w.setRow g #[]).heap = w.heap›]
        simpa using e1
    unfold Oper.wp execOp
    simp only [ho, resolve, invoke, builtin, Sem.run_bind, Sem.run_pure, Result.andThen_ok, List.map_toArray, List.map_cons, List.map_nil, hs, hx, List.length_nil, hrun]
    exact hK _ _ (h _ _ hown' (Ext.refl w))
  | cons y ws =>
    obtain ⟨b, off, rfl, _⟩ := hcells 0 (by simp)
    have hnews : ∀ j u, (words k (y :: ws))[j]? = some u → w.cell? ((⟨b, off, none⟩ : Addr).add j) = some u := by
      intro j u hu
      have hj : j < (y :: ws).length := by have := (List.getElem?_eq_some_iff.1 hu).1; rwa [words_len] at this
      obtain ⟨b', off', h9, h10⟩ := hcells j hj
      simp at h9
      obtain ⟨rfl, rfl⟩ := h9
      rw [Addr.add_lit, h10, ← hu, words_get, List.getElem?_eq_getElem hj, List.getD_eq_getElem?_getD, List.getElem?_eq_getElem hj]
      rfl
    have hpos : 0 < (y :: ws).length := by simp
    generalize hn : (y :: ws).length = n at *
    have hwl : (words k (y :: ws)).length = n := by rw [words_len, hn]
    have hr := run_append_grow (P := P) w t o.type e i _ ht hi hz ⟨g, 0, none⟩ 0 0 [] (by simp) (by simp) ⟨b, off, none⟩ n cap (words k (y :: ws)) (by rw [hwl, hsz, Nat.mul_one]) hnews (by omega) (by omega) (growslice_fits (by omega) (by rw [hby]; simpa using hlen))
    have hge := grownCap_ge w (0 + n) 0 e
    have hcm := grownCap_le_maxLen w (0 + n) 0 e (by simp only [maxLen]; omega)
    generalize grownCap w (0 + n) 0 e = c at *
    unfold Oper.wp execOp
    simp only [ho, resolve, invoke, builtin, Sem.run_bind, Sem.run_pure, Result.andThen_ok, List.map_toArray, List.map_cons, List.map_nil, hs, hx, hr]
    refine hK _ _ (h _ _ ⟨hb, ?_, .inr ⟨w.heap.size, c, _, by rw [hn, Nat.zero_add], by omega, heap_alloc_new w.drew _, by omega, hcm, ?_, ?_⟩⟩ ((Ext.drew w).trans (Ext.alloc _ _)))
    · rw [hwl, hn, Nat.mul_one]
    · simp only [Array.size_append, List.size_toArray, List.length_nil, hwl, size_zeroCells, Value.cells]
      simp; omega
    · rw [hn, Nat.mul_one]
      simp only [Array.toList_append, List.nil_append]
      rw [← hwl]
      exact List.take_left

/-- Only blocks of S, and new ones, may have turned. -/
structure Upd (S : Nat → Prop) (w w' : World) : Prop where
  os : w'.os = w.os
  tape : w'.tape = w.tape
  output : w'.output = w.output
  size : w.heap.size ≤ w'.heap.size
  block : ∀ k, k < w.heap.size → ¬ S k → w'.heap[k]? = w.heap[k]?

theorem Upd.refl (S : Nat → Prop) (w : World) : Upd S w w := ⟨rfl, rfl, rfl, Nat.le_refl _, fun _ _ _ => rfl⟩
theorem Upd.trans {S T : Nat → Prop} {a b c : World} (h : Upd S a b) (k : Upd T b c) : Upd (fun i => S i ∨ T i) a c :=
  ⟨k.os.trans h.os, k.tape.trans h.tape, k.output.trans h.output, Nat.le_trans h.size k.size, fun i hi hn => (k.block i (Nat.lt_of_lt_of_le hi h.size) (fun q => hn (.inr q))).trans (h.block i hi (fun q => hn (.inl q)))⟩
theorem Upd.mono {S T : Nat → Prop} {a b : World} (h : Upd S a b) (hs : ∀ k, k < a.heap.size → S k → T k) : Upd T a b :=
  ⟨h.os, h.tape, h.output, h.size, fun i hi hn => h.block i hi (fun q => hn (hs i hi q))⟩
theorem Upd.drew {S : Nat → Prop} {a b : World} (h : Upd S a b) : Upd S a b.drew := ⟨h.os, h.tape, h.output, h.size, h.block⟩
theorem Upd.alloc {S : Nat → Prop} {a b : World} (h : Upd S a b) (o : Obj) : Upd S a (b.alloc o) :=
  ⟨h.os, h.tape, h.output, by simp; exact Nat.le_succ_of_le h.size, fun k hk hn => by rw [Below.heap_alloc b o k (Nat.lt_of_lt_of_le hk h.size)]; exact h.block k hk hn⟩
theorem Upd.setCell {S : Nat → Prop} {a b : World} (h : Upd S a b) {p : Addr} (hp : S p.block) (v : Value) : Upd S a (b.setCell p v) :=
  ⟨h.os, h.tape, h.output, by simpa [World.setCell] using h.size, fun k hk hn => by
    rw [Below.heap_setCell b p v k (fun e => hn (e ▸ hp))]; exact h.block k hk hn⟩
theorem Upd.ext {S : Nat → Prop} {a b c : World} (h : Ext a b) (k : Upd S b c) (hs : ∀ i, S i → a.heap.size ≤ i) : Ext a c :=
  ⟨k.os.trans h.os, k.tape.trans h.tape, k.output.trans h.output, Nat.le_trans h.size k.size, fun i hi => (k.block i (Nat.lt_of_lt_of_le hi h.size) (fun q => by have := hs i q; omega)).trans (Below.block h i hi)⟩
theorem Ext.upd {S : Nat → Prop} {a b : World} (h : Ext a b) : Upd S a b := ⟨h.os, h.tape, h.output, h.size, fun k hk _ => Below.block h k hk⟩
theorem Upd.heap {S : Nat → Prop} {a b : World} (h : Upd S a b) {k : Nat} {o : Obj} (hk : a.heap[k]? = some o) (hn : ¬ S k) : b.heap[k]? = some o := by
  rw [h.block k (Array.getElem?_eq_some_iff.1 hk).1 hn]; exact hk

theorem blk2_set0 {w : World} {p : Nat} {x y : Value} {T : TypeId} {fr : Nat × Nat} (h : w.heap[p]? = some (.cells #[x, y] T fr)) (v : Value) : (w.setCell ⟨p, 0, none⟩ v).heap[p]? = some (.cells #[v, y] T fr) := by
  simp only [World.setCell, Array.getElem?_modify]
  simp [h]
theorem blk2_set1 {w : World} {p : Nat} {x y : Value} {T : TypeId} {fr : Nat × Nat} (h : w.heap[p]? = some (.cells #[x, y] T fr)) (v : Value) : (w.setCell ⟨p, 1, none⟩ v).heap[p]? = some (.cells #[x, v] T fr) := by
  simp only [World.setCell, Array.getElem?_modify]
  simp [h]
theorem blk_cell {w : World} {p : Nat} {c : Array Value} {T : TypeId} {fr : Nat × Nat} (h : w.heap[p]? = some (.cells c T fr)) (i : Nat) : w.cell? ⟨p, i, none⟩ = c[i]? := by
  simp [World.cell?, h]
theorem blk_free {w : World} {p : Nat} {c : Array Value} {T : TypeId} (h : w.heap[p]? = some (.cells c T (0, 0))) (i : Nat) : w.frozen? ⟨p, i, none⟩ = false := by
  simp [World.frozen?, h]

end Go.Proofs.YtocadbghhoibnaaFmt

/- How the arguments of a law are read: a Number, a list of words or bytes: plain laws over the program's types. -/
namespace Go.Proofs.YtocadbghhoibnaaFmt
open Go.ChangeShapes Go.WideShapes Go.ChangeAt Go.RowKit Go.Joins

set_option maxRecDepth 100000 in
theorem ownRow : ownKnob Tryf.prog.godebug = none := by kernel_rfl
set_option maxRecDepth 100000 in
theorem laidOut : laidOutB Tryf.prog = true := by kernel_rfl

set_option maxRecDepth 100000 in
theorem wf_u64 {n : Int} (h : (Lit.int .u64 n).wf = true) : 0 ≤ n ∧ n < 18446744073709551616 := by
  have : 0 ≤ n ∧ n ≤ 18446744073709551615 := by simpa [Lit.wf, IntKind.min, IntKind.max, IntKind.signed, IntKind.bits] using h
  omega
set_option maxRecDepth 100000 in
theorem wf_u8 {n : Int} (h : (Lit.int .u8 n).wf = true) : 0 ≤ n ∧ n < 256 := by
  have : 0 ≤ n ∧ n ≤ 255 := by simpa [Lit.wf, IntKind.min, IntKind.max, IntKind.signed, IntKind.bits] using h
  omega
set_option maxRecDepth 100000 in
theorem wf_i64 {n : Int} (h : (Lit.int .i64 n).wf = true) : -9223372036854775808 ≤ n ∧ n ≤ 9223372036854775807 := by
  simpa [Lit.wf, IntKind.min, IntKind.max, IntKind.signed, IntKind.bits] using h

set_option maxRecDepth 100000 in
/-- A slice of integers that is read as data holds a list of words. -/
theorem openWords {k : IntKind} {H : Type} {enc : TypeId × Value → H} {P : Program} {W : World} {t e : TypeId} {fuel : Nat} {v : Value} {x : DataW H × List MemPlace} (ht : P.underlying t = some (.slice e)) (he : P.underlying e = some (.int k)) (hc : P.cellsOf e = 1)
    (hk : ∀ n, (Lit.int k n).wf = true → 0 ≤ n ∧ n < lim k) (h : DataW.trod enc P W 0 (fun _ => true) true fuel t [v] = some x) :
    ∃ ws, Rd k W v ws ∧ ∀ (N : Nat), (∀ y ∈ x.1.weights P t, y ≤ N) → ws.length * P.bytesOf e ≤ N := by
  rcases open_ints ht he hc h with ⟨hcs, hx⟩ | ⟨a, len, cap, zs, hcs, _, hl, hm, hz, hx, hcell, hwz⟩
  · simp at hcs
    subst hcs
    exact ⟨[], ⟨by simp, none, 0, rfl, by simp, by simp, fun _ => rfl, by simp⟩, by simp⟩
  · simp at hcs
    subst hcs
    have hz' : zs.length = cap := by simpa using hz
    have hlen : ((zs.take len).map Int.toNat).length = len := by simp; omega
    refine ⟨(zs.take len).map Int.toNat, ⟨?_, some a, cap, by rw [hlen], by rw [hlen]; exact hl, by simpa [maxLen] using hm, by simp, ?_⟩, ?_⟩
    · intro y hy
      obtain ⟨z, hz1, rfl⟩ := List.mem_map.1 hy
      have := hk z (hwz z (List.mem_of_mem_take hz1))
      omega
    · intro i hi
      rw [hlen] at hi
      obtain ⟨b, off, rfl, hc'⟩ := ints_at hcell (by omega)
      refine ⟨b, off, rfl, ?_⟩
      have h1 := hc' i (by omega)
      rw [h1]
      have hgi : zs[i]? = some zs[i] := List.getElem?_eq_getElem (by omega)
      have hw := hk zs[i] (hwz _ (List.getElem_mem _))
      have : ((zs.take len).map Int.toNat).getD i 0 = zs[i].toNat := by
        rw [List.getD_eq_getElem?_getD, List.getElem?_map, List.getElem?_take, if_pos hi, hgi]; rfl
      rw [this, List.getD_eq_getElem?_getD, hgi]
      congr 2
      simp; omega
    · intro N hN
      rw [hx] at hN
      have := hN _ (by simp only [DataW.weights, ht]; exact List.mem_cons_self ..)
      refine Nat.le_trans ?_ this
      rw [hlen]
      refine Nat.mul_le_mul_right _ ?_
      simp [lits]; omega

set_option maxRecDepth 100000 in
theorem cellsNumber : Tryf.prog.cellsOf 26 = 2 := by kernel_rfl
set_option maxRecDepth 100000 in
theorem bytesUint : Tryf.prog.bytesOf 36 = 8 := by kernel_rfl

set_option maxRecDepth 100000 in
/-- A Number that is read as data. -/
theorem openNumber {H : Type} {enc : TypeId × Value → H} {W : World} {b0 : Nat} {v : Value} {d : DataW H} {p : List MemPlace} (hv : Value.okWide Tryf.prog W .any b0 26 v) (h : DataW.Trod enc Tryf.prog W 0 (fun _ => true) true 26 v d p) :
    ∃ n s ws, v = .agg #[.bool n, s] ∧ Rd .u64 W s ws ∧ ∀ (N : Nat), (∀ y ∈ d.weights Tryf.prog 26, y ≤ N) → ws.length * 8 ≤ N := by
  obtain ⟨c0, c1, y0, y1, m, rfl, hd, hp, hy0, hy1⟩ := open_agg2 Tryf.underlying26 (by kernel_rfl) cellsNumber hv h
  obtain ⟨b, e0, _⟩ := DataW.trod_bool Tryf.underlying4 hy0
  simp at e0
  subst e0
  obtain ⟨ws, hr, hw⟩ := openWords Tryf.underlying24 Tryf.underlying36 (by kernel_rfl) (fun n h => wf_u64 h) hy1
  refine ⟨b, c1, ws, rfl, hr, fun N hN => ?_⟩
  rw [← bytesUint]
  refine hw N fun y hy => hN y ?_
  rw [hd]
  simp only [DataW.weights, Tryf.underlying26, DataW.weightsEach]
  exact List.mem_append_right _ (List.mem_append_left _ hy)

end Go.Proofs.YtocadbghhoibnaaFmt

/- The norm of a natural number's words, and what SetBits and Neg make of an Int in place: contracts. -/
namespace Go.Proofs.YtocadbghhoibnaaFmt
open Go.RowKit

set_option maxHeartbeats 400000 in
theorem norm_some (b off : Nat) (ws : List Nat) (cap : Nat) (w : World) (hl : ws.length ≤ cap) (hcap : cap ≤ 9223372036854775807)
    (hc : ∀ i, i < ws.length → w.cell? ⟨b, off + i, none⟩ = some (.int .u64 (ws.getD i 0 : Nat))) :
    Calls Tryf.prog 87 #[.slice (some ⟨b, off, none⟩) ws.length cap] w fun e w' => e = .returned (.slice (some ⟨b, off, none⟩) (normLen ws) cap) ∧ w = w' := by
  have HC := Lib.hid hc
  clear hc
  go_enter Tryf.func87, Tryf.ntmps87
  go_wp2
  go_loop [3] (fun i => ∃ k : Nat, k ≤ ws.length ∧ i = .int .i64 k ∧ Hid (normLen ws = normLen (ws.take k))) (fun i => (intOf i).toNat)
  case atStart => exact ⟨ws.length, Nat.le_refl _, rfl, by rw [List.take_length]; exact rfl⟩
  case round =>
    obtain ⟨k, hk, rfl, hn⟩ := hrel
    by_cases h0 : 0 < k
    · have hcell := HC.out (k - 1) (by omega)
      go_wp2
      · have hz : ws.getD (k - 1) 0 = 0 := by
          have h : (((ws[k - 1]?.getD 0 : Nat) : Int) == 0) = true := by assumption
          simpa using h
        go_round
        case rel => exact ⟨k - 1, by omega, by go_num, by rw [hn.out]; exact normLen_step ws k h0 hk hz⟩
        case measure => simp [intOf]; omega
      · have hz : ws.getD (k - 1) 0 ≠ 0 := by
          have h : (((ws[k - 1]?.getD 0 : Nat) : Int) == 0) = false := by assumption
          simpa using h
        go_ret
        rw [hn.out, normLen_stop ws k h0 hk hz]
        exact ⟨rfl, rfl⟩
    · go_wp2
      go_ret
      obtain rfl : k = 0 := by omega
      rw [hn.out]
      exact ⟨rfl, rfl⟩

theorem norm_none (a : Option Addr) (cap : Nat) (w : World) (hcap : cap ≤ 9223372036854775807) :
    Calls Tryf.prog 87 #[.slice a 0 cap] w fun e w' => e = .returned (.slice a 0 cap) ∧ w = w' := by
  have hadd : (fun x : Addr => x.add 0) = id := by funext x; simp [Addr.add]
  go_enter Tryf.func87, Tryf.ntmps87
  go_wp2
  refine wp_loop_rounds 1 ?_
  rw [rounds_succ]
  go_wp2
  all_goals go_ret
  all_goals simp_all


/-- What norm makes of a row that is owned. -/
theorem norm_own (base : Nat) (E : TypeId) (v : Value) (ws : List Nat) (w : World) (h : Own .u64 w base E v ws) :
    Calls Tryf.prog 87 #[v] w fun e w' => (∃ v', e = .returned v' ∧ Own .u64 w' base E v' (norm ws) ∧ v'.ownBlock = v.ownBlock) ∧ w = w' := by
  have hle := normLen_le ws
  have hlen := norm_length ws
  have hrd := h.read
  obtain ⟨hb, h1, h2⟩ := h
  have hbn : ∀ x ∈ norm ws, x < lim .u64 := fun x hx => hb x (List.mem_of_mem_take hx)
  rcases h2 with ⟨rfl, h0⟩ | ⟨g, cap, cur, rfl, hbg, hg, hlc, hcap, hsz, htake⟩
  · have : ws = [] := List.eq_nil_of_length_eq_zero h0
    subst this
    refine (norm_none none 0 w (by omega)).mono ?_
    rintro e w' ⟨rfl, rfl⟩
    exact ⟨⟨_, rfl, ⟨by simp [norm], by simp [norm, words], .inl ⟨rfl, rfl⟩⟩, rfl⟩, rfl⟩
  · have hcap' : cap ≤ 9223372036854775807 := by simpa [maxLen] using hcap
    refine (norm_some g 0 ws cap w hlc hcap' ?_).mono ?_
    · intro i hi
      obtain ⟨_, a, c, q1, _, _, _, q2⟩ := hrd
      obtain ⟨b', off', q3, q4⟩ := q2 i hi
      simp at q1
      obtain ⟨rfl, rfl⟩ := q1
      simp at q3
      obtain ⟨rfl, rfl⟩ := q3
      exact q4
    · rintro e w' ⟨rfl, rfl⟩
      refine ⟨⟨_, rfl, ⟨hbn, by rw [words_len, Nat.mul_one], .inr ⟨g, cap, cur, by rw [hlen], hbg, hg, by omega, hcap, hsz, ?_⟩⟩, rfl⟩, rfl⟩
      rw [hlen, Nat.mul_one]
      have : words .u64 (norm ws) = (words .u64 ws).take (normLen ws) := by simp [words, norm, List.map_take]
      rw [this, ← htake, List.take_take, Nat.mul_one, Nat.min_eq_left hle]

/-- An Int at block p: its sign, and its words, whose row lies from base on. -/
def IntAt (w : World) (base p : Nat) (n : Bool) (ws : List Nat) : Prop :=
  ∃ s, w.heap[p]? = some (.cells #[.bool n, s] 82 (0, 0)) ∧ Own .u64 w base 93 s ws

set_option maxHeartbeats 400000 in
theorem setBits_any (p base : Nat) (x y v : Value) (ws : List Nat) (w : World) (hp : w.heap[p]? = some (.cells #[x, y] 82 (0, 0))) (h : Own .u64 w base 93 v ws) (hne : v.ownBlock ≠ some p) :
    Calls Tryf.prog 61 #[.pointer (some ⟨p, 0, none⟩), v] w fun e w' => e = .returned (.pointer (some ⟨p, 0, none⟩)) ∧ IntAt w' base p false (norm ws) ∧ Upd (· = p) w w' := by
  have c0 := blk_cell hp 0
  have c1 := blk_cell hp 1
  have f0 := blk_free hp 0
  have f1 := blk_free hp 1
  simp at c0 c1
  have HP := Lib.hid hp
  have HN := Lib.hid hne
  clear hp hne
  go_enter Tryf.func61, Tryf.ntmps61
  go_wp2_with (go_at_call 87; refine (norm_own base 93 v ws w h).mono ?_; rintro e w' ⟨⟨v', rfl, ho, hob⟩, rfl⟩; obtain ⟨sa, sc, rfl⟩ := ho.form; have HO := Lib.hid hob; clear hob)
  go_ret
  refine ⟨rfl, ⟨_, blk2_set0 (blk2_set1 HP.out _) _, ?_⟩, ((Upd.refl (· = p) _).setCell (by rfl) _).setCell (by rfl) _⟩
  refine ⟨ho.1, ho.2.1, ?_⟩
  rcases ho.2.2 with hn | ⟨g, cap, cur, hv, hb', hg, rest⟩
  · exact .inl hn
  · have hgp : g ≠ p := fun e => HN.out (by rw [← HO.out, hv, ← e]; rfl)
    exact .inr ⟨g, cap, cur, hv, hb', by rw [Below.heap_setCell _ _ _ _ hgp, Below.heap_setCell _ _ _ _ hgp]; exact hg, rest⟩


theorem IntAt.cells {w : World} {base p : Nat} {n : Bool} {ws : List Nat} (h : IntAt w base p n ws) : ∃ a c, w.heap[p]? = some (.cells #[.bool n, .slice a ws.length c] 82 (0, 0)) ∧ Own .u64 w base 93 (.slice a ws.length c) ws := by
  obtain ⟨s, h1, h2⟩ := h
  obtain ⟨a, c, rfl⟩ := h2.form
  exact ⟨a, c, h1, h2⟩

/-- A write to the sign alone keeps the words. -/
theorem Own.upd {w w' : World} {k : IntKind} {base p : Nat} {E T : TypeId} {v : Value} {ws : List Nat} {cs : Array Value} {fr : Nat × Nat} (h : Own k w base E v ws) (hp : w.heap[p]? = some (.cells cs T fr)) (hT : T ≠ E) (hu : Upd (· = p) w w') : Own k w' base E v ws := by
  refine ⟨h.1, h.2.1, ?_⟩
  rcases h.2.2 with hn | ⟨g, cap, cur, hv, hb', hg, rest⟩
  · exact .inl hn
  · have hgp : g ≠ p := fun e => by subst e; rw [hg] at hp; simp at hp; exact hT hp.2.1.symm
    exact .inr ⟨g, cap, cur, hv, hb', hu.heap hg hgp, rest⟩

theorem infoInt : (Tryf.prog.info? 82).map (fun i => i.size) = some 2 := by kernel_rfl
theorem infoInt' : ∃ j, Tryf.prog.info? 82 = some j ∧ j.size = 2 := by
  obtain ⟨j, h1, h2⟩ := Option.map_eq_some_iff.1 infoInt
  exact ⟨j, h1, h2⟩

theorem neqSame (a : Addr) (w : World) : (binOp .neq 65 (.pointer (some a)) (.pointer (some a))).run Tryf.prog w = .ok (.bool false) w := by
  obtain ⟨j, h1, _⟩ := infoInt'
  exact Lib.run_neq_ptr_same w a Tryf.underlying65 h1

theorem neqOther {p q : Nat} (hpq : p ≠ q) {w : World} {c d : Array Value} {T U : TypeId} (hp : w.heap[p]? = some (.cells c T (0, 0))) (hq : w.heap[q]? = some (.cells d U (0, 0))) :
    (binOp .neq 65 (.pointer (some ⟨p, 0, none⟩)) (.pointer (some ⟨q, 0, none⟩))).run Tryf.prog w = .ok (.bool true) w := by
  obtain ⟨j, h1, h2⟩ := infoInt'
  have h : ∀ d : Nat, (Op.equalIn (d + 1) 65 (.pointer (some ⟨p, 0, none⟩)) (.pointer (some ⟨q, 0, none⟩))).run Tryf.prog w = .ok false w := fun d => by
    simp [Op.equalIn, run_underlying Tryf.underlying65, sizeOf, typeInfo, h1, h2, run_sameAddr_other w (a := ⟨p, 0, none⟩) (b := ⟨q, 0, none⟩) (by simp [hpq]) hp hq]
  simp only [binOp]
  simp [Op.equal, Op.maxDepth, h 9999]

set_option maxHeartbeats 400000 in
/-- z.Neg(z). -/
theorem negSelf_any (p base : Nat) (n : Bool) (ws : List Nat) (w : World) (h : IntAt w base p n ws) (hl : ws.length ≤ 9223372036854775807) :
    Calls Tryf.prog 62 #[.pointer (some ⟨p, 0, none⟩), .pointer (some ⟨p, 0, none⟩)] w fun e w' => e = .returned (.pointer (some ⟨p, 0, none⟩)) ∧ IntAt w' base p (decide (0 < ws.length) && !n) ws ∧ Upd (· = p) w w' := by
  obtain ⟨a, c, hp, ho⟩ := h.cells
  have c0 := blk_cell hp 0
  have c1 := blk_cell hp 1
  have f0 := blk_free hp 0
  have f1 := blk_free hp 1
  simp at c0 c1
  have HP := Lib.hid hp
  clear hp
  have hsame := neqSame ⟨p, 0, none⟩
  by_cases h0 : 0 < ws.length
  · go_enter Tryf.func62, Tryf.ntmps62
    go_wp2
    go_ret
    have hu : Upd (· = p) w (w.setCell ⟨p, 0, none⟩ (.bool !n)) := (Upd.refl (· = p) _).setCell (by rfl) _
    rw [show (decide (0 < ws.length) && !n) = !n by simp [h0]]
    exact ⟨rfl, ⟨_, blk2_set0 HP.out _, ho.upd HP.out (by decide) hu⟩, hu⟩
  · go_enter Tryf.func62, Tryf.ntmps62
    go_wp2
    go_ret
    have hu : Upd (· = p) w (w.setCell ⟨p, 0, none⟩ (.bool false)) := (Upd.refl (· = p) _).setCell (by rfl) _
    rw [show (decide (0 < ws.length) && !n) = false by simp [h0]]
    exact ⟨rfl, ⟨_, blk2_set0 HP.out _, ho.upd HP.out (by decide) hu⟩, hu⟩

theorem infoWord : (Tryf.prog.info? 93).map (fun i => (i.zero, i.size, i.bytes)) = some (some (.int .u64 0), 1, 8) := by kernel_rfl

/-- The relation of the loop in 'integer'. -/
def GotWords (B : Nat) (w0 : World) (ws : List Nat) (len : Nat) (v i : Value) (wr : World) : Prop :=
  ∃ k : Nat, k ≤ len ∧ i = .int .i64 k ∧ wr.ownsRow B 93 1 v k (words .u64 (ws.take k)) ∧ Below B w0 wr

theorem words_snoc (k : IntKind) (ws : List Nat) (j : Nat) (h : j < ws.length) : words k (ws.take j) ++ [.int k (ws.getD j 0 : Nat)] = words k (ws.take (j + 1)) := by
  rw [List.take_succ_eq_append_getElem h]
  unfold words
  rw [List.map_append]
  simp [h, -List.map_take]


/-- An Int in new memory, at a pointer. -/
def IntR (n : Bool) (ws : List Nat) (w : World) (e : Ending) (w' : World) : Prop :=
  Ext w w' ∧ ∃ p, e = .returned (.pointer (some ⟨p, 0, none⟩)) ∧ w.heap.size ≤ p ∧ IntAt w' w.heap.size p n ws

theorem row_start (k : IntKind) (w : World) (B : Nat) (E : TypeId) (g : Nat) (hg : w.heap.size = g) (h : B ≤ g) : (w.alloc (.cells #[] E)).ownsRow B E 1 (.slice (some ⟨g, 0, none⟩) 0 0) 0 (words k []) := by
  subst hg
  exact World.ownsRow_made (size := 1) w #[] 0 h (by simp [maxLen]) (by simp)

set_option maxHeartbeats 1000000 in
theorem integer_any (n : Bool) (v : Value) (ws : List Nat) (w : World) (h : Rd .u64 w v ws) (hl : ws.length ≤ 17592186044416) :
    Calls Tryf.prog 41 #[.agg #[.bool n, v]] w (IntR (decide (0 < (norm ws).length) && n) (norm ws) w) := by
  obtain ⟨hb, a, cap, rfl, hlc, hcap, hnil, hcells⟩ := h
  · have HC := Lib.hid hcells
    have HB := Lib.hid hb
    clear hcells hb hnil
    obtain ⟨i0, hi, hz0, hz1, hz2⟩ := info_parts infoWord
    have HI := Lib.hid hi
    have HI0 := Lib.hid hz0
    have HI1 := Lib.hid hz1
    have HI2 := Lib.hid hz2
    clear hi hz0 hz1 hz2
    go_enter Tryf.func41, Tryf.ntmps41
    go_wp2_with fail
    go_loopw [3, 5, 11] (fun v _ i wr => GotWords (w.heap.size + 1) (w.alloc (.cells #[.bool n, .slice a ws.length cap] 33)) ws ws.length v i wr) (fun _ _ i _ => ws.length - (intOf i).toNat)
    case atStart => exact ⟨0, by omega, rfl, row_start .u64 _ _ _ _ (by simp) (Nat.le_refl _), (Below.refl _ _).alloc (by simp) _⟩
    case round =>
      obtain ⟨k, hk, rfl, hown, hbel⟩ := hrel
      by_cases hlt : k < ws.length
      · obtain ⟨b, off, rfl, hc0⟩ := HC.out k hlt
        have hbw : b < w.heap.size := World.block_lt_of_cell? w ⟨b, off + k, none⟩ hc0
        obtain ⟨x, hcell, HX⟩ : ∃ x : Nat, wr.cell? ⟨b, off + k, none⟩ = some (.int .u64 x) ∧ Hid (x = ws.getD k 0) := ⟨ws.getD k 0, by
          rw [hbel.cell (p := ⟨b, off + k, none⟩) (by show b < _; omega), World.cell?_alloc_past _ _ _ (by simpa using hbw)]
          exact hc0, rfl⟩
        clear hc0
        have HBEL := Lib.hid hbel
        have hsz := hbel.size
        simp only [World.size_alloc] at hsz
        clear hbel
        go_wp2_with (at_builtin; refine wpList_append_own _ rfl _ _ 79 rfl (w.heap.size + 1) 93 i0 (.int .u64 0) 1 8 Tryf.underlying79 HI.out HI0.out HI1.out HI2.out rfl (by decide) _ _ _ rfl (hown.alloc _) ⟨wr.heap.size, 0, none⟩ 1 1 [.int .u64 (x : Nat)] rfl rfl ?c1 ?c2 ?c3 ?c4 ?c5 ?_)
        case c1 => exact cell_one_new _ _ _
        case c2 => simp [Value.oneCell']
        case c3 => simp only [maxLen]; omega
        case c4 => omega
        case c5 => simp; omega
        intro v' w1 hown' hgrow _
        have hrel' : GotWords (w.heap.size + 1) (w.alloc (.cells #[.bool n, .slice (some ⟨b, off, none⟩) ws.length cap] 33)) ws ws.length v' (.int .i64 ((k + 1 : Nat) : Int)) w1 :=
          ⟨k + 1, by omega, rfl, by rw [← words_snoc .u64 ws k hlt, ← HX.out]; exact hown', ((HBEL.out.alloc (by omega) _).grown hgrow (by simp; omega) (fun j hj => (hown.lt j hj).1))⟩
        have HR := Lib.hid hrel'
        clear hrel' hown' hgrow hown
        go_wp2_with fail
        go_roundw
        case rel => exact HR.out
        case measure => simp [intOf]; omega
      · obtain rfl : k = ws.length := by omega
        rw [List.take_length] at hown
        have hO : Own .u64 wr (w.heap.size + 1) 93 u3 ws := ⟨HB.out, hown⟩
        have hsz := hbel.size
        simp only [World.size_alloc] at hsz
        have HBEL := Lib.hid hbel
        have hlt3 := hown.lt
        have HL3 := Lib.hid hlt3
        clear hbel hown hlt3
        obtain ⟨a3, c3, rfl⟩ := hO.form
        go_wp2_with fail
        refine (setBits_any wr.heap.size (w.heap.size + 1) _ _ _ ws _ (heap_alloc_new _ _) (hO.ext (Ext.alloc _ _)) (fun q => by have := (HL3.out _ q).2; omega)).mono ?_
        rintro e w2 ⟨rfl, hI, hU⟩
        have hbel2 : Below (w.heap.size + 1) (w.alloc (.cells #[.bool n, .slice a ws.length cap] 33)) w2 := by
          refine (HBEL.out.alloc (by omega) _).trans ⟨hU.os, hU.tape, hU.output, hU.size, fun j hj => hU.block j (by simp; omega) (by omega)⟩
        have hcn : w2.cell? ⟨w.heap.size, 0, none⟩ = some (.bool n) := by
          rw [hbel2.cell (p := ⟨w.heap.size, 0, none⟩) (by show w.heap.size < _; omega), World.cell?_alloc_at _ _ _ _ rfl]; rfl
        have hext2 : Ext w w2 := (Ext.alloc w _).trans ⟨hbel2.os, hbel2.tape, hbel2.output, hbel2.size, fun j hj => hbel2.block j (by simpa using hj)⟩
        have HI2' := Lib.hid hI
        have HE2 := Lib.hid hext2
        clear hbel2 hU hext2 HL3 hO HBEL
        have hnl := norm_length ws
        have hnl2 := normLen_le ws
        have hnl3 : (norm ws).length ≤ 9223372036854775807 := by omega
        clear hnl hnl2
        cases n
        · go_wp2_with fail
          go_ret
          refine ⟨HE2.out, _, rfl, by omega, ?_⟩
          obtain ⟨s, q1, q2⟩ := HI2'.out
          rw [Bool.and_false]
          exact ⟨s, q1, q2.mono (by omega)⟩
        · go_wp2_with (go_at_call 62; refine (negSelf_any _ _ _ _ _ HI2'.out hnl3).mono ?_; rintro e w3 ⟨rfl, hI3, hU3⟩)
          go_ret
          refine ⟨hU3.ext HE2.out (fun j hj => by omega), _, rfl, by omega, ?_⟩
          obtain ⟨s, q1, q2⟩ := hI3
          exact ⟨s, q1, q2.mono (by omega)⟩

end Go.Proofs.YtocadbghhoibnaaFmt

/- The reference: trim, IsZero, Sign: contracts. -/
namespace Go.Proofs.YtocadbghhoibnaaFmt
open Go.RowKit

theorem infoUint : (Tryf.prog.info? 36).map (fun i => (i.zero, i.size, i.bytes)) = some (some (.int .u64 0), 1, 8) := by kernel_rfl
theorem mixed : Tryf.prog.follows .mixedOrders = true := by kernel_rfl

theorem addr_add0 (a : Addr) : a.add 0 = a := by simp [Addr.add]
theorem addr_map0 (a : Option Addr) : a.map (fun x => x.add 0) = a := by cases a <;> simp [addr_add0]

/-- A list of words comes back, in new memory. -/
def WordsR (k : IntKind) (E : TypeId) (ws : List Nat) (w : World) (e : Ending) (w' : World) : Prop := Ext w w' ∧ ∃ v', e = .returned v' ∧ Own k w' 0 E v' ws

/-- A number comes back: its sign, its words, in new memory. -/
def NumR (n : Bool) (ws : List Nat) (w : World) (e : Ending) (w' : World) : Prop := Ext w w' ∧ ∃ v', e = .returned (.agg #[.bool n, v']) ∧ Own .u64 w' 0 36 v' ws

/-- A plain value comes back; memory has only grown. -/
def ValR (v : Value) (w : World) (e : Ending) (w' : World) : Prop := Ext w w' ∧ e = .returned v

set_option maxHeartbeats 1000000 in
theorem trim_any (v : Value) (ws : List Nat) (w : World) (h : Rd .u64 w v ws) (hl : ws.length ≤ 17592186044416) :
    Calls Tryf.prog 54 #[v] w (WordsR .u64 36 (norm ws) w) := by
  obtain ⟨a, cap, rfl⟩ := h.form
  have H := Lib.hid h
  obtain ⟨_, a', cap', hq, hlc, hcap, hnil, hcells⟩ := h
  simp at hq
  obtain ⟨rfl, rfl⟩ := hq
  have HC := Lib.hid hcells
  clear hcells hnil
  go_enter Tryf.func54, Tryf.ntmps54
  go_wp2
  go_loop [3] (fun i => ∃ k : Nat, k ≤ ws.length ∧ i = .int .i64 k ∧ Hid (normLen ws = normLen (ws.take k))) (fun i => (intOf i).toNat)
  case atStart => exact ⟨ws.length, Nat.le_refl _, rfl, by rw [List.take_length]; exact rfl⟩
  case round =>
    obtain ⟨k, hk, rfl, hn⟩ := hrel
    by_cases hz : 0 < k ∧ ws.getD (k - 1) 0 = 0
    · obtain ⟨h0, hz⟩ := hz
      obtain ⟨b, off, rfl, hcell⟩ := HC.out (k - 1) (by omega)
      rw [hz] at hcell
      have HZ := Lib.hid hz
      clear hz
      go_wp2_with fail
      go_round
      case rel => exact ⟨k - 1, by omega, by go_num, by rw [hn.out]; exact normLen_step ws k h0 hk HZ.out⟩
      case measure => simp [intOf]; omega
    · have hfin : norm ws = ws.take k := by
        rw [norm, hn.out]
        by_cases h0 : 0 < k
        · rw [normLen_stop ws k h0 hk (fun q => hz ⟨h0, q⟩)]
        · obtain rfl : k = 0 := by omega
          rfl
      have HF := Lib.hid hfin
      have hkl : (ws.take k).length ≤ 17592186044416 := by rw [List.length_take]; omega
      have HR := Lib.hid (H.out.take k hk)
      clear hfin
      by_cases h0 : 0 < k
      · obtain ⟨b, off, rfl, hcell⟩ := HC.out (k - 1) (by omega)
        obtain ⟨x, hcell', HX⟩ : ∃ x : Nat, w.cell? ⟨b, off + (k - 1), none⟩ = some (.int .u64 x) ∧ Hid (x = ws.getD (k - 1) 0) := ⟨_, hcell, rfl⟩
        have hx : ((x : Int) == 0) = false := by
          have : x ≠ 0 := fun q => hz ⟨h0, by rw [← HX.out, q]⟩
          simp [this]
        clear hcell hz
        go_wp2_with (at_builtin; refine wpList_copy_words (k := .u64) (bytes := 8) rfl (.tmp 18) (.tmp 21) 24 rfl 36 Tryf.underlying24 infoUint w.heap.size w.heap.size rfl (heap_alloc_new _ _) (Nat.le_refl _) _ rfl (ws.take k) ?r1 ?r2 ?r3 ?_)
        case r1 => exact HR.out.ext (Ext.alloc _ _)
        case r2 => omega
        case r3 => omega
        intro v' w' ho he
        go_wp2_with fail
        go_ret
        exact ⟨(Ext.alloc _ _).trans he, v', rfl, by rw [HF.out]; exact ho.mono (Nat.zero_le _)⟩
      · obtain rfl : k = 0 := by omega
        clear hz
        go_wp2_with (at_builtin; refine wpList_copy_words (k := .u64) (bytes := 8) rfl (.tmp 18) (.tmp 21) 24 rfl 36 Tryf.underlying24 infoUint w.heap.size w.heap.size rfl (heap_alloc_new _ _) (Nat.le_refl _) _ rfl (ws.take 0) ?r4 ?r5 ?r6 ?_)
        case r4 => exact HR.out.ext (Ext.alloc _ _)
        intro v' w' ho he
        go_wp2_with fail
        go_ret
        exact ⟨(Ext.alloc _ _).trans he, v', rfl, by rw [HF.out]; exact ho.mono (Nat.zero_le _)⟩

end Go.Proofs.YtocadbghhoibnaaFmt

/- toImpl, toSpec: contracts (this text is printed by gen.py). -/
namespace Go.Proofs.YtocadbghhoibnaaFmt
open Go.RowKit

set_option maxHeartbeats 1000000 in
theorem toImpl_any (n : Bool) (v : Value) (ws : List Nat) (w : World) (h : Rd .u64 w v ws) (hl : ws.length ≤ 17592186044416) :
    Calls Tryf.prog 20 #[.agg #[.bool n, v]] w (NumR n ws w) := by
  obtain ⟨a, cap, rfl⟩ := h.form
  have H := Lib.hid h
  clear h
  go_enter Tryf.func20, Tryf.ntmps20
  go_wp2_with fail
  refine wp_region_D preExt mixed [fun x _ => x = .pointer (some ⟨w.heap.size, 0, none⟩), fun x _ => x = .bool n, fun x w1 => ∃ g, x = .slice (some ⟨g, 0, none⟩) 0 0 ∧ w.heap.size ≤ g ∧ w1.heap[g]? = some (.cells #[] 36 (0, 0)),
    fun x _ => x = .pointer (some ⟨w.heap.size, 1, none⟩), fun x _ => x = .slice a ws.length cap, fun x w1 => Own .u64 w1 w.heap.size 36 x ws, fun x w1 => ∃ s, x = .agg #[.bool n, s] ∧ Own .u64 w1 w.heap.size 36 s ws] (by kernel_rfl) ?mono rfl ?steps ?last
  case mono =>
    simp only [List.forall_mem_cons, List.not_mem_nil, false_implies, implies_true, and_true]
    exact ⟨fun _ _ _ _ q => q, fun _ _ _ _ q => q, fun _ _ _ he ⟨g, q1, q2, q3⟩ => ⟨g, q1, q2, he.block q3⟩, fun _ _ _ _ q => q, fun _ _ _ _ q => q, fun _ _ _ he q => q.ext he, fun _ _ _ he ⟨s, q1, q2⟩ => ⟨s, q1, q2.ext he⟩⟩
  case steps =>
    refine ⟨?_, ?_, ?_, ?_, ?_, ?_, ?_, trivial⟩
    all_goals
      intro u0 u1 u2 u3 u4 u5 u6 u7 w1 he hk
      simp [KnownD, Oper.looksAt, Op.operands, Call.operands, List.findIdx?_cons, Act.put] at hk
      simp only [Act.put, List.setIfInBounds_toArray, List.set_cons_succ, List.set_cons_zero]
    · go_wp2_with fail
      exact ⟨rfl, Ext.refl _, rfl⟩
    · have hc := fun a v h => Ext.cell he (a := a) (v := v) h
      go_wp2_with fail
      exact ⟨rfl, Ext.refl _, rfl⟩
    · have hs := he.size
      simp only [World.size_alloc] at hs
      go_wp2_with fail
      exact ⟨rfl, Ext.alloc _ _, _, rfl, by omega, heap_alloc_new _ _⟩
    · go_wp2_with fail
      exact ⟨rfl, Ext.refl _, rfl⟩
    · have hc := fun a v h => Ext.cell he (a := a) (v := v) h
      go_wp2_with fail
      exact ⟨rfl, Ext.refl _, rfl⟩
    · obtain ⟨⟨g, rfl, hg1, hg2⟩, rfl⟩ := hk
      refine wpList_copy_words (k := .u64) (bytes := 8) rfl (.tmp 5) (.tmp 7) 24 rfl 36 Tryf.underlying24 infoUint w.heap.size g rfl hg2 hg1 _ rfl ws (H.out.ext (((Ext.alloc _ _).trans (Ext.alloc _ _)).trans he)) (by omega) (by omega) ?_
      intro v' w' ho he'
      refine wpList_nil ?_
      simp only [Act.put, List.setIfInBounds_toArray, List.set_cons_succ, List.set_cons_zero]
      exact ⟨rfl, he', ho⟩
    · obtain ⟨rfl, hk⟩ := hk
      obtain ⟨a', cap', rfl⟩ := hk.form
      go_wp2_with fail
      exact ⟨rfl, Ext.refl _, _, rfl, hk⟩
  case last =>
    intro w1 he u0 h0 u1 h1 u2 h2 u3 h3 u4 h4 u5 h5 u6 h6
    obtain ⟨s, rfl, ho⟩ := h6
    obtain ⟨a', cap', rfl⟩ := ho.form
    have hp : w1.heap[w.heap.size + 1]? = some (.cells #[.bool false, .slice none 0 0] 33 (0, 0)) := he.block (by rw [show w.heap.size + 1 = (w.alloc (.cells #[.bool n, .slice a ws.length cap] 26)).heap.size by simp]; exact heap_alloc_new _ _)
    have hE : Ext w w1 := ((Ext.alloc _ _).trans (Ext.alloc _ _)).trans he
    have c0 := blk_cell hp 0
    have c1 := blk_cell hp 1
    have f0 := blk_free hp 0
    have f1 := blk_free hp 1
    simp at c0 c1
    have HP := Lib.hid hp
    have HE := Lib.hid hE
    clear hp hE he h0 h1 h2 h3 h4 h5
    simp only [LastD, Act.put, List.setIfInBounds_toArray, List.set_cons_succ, List.set_cons_zero]
    go_wp2_with fail
    have hu : Upd (· = w.heap.size + 1) w1 ((w1.setCell ⟨w.heap.size + 1, 0, none⟩ (.bool n)).setCell ⟨w.heap.size + 1, 1, none⟩ (.slice a' ws.length cap')) := ((Upd.refl (· = w.heap.size + 1) _).setCell (by rfl) _).setCell (by rfl) _
    have hb2 := blk2_set1 (blk2_set0 HP.out (.bool n)) (.slice a' ws.length cap')
    refine bodyPost_ret (v := .agg #[.bool n, .slice a' ws.length cap']) ?_ rfl ⟨hu.ext HE.out (by omega), _, rfl, (ho.upd HP.out (by decide) hu).mono (Nat.zero_le _)⟩
    have d0 := blk_cell hb2 0
    have d1 := blk_cell hb2 1
    simp only [List.getElem?_toArray, List.getElem?_cons_zero, List.getElem?_cons_succ] at d0 d1
    generalize ((w1.setCell ⟨w.heap.size + 1, 0, none⟩ (.bool n)).setCell ⟨w.heap.size + 1, 1, none⟩ (.slice a' ws.length cap')) = w2 at d0 d1 ⊢
    simp [results, Tryf.results20, go_sem, d0, d1]

set_option maxHeartbeats 1000000 in
theorem toSpec_any (n : Bool) (v : Value) (ws : List Nat) (w : World) (h : Rd .u64 w v ws) (hl : ws.length ≤ 17592186044416) :
    Calls Tryf.prog 35 #[.agg #[.bool n, v]] w (NumR n ws w) := by
  obtain ⟨a, cap, rfl⟩ := h.form
  have H := Lib.hid h
  clear h
  go_enter Tryf.func35, Tryf.ntmps35
  go_wp2_with fail
  refine wp_region_D preExt mixed [fun x _ => x = .pointer (some ⟨w.heap.size, 0, none⟩), fun x _ => x = .bool n, fun x w1 => ∃ g, x = .slice (some ⟨g, 0, none⟩) 0 0 ∧ w.heap.size ≤ g ∧ w1.heap[g]? = some (.cells #[] 36 (0, 0)),
    fun x _ => x = .pointer (some ⟨w.heap.size, 1, none⟩), fun x _ => x = .slice a ws.length cap, fun x w1 => Own .u64 w1 w.heap.size 36 x ws, fun x w1 => ∃ s, x = .agg #[.bool n, s] ∧ Own .u64 w1 w.heap.size 36 s ws] (by kernel_rfl) ?mono rfl ?steps ?last
  case mono =>
    simp only [List.forall_mem_cons, List.not_mem_nil, false_implies, implies_true, and_true]
    exact ⟨fun _ _ _ _ q => q, fun _ _ _ _ q => q, fun _ _ _ he ⟨g, q1, q2, q3⟩ => ⟨g, q1, q2, he.block q3⟩, fun _ _ _ _ q => q, fun _ _ _ _ q => q, fun _ _ _ he q => q.ext he, fun _ _ _ he ⟨s, q1, q2⟩ => ⟨s, q1, q2.ext he⟩⟩
  case steps =>
    refine ⟨?_, ?_, ?_, ?_, ?_, ?_, ?_, trivial⟩
    all_goals
      intro u0 u1 u2 u3 u4 u5 u6 u7 w1 he hk
      simp [KnownD, Oper.looksAt, Op.operands, Call.operands, List.findIdx?_cons, Act.put] at hk
      simp only [Act.put, List.setIfInBounds_toArray, List.set_cons_succ, List.set_cons_zero]
    · go_wp2_with fail
      exact ⟨rfl, Ext.refl _, rfl⟩
    · have hc := fun a v h => Ext.cell he (a := a) (v := v) h
      go_wp2_with fail
      exact ⟨rfl, Ext.refl _, rfl⟩
    · have hs := he.size
      simp only [World.size_alloc] at hs
      go_wp2_with fail
      exact ⟨rfl, Ext.alloc _ _, _, rfl, by omega, heap_alloc_new _ _⟩
    · go_wp2_with fail
      exact ⟨rfl, Ext.refl _, rfl⟩
    · have hc := fun a v h => Ext.cell he (a := a) (v := v) h
      go_wp2_with fail
      exact ⟨rfl, Ext.refl _, rfl⟩
    · obtain ⟨⟨g, rfl, hg1, hg2⟩, rfl⟩ := hk
      refine wpList_copy_words (k := .u64) (bytes := 8) rfl (.tmp 5) (.tmp 7) 24 rfl 36 Tryf.underlying24 infoUint w.heap.size g rfl hg2 hg1 _ rfl ws (H.out.ext (((Ext.alloc _ _).trans (Ext.alloc _ _)).trans he)) (by omega) (by omega) ?_
      intro v' w' ho he'
      refine wpList_nil ?_
      simp only [Act.put, List.setIfInBounds_toArray, List.set_cons_succ, List.set_cons_zero]
      exact ⟨rfl, he', ho⟩
    · obtain ⟨rfl, hk⟩ := hk
      obtain ⟨a', cap', rfl⟩ := hk.form
      go_wp2_with fail
      exact ⟨rfl, Ext.refl _, _, rfl, hk⟩
  case last =>
    intro w1 he u0 h0 u1 h1 u2 h2 u3 h3 u4 h4 u5 h5 u6 h6
    obtain ⟨s, rfl, ho⟩ := h6
    obtain ⟨a', cap', rfl⟩ := ho.form
    have hp : w1.heap[w.heap.size + 1]? = some (.cells #[.bool false, .slice none 0 0] 38 (0, 0)) := he.block (by rw [show w.heap.size + 1 = (w.alloc (.cells #[.bool n, .slice a ws.length cap] 26)).heap.size by simp]; exact heap_alloc_new _ _)
    have hE : Ext w w1 := ((Ext.alloc _ _).trans (Ext.alloc _ _)).trans he
    have c0 := blk_cell hp 0
    have c1 := blk_cell hp 1
    have f0 := blk_free hp 0
    have f1 := blk_free hp 1
    simp at c0 c1
    have HP := Lib.hid hp
    have HE := Lib.hid hE
    clear hp hE he h0 h1 h2 h3 h4 h5
    simp only [LastD, Act.put, List.setIfInBounds_toArray, List.set_cons_succ, List.set_cons_zero]
    go_wp2_with fail
    have hu : Upd (· = w.heap.size + 1) w1 ((w1.setCell ⟨w.heap.size + 1, 0, none⟩ (.bool n)).setCell ⟨w.heap.size + 1, 1, none⟩ (.slice a' ws.length cap')) := ((Upd.refl (· = w.heap.size + 1) _).setCell (by rfl) _).setCell (by rfl) _
    have hb2 := blk2_set1 (blk2_set0 HP.out (.bool n)) (.slice a' ws.length cap')
    refine bodyPost_ret (v := .agg #[.bool n, .slice a' ws.length cap']) ?_ rfl ⟨hu.ext HE.out (by omega), _, rfl, (ho.upd HP.out (by decide) hu).mono (Nat.zero_le _)⟩
    have d0 := blk_cell hb2 0
    have d1 := blk_cell hb2 1
    simp only [List.getElem?_toArray, List.getElem?_cons_zero, List.getElem?_cons_succ] at d0 d1
    generalize ((w1.setCell ⟨w.heap.size + 1, 0, none⟩ (.bool n)).setCell ⟨w.heap.size + 1, 1, none⟩ (.slice a' ws.length cap')) = w2 at d0 d1 ⊢
    simp [results, Tryf.results35, go_sem, d0, d1]

end Go.Proofs.YtocadbghhoibnaaFmt

/- The reference, more: word, compare, integer, Trim, Abs, SetBits, FromUint, SameNumber, and the law's own 'same', 'fromImpl', 'fromSpec': contracts. -/
namespace Go.Proofs.YtocadbghhoibnaaFmt
open Go.RowKit

theorem results_spec {fn : Func} {t : Tmp} (h : fn.results = #[.cell t 38]) (tmps : Array Value) {p : Nat} (ht : tmps.getD t undef = .pointer (some ⟨p, 0, none⟩)) {w : World} {x y : Value} (d0 : w.cell? ⟨p, 0, none⟩ = some x) (d1 : w.cell? ⟨p, 1, none⟩ = some y) :
    (results fn tmps).run Tryf.prog w = .ok (.agg #[x, y]) w := by
  simp at ht
  simp [results, h, ht, go_sem, d0, d1]

theorem results_impl {fn : Func} {t : Tmp} (h : fn.results = #[.cell t 33]) (tmps : Array Value) {p : Nat} (ht : tmps.getD t undef = .pointer (some ⟨p, 0, none⟩)) {w : World} {x y : Value} (d0 : w.cell? ⟨p, 0, none⟩ = some x) (d1 : w.cell? ⟨p, 1, none⟩ = some y) :
    (results fn tmps).run Tryf.prog w = .ok (.agg #[x, y]) w := by
  simp at ht
  simp [results, h, ht, go_sem, d0, d1]

theorem results_laws {fn : Func} {t : Tmp} (h : fn.results = #[.cell t 26]) (tmps : Array Value) {p : Nat} (ht : tmps.getD t undef = .pointer (some ⟨p, 0, none⟩)) {w : World} {x y : Value} (d0 : w.cell? ⟨p, 0, none⟩ = some x) (d1 : w.cell? ⟨p, 1, none⟩ = some y) :
    (results fn tmps).run Tryf.prog w = .ok (.agg #[x, y]) w := by
  simp at ht
  simp [results, h, ht, go_sem, d0, d1]

/-- A block of two cells, both written. -/
theorem set2 {w : World} {p : Nat} {x y : Value} {T : TypeId} (hp : w.heap[p]? = some (.cells #[x, y] T (0, 0))) (u v : Value) :
    ((w.setCell ⟨p, 0, none⟩ u).setCell ⟨p, 1, none⟩ v).cell? ⟨p, 0, none⟩ = some u ∧ ((w.setCell ⟨p, 0, none⟩ u).setCell ⟨p, 1, none⟩ v).cell? ⟨p, 1, none⟩ = some v ∧ Upd (· = p) w ((w.setCell ⟨p, 0, none⟩ u).setCell ⟨p, 1, none⟩ v) := by
  have h := blk2_set1 (blk2_set0 hp u) v
  exact ⟨by rw [blk_cell h]; rfl, by rw [blk_cell h]; rfl, ((Upd.refl (· = p) _).setCell (by rfl) _).setCell (by rfl) _⟩

theorem word_any (v : Value) (ws : List Nat) (i x : Nat) (w : World) (h : Rd .u64 w v ws) (hi : i ≤ 9223372036854775807) (hx : ws.getD i 0 = x) :
    Calls Tryf.prog 70 #[v, .int .i64 i] w fun e w' => e = .returned (.int .u64 x) ∧ w = w' := by
  obtain ⟨_, a, cap, rfl, hlc, hcap, hnil, hcells⟩ := h
  by_cases hlt : i < ws.length
  · obtain ⟨b, off, rfl, hc⟩ := hcells i hlt
    rw [hx] at hc
    clear hcells hnil hx
    go_enter Tryf.func70, Tryf.ntmps70
    go_wp2
    go_ret
    exact ⟨rfl, rfl⟩
  · obtain rfl : x = 0 := by rw [← hx]; simp [Nat.not_lt.1 hlt]
    clear hcells hnil hx
    go_enter Tryf.func70, Tryf.ntmps70
    go_wp2
    go_ret
    exact ⟨rfl, rfl⟩

/-- How words compare. -/
def cmpW (a b : List Nat) : Int := cmpZ (val a) (val b)

theorem cmpW_lt {a b : List Nat} (h : val a < val b) : cmpW a b = -1 := by unfold cmpW cmpZ; rw [if_pos (by omega)]

theorem cmpW_gt {a b : List Nat} (h : val b < val a) : cmpW a b = 1 := by unfold cmpW cmpZ; rw [if_neg (by omega), if_pos (by omega)]

theorem cmpW_eq {a b : List Nat} (h : val b = val a) : cmpW a b = 0 := by unfold cmpW cmpZ; rw [if_neg (by omega), if_neg (by omega)]

set_option maxHeartbeats 1000000 in
theorem compare_any (u v : Value) (a b : List Nat) (w : World) (ha : Rd .u64 w u a) (hb : Rd .u64 w v b) (hla : a.length ≤ 9223372036854775806) (hlb : b.length ≤ 9223372036854775806) :
    Calls Tryf.prog 58 #[u, v] w fun e w' => e = .returned (.int .i64 (cmpW a b)) ∧ w = w' := by
  have hba : ∀ x ∈ a, x < 18446744073709551616 := ha.1
  have hbb : ∀ x ∈ b, x < 18446744073709551616 := hb.1
  obtain ⟨aa, ca, rfl⟩ := ha.form
  obtain ⟨ab, cb, rfl⟩ := hb.form
  have HA := Lib.hid ha
  have HB := Lib.hid hb
  have HBA := Lib.hid hba
  have HBB := Lib.hid hbb
  clear ha hb hba hbb
  generalize hc : cmpW a b = c
  have HC := Lib.hid hc
  clear hc
  obtain ⟨m, hm, hma, hmb, hml⟩ : ∃ m : Nat, m = (if a.length < b.length then b.length else a.length) ∧ a.length ≤ m ∧ b.length ≤ m ∧ m ≤ 9223372036854775806 := ⟨_, rfl, by split <;> omega, by split <;> omega, by split <;> omega⟩
  by_cases hmx : a.length < b.length
  all_goals
    simp only [hmx, if_true, if_false] at hm
    go_enter Tryf.func58, Tryf.ntmps58
    go_wp2_with fail
    go_loop [5] (fun i => ∃ k : Nat, k ≤ m ∧ i = .int .i64 ((k : Int) - 1) ∧ Hid (val (a.drop k) = val (b.drop k))) (fun i => (intOf i + 1).toNat)
    case atStart => exact ⟨m, Nat.le_refl _, by rw [hm], by rw [val_drop_all a m hma, val_drop_all b m hmb]; exact rfl⟩
    case round =>
      obtain ⟨k, hk, rfl, hn⟩ := hrel
      clear hm
      cases k with
      | zero =>
        rw [show ((0 : Nat) : Int) - 1 = -1 from rfl]
        go_wp2_with fail
        go_ret
        rw [← HC.out, cmpW_eq (by simpa using hn.out.symm)]
        exact ⟨rfl, rfl⟩
      | succ j =>
        rw [show ((j + 1 : Nat) : Int) - 1 = (j : Int) by omega]
        obtain ⟨x, hx⟩ : ∃ x, a.getD j 0 = x := ⟨_, rfl⟩
        obtain ⟨y, hy⟩ : ∃ y, b.getD j 0 = y := ⟨_, rfl⟩
        have HX := Lib.hid hx
        have HY := Lib.hid hy
        clear hx hy
        rcases Nat.lt_trichotomy x y with hxy | hxy | hxy
        · go_wp2_with fail
          refine (word_any _ a j x _ HA.out (by omega) HX.out).mono ?_
          rintro e w1 ⟨rfl, rfl⟩
          go_wp2_with fail
          refine (word_any _ b j y _ HB.out (by omega) HY.out).mono ?_
          rintro e w1 ⟨rfl, rfl⟩
          go_wp2_with fail
          go_ret
          rw [← HC.out, cmpW_lt (val_lt_of HBA.out j hn.out (by rw [HX.out, HY.out]; exact hxy))]
          exact ⟨rfl, rfl⟩
        · subst hxy
          go_wp2_with fail
          refine (word_any _ a j x _ HA.out (by omega) HX.out).mono ?_
          rintro e w1 ⟨rfl, rfl⟩
          go_wp2_with fail
          refine (word_any _ b j x _ HB.out (by omega) HY.out).mono ?_
          rintro e w1 ⟨rfl, rfl⟩
          go_wp2_with fail
          refine (word_any _ a j x _ HA.out (by omega) HX.out).mono ?_
          rintro e w1 ⟨rfl, rfl⟩
          go_wp2_with fail
          refine (word_any _ b j x _ HB.out (by omega) HY.out).mono ?_
          rintro e w1 ⟨rfl, rfl⟩
          go_wp2_with fail
          go_round
          case rel => exact ⟨j, by omega, by go_num, by rw [val_drop a j, val_drop b j, HX.out, HY.out, hn.out]; exact rfl⟩
          case measure => simp [intOf]
        · go_wp2_with fail
          refine (word_any _ a j x _ HA.out (by omega) HX.out).mono ?_
          rintro e w1 ⟨rfl, rfl⟩
          go_wp2_with fail
          refine (word_any _ b j y _ HB.out (by omega) HY.out).mono ?_
          rintro e w1 ⟨rfl, rfl⟩
          go_wp2_with fail
          refine (word_any _ a j x _ HA.out (by omega) HX.out).mono ?_
          rintro e w1 ⟨rfl, rfl⟩
          go_wp2_with fail
          refine (word_any _ b j y _ HB.out (by omega) HY.out).mono ?_
          rintro e w1 ⟨rfl, rfl⟩
          go_wp2_with fail
          go_ret
          rw [← HC.out, cmpW_gt (val_lt_of HBB.out j hn.out.symm (by rw [HX.out, HY.out]; exact hxy))]
          exact ⟨rfl, rfl⟩

theorem specInteger_any (n : Bool) (v : Value) (ws : List Nat) (w : World) (h : Rd .u64 w v ws) (hl : ws.length ≤ 17592186044416) :
    Calls Tryf.prog 47 #[.bool n, v] w (NumR (decide (0 < (norm ws).length) && n) (norm ws) w) := by
  obtain ⟨a, cap, rfl⟩ := h.form
  have hnl := norm_length_le ws
  have H := Lib.hid h
  clear h
  go_enter Tryf.func47, Tryf.ntmps47
  go_wp2_with fail
  refine (trim_any _ ws _ (H.out.ext (Ext.alloc _ _)) hl).mono ?_
  rintro e w1 ⟨he, v', rfl, ho⟩
  obtain ⟨a', cap', rfl⟩ := ho.form
  have hp : w1.heap[w.heap.size]? = some (.cells #[.bool false, .slice none 0 0] 38 (0, 0)) := he.block (heap_alloc_new _ _)
  have c0 := blk_cell hp 0
  have c1 := blk_cell hp 1
  have f0 := blk_free hp 0
  have f1 := blk_free hp 1
  simp at c0 c1
  have HP := Lib.hid hp
  have HE := Lib.hid ((Ext.alloc _ _).trans he)
  generalize hm : norm ws = m at *
  have HM := Lib.hid hm
  clear hp he hm
  have hml : m.length ≤ 9223372036854775807 := by omega
  clear hnl
  by_cases hpos : 0 < m.length
  all_goals
    cases n
    all_goals
      go_wp2_with fail
      obtain ⟨d0, d1, hu⟩ := set2 HP.out (.bool (decide (0 < m.length) && false)) (.slice a' m.length cap')
      obtain ⟨d0', d1', hu'⟩ := set2 HP.out (.bool (decide (0 < m.length) && true)) (.slice a' m.length cap')
      simp only [hpos, decide_true, decide_false, Bool.true_and, Bool.false_and] at d0 d1 hu d0' d1' hu' ⊢
      first
        | exact bodyPost_ret (results_spec rfl _ rfl d0 d1) rfl ⟨hu.ext HE.out (by omega), _, rfl, ho.upd HP.out (by decide) hu⟩
        | exact bodyPost_ret (results_spec rfl _ rfl d0' d1') rfl ⟨hu'.ext HE.out (by omega), _, rfl, ho.upd HP.out (by decide) hu'⟩

end Go.Proofs.YtocadbghhoibnaaFmt

/- Functions that hand a Number on through a result cell: contracts (printed by gen2.py). -/
namespace Go.Proofs.YtocadbghhoibnaaFmt
open Go.RowKit

theorem heap_second (w : World) (o o' : Obj) : ((w.alloc o).alloc o').heap[w.heap.size + 1]? = some o' := by
  have := heap_alloc_new (w.alloc o) o'
  rwa [World.size_alloc] at this

theorem specTrim_any (n : Bool) (v : Value) (ws : List Nat) (w : World) (h : Rd .u64 w v ws) (hl : ws.length ≤ 17592186044416) :
    Calls Tryf.prog 57 #[.agg #[.bool n, v]] w (NumR (decide (0 < (norm ws).length) && n) (norm ws) w) := by
  obtain ⟨a, cap, rfl⟩ := h.form
  have H := Lib.hid h
  clear h
  go_enter Tryf.func57, Tryf.ntmps57
  go_wp2_with fail
  refine (specInteger_any (n) _ ws _ (H.out.ext ((Ext.alloc _ _).trans (Ext.alloc _ _))) hl).mono ?_
  rintro e w1 ⟨he, v', rfl, ho⟩
  obtain ⟨a', cap', rfl⟩ := ho.form
  have hp : w1.heap[w.heap.size + 1]? = some (.cells #[.bool false, .slice none 0 0] 38 (0, 0)) := he.block (heap_second _ _ _)
  have c0 := blk_cell hp 0
  have c1 := blk_cell hp 1
  have f0 := blk_free hp 0
  have f1 := blk_free hp 1
  simp at c0 c1
  have HP := Lib.hid hp
  have HE := Lib.hid (((Ext.alloc _ _).trans (Ext.alloc _ _)).trans he)
  clear hp he
  generalize hn : (decide (0 < (norm ws).length) && n) = nn at *
  have HN := Lib.hid hn
  clear hn
  generalize hm : norm ws = m at *
  have HM := Lib.hid hm
  clear hm
  go_wp2_with fail
  obtain ⟨d0, d1, hu⟩ := set2 HP.out (.bool nn) (.slice a' m.length cap')
  exact bodyPost_ret (results_spec rfl _ rfl d0 d1) rfl ⟨hu.ext HE.out (by omega), _, rfl, ho.upd HP.out (by decide) hu⟩

theorem specAbs_any (n : Bool) (v : Value) (ws : List Nat) (w : World) (h : Rd .u64 w v ws) (hl : ws.length ≤ 17592186044416) :
    Calls Tryf.prog 37 #[.agg #[.bool n, v]] w (NumR (decide (0 < (norm ws).length) && false) (norm ws) w) := by
  obtain ⟨a, cap, rfl⟩ := h.form
  have H := Lib.hid h
  clear h
  go_enter Tryf.func37, Tryf.ntmps37
  go_wp2_with fail
  refine (specInteger_any (false) _ ws _ (H.out.ext ((Ext.alloc _ _).trans (Ext.alloc _ _))) hl).mono ?_
  rintro e w1 ⟨he, v', rfl, ho⟩
  obtain ⟨a', cap', rfl⟩ := ho.form
  have hp : w1.heap[w.heap.size + 1]? = some (.cells #[.bool false, .slice none 0 0] 38 (0, 0)) := he.block (heap_second _ _ _)
  have c0 := blk_cell hp 0
  have c1 := blk_cell hp 1
  have f0 := blk_free hp 0
  have f1 := blk_free hp 1
  simp at c0 c1
  have HP := Lib.hid hp
  have HE := Lib.hid (((Ext.alloc _ _).trans (Ext.alloc _ _)).trans he)
  clear hp he
  generalize hn : (decide (0 < (norm ws).length) && false) = nn at *
  have HN := Lib.hid hn
  clear hn
  generalize hm : norm ws = m at *
  have HM := Lib.hid hm
  clear hm
  go_wp2_with fail
  obtain ⟨d0, d1, hu⟩ := set2 HP.out (.bool nn) (.slice a' m.length cap')
  exact bodyPost_ret (results_spec rfl _ rfl d0 d1) rfl ⟨hu.ext HE.out (by omega), _, rfl, ho.upd HP.out (by decide) hu⟩

theorem fromImpl_any (n : Bool) (v : Value) (ws : List Nat) (w : World) (ho : Own .u64 w 0 36 v ws) :
    Calls Tryf.prog 28 #[.agg #[.bool n, v]] w (NumR n ws w) := by
  obtain ⟨a', cap', rfl⟩ := ho.form
  go_enter Tryf.func28, Tryf.ntmps28
  go_wp2_with fail
  have hp : ((w.alloc (.cells #[.bool n, .slice a' ws.length cap'] 33)).alloc (.cells #[.bool n, .slice a' ws.length cap'] 26)).heap[w.heap.size + 1]? = some (.cells #[.bool n, .slice a' ws.length cap'] 26 (0, 0)) := heap_second _ _ _
  have hE : Ext w ((w.alloc (.cells #[.bool n, .slice a' ws.length cap'] 33)).alloc (.cells #[.bool n, .slice a' ws.length cap'] 26)) := (Ext.alloc _ _).trans (Ext.alloc _ _)
  exact bodyPost_ret (results_laws rfl _ rfl (blk_cell hp 0) (blk_cell hp 1)) rfl ⟨hE, _, rfl, ho.ext hE⟩

theorem fromSpec_any (n : Bool) (v : Value) (ws : List Nat) (w : World) (ho : Own .u64 w 0 36 v ws) :
    Calls Tryf.prog 29 #[.agg #[.bool n, v]] w (NumR n ws w) := by
  obtain ⟨a', cap', rfl⟩ := ho.form
  go_enter Tryf.func29, Tryf.ntmps29
  go_wp2_with fail
  have hp : ((w.alloc (.cells #[.bool n, .slice a' ws.length cap'] 38)).alloc (.cells #[.bool n, .slice a' ws.length cap'] 26)).heap[w.heap.size + 1]? = some (.cells #[.bool n, .slice a' ws.length cap'] 26 (0, 0)) := heap_second _ _ _
  have hE : Ext w ((w.alloc (.cells #[.bool n, .slice a' ws.length cap'] 38)).alloc (.cells #[.bool n, .slice a' ws.length cap'] 26)) := (Ext.alloc _ _).trans (Ext.alloc _ _)
  exact bodyPost_ret (results_laws rfl _ rfl (blk_cell hp 0) (blk_cell hp 1)) rfl ⟨hE, _, rfl, ho.ext hE⟩

end Go.Proofs.YtocadbghhoibnaaFmt

/- SameNumber and 'same': whether two numbers have one value: contracts. -/
namespace Go.Proofs.YtocadbghhoibnaaFmt
open Go.RowKit

/-- A number as a value, its words in a row of its own. -/
def IsO (n : Bool) (ws : List Nat) (x : Value) (w : World) : Prop := ∃ s, x = .agg #[.bool n, s] ∧ Own .u64 w 0 36 s ws

theorem IsO.ext {n : Bool} {ws : List Nat} {x : Value} {w w' : World} (h : IsO n ws x w) (he : Ext w w') : IsO n ws x w' := by
  obtain ⟨s, h1, h2⟩ := h
  exact ⟨s, h1, h2.ext he⟩

theorem sameB (n m : Bool) (a b : List Nat) : ((decide (0 < (norm a).length) && n) == (decide (0 < (norm b).length) && m) && (cmpW (norm a) (norm b) == 0)) = decide (ival n a = ival m b) := by
  rw [← ival_norm n a, ← ival_norm m b]
  have key : ∀ (ws : List Nat) (q : Bool), (decide (0 < (norm ws).length) && q) = true → val (norm ws) ≠ 0 := by
    intro ws q h h0
    rw [val_norm, ← norm_nil_iff] at h0
    rw [h0] at h
    simp at h
  have ka := key a n
  have kb := key b m
  generalize (decide (0 < (norm a).length) && n) = p at *
  generalize (decide (0 < (norm b).length) && m) = q at *
  rw [Bool.eq_iff_iff, decide_eq_true_iff, ival_eq_iff _ _ _ _ ka kb]
  simp only [Bool.and_eq_true, beq_iff_eq]
  have : cmpW (norm a) (norm b) = 0 ↔ val (norm a) = val (norm b) := by
    unfold cmpW cmpZ
    constructor
    · intro h; split at h <;> first | omega | (split at h <;> omega)
    · intro h; rw [if_neg (by omega), if_neg (by omega)]
  rw [this]

set_option maxHeartbeats 1000000 in
theorem sameNumber_any (n m : Bool) (u v : Value) (a b : List Nat) (w : World) (ha : Rd .u64 w u a) (hb : Rd .u64 w v b) (hla : a.length ≤ 17592186044416) (hlb : b.length ≤ 17592186044416) :
    Calls Tryf.prog 38 #[.agg #[.bool n, u], .agg #[.bool m, v]] w (ValR (.bool (decide (ival n a = ival m b))) w) := by
  rw [← sameB n m a b]
  obtain ⟨aa, ca, rfl⟩ := ha.form
  obtain ⟨ab, cb, rfl⟩ := hb.form
  have hna := norm_length_le a
  have hnb := norm_length_le b
  have HA := Lib.hid ha
  have HB := Lib.hid hb
  clear ha hb
  generalize hp : (decide (0 < (norm a).length) && n) = p
  generalize hq : (decide (0 < (norm b).length) && m) = q
  have HP := Lib.hid hp
  have HQ := Lib.hid hq
  clear hp hq
  go_enter Tryf.func38, Tryf.ntmps38
  go_wp2_with fail
  refine (specTrim_any n _ a _ (HA.out.ext ((Ext.alloc _ _).trans (Ext.alloc _ _))) hla).mono ?_
  rintro e w1 ⟨he, v1, rfl, ho1⟩
  rw [HP.out]
  obtain ⟨a1, c1, rfl⟩ := ho1.form
  have hy0 : w1.cell? ⟨w.heap.size + 1, 0, none⟩ = some (.bool m) := by rw [blk_cell (he.block (heap_second _ _ _))]; rfl
  have hy1 : w1.cell? ⟨w.heap.size + 1, 1, none⟩ = some (.slice ab b.length cb) := by rw [blk_cell (he.block (heap_second _ _ _))]; rfl
  have hy0' := fun o => (Ext.alloc w1 o).cell hy0
  have hy1' := fun o => (Ext.alloc w1 o).cell hy1
  have HE1 := Lib.hid (((Ext.alloc _ _).trans (Ext.alloc _ _)).trans he)
  have HO1 := Lib.hid ho1
  have hs1 := he.size
  simp only [World.size_alloc] at hs1
  clear he ho1
  generalize hg1 : norm a = na at *
  have HG1 := Lib.hid hg1
  clear hg1
  go_wp2_with fail
  refine (specTrim_any m _ b _ ((HB.out.ext HE1.out).ext (Ext.alloc _ _)) hlb).mono ?_
  rintro e w2 ⟨he, v2, rfl, ho2⟩
  rw [HQ.out]
  obtain ⟨a2, c2, rfl⟩ := ho2.form
  have hx0 : w2.cell? ⟨w1.heap.size, 0, none⟩ = some (.bool p) := by rw [blk_cell (he.block (heap_alloc_new _ _))]; rfl
  have hx1 : w2.cell? ⟨w1.heap.size, 1, none⟩ = some (.slice a1 na.length c1) := by rw [blk_cell (he.block (heap_alloc_new _ _))]; rfl
  have HE2 := Lib.hid ((HE1.out.trans (Ext.alloc _ _)).trans he)
  have HO1' := Lib.hid ((HO1.out.ext (Ext.alloc _ _)).ext he)
  have HO2 := Lib.hid ho2
  have hs2 := he.size
  simp only [World.size_alloc] at hs2
  clear he ho2 hy0 hy1 hy0' hy1'
  have hx0' := fun o => (Ext.alloc w2 o).cell hx0
  have hx1' := fun o => (Ext.alloc w2 o).cell hx1
  generalize hg2 : norm b = nb at *
  have HG2 := Lib.hid hg2
  clear hg2
  by_cases hpq : p = q
  · have hpq' : (p == q) = true := by simp [hpq]
    clear hpq
    go_wp2_with fail
    refine (compare_any _ _ na nb _ (HO1'.out.read.ext (Ext.alloc _ _)) (HO2.out.read.ext (Ext.alloc _ _)) (by omega) (by omega)).mono ?_
    rintro e w3 ⟨rfl, rfl⟩
    go_wp2_with fail
    go_ret
    exact ⟨HE2.out.trans (Ext.alloc _ _), by simp [hpq']⟩
  · have hpq' : (p == q) = false := by simp [hpq]
    clear hpq
    go_wp2_with fail
    go_ret
    exact ⟨HE2.out.trans (Ext.alloc _ _), by simp [hpq']⟩

set_option maxHeartbeats 1000000 in
theorem same_any (n m : Bool) (u v : Value) (a b : List Nat) (w : World) (ha : Rd .u64 w u a) (hb : Rd .u64 w v b) (hla : a.length ≤ 17592186044416) (hlb : b.length ≤ 17592186044416) :
    Calls Tryf.prog 16 #[.agg #[.bool n, u], .agg #[.bool m, v]] w (ValR (.bool (decide (ival n a = ival m b))) w) := by
  obtain ⟨aa, ca, rfl⟩ := ha.form
  obtain ⟨ab, cb, rfl⟩ := hb.form
  generalize hq : decide (ival n a = ival m b) = q
  have HQ := Lib.hid hq
  have HA := Lib.hid ha
  have HB := Lib.hid hb
  clear ha hb hq
  go_enter Tryf.func16, Tryf.ntmps16
  go_wp2_with fail
  refine wp_region_D preExt mixed [fun x _ => x = .agg #[.bool n, .slice aa a.length ca], IsO n a, fun x _ => x = .agg #[.bool m, .slice ab b.length cb], IsO m b, fun x _ => x = .bool q] (by kernel_rfl) ?mono rfl ?steps ?last
  case mono =>
    simp only [List.forall_mem_cons, List.not_mem_nil, false_implies, implies_true, and_true]
    refine ⟨?_, ?_, ?_, ?_, ?_⟩
    all_goals first | exact fun _ _ _ _ q => q | exact fun _ _ _ he q => q.ext he
  case steps =>
    refine ⟨?_, ?_, ?_, ?_, ?_, trivial⟩
    all_goals
      intro u0 u1 u2 u3 u4 u5 w1 he hk
      simp [KnownD, Oper.looksAt, Op.operands, Call.operands, List.findIdx?_cons, Act.put] at hk
      simp only [Act.put, List.setIfInBounds_toArray, List.set_cons_succ, List.set_cons_zero]
    · have hc := fun a v h => Ext.cell he (a := a) (v := v) h
      go_wp2_with fail
      exact ⟨rfl, Ext.refl _, rfl⟩
    · subst hk
      have H1 := Lib.hid (HA.out.ext (((Ext.alloc _ _).trans (Ext.alloc _ _)).trans he))
      go_wp2_with fail
      refine (toSpec_any n _ a _ H1.out hla).mono ?_
      rintro e w2 ⟨he2, s, rfl, hr⟩
      go_wp2_with fail
      exact ⟨rfl, he2, s, rfl, hr⟩
    · have hc := fun a v h => Ext.cell he (a := a) (v := v) h
      go_wp2_with fail
      exact ⟨rfl, Ext.refl _, rfl⟩
    · subst hk
      have H1 := Lib.hid (HB.out.ext (((Ext.alloc _ _).trans (Ext.alloc _ _)).trans he))
      go_wp2_with fail
      refine (toSpec_any m _ b _ H1.out hlb).mono ?_
      rintro e w2 ⟨he2, s, rfl, hr⟩
      go_wp2_with fail
      exact ⟨rfl, he2, s, rfl, hr⟩
    · obtain ⟨⟨s, rfl, hr⟩, ⟨s2, rfl, hr2⟩⟩ := hk
      have H1 := Lib.hid hr.read
      have H2 := Lib.hid hr2.read
      clear hr hr2
      go_wp2_with fail
      refine (sameNumber_any n m _ _ a b _ H1.out H2.out hla hlb).mono ?_
      rw [HQ.out]
      rintro e w2 ⟨he2, rfl⟩
      go_wp2_with fail
      exact ⟨rfl, he2, rfl⟩
  case last =>
    intro w1 he u0 h0 u1 h1 u2 h2 u3 h3 u4 h4
    simp only [List.headD, List.tail] at h4
    subst h4
    simp only [LastD, Act.put, List.setIfInBounds_toArray, List.set_cons_succ, List.set_cons_zero]
    clear h0 h1 h2 h3
    have HE := Lib.hid (((Ext.alloc _ _).trans (Ext.alloc _ _)).trans he)
    clear he
    go_wp2_with fail
    go_ret
    exact ⟨HE.out, rfl⟩

end Go.Proofs.YtocadbghhoibnaaFmt

/- Numbers told by their values; integer, number, Sign by values: contracts. -/
namespace Go.Proofs.YtocadbghhoibnaaFmt
open Go.RowKit

/-- Something comes back of which D holds; memory has only grown. -/
def ResR (D : Value → World → Prop) (w : World) (e : Ending) (w' : World) : Prop := Ext w w' ∧ ∃ x, e = .returned x ∧ D x w'

/-- The very value. -/
def Is (v : Value) (x : Value) (_ : World) : Prop := x = v

/-- Nothing is said. -/
def Any (_ : Value) (_ : World) : Prop := True

theorem Any.ext {x : Value} {w w' : World} (h : Any x w) (he : Ext w w') : Any x w' := trivial

/-- A number of at most L words and of value z; one in a row of its own; one without zeros at its end. -/
def IsZ (L : Nat) (z : Int) (x : Value) (w : World) : Prop := ∃ n s ws, x = .agg #[.bool n, s] ∧ Rd .u64 w s ws ∧ ws.length ≤ L ∧ ival n ws = z

def IsW (L : Nat) (z : Int) (x : Value) (w : World) : Prop := ∃ n s ws, x = .agg #[.bool n, s] ∧ Own .u64 w 0 36 s ws ∧ ws.length ≤ L ∧ ival n ws = z

def IsC (L : Nat) (z : Int) (x : Value) (w : World) : Prop := ∃ s ws, x = .agg #[.bool (decide (z < 0)), s] ∧ Own .u64 w 0 36 s ws ∧ norm ws = ws ∧ val ws = z.natAbs ∧ ws.length ≤ L

theorem IsZ.ext {L : Nat} {z : Int} {x : Value} {w w' : World} (h : IsZ L z x w) (he : Ext w w') : IsZ L z x w' := by
  obtain ⟨n, s, ws, h1, h2, h3⟩ := h; exact ⟨n, s, ws, h1, h2.ext he, h3⟩

theorem IsW.ext {L : Nat} {z : Int} {x : Value} {w w' : World} (h : IsW L z x w) (he : Ext w w') : IsW L z x w' := by
  obtain ⟨n, s, ws, h1, h2, h3⟩ := h; exact ⟨n, s, ws, h1, h2.ext he, h3⟩

theorem IsC.ext {L : Nat} {z : Int} {x : Value} {w w' : World} (h : IsC L z x w) (he : Ext w w') : IsC L z x w' := by
  obtain ⟨s, ws, h1, h2, h3⟩ := h; exact ⟨s, ws, h1, h2.ext he, h3⟩

theorem Is.ext {v x : Value} {w w' : World} (h : Is v x w) (he : Ext w w') : Is v x w' := h

theorem IsW.z {L : Nat} {z : Int} {x : Value} {w : World} (h : IsW L z x w) : IsZ L z x w := by
  obtain ⟨n, s, ws, h1, h2, h3⟩ := h; exact ⟨n, s, ws, h1, h2.read, h3⟩

theorem ival_of_abs {z : Int} {ws : List Nat} (h : val ws = z.natAbs) : ival (decide (z < 0)) ws = z := by
  unfold ival
  by_cases hz : z < 0
  · simp only [hz, decide_true, cond_true]; omega
  · simp only [hz, decide_false, cond_false]; omega

theorem IsC.w {L : Nat} {z : Int} {x : Value} {w : World} (h : IsC L z x w) : IsW L z x w := by
  obtain ⟨s, ws, h1, h2, h3, h4, h5⟩ := h; exact ⟨_, s, ws, h1, h2, h5, ival_of_abs h4⟩

theorem IsC.z {L : Nat} {z : Int} {x : Value} {w : World} (h : IsC L z x w) : IsZ L z x w := h.w.z

theorem IsZ.mono {L M : Nat} {z : Int} {x : Value} {w : World} (h : IsZ L z x w) (hl : L ≤ M) : IsZ M z x w := by
  obtain ⟨n, s, ws, h1, h2, h3, h4⟩ := h; exact ⟨n, s, ws, h1, h2, Nat.le_trans h3 hl, h4⟩

theorem IsC.mono {L M : Nat} {z : Int} {x : Value} {w : World} (h : IsC L z x w) (hl : L ≤ M) : IsC M z x w := by
  obtain ⟨s, ws, h1, h2, h3, h4, h5⟩ := h; exact ⟨s, ws, h1, h2, h3, h4, Nat.le_trans h5 hl⟩

theorem IsZ.form {L : Nat} {z : Int} {x : Value} {w : World} (h : IsZ L z x w) : ∃ n a l c, x = .agg #[.bool n, .slice a l c] := by
  obtain ⟨n, s, ws, h1, h2, h3, h4⟩ := h
  obtain ⟨a, c, rfl⟩ := h2.form
  exact ⟨n, a, _, c, h1⟩

/-- An Int at block p of value z and of at most L words. -/
def IntZ (L : Nat) (z : Int) (w : World) (base p : Nat) : Prop := ∃ ws, IntAt w base p (decide (z < 0)) ws ∧ norm ws = ws ∧ val ws = z.natAbs ∧ ws.length ≤ L

theorem IntAt.ext {w w' : World} {base p : Nat} {n : Bool} {ws : List Nat} (h : IntAt w base p n ws) (he : Ext w w') : IntAt w' base p n ws := by
  obtain ⟨s, h1, h2⟩ := h; exact ⟨s, he.block h1, h2.ext he⟩

theorem IntZ.ext {L : Nat} {z : Int} {w w' : World} {base p : Nat} (h : IntZ L z w base p) (he : Ext w w') : IntZ L z w' base p := by
  obtain ⟨ws, h1, h2⟩ := h; exact ⟨ws, h1.ext he, h2⟩

def IntRZ (L : Nat) (z : Int) (w : World) (e : Ending) (w' : World) : Prop :=
  Ext w w' ∧ ∃ p, e = .returned (.pointer (some ⟨p, 0, none⟩)) ∧ w.heap.size ≤ p ∧ IntZ L z w' w.heap.size p

theorem abs_ival (n : Bool) (ws : List Nat) : val (norm ws) = (ival n ws).natAbs := by rw [ival_abs, val_norm]

theorem integer_z (L : Nat) (z : Int) (x : Value) (w : World) (h : IsZ L z x w) (hL : L ≤ 17592186044416) :
    Calls Tryf.prog 41 #[x] w (IntRZ L z w) := by
  obtain ⟨n, s, ws, rfl, hr, hl, rfl⟩ := h
  refine (integer_any n s ws w hr (by omega)).mono ?_
  rintro e w' ⟨he, p, rfl, hp, hI⟩
  rw [neg_norm] at hI
  exact ⟨he, p, rfl, hp, norm ws, hI, norm_norm ws, abs_ival n ws, Nat.le_trans (norm_length_le ws) hl⟩

theorem toImpl_z (L : Nat) (z : Int) (x : Value) (w : World) (h : IsZ L z x w) (hL : L ≤ 17592186044416) :
    Calls Tryf.prog 20 #[x] w (ResR (IsW L z) w) := by
  obtain ⟨n, s, ws, rfl, hr, hl, hz⟩ := h
  refine (toImpl_any n s ws w hr (by omega)).mono ?_
  rintro e w' ⟨he, v', rfl, ho⟩
  exact ⟨he, _, rfl, n, v', ws, rfl, ho, hl, hz⟩

theorem toSpec_z (L : Nat) (z : Int) (x : Value) (w : World) (h : IsZ L z x w) (hL : L ≤ 17592186044416) :
    Calls Tryf.prog 35 #[x] w (ResR (IsW L z) w) := by
  obtain ⟨n, s, ws, rfl, hr, hl, hz⟩ := h
  refine (toSpec_any n s ws w hr (by omega)).mono ?_
  rintro e w' ⟨he, v', rfl, ho⟩
  exact ⟨he, _, rfl, n, v', ws, rfl, ho, hl, hz⟩

theorem fromImpl_z (L : Nat) (z : Int) (x : Value) (w : World) (h : IsC L z x w) :
    Calls Tryf.prog 28 #[x] w (ResR (IsC L z) w) := by
  obtain ⟨s, ws, rfl, ho, h3⟩ := h
  refine (fromImpl_any _ s ws w ho).mono ?_
  rintro e w' ⟨he, v', rfl, ho'⟩
  exact ⟨he, _, rfl, v', ws, rfl, ho', h3⟩

theorem fromSpec_z (L : Nat) (z : Int) (x : Value) (w : World) (h : IsW L z x w) :
    Calls Tryf.prog 29 #[x] w (ResR (IsW L z) w) := by
  obtain ⟨n, s, ws, rfl, ho, h3⟩ := h
  refine (fromSpec_any n s ws w ho).mono ?_
  rintro e w' ⟨he, v', rfl, ho'⟩
  exact ⟨he, _, rfl, n, v', ws, rfl, ho', h3⟩

theorem same_z (L M : Nat) (a b : Int) (x y : Value) (w : World) (hx : IsZ L a x w) (hy : IsZ M b y w) (hL : L ≤ 17592186044416) (hM : M ≤ 17592186044416) :
    Calls Tryf.prog 16 #[x, y] w (ResR (Is (.bool (decide (a = b)))) w) := by
  obtain ⟨n, s, ws, rfl, hr, hl, rfl⟩ := hx
  obtain ⟨m, t, vs, rfl, ht, hl', rfl⟩ := hy
  refine (same_any n m s t ws vs w hr ht (by omega) (by omega)).mono ?_
  rintro e w' ⟨he, rfl⟩
  exact ⟨he, _, rfl, rfl⟩

theorem numC_of {n : Bool} {ws : List Nat} {w : World} {e : Ending} {w' : World} (L : Nat) (hl : ws.length ≤ L) (h : NumR (decide (0 < (norm ws).length) && n) (norm ws) w e w') : ResR (IsC L (ival n ws)) w e w' := by
  obtain ⟨he, v', rfl, ho⟩ := h
  rw [neg_norm]
  exact ⟨he, _, rfl, v', norm ws, rfl, ho, norm_norm ws, abs_ival n ws, Nat.le_trans (norm_length_le ws) hl⟩

theorem specTrim_z (L : Nat) (z : Int) (x : Value) (w : World) (h : IsZ L z x w) (hL : L ≤ 17592186044416) :
    Calls Tryf.prog 57 #[x] w (ResR (IsC L z) w) := by
  obtain ⟨n, s, ws, rfl, hr, hl, rfl⟩ := h
  exact (specTrim_any n s ws w hr (by omega)).mono fun e w' h => numC_of L hl h

theorem specAbs_z (L : Nat) (z : Int) (x : Value) (w : World) (h : IsZ L z x w) (hL : L ≤ 17592186044416) :
    Calls Tryf.prog 37 #[x] w (ResR (IsC L (z.natAbs : Int)) w) := by
  obtain ⟨n, s, ws, rfl, hr, hl, rfl⟩ := h
  rw [show ((ival n ws).natAbs : Int) = ival false ws by rw [ival_abs]; rfl]
  exact (specAbs_any n s ws w hr (by omega)).mono fun e w' h => numC_of L hl h

theorem sgnZ_cases (z : Int) : (0 < z.natAbs ∧ z < 0 ∧ sgnZ z = -1) ∨ (z.natAbs = 0 ∧ sgnZ z = 0) ∨ (0 < z.natAbs ∧ ¬ z < 0 ∧ sgnZ z = 1) := by
  unfold sgnZ
  rcases Int.lt_trichotomy z 0 with h | h | h
  · exact .inl ⟨by omega, h, if_pos h⟩
  · exact .inr (.inl ⟨by omega, by rw [if_neg (by omega), if_pos h]⟩)
  · exact .inr (.inr ⟨by omega, by omega, by rw [if_neg (by omega), if_neg (by omega)]⟩)

theorem len_pos_iff {ws : List Nat} (h : norm ws = ws) : 0 < ws.length ↔ 0 < val ws := by
  have := norm_nil_iff ws
  rw [h] at this
  constructor
  · intro h1
    rcases Nat.eq_zero_or_pos (val ws) with h2 | h2
    · rw [this.2 h2] at h1; simp at h1
    · exact h2
  · intro h1
    rcases Nat.eq_zero_or_pos ws.length with h2 | h2
    · rw [this.1 (List.eq_nil_of_length_eq_zero h2)] at h1; omega
    · exact h2

theorem intSign_z (L : Nat) (z : Int) (base p : Nat) (w : World) (h : IntZ L z w base p) (hL : L ≤ 17592186044416) :
    Calls Tryf.prog 81 #[.pointer (some ⟨p, 0, none⟩)] w fun e w' => e = .returned (.int .i64 (sgnZ z)) ∧ w = w' := by
  obtain ⟨ws, hI, hn, hv, hl⟩ := h
  obtain ⟨a, c, hp, ho⟩ := hI.cells
  have c0 := blk_cell hp 0
  have c1 := blk_cell hp 1
  simp at c0 c1
  have hlp := len_pos_iff hn
  clear hp hI ho hn
  rcases sgnZ_cases z with ⟨h1, h2, h3⟩ | ⟨h1, h3⟩ | ⟨h1, h2, h3⟩
  all_goals rw [h3]
  · rw [show decide (z < 0) = true by simp [h2]] at c0
    have hpos : 0 < ws.length := hlp.2 (by omega)
    clear hlp h1 h2 h3 hv
    go_enter Tryf.func81, Tryf.ntmps81
    go_wp2
    go_ret
    exact ⟨rfl, rfl⟩
  · have hpos : ws.length = 0 := by
      rcases Nat.eq_zero_or_pos ws.length with h | h
      · exact h
      · have := hlp.1 h; omega
    rw [hpos] at c1
    clear hlp h1 h3 hv hpos
    go_enter Tryf.func81, Tryf.ntmps81
    go_wp2
    go_ret
    exact ⟨rfl, rfl⟩
  · rw [show decide (z < 0) = false by simp [h2]] at c0
    have hpos : 0 < ws.length := hlp.2 (by omega)
    clear hlp h1 h2 h3 hv
    go_enter Tryf.func81, Tryf.ntmps81
    go_wp2
    go_ret
    exact ⟨rfl, rfl⟩

theorem bits_any (p base : Nat) (n : Bool) (a : Option Addr) (l c : Nat) (w : World) (hp : w.heap[p]? = some (.cells #[.bool n, .slice a l c] 82 (0, 0))) :
    Calls Tryf.prog 80 #[.pointer (some ⟨p, 0, none⟩)] w fun e w' => e = .returned (.slice a l c) ∧ w = w' := by
  have c0 := blk_cell hp 0
  have c1 := blk_cell hp 1
  simp at c0 c1
  clear hp
  go_enter Tryf.func80, Tryf.ntmps80
  go_wp2
  go_ret
  exact ⟨rfl, rfl⟩

/-- The relation of the loop in 'number'. -/
def GotUints (B : Nat) (w0 : World) (ws : List Nat) (len : Nat) (v i : Value) (wr : World) : Prop :=
  ∃ k : Nat, k ≤ len ∧ i = .int .i64 k ∧ wr.ownsRow B 36 1 v k (words .u64 (ws.take k)) ∧ Below B w0 wr

set_option maxHeartbeats 1000000 in
theorem number_z (L : Nat) (z : Int) (base p : Nat) (w : World) (h : IntZ L z w base p) (hL : L ≤ 17592186044416) :
    Calls Tryf.prog 51 #[.pointer (some ⟨p, 0, none⟩)] w (ResR (IsC L z) w) := by
  have HZ := Lib.hid h
  obtain ⟨ws, hI, hn, hv, hl⟩ := h
  obtain ⟨a, c, hp, ho⟩ := hI.cells
  have HN := Lib.hid hn
  have HV := Lib.hid hv
  have HO := Lib.hid ho.read
  have HPp := Lib.hid hp
  have hlim := ho.1
  have HLIM := Lib.hid hlim
  have hpl : p < w.heap.size := (Array.getElem?_eq_some_iff.1 hp).1
  clear hI hn hv hp ho hlim
  obtain ⟨i0, hi, hz0, hz1, hz2⟩ := info_parts infoUint
  have HI := Lib.hid hi
  have HI0 := Lib.hid hz0
  have HI1 := Lib.hid hz1
  have HI2 := Lib.hid hz2
  clear hi hz0 hz1 hz2
  go_enter Tryf.func51, Tryf.ntmps51
  go_wp2_with fail
  refine (bits_any p base _ a ws.length c _ (((Ext.alloc _ _).trans (Ext.alloc _ _)).block HPp.out)).mono ?_
  rintro e w1 ⟨rfl, rfl⟩
  go_wp2_with fail
  go_loopw [3, 5, 10] (fun v _ i wr => GotUints (w.heap.size + 1) (w.alloc (.cells #[.bool false, .slice none 0 0] 33)) ws ws.length v i wr) (fun _ _ i _ => ws.length - (intOf i).toNat)
  case atStart => exact ⟨0, by omega, rfl, row_start .u64 _ _ _ _ (by simp) (Nat.le_refl _), (Below.refl _ _).alloc (by simp) _⟩
  case round =>
    obtain ⟨k, hk, rfl, hown, hbel⟩ := hrel
    by_cases hlt : k < ws.length
    · obtain ⟨_, a', cap', q1, _, _, _, q2⟩ := HO.out
      simp at q1
      obtain ⟨rfl, rfl⟩ := q1
      obtain ⟨b, off, rfl, hc0⟩ := q2 k hlt
      clear q2
      have hbw : b < w.heap.size := World.block_lt_of_cell? w ⟨b, off + k, none⟩ hc0
      obtain ⟨x, hcell, HX⟩ : ∃ x : Nat, wr.cell? ⟨b, off + k, none⟩ = some (.int .u64 x) ∧ Hid (x = ws.getD k 0) := ⟨ws.getD k 0, by
        rw [hbel.cell (p := ⟨b, off + k, none⟩) (by show b < _; omega), World.cell?_alloc_past _ _ _ (by simpa using hbw)]
        exact hc0, rfl⟩
      clear hc0
      have HBEL := Lib.hid hbel
      have hsz := hbel.size
      simp only [World.size_alloc] at hsz
      clear hbel
      go_wp2_with (at_builtin; refine wpList_append_own _ rfl _ _ 24 rfl (w.heap.size + 1) 36 i0 (.int .u64 0) 1 8 Tryf.underlying24 HI.out HI0.out HI1.out HI2.out rfl (by decide) _ _ _ rfl (hown.alloc _) ⟨wr.heap.size, 0, none⟩ 1 1 [.int .u64 (x : Nat)] rfl rfl ?c1 ?c2 ?c3 ?c4 ?c5 ?_)
      case c1 => exact cell_one_new _ _ _
      case c2 => simp [Value.oneCell']
      case c3 => simp only [maxLen]; omega
      case c4 => omega
      case c5 => simp; omega
      intro v' w1 hown' hgrow _
      have hrel' : GotUints (w.heap.size + 1) (w.alloc (.cells #[.bool false, .slice none 0 0] 33)) ws ws.length v' (.int .i64 ((k + 1 : Nat) : Int)) w1 :=
        ⟨k + 1, by omega, rfl, by rw [← words_snoc .u64 ws k hlt, ← HX.out]; exact hown', ((HBEL.out.alloc (by omega) _).grown hgrow (by simp; omega) (fun j hj => (hown.lt j hj).1))⟩
      have HR := Lib.hid hrel'
      clear hrel' hown' hgrow hown
      go_wp2_with fail
      go_roundw
      case rel => exact HR.out
      case measure => simp [intOf]; omega
    · obtain rfl : k = ws.length := by omega
      rw [List.take_length] at hown
      have hO1 : Own .u64 wr (w.heap.size + 1) 36 u3 ws := ⟨HLIM.out, hown⟩
      have hO : Own .u64 wr 0 36 u3 ws := hO1.mono (Nat.zero_le _)
      clear hO1
      have hE : Ext w wr := (Ext.alloc w _).trans ⟨hbel.os, hbel.tape, hbel.output, hbel.size, fun j hj => hbel.block j (by simpa using hj)⟩
      have hp : wr.heap[w.heap.size]? = some (.cells #[.bool false, .slice none 0 0] 33 (0, 0)) := by
        rw [hbel.block _ (by omega)]; exact heap_alloc_new _ _
      have c0 := blk_cell hp 0
      have c1 := blk_cell hp 1
      have f0 := blk_free hp 0
      have f1 := blk_free hp 1
      simp at c0 c1
      have HP := Lib.hid hp
      have HE := Lib.hid hE
      have HOO := Lib.hid hO
      obtain ⟨a3, c3, rfl⟩ := hO.form
      clear hbel hown hO hE hp
      go_wp2_with fail
      refine (intSign_z L z base p _ (HZ.out.ext HE.out) hL).mono ?_
      rintro e w2 ⟨rfl, rfl⟩
      have hneg : decide (sgnZ z < 0) = decide (z < 0) := by
        rcases sgnZ_cases z with ⟨h1, h2, h3⟩ | ⟨h1, h3⟩ | ⟨h1, h2, h3⟩ <;> simp [h3] <;> omega
      generalize hg : sgnZ z = sg at *
      have HNEG := Lib.hid hneg
      clear hneg hg
      go_wp2_with fail
      obtain ⟨d0, d1, hu⟩ := set2 HP.out (.bool (decide (sg < 0))) (.slice a3 ws.length c3)
      exact bodyPost_ret (results_impl rfl _ rfl d0 d1) rfl ⟨hu.ext HE.out (by omega), _, rfl, _, ws, by rw [HNEG.out], HOO.out.upd HP.out (by decide) hu, HN.out, HV.out, hl⟩

/-- What the words of an Int are. -/
theorem IntZ.low {L : Nat} {z : Int} {w : World} {base p : Nat} (h : IntZ L z w base p) : ∃ a c ws, w.heap[p]? = some (.cells #[.bool (decide (z < 0)), .slice a ws.length c] 82 (0, 0)) ∧ Own .u64 w base 93 (.slice a ws.length c) ws ∧ norm ws = ws ∧ val ws = z.natAbs ∧ ws.length ≤ L := by
  obtain ⟨ws, hI, h2, h3, h4⟩ := h
  obtain ⟨a, c, h5, h6⟩ := hI.cells
  exact ⟨a, c, ws, h5, h6, h2, h3, h4⟩

theorem IsC.upd {L : Nat} {z : Int} {x : Value} {w w' : World} {p : Nat} {cs : Array Value} {T : TypeId} {fr : Nat × Nat} (h : IsC L z x w) (hp : w.heap[p]? = some (.cells cs T fr)) (hT : T ≠ 36) (hu : Upd (· = p) w w') : IsC L z x w' := by
  obtain ⟨s, ws, h1, h2, h3⟩ := h
  exact ⟨s, ws, h1, h2.upd hp hT hu, h3⟩

theorem IsW.upd {L : Nat} {z : Int} {x : Value} {w w' : World} {p : Nat} {cs : Array Value} {T : TypeId} {fr : Nat × Nat} (h : IsW L z x w) (hp : w.heap[p]? = some (.cells cs T fr)) (hT : T ≠ 36) (hu : Upd (· = p) w w') : IsW L z x w' := by
  obtain ⟨n, s, ws, h1, h2, h3⟩ := h
  exact ⟨n, s, ws, h1, h2.upd hp hT hu, h3⟩

theorem IsW.form {L : Nat} {z : Int} {x : Value} {w : World} (h : IsW L z x w) : ∃ n a l c, x = .agg #[.bool n, .slice a l c] := h.z.form

theorem heap_third (w : World) (o o' o'' : Obj) : (((w.alloc o).alloc o').alloc o'').heap[w.heap.size + 2]? = some o'' := by
  have := heap_alloc_new ((w.alloc o).alloc o') o''
  rwa [World.size_alloc, World.size_alloc] at this

theorem heap_third' (w : World) (o o' o'' : Obj) : (((w.alloc o).alloc o').alloc o'').heap[w.heap.size + 1 + 1]? = some o'' := heap_third w o o' o''

theorem heap_fourth (w : World) (o o' o'' o3 : Obj) : ((((w.alloc o).alloc o').alloc o'').alloc o3).heap[w.heap.size + 1 + 1 + 1]? = some o3 := by
  have := heap_alloc_new (((w.alloc o).alloc o').alloc o'') o3
  rwa [World.size_alloc, World.size_alloc, World.size_alloc] at this

theorem IsZ.zeroN (w : World) : IsZ 0 0 (.agg #[.bool false, .slice none 0 0]) w := ⟨false, _, [], rfl, ⟨by simp, none, 0, rfl, by simp, by simp, fun _ => rfl, by simp⟩, by simp, rfl⟩

theorem IsC.form {L : Nat} {z : Int} {x : Value} {w : World} (h : IsC L z x w) : ∃ n a l c, x = .agg #[.bool n, .slice a l c] := h.z.form

end Go.Proofs.YtocadbghhoibnaaFmt

/- Rows that are written piece by piece, and what sums and differences of words come to: plain laws. -/
namespace Go.Proofs.YtocadbghhoibnaaFmt
open Go.RowKit

/-- A row whose cells from off on are those of l. -/
def put (c : Array Value) (off : Nat) (l : List Value) : Array Value := (c.toList.take off ++ (l ++ c.toList.drop (off + l.length))).toArray

theorem put_nil (c : Array Value) (off : Nat) : put c off [] = c := by simp [put]

theorem put_size (c : Array Value) (off : Nat) (l : List Value) (h : off + l.length ≤ c.size) : (put c off l).size = c.size := by
  simp [put]; omega

theorem put_in (c : Array Value) (off : Nat) (l : List Value) (i : Nat) (h : off ≤ c.size) (hi : i < l.length) : (put c off l)[off + i]? = l[i]? := by
  simp only [put, List.getElem?_toArray]
  rw [List.getElem?_append_right (by simp; omega), List.getElem?_append_left (by simp; omega)]
  congr 1
  simp; omega

theorem put_past (c : Array Value) (off : Nat) (l : List Value) (j : Nat) (h : off ≤ c.size) (hj : off + l.length ≤ j) : (put c off l)[j]? = c[j]? := by
  simp only [put, List.getElem?_toArray]
  rw [List.getElem?_append_right (by simp; omega), List.getElem?_append_right (by simp; omega), List.getElem?_drop]
  simp only [List.length_take, Array.length_toList, Array.getElem?_toList]
  congr 1
  omega

theorem put_before (c : Array Value) (off : Nat) (l : List Value) (j : Nat) (h : off ≤ c.size) (hj : j < off) : (put c off l)[j]? = c[j]? := by
  simp only [put, List.getElem?_toArray]
  rw [List.getElem?_append_left (by simp; omega), List.getElem?_take, if_pos hj, Array.getElem?_toList]

theorem array_ext {a b : Array Value} (h : ∀ j : Nat, a[j]? = b[j]?) : a = b := Array.ext_getElem? h

theorem put_set (c : Array Value) (off : Nat) (l : List Value) (v : Value) (h : off + l.length < c.size) : (put c off l).setIfInBounds (off + l.length) v = put c off (l ++ [v]) := by
  apply array_ext
  intro j
  have hs := put_size c off l (by omega)
  rcases Nat.lt_or_ge j off with h1 | h1
  · rw [Array.getElem?_setIfInBounds_ne (by omega), put_before _ _ _ _ (by omega) h1, put_before _ _ _ _ (by omega) h1]
  · obtain ⟨i, rfl⟩ : ∃ i, j = off + i := ⟨j - off, by omega⟩
    rcases Nat.lt_trichotomy i l.length with h2 | h2 | h2
    · rw [Array.getElem?_setIfInBounds_ne (by omega), put_in _ _ _ _ (by omega) h2, put_in _ _ _ _ (by omega) (by simp; omega), List.getElem?_append_left h2]
    · subst h2
      rw [Array.getElem?_setIfInBounds_self_of_lt (by omega), put_in _ _ _ _ (by omega) (by simp)]
      simp
    · rw [Array.getElem?_setIfInBounds_ne (by omega), put_past _ _ _ _ (by omega) (by omega), put_past _ _ _ _ (by omega) (by simp; omega)]

theorem put_put (c : Array Value) (off : Nat) (l m : List Value) (h : off + l.length + m.length ≤ c.size) : put (put c off l) (off + l.length) m = put c off (l ++ m) := by
  have hs := put_size c off l (by omega)
  apply array_ext
  intro j
  rcases Nat.lt_or_ge j off with h1 | h1
  · rw [put_before _ _ _ _ (by omega) (by omega), put_before _ _ _ _ (by omega) h1, put_before _ _ _ _ (by omega) h1]
  · obtain ⟨i, rfl⟩ : ∃ i, j = off + i := ⟨j - off, by omega⟩
    rcases Nat.lt_or_ge i l.length with h2 | h2
    · rw [put_before _ _ _ _ (by omega) (by omega), put_in _ _ _ _ (by omega) h2, put_in _ _ _ _ (by omega) (by simp; omega), List.getElem?_append_left h2]
    · obtain ⟨k, rfl⟩ : ∃ k, i = l.length + k := ⟨i - l.length, by omega⟩
      rcases Nat.lt_or_ge k m.length with h3 | h3
      · rw [← Nat.add_assoc, put_in _ _ _ _ (by omega) h3, Nat.add_assoc, put_in _ _ _ _ (by omega) (by simp; omega), List.getElem?_append_right (by omega)]
        congr 1; omega
      · rw [put_past _ _ _ _ (by omega) (by omega), put_past _ _ _ _ (by omega) (by omega), put_past _ _ _ _ (by omega) (by simp; omega)]

theorem blk_setc {w : World} {p : Nat} {c : Array Value} {T : TypeId} {fr : Nat × Nat} (h : w.heap[p]? = some (.cells c T fr)) (i : Nat) (v : Value) : (w.setCell ⟨p, i, none⟩ v).heap[p]? = some (.cells (c.setIfInBounds i v) T fr) := by
  simp only [World.setCell, Array.getElem?_modify]
  simp [h]

theorem updSetRow (w : World) (g : Nat) (cs : Array Value) : Upd (· = g) w (w.setRow g cs) :=
  ⟨rfl, rfl, rfl, by simp [World.setRow], fun k hk hn => by
    simp only [World.setRow, Array.getElem?_modify]
    rw [if_neg (fun e => hn e.symm)]⟩

theorem Upd.same {S : Nat → Prop} {a b c : World} (h : Upd S a b) (k : Upd S b c) : Upd S a c := (h.trans k).mono (fun _ _ q => q.elim id id)

/-- A cell of the world behind writes to other blocks. -/
theorem Upd.cell {S : Nat → Prop} {a b : World} (h : Upd S a b) {p : Addr} {v : Value} (hk : a.cell? p = some v) (hn : ¬ S p.block) : b.cell? p = some v := by
  have hlt := World.block_lt_of_cell? a p hk
  have := h.block p.block hlt hn
  unfold World.cell? at *
  rw [this]; exact hk

/-- The words of a list below a place. -/
theorem val_take_succ (xs : List Nat) (i : Nat) : val (xs.take (i + 1)) = val (xs.take i) + 18446744073709551616 ^ i * xs.getD i 0 := by
  by_cases h : i < xs.length
  · rw [List.take_succ_eq_append_getElem h, val_append, List.length_take, Nat.min_eq_left (by omega)]
    simp [val, h]
  · rw [List.take_of_length_le (by omega), List.take_of_length_le (by omega)]
    simp [Nat.not_lt.1 h]

theorem val_snoc (ws : List Nat) (x : Nat) : val (ws ++ [x]) = val ws + 18446744073709551616 ^ ws.length * x := by
  rw [val_append]; simp [val]

/-- One step of a sum. -/
theorem add_step {ws xs ys : List Nat} {i x y c s d : Nat} (hl : ws.length = i) (h : val ws + 18446744073709551616 ^ i * c = val (xs.take i) + val (ys.take i)) (hx : xs.getD i 0 = x) (hy : ys.getD i 0 = y) (hs : s + 18446744073709551616 * d = x + y + c) :
    val (ws ++ [s]) + 18446744073709551616 ^ (i + 1) * d = val (xs.take (i + 1)) + val (ys.take (i + 1)) := by
  rw [val_snoc, val_take_succ, val_take_succ, hx, hy, hl, Nat.pow_succ]
  generalize 18446744073709551616 ^ i = P at *
  have e1 : P * s + P * 18446744073709551616 * d = P * x + P * y + P * c := by
    rw [Nat.mul_assoc, ← Nat.mul_add, hs, Nat.mul_add, Nat.mul_add]
  omega

/-- One step of a difference. -/
theorem sub_step {ws xs ys : List Nat} {i x y c s d : Nat} (hl : ws.length = i) (h : val ws + val (ys.take i) = val (xs.take i) + 18446744073709551616 ^ i * c) (hx : xs.getD i 0 = x) (hy : ys.getD i 0 = y) (hs : s + y + c = x + 18446744073709551616 * d) :
    val (ws ++ [s]) + val (ys.take (i + 1)) = val (xs.take (i + 1)) + 18446744073709551616 ^ (i + 1) * d := by
  rw [val_snoc, val_take_succ, val_take_succ, hx, hy, hl, Nat.pow_succ]
  generalize 18446744073709551616 ^ i = P at *
  have e1 : P * s + P * y + P * c = P * x + P * 18446744073709551616 * d := by
    rw [Nat.mul_assoc, ← Nat.mul_add, ← Nat.mul_add, hs, Nat.mul_add]
  omega

theorem mem_snoc {ws : List Nat} {s B : Nat} (h : ∀ x ∈ ws, x < B) (hs : s < B) : ∀ x ∈ ws ++ [s], x < B := by
  intro x hx
  rcases List.mem_append.1 hx with h1 | h1
  · exact h x h1
  · simp at h1; omega

theorem mem_app {ws vs : List Nat} {B : Nat} (h : ∀ x ∈ ws, x < B) (hs : ∀ x ∈ vs, x < B) : ∀ x ∈ ws ++ vs, x < B := by
  intro x hx
  rcases List.mem_append.1 hx with h1 | h1
  · exact h x h1
  · exact hs x h1

theorem getD_lt {ws : List Nat} {B : Nat} (h : ∀ x ∈ ws, x < B) (hB : 0 < B) (i : Nat) : ws.getD i 0 < B := by
  by_cases hi : i < ws.length
  · rw [List.getD_eq_getElem?_getD, List.getElem?_eq_getElem hi]; exact h _ (List.getElem_mem _)
  · simpa [Nat.not_lt.1 hi] using hB

theorem words_app (k : IntKind) (a b : List Nat) : words k (a ++ b) = words k a ++ words k b := by simp [words]

end Go.Proofs.YtocadbghhoibnaaFmt

/- strings.Reader: NewReader, ReadByte, UnreadByte; the sentinels io.EOF, errNoDigits, errInvalSep: contracts. -/
namespace Go.Proofs.YtocadbghhoibnaaFmt
open Go.RowKit

/-- The three sentinels lie in memory: three errors that are not nil. -/
structure Sent (a0 a1 a2 : Addr) (w : World) : Prop where
  eof : w.cell? ⟨0, 0, none⟩ = some (.iface 164 (.pointer (some a0)))
  sep : w.cell? ⟨1, 0, none⟩ = some (.iface 164 (.pointer (some a1)))
  dig : w.cell? ⟨2, 0, none⟩ = some (.iface 164 (.pointer (some a2)))
  big : 3 ≤ w.heap.size

theorem Sent.ext {a0 a1 a2 : Addr} {w w' : World} (h : Sent a0 a1 a2 w) (he : Ext w w') : Sent a0 a1 a2 w' :=
  ⟨he.cell h.eof, he.cell h.sep, he.cell h.dig, Nat.le_trans h.big he.size⟩

theorem Sent.upd {S : Nat → Prop} {a0 a1 a2 : Addr} {w w' : World} (h : Sent a0 a1 a2 w) (hu : Upd S w w') (hs : ∀ k, S k → 3 ≤ k) : Sent a0 a1 a2 w' :=
  ⟨hu.cell h.eof (fun q => by have := hs _ q; simp at this), hu.cell h.sep (fun q => by have := hs _ q; simp at this), hu.cell h.dig (fun q => by have := hs _ q; simp at this), Nat.le_trans h.big hu.size⟩

/-- The error at a. -/
abbrev errAt (a : Addr) : Value := .iface 164 (.pointer (some a))

theorem errComp : (Tryf.prog.info? 164).map (fun i => i.comparable) = some true := by kernel_rfl

theorem errInfo : (Tryf.prog.info? 184).isSome = true := by kernel_rfl

theorem eqlErrSame (a : Addr) (w : World) : (binOp .eql 121 (errAt a) (errAt a)).run Tryf.prog w = .ok (.bool true) w := by
  obtain ⟨i, h1, h2⟩ := Option.map_eq_some_iff.1 errComp
  obtain ⟨j, h3⟩ := Option.isSome_iff_exists.1 errInfo
  exact run_eql_iface_ptr_same w a Tryf.underlying121 Tryf.underlying164 h1 h2 h3

theorem neqErrSame (a : Addr) (w : World) : (binOp .neq 121 (errAt a) (errAt a)).run Tryf.prog w = .ok (.bool false) w := by
  have h := eqlErrSame a w
  simp only [binOp] at h ⊢
  simp only [Sem.run_bind, Sem.run_pure, Result.andThen] at h ⊢
  revert h
  generalize (Op.equal 121 (errAt a) (errAt a)).run Tryf.prog w = r
  intro h
  cases r with
  | ok b w' => simp at h ⊢; obtain ⟨rfl, rfl⟩ := h; exact ⟨rfl, rfl⟩
  | halt x w' => simp at h

theorem eqlNilErr (a : Addr) (w : World) : (binOp .eql 121 .nilIface (errAt a)).run Tryf.prog w = .ok (.bool false) w :=
  run_eql_iface_nil_left w 164 (.pointer (some a)) Tryf.underlying121

theorem neqNilErr (a : Addr) (w : World) : (binOp .neq 121 .nilIface (errAt a)).run Tryf.prog w = .ok (.bool true) w := by
  have h := eqlNilErr a w
  simp only [binOp] at h ⊢
  simp only [Sem.run_bind, Sem.run_pure, Result.andThen] at h ⊢
  revert h
  generalize (Op.equal 121 .nilIface (errAt a)).run Tryf.prog w = r
  intro h
  cases r with
  | ok b w' => simp at h ⊢; obtain ⟨rfl, rfl⟩ := h; exact ⟨rfl, rfl⟩
  | halt x w' => simp at h

theorem drewN_ext (w : World) (m : Nat) : Ext w (w.drewN m) := ⟨rfl, rfl, rfl, Nat.le_refl _, fun _ _ => rfl⟩

/-- A reader of the text s at place i, in block p. -/
def RdrAt (p : Nat) (s : ByteArray) (i : Nat) (w : World) : Prop := ∃ r : Int, w.heap[p]? = some (.cells #[.string s, .int .i64 (i : Nat), .int .i64 r] 127 (0, 0))

theorem RdrAt.ext {p : Nat} {s : ByteArray} {i : Nat} {w w' : World} (h : RdrAt p s i w) (he : Ext w w') : RdrAt p s i w' := by
  obtain ⟨r, h⟩ := h; exact ⟨r, he.block h⟩

theorem RdrAt.upd {S : Nat → Prop} {p : Nat} {s : ByteArray} {i : Nat} {w w' : World} (h : RdrAt p s i w) (hu : Upd S w w') (hs : ¬ S p) : RdrAt p s i w' := by
  obtain ⟨r, h⟩ := h; exact ⟨r, hu.heap h hs⟩

theorem blk3_set1 {w : World} {p : Nat} {x y z : Value} {T : TypeId} {fr : Nat × Nat} (h : w.heap[p]? = some (.cells #[x, y, z] T fr)) (v : Value) : (w.setCell ⟨p, 1, none⟩ v).heap[p]? = some (.cells #[x, v, z] T fr) := by
  simp only [World.setCell, Array.getElem?_modify]
  simp [h]

theorem blk3_set2 {w : World} {p : Nat} {x y z : Value} {T : TypeId} {fr : Nat × Nat} (h : w.heap[p]? = some (.cells #[x, y, z] T fr)) (v : Value) : (w.setCell ⟨p, 2, none⟩ v).heap[p]? = some (.cells #[x, y, v] T fr) := by
  simp only [World.setCell, Array.getElem?_modify]
  simp [h]

theorem newReader_any (s : ByteArray) (w : World) :
    Calls Tryf.prog 79 #[.string s] w fun e w' => e = .returned (.pointer (some ⟨w.heap.size, 0, none⟩)) ∧ RdrAt w.heap.size s 0 w' ∧ Ext w w' := by
  go_enter Tryf.func79, Tryf.ntmps79
  go_wp2_with fail
  go_ret
  exact ⟨rfl, ⟨-1, heap_alloc_new _ _⟩, Ext.alloc _ _⟩

set_option maxRecDepth 10000 in
theorem readByte_some (p : Nat) (s : ByteArray) (i : Nat) (w : World) (h : RdrAt p s i w) (hi : i < s.size) (hs : s.size ≤ 9223372036854775806) :
    Calls Tryf.prog 148 #[.pointer (some ⟨p, 0, none⟩)] w fun e w' => e = .returned (.tuple #[.int .u8 (s[i].toNat : Nat), .nilIface]) ∧ RdrAt p s (i + 1) w' ∧ Upd (· = p) w w' := by
  obtain ⟨r, h⟩ := h
  have c0 := blk_cell h 0
  have c1 := blk_cell h 1
  have c2 := blk_cell h 2
  have f0 := blk_free h 0
  have f1 := blk_free h 1
  have f2 := blk_free h 2
  simp at c0 c1 c2
  have HP := Lib.hid h
  clear h
  have i1 : (0 : Int) ≤ (i : Int) := by omega
  have i2 : (i : Int) < (s.size : Int) := by omega
  have i3 : decide ((s.size : Int) ≤ (i : Int)) = false := by simp; omega
  have i4 : decide (s.size ≤ i) = false := by simp; omega
  go_enter Tryf.func148, Tryf.ntmps148
  go_wp2_with fail
  go_quiet (fail)
  go_wp2_with fail
  have h1 : ((w.setCell ⟨p, 2, none⟩ (.int .i64 (-1))).drewN nq).heap[p]? = some (.cells #[.string s, .int .i64 (i : Nat), .int .i64 (-1)] 127 (0, 0)) := blk3_set2 HP.out _
  have hu : Upd (· = p) w ((w.setCell ⟨p, 2, none⟩ (.int .i64 (-1))).drewN nq) := ((Upd.refl (· = p) w).setCell (by rfl) _).same (drewN_ext _ _).upd
  generalize ((w.setCell ⟨p, 2, none⟩ (.int .i64 (-1))).drewN nq) = w1 at *
  have d0 := blk_cell h1 0
  have d1 := blk_cell h1 1
  simp at d0 d1
  have f1' := blk_free h1 1
  have H1 := Lib.hid h1
  have HU := Lib.hid hu
  clear h1 hu c0 c1 c2 f0 f1 f2
  have i5 : i ≤ 9223372036854775805 := by omega
  go_quiet (fail)
  go_wp2_with fail
  go_ret2
  refine ⟨rfl, ⟨-1, blk3_set1 (w := w1.drewN _) H1.out _⟩, ((HU.out.same (drewN_ext _ _).upd).setCell (by rfl) _)⟩

set_option maxRecDepth 10000 in
theorem readByte_eof (p : Nat) (s : ByteArray) (i : Nat) (a0 a1 a2 : Addr) (w : World) (h : RdrAt p s i w) (hi : s.size ≤ i) (hs : i ≤ 9223372036854775806) (hS : Sent a0 a1 a2 w) (hp : 3 ≤ p) :
    Calls Tryf.prog 148 #[.pointer (some ⟨p, 0, none⟩)] w fun e w' => e = .returned (.tuple #[.int .u8 0, errAt a0]) ∧ RdrAt p s i w' ∧ Upd (· = p) w w' := by
  obtain ⟨r, h⟩ := h
  have c0 := blk_cell h 0
  have c1 := blk_cell h 1
  have c2 := blk_cell h 2
  have f2 := blk_free h 2
  simp at c0 c1 c2
  have HP := Lib.hid h
  have HS := Lib.hid hS
  clear h hS
  have i3 : decide ((s.size : Int) ≤ (i : Int)) = true := by simp; omega
  have i4 : decide (s.size ≤ i) = true := by simp; omega
  go_enter Tryf.func148, Tryf.ntmps148
  go_wp2_with fail
  go_quiet (fail)
  go_wp2_with fail
  have h1 : ((w.setCell ⟨p, 2, none⟩ (.int .i64 (-1))).drewN nq).heap[p]? = some (.cells #[.string s, .int .i64 (i : Nat), .int .i64 (-1)] 127 (0, 0)) := blk3_set2 HP.out _
  have hu : Upd (· = p) w ((w.setCell ⟨p, 2, none⟩ (.int .i64 (-1))).drewN nq) := ((Upd.refl (· = p) w).setCell (by rfl) _).same (drewN_ext _ _).upd
  generalize ((w.setCell ⟨p, 2, none⟩ (.int .i64 (-1))).drewN nq) = w1 at *
  have e0 := (HS.out.upd hu (by intro k hk; omega)).eof
  have H1 := Lib.hid h1
  have HU := Lib.hid hu
  clear h1 hu c0 c1 c2 f2
  go_quiet (fail)
  go_wp2_with fail
  go_ret2
  exact ⟨rfl, ⟨-1, H1.out⟩, HU.out.same (drewN_ext _ _).upd⟩

theorem unreadByte_any (p : Nat) (s : ByteArray) (i : Nat) (w : World) (h : RdrAt p s (i + 1) w) (hi : i ≤ 9223372036854775805) :
    Calls Tryf.prog 149 #[.pointer (some ⟨p, 0, none⟩)] w fun e w' => e = .returned .nilIface ∧ RdrAt p s i w' ∧ Upd (· = p) w w' := by
  obtain ⟨r, h⟩ := h
  have c0 := blk_cell h 0
  have c1 := blk_cell h 1
  have c2 := blk_cell h 2
  have f1 := blk_free h 1
  have f2 := blk_free h 2
  simp at c0 c1 c2
  have HP := Lib.hid h
  clear h
  have i3 : decide (((i + 1 : Nat) : Int) ≤ 0) = false := by rw [decide_eq_false_iff_not]; omega
  have i4 : decide ((i : Int) + 1 ≤ 0) = false := by rw [decide_eq_false_iff_not]; omega
  go_enter Tryf.func149, Tryf.ntmps149
  go_wp2_with fail
  go_ret
  refine ⟨rfl, ⟨-1, ?_⟩, ((Upd.refl (· = p) w).setCell (by rfl) _).setCell (by rfl) _⟩
  exact blk3_set1 (blk3_set2 HP.out (.int .i64 (-1))) (.int .i64 (i : Nat))

end Go.Proofs.YtocadbghhoibnaaFmt

/- nat.make, setWord, setUint64, (*Int).SetUint64, impl.SetUint64: contracts. -/
namespace Go.Proofs.YtocadbghhoibnaaFmt
open Go.RowKit

/-- What make leaves: n cells of the old row, or of a new one. -/
def MakeR (v0 : Value) (n : Nat) (w : World) (e : Ending) (w' : World) : Prop :=
  ∃ v' xs, e = .returned v' ∧ w'.ownsRow 0 93 1 v' n xs ∧ ((w' = w ∧ v'.ownBlock = v0.ownBlock) ∨ (v'.ownBlock = some w.heap.size ∧ Ext w w'))

set_option maxHeartbeats 400000 in
theorem make_any (v0 : Value) (m n : Nat) (xs : List Value) (w : World) (h : w.ownsRow 0 93 1 v0 m xs) (hn : n ≤ 35184372088827) :
    Calls Tryf.prog 96 #[v0, .int .i64 n] w (MakeR v0 n w) := by
  obtain ⟨i0, hi, hz0, hz1, hz2⟩ := info_parts infoWord
  have hmk1 := fun wx : World => run_make (P := Tryf.prog) wx 80 93 i0 _ Tryf.underlying80 hi hz0 .i64 .i64 1 1 (by omega) (by omega) (by rw [hz2]; omega) (by omega)
  have hmk := fun wx : World => run_make (P := Tryf.prog) wx 80 93 i0 _ Tryf.underlying80 hi hz0 .i64 .i64 (n : Int) ((n : Int) + 4) (by omega) (by omega) (by rw [hz2]; omega) (by omega)
  rw [hz1] at hmk1 hmk
  clear hi hz0 hz1 hz2
  obtain ⟨hlen, h2⟩ := h
  have hnew : ∀ (c : Nat), n ≤ c → c ≤ 9223372036854775807 → (w.alloc (.cells (madeCells #[Value.int .u64 0] c) 93)).ownsRow 0 93 1 (.slice (some ⟨w.heap.size, 0, none⟩) n c) n ((madeCells #[Value.int .u64 0] c).toList.take n) := by
    intro c hc hc2
    have hs : (madeCells #[Value.int .u64 0] c).size = c := by simp [madeCells]
    refine ⟨by simp only [List.length_take, Array.length_toList, hs]; omega, .inr ⟨w.heap.size, c, _, rfl, Nat.zero_le _, heap_alloc_new _ _, hc, by simpa [maxLen] using hc2, by rw [hs, Nat.mul_one], by rw [Nat.mul_one]⟩⟩
  have HNEW := Lib.hid hnew
  clear hnew
  rcases h2 with ⟨rfl, h0⟩ | ⟨g, cap, cur, rfl, hb, hg, hle, hcap, hsz, htake⟩
  · by_cases h0' : n = 0
    · subst h0'
      clear hmk hmk1
      go_enter Tryf.func96, Tryf.ntmps96
      go_wp2_with fail
      go_ret
      exact ⟨_, [], rfl, World.ownsRow_nil _ _ _ _, .inl ⟨rfl, rfl⟩⟩
    · by_cases h1 : n = 1
      · subst h1
        clear hmk
        go_enter Tryf.func96, Tryf.ntmps96
        go_wp2_with fail
        go_ret
        exact ⟨_, _, rfl, HNEW.out 1 (by omega) (by omega), .inr ⟨rfl, Ext.alloc _ _⟩⟩
      · have hpos : 1 < n := by omega
        have hb1 : ((n : Int) == 1) = false := by simp; omega
        clear hmk1 h0' h1
        go_enter Tryf.func96, Tryf.ntmps96
        go_wp2_with fail
        go_ret
        exact ⟨_, _, rfl, HNEW.out (n + 4) (by omega) (by omega), .inr ⟨rfl, Ext.alloc _ _⟩⟩
  · have hcap' : cap ≤ 9223372036854775807 := by simpa [maxLen] using hcap
    by_cases hfit : n ≤ cap
    · clear hmk hmk1
      have HG := Lib.hid hg
      have HSZ := Lib.hid hsz
      clear hg htake hsz
      go_enter Tryf.func96, Tryf.ntmps96
      go_wp2_with fail
      go_ret
      refine ⟨_, cur.toList.take n, rfl, ⟨?_, .inr ⟨g, cap, cur, rfl, hb, HG.out, hfit, hcap, HSZ.out, by rw [Nat.mul_one]⟩⟩, .inl ⟨rfl, rfl⟩⟩
      rw [List.length_take, Array.length_toList, HSZ.out]; omega
    · by_cases h1 : n = 1
      · subst h1
        clear hmk hg htake hsz
        go_enter Tryf.func96, Tryf.ntmps96
        go_wp2_with fail
        go_ret
        exact ⟨_, _, rfl, HNEW.out 1 (by omega) (by omega), .inr ⟨rfl, Ext.alloc _ _⟩⟩
      · have hb1 : ((n : Int) == 1) = false := by simp; omega
        clear hmk1 h1 hg htake hsz
        go_enter Tryf.func96, Tryf.ntmps96
        go_wp2_with fail
        go_ret
        exact ⟨_, _, rfl, HNEW.out (n + 4) (by omega) (by omega), .inr ⟨rfl, Ext.alloc _ _⟩⟩

end Go.Proofs.YtocadbghhoibnaaFmt
