/- The rule for drawn regions, with one operation (h) that may change memory by a wider relation U; the others change it by E alone. -/
import Derived.Test.YtacmojhladdalaaReg
namespace Go.Proofs.Ytacmojhladdalaa
open Go.RowKit

section region
variable {P : Program} {Q : Exit → Act → World → Prop}

/-- What operation k may do to memory. -/
def relH (E U : World → World → Prop) (h k : Nat) : World → World → Prop := if k = h then U else E

def StepsH (P : Program) (E U : World → World → Prop) (h : Nat) (Q : Exit → Act → World → Prop) (a0 : Act) (w0 : World) (Ds : List (Value → World → Prop)) (l : List Oper) : Nat → List Oper → Prop
  | _, [] => True
  | k, o :: rest => (match rest with
      | [] => True
      | _ :: _ => AllPuts (fun a => ∀ w, relH U E h k w0 w → KnownD Ds l (o.looksAt l.toArray) a w → wpList P l.toArray (StepPost (relH E U h k) (Ds.getD k fun _ _ => True) o.dst a0.defers w Q) [o] a w) l a0 ∧ StepsH P E U h Q a0 w0 Ds l (k + 1) rest)

theorem stepsH_get {E U : World → World → Prop} {h : Nat} {a0 : Act} {w0 : World} {Ds : List (Value → World → Prop)} {l : List Oper} :
    ∀ (l' : List Oper) (k i : Nat) (o : Oper), StepsH P E U h Q a0 w0 Ds l k l' → l'[i]? = some o → i + 1 < l'.length →
      AllPuts (fun a => ∀ w, relH U E h (k + i) w0 w → KnownD Ds l (o.looksAt l.toArray) a w → wpList P l.toArray (StepPost (relH E U h (k + i)) (Ds.getD (k + i) fun _ _ => True) o.dst a0.defers w Q) [o] a w) l a0
  | [], _, _, _, _, h, _ => by simp at h
  | [_], _, i, _, _, _, h => by simp at h
  | o' :: o'' :: rest, k, 0, o, hs, h, _ => by
    simp at h; subst h; simpa using hs.1
  | o' :: o'' :: rest, k, i + 1, o, hs, h, hl => by
    have := stepsH_get (o'' :: rest) (k + 1) i o hs.2 (by simpa using h) (by simp at hl ⊢; omega)
    rw [show k + (i + 1) = k + 1 + i by omega]
    exact this

theorem wp_region_H {E U : World → World → Prop} (hE : PreW E) (hU : PreW U) (hEU : ∀ w w', E w w' → U w w') (hx : Nat) {id : Nat} {l : List Oper} {a0 : Act} {w0 : World} (hm : P.follows .mixedOrders = true)
    (Ds : List (Value → World → Prop)) (hok : okD l = true) (hmono : ∀ D ∈ Ds, ∀ v w w', E w w' → D v w → D v w') (hmonoU : ∀ j, j ≠ hx → ∀ v w w', U w w' → (Ds.getD j fun _ _ => True) v w → (Ds.getD j fun _ _ => True) v w') (hne : l.isEmpty = false)
    (hsteps : StepsH P E U hx Q a0 w0 Ds l 0 l) (hlast : ∀ w, U w0 w → LastD P Q l w l Ds a0) : (Code.region id l.toArray true).wp P Q a0 w0 := by
  have hmono' : ∀ j v w w', E w w' → (Ds.getD j fun _ _ => True) v w → (Ds.getD j fun _ _ => True) v w' := by
    intro j v w w' he h
    by_cases hj : j < Ds.length
    · have : (Ds.getD j fun _ _ => True) = Ds[j] := by simp [hj]
      rw [this] at h ⊢
      exact hmono _ (List.getElem_mem _) v w w' he h
    · have : (Ds.getD j fun _ _ => True) = fun _ _ => True := by simp [Nat.not_lt.1 hj]
      rw [this]; trivial
  refine wp_region_any hm ?_
  change wpAny P .any l.toArray Q l.toArray.size (Array.replicate l.toArray.size false) a0 w0.drew
  have hl0 : 0 < l.length := by cases l <;> simp at hne ⊢
  obtain ⟨m, hmlen⟩ : ∃ m, l.length = m + 1 := ⟨l.length - 1, by omega⟩
  have hlastop : l[m]? = some l[m] := List.getElem?_eq_getElem (by omega)
  have hgl : l.getLast? = some l[m] := by rw [List.getLast?_eq_getElem?]; simp [hmlen]
  suffices H : ∀ (fuel : Nat) (listed : Array Bool) (a : Act) (w : World), Held U Ds l a0 w0 listed a w → (listed.getD hx false = false → E w0 w) → listed.getD m true = false → listed.toList.count false ≤ fuel → wpAny P .any l.toArray Q fuel listed a w by
    refine H _ _ _ _ ⟨hU.drew w0, rfl, rfl, fun _ _ => rfl, fun j o hj h => ?_, fun j o hj h => ?_, by simp⟩ (fun _ => hE.drew w0) (by simp [hmlen]) ?_
    · have : j < l.length := (List.getElem?_eq_some_iff.1 hj).1
      simp [this] at h
    · have : j < l.length := (List.getElem?_eq_some_iff.1 hj).1
      simp [this] at h
    · simp
  intro fuel
  induction fuel with
  | zero =>
    intro listed a w hH hpre hmu hc
    exfalso
    have hi : m < listed.size := by rw [hH.len]; omega
    have hv : listed.toList[m]'(by simpa using hi) = false := by simpa [hi] using hmu
    have : 0 < listed.toList.count false := List.count_pos_iff.2 (hv ▸ List.getElem_mem _)
    omega
  | succ fuel ih =>
    intro listed a w hH hpre hmu hc
    refine ⟨fun h0 => ?_, fun i hi => ?_⟩
    · obtain ⟨i, hi⟩ := ready_ne hok hH.len m (by omega) hmu
      rw [h0] at hi; cases hi
    · obtain ⟨hiu, o, ho, hdep⟩ := mem_ready.1 hi
      have ho' : l[i]? = some o := by simpa using ho
      have hil : i < l.length := (List.getElem?_eq_some_iff.1 ho').1
      have hedge : ∀ j, hasEdge o j = true → listed.getD j false = true := by
        intro j hj
        obtain ⟨e, he, hb, rfl⟩ := hasEdge_iff.1 hj
        exact hdep e he hb
      by_cases him : i = m
      · subst him
        have hall : ∀ j, j < i → listed.getD j false = true := by
          have : ∀ d j, i - j = d → j < i → listed.getD j false = true := by
            intro d
            induction d using Nat.strongRecOn with
            | _ d ihd =>
              intro j hd hj
              obtain ⟨k, ok, hjk, hok', hek⟩ := okD_last hok (j := j) (by omega)
              have hkl : k < l.length := (List.getElem?_eq_some_iff.1 hok').1
              by_cases hki : k = i
              · subst hki
                rw [ho'] at hok'
                cases hok'
                exact hedge j hek
              · exact hH.down k ok hok' (ihd (i - k) (by omega) k rfl (by omega)) j hek
          exact fun j hj => this _ j rfl hj
        have hoe : o = l[i] := by rw [ho'] at hlastop; exact Option.some.inj hlastop
        have hwl : wpList P l.toArray Q [o] a w := by
          refine lastD_of l Ds a0 o (by rw [hgl, hoe]) hH.defers.symm hH.size.symm ?_ ?_ (hlast w hH.ext)
          · intro t ht
            refine (hH.other t fun j oj hj hd => ?_).symm
            have hjl : j < l.length := (List.getElem?_eq_some_iff.1 hj).1
            by_cases hji : j = i
            · subst hji; rw [getD_both (by rw [hH.len]; omega) false true]; exact hiu
            · exact absurd hd (ht oj (by
                rw [List.dropLast_eq_take]
                have : (l.take (l.length - 1))[j]? = some oj := by rw [List.getElem?_take, if_pos (by omega)]; exact hj
                exact List.mem_of_getElem? this))
          · intro j oj hj hjl
            exact hH.vals j oj hj (hall j (by omega))
        have hdone : ∀ a' w', Q .normal a' w' → wpAny P .any l.toArray Q fuel (listed.setIfInBounds i true) a' w' := by
          intro a' w' hq
          refine wpAny_done ?_ hq fuel
          rw [List.eq_nil_iff_forall_not_mem]
          intro j hj
          obtain ⟨hju, oj, hoj, _⟩ := mem_ready.1 hj
          have hjl : j < l.length := by have := (Array.getElem?_eq_some_iff.1 hoj).1; simpa using this
          have : (listed.setIfInBounds i true).getD j false = true := by
            by_cases hji : j = i
            · subst hji; simp [hH.len, hil]
            · exact getD_set_true (hall j (by omega))
          rw [getD_both (by simp [hH.len, hjl]) false true] at this
          rw [this] at hju; cases hju
        have hop : wpOp P l.toArray Q i (fun a' w' => Q .normal a' w') a w := by
          unfold wpOp
          simp only [ho]
          exact hwl
        exact wpOp_mono hdone hop
      · have hi1 : i + 1 < l.length := by omega
        have hst := stepsH_get l 0 i o hsteps ho' hi1
        rw [Nat.zero_add] at hst
        have hst' := putAll_of (l := l) hH.defers hH.size _ l a0 hH.defers.symm hH.size.symm (fun t ht => (hH.other t fun j oj hj hd => absurd hd (ht oj (List.mem_of_getElem? hj))).symm) hst
        have hkn := known_of hH (o.looksAt l.toArray) (fun t ht j oj hj hd => hedge j (okD_looks hok ho' ht hj hd))
        refine wpList_one (R := StepPost (relH E U hx i) (Ds.getD i fun _ _ => True) o.dst a0.defers w Q) ?_ (fun a' w' h => h.1.trans hH.defers.symm) (fun _ _ _ h => h) (fun _ _ h => h) ho (hst' w (by
          unfold relH
          split
          · rename_i hih
            refine hpre ?_
            rw [← hih, getD_both (by rw [hH.len]; omega) false true]; exact hiu
          · exact hH.ext) hkn)
        rintro a' w' ⟨h1, h2, h3⟩ ⟨v, rfl⟩
        have h2U : U w w' := by
          unfold relH at h2
          split at h2
          · exact h2
          · exact hEU _ _ h2
        refine ih _ _ _ ⟨hU.trans hH.ext h2U, h1, ?_, ?_, ?_, ?_, by simp [hH.len]⟩ ?_ ?_ ?_
        · cases o.dst <;> simpa [Act.put] using hH.size
        · intro t ht
          have hne' : o.dst ≠ some t := fun hd => by
            have := ht i o ho' hd
            simp [hH.len, hil] at this
          have hold : a.tmps[t]? = a0.tmps[t]? := hH.other t fun j oj hj hd => by
            have := ht j oj hj hd
            by_cases hji : i = j
            · subst hji; rw [ho'] at hj; cases hj; exact absurd hd hne'
            · rwa [getD_set_ne false hji] at this
          cases hd : o.dst with
          | none => exact hold
          | some d => simp only [Act.put]; rw [Array.getElem?_setIfInBounds_ne (fun e => hne' (by rw [hd, e]))]; exact hold
        · intro j oj hj hjl
          by_cases hji : i = j
          · subst hji
            rw [ho'] at hj
            cases hj
            exact h3
          · rw [getD_set_ne false hji] at hjl
            have hv := (show (Ds.getD j fun _ _ => True) _ w' from by
              unfold relH at h2
              split at h2
              · exact hmonoU j (fun e => hji (by omega)) _ w w' h2 (hH.vals j oj hj hjl)
              · exact hmono' j _ w w' h2 (hH.vals j oj hj hjl))
            cases hdj : oj.dst with
            | none => simpa [hdj] using hv
            | some t =>
              have hne' := okD_dst hok ho' hj hdj (fun e => hji e.symm)
              simp only [hdj] at hv ⊢
              cases hd : o.dst with
              | none => simpa [Act.put] using hv
              | some d =>
                have : d ≠ t := fun e => hne' (by rw [hd, e])
                simpa [Act.put, Array.getElem?_setIfInBounds_ne this] using hv
        · intro j oj hj hjl k hk
          by_cases hji : i = j
          · subst hji
            rw [ho'] at hj
            cases hj
            exact getD_set_true (hedge k hk)
          · rw [getD_set_ne false hji] at hjl
            exact getD_set_true (hH.down j oj hj hjl k hk)
        · intro hq
          by_cases hih : i = hx
          · subst hih; simp [hH.len, hil] at hq
          · rw [getD_set_ne false hih] at hq
            unfold relH at h2
            rw [if_neg hih] at h2
            exact hE.trans (hpre hq) h2
        · rw [getD_set_ne true him]; exact hmu
        · have := count_set hiu
          omega

end region
end Go.Proofs.Ytacmojhladdalaa
