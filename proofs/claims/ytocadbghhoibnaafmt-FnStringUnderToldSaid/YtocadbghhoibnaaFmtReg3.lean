/- The rule for drawn regions, with one operation (h) that may change memory by a wider relation U and of which a fact J is known on the slot tJ that it looks at (written by operation iJ). -/
import Derived.Test.YtocadbghhoibnaaFmtMa5
namespace Go.Proofs.YtocadbghhoibnaaFmt
open Go.RowKit

section region
variable {P : Program} {Q : Exit → Act → World → Prop}

def StepPostJ (R : World → World → Prop) (J : Value → World → Prop) (tJ : Tmp) (ds : List Deferred) (w : World) (Q : Exit → Act → World → Prop) : Exit → Act → World → Prop
  | .normal, a', w' => a'.defers = ds ∧ R w w' ∧ J (a'.tmps.getD tJ undef) w'
  | e, a', w' => Q e a' w'

def StepsJ (P : Program) (E U : World → World → Prop) (h : Nat) (Q : Exit → Act → World → Prop) (a0 : Act) (w0 : World) (Ds : List (Value → World → Prop)) (l : List Oper) : Nat → List Oper → Prop
  | _, [] => True
  | k, o :: rest => (match rest with
      | [] => True
      | _ :: _ => (k = h ∨ AllPuts (fun a => ∀ w, U w0 w → KnownD Ds l (o.looksAt l.toArray) a w → wpList P l.toArray (StepPost E (Ds.getD k fun _ _ => True) o.dst a0.defers w Q) [o] a w) l a0) ∧ StepsJ P E U h Q a0 w0 Ds l (k + 1) rest)

theorem stepsJ_get {E U : World → World → Prop} {h : Nat} {a0 : Act} {w0 : World} {Ds : List (Value → World → Prop)} {l : List Oper} :
    ∀ (l' : List Oper) (k i : Nat) (o : Oper), StepsJ P E U h Q a0 w0 Ds l k l' → l'[i]? = some o → i + 1 < l'.length →
      (k + i = h ∨ AllPuts (fun a => ∀ w, U w0 w → KnownD Ds l (o.looksAt l.toArray) a w → wpList P l.toArray (StepPost E (Ds.getD (k + i) fun _ _ => True) o.dst a0.defers w Q) [o] a w) l a0)
  | [], _, _, _, _, h, _ => by simp at h
  | [_], _, i, _, _, _, h => by simp at h
  | o' :: o'' :: rest, k, 0, o, hs, h, _ => by
    simp at h; subst h; simpa using hs.1
  | o' :: o'' :: rest, k, i + 1, o, hs, h, hl => by
    have := stepsJ_get (o'' :: rest) (k + 1) i o hs.2 (by simpa using h) (by simp at hl ⊢; omega)
    rw [show k + (i + 1) = k + 1 + i by omega]
    exact this

theorem wp_region_J {E U : World → World → Prop} (hE : PreW E) (hU : PreW U) (hEU : ∀ w w', E w w' → U w w') (hx : Nat) {id : Nat} {l : List Oper} {a0 : Act} {w0 : World} (hm : P.follows .mixedOrders = true)
    (Ds : List (Value → World → Prop)) (hok : okD l = true) (hmono : ∀ D ∈ Ds, ∀ v w w', E w w' → D v w → D v w') (hmonoU : ∀ j, j ≠ hx → ∀ v w w', U w w' → (Ds.getD j fun _ _ => True) v w → (Ds.getD j fun _ _ => True) v w') (hne : l.isEmpty = false)
    (J : Value → World → Prop) (tJ : Tmp) (iJ : Nat) (ox oJ : Oper) (hox : l[hx]? = some ox) (hoxd : ox.dst = none) (hoJ : l[iJ]? = some oJ) (hoJd : oJ.dst = some tJ) (hxe : hasEdge ox iJ = true) (hJE : ∀ v w w', E w w' → J v w → J v w')
    (hsteps : StepsJ P E U hx Q a0 w0 Ds l 0 l) (hheavy : AllPuts (fun a => ∀ w, E w0 w → KnownD Ds l (ox.looksAt l.toArray) a w → wpList P l.toArray (StepPostJ U J tJ a0.defers w Q) [ox] a w) l a0)
    (hDx : (Ds.getD hx fun _ _ => True) = fun _ _ => True) (hxl : hx + 1 < l.length) (hlast : ∀ w vJ, U w0 w → J vJ w → LastD P Q l w l (Ds.set iJ fun v w' => v = vJ ∧ (Ds.getD iJ fun _ _ => True) v w') a0) : (Code.region id l.toArray true).wp P Q a0 w0 := by
  have hmono' : ∀ j v w w', E w w' → (Ds.getD j fun _ _ => True) v w → (Ds.getD j fun _ _ => True) v w' := by
    intro j v w w' he h
    by_cases hj : j < Ds.length
    · have : (Ds.getD j fun _ _ => True) = Ds[j] := by simp [hj]
      rw [this] at h ⊢
      exact hmono _ (List.getElem_mem _) v w w' he h
    · have : (Ds.getD j fun _ _ => True) = fun _ _ => True := by simp [Nat.not_lt.1 hj]
      rw [this]; trivial
  refine wp_region_any hm ?_
  change wpAny P .any l.toArray Q l.toArray.size (Array.replicate l.toArray.size false) a0 w0.drew
  have hl0 : 0 < l.length := by cases l <;> simp at hne ⊢
  obtain ⟨m, hmlen⟩ : ∃ m, l.length = m + 1 := ⟨l.length - 1, by omega⟩
  have hlastop : l[m]? = some l[m] := List.getElem?_eq_getElem (by omega)
  have hgl : l.getLast? = some l[m] := by rw [List.getLast?_eq_getElem?]; simp [hmlen]
  suffices H : ∀ (fuel : Nat) (listed : Array Bool) (a : Act) (w : World), Held U Ds l a0 w0 listed a w → (listed.getD hx false = false → E w0 w) → (listed.getD hx false = true → J (a.tmps.getD tJ undef) w) → listed.getD m true = false → listed.toList.count false ≤ fuel → wpAny P .any l.toArray Q fuel listed a w by
    refine H _ _ _ _ ⟨hU.drew w0, rfl, rfl, fun _ _ => rfl, fun j o hj h => ?_, fun j o hj h => ?_, by simp⟩ (fun _ => hE.drew w0) (fun h => by
      have : hx < l.length := by omega
      simp [this] at h) (by simp [hmlen]) ?_
    · have : j < l.length := (List.getElem?_eq_some_iff.1 hj).1
      simp [this] at h
    · have : j < l.length := (List.getElem?_eq_some_iff.1 hj).1
      simp [this] at h
    · simp
  intro fuel
  induction fuel with
  | zero =>
    intro listed a w hH hpre hJ hmu hc
    exfalso
    have hi : m < listed.size := by rw [hH.len]; omega
    have hv : listed.toList[m]'(by simpa using hi) = false := by simpa [hi] using hmu
    have : 0 < listed.toList.count false := List.count_pos_iff.2 (hv ▸ List.getElem_mem _)
    omega
  | succ fuel ih =>
    intro listed a w hH hpre hJ hmu hc
    refine ⟨fun h0 => ?_, fun i hi => ?_⟩
    · obtain ⟨i, hi⟩ := ready_ne hok hH.len m (by omega) hmu
      rw [h0] at hi; cases hi
    · obtain ⟨hiu, o, ho, hdep⟩ := mem_ready.1 hi
      have ho' : l[i]? = some o := by simpa using ho
      have hil : i < l.length := (List.getElem?_eq_some_iff.1 ho').1
      have hedge : ∀ j, hasEdge o j = true → listed.getD j false = true := by
        intro j hj
        obtain ⟨e, he, hb, rfl⟩ := hasEdge_iff.1 hj
        exact hdep e he hb
      by_cases him : i = m
      · subst him
        have hall : ∀ j, j < i → listed.getD j false = true := by
          have : ∀ d j, i - j = d → j < i → listed.getD j false = true := by
            intro d
            induction d using Nat.strongRecOn with
            | _ d ihd =>
              intro j hd hj
              obtain ⟨k, ok, hjk, hok', hek⟩ := okD_last hok (j := j) (by omega)
              have hkl : k < l.length := (List.getElem?_eq_some_iff.1 hok').1
              by_cases hki : k = i
              · subst hki
                rw [ho'] at hok'
                cases hok'
                exact hedge j hek
              · exact hH.down k ok hok' (ihd (i - k) (by omega) k rfl (by omega)) j hek
          exact fun j hj => this _ j rfl hj
        have hoe : o = l[i] := by rw [ho'] at hlastop; exact Option.some.inj hlastop
        have hwl : wpList P l.toArray Q [o] a w := by
          refine lastD_of l _ a0 o (by rw [hgl, hoe]) hH.defers.symm hH.size.symm ?_ ?_ (hlast w (a.tmps.getD tJ undef) hH.ext (hJ (hall hx (by omega))))
          · intro t ht
            refine (hH.other t fun j oj hj hd => ?_).symm
            have hjl : j < l.length := (List.getElem?_eq_some_iff.1 hj).1
            by_cases hji : j = i
            · subst hji; rw [getD_both (by rw [hH.len]; omega) false true]; exact hiu
            · exact absurd hd (ht oj (by
                rw [List.dropLast_eq_take]
                have : (l.take (l.length - 1))[j]? = some oj := by rw [List.getElem?_take, if_pos (by omega)]; exact hj
                exact List.mem_of_getElem? this))
          · intro j oj hj hjl
            have hv := hH.vals j oj hj (hall j (by omega))
            by_cases hjJ : j = iJ
            · subst hjJ
              rw [hoJ] at hj
              cases hj
              rw [hoJd] at hv ⊢
              by_cases hlen : j < Ds.length
              · have e : (Ds.set j fun v w' => v = a.tmps.getD tJ undef ∧ (Ds.getD j fun _ _ => True) v w').getD j (fun _ _ => True) = fun v w' => v = a.tmps.getD tJ undef ∧ (Ds.getD j fun _ _ => True) v w' := by
                  rw [List.getD_eq_getElem?_getD, List.getElem?_set_self hlen]
                  rfl
                rw [e]
                exact ⟨rfl, hv⟩
              · have e : (Ds.set j fun v w' => v = a.tmps.getD tJ undef ∧ (Ds.getD j fun _ _ => True) v w') = Ds := List.set_eq_of_length_le (by omega)
                rw [e]
                exact hv
            · have e : (Ds.set iJ fun v w' => v = a.tmps.getD tJ undef ∧ (Ds.getD iJ fun _ _ => True) v w').getD j (fun _ _ => True) = Ds.getD j (fun _ _ => True) := by
                rw [List.getD_eq_getElem?_getD, List.getElem?_set_ne (fun q => hjJ q.symm)]
                rfl
              rw [e]
              exact hv
        have hdone : ∀ a' w', Q .normal a' w' → wpAny P .any l.toArray Q fuel (listed.setIfInBounds i true) a' w' := by
          intro a' w' hq
          refine wpAny_done ?_ hq fuel
          rw [List.eq_nil_iff_forall_not_mem]
          intro j hj
          obtain ⟨hju, oj, hoj, _⟩ := mem_ready.1 hj
          have hjl : j < l.length := by have := (Array.getElem?_eq_some_iff.1 hoj).1; simpa using this
          have : (listed.setIfInBounds i true).getD j false = true := by
            by_cases hji : j = i
            · subst hji; simp [hH.len, hil]
            · exact getD_set_true (hall j (by omega))
          rw [getD_both (by simp [hH.len, hjl]) false true] at this
          rw [this] at hju; cases hju
        have hop : wpOp P l.toArray Q i (fun a' w' => Q .normal a' w') a w := by
          unfold wpOp
          simp only [ho]
          exact hwl
        exact wpOp_mono hdone hop
      · have hi1 : i + 1 < l.length := by omega
        have hkn := known_of hH (o.looksAt l.toArray) (fun t ht j oj hj hd => hedge j (okD_looks hok ho' ht hj hd))
        by_cases hih : i = hx
        · subst hih
          obtain rfl : o = ox := by rw [ho'] at hox; exact Option.some.inj hox
          have hst' := putAll_of (l := l) hH.defers hH.size _ l a0 hH.defers.symm hH.size.symm (fun t ht => (hH.other t fun j oj hj hd => absurd hd (ht oj (List.mem_of_getElem? hj))).symm) hheavy
          have hE0 : E w0 w := hpre (by rw [getD_both (by rw [hH.len]; omega) false true]; exact hiu)
          refine wpList_one (R := StepPostJ U J tJ a0.defers w Q) ?_ (fun a' w' h => h.1.trans hH.defers.symm) (fun _ _ _ h => h) (fun _ _ h => h) ho (hst' w hE0 hkn)
          rintro a' w' ⟨h1, h2, h3⟩ ⟨v, rfl⟩
          refine ih _ _ _ ⟨hU.trans hH.ext h2, h1, ?_, ?_, ?_, ?_, by simp [hH.len]⟩ ?_ ?_ ?_ ?_
          · rw [hoxd]; simpa [Act.put] using hH.size
          · intro t ht
            have hold : a.tmps[t]? = a0.tmps[t]? := hH.other t fun j oj hj hd => by
              have := ht j oj hj hd
              by_cases hji : i = j
              · subst hji; rw [ho'] at hj; cases hj; rw [hoxd] at hd; cases hd
              · rwa [getD_set_ne false hji] at this
            rw [hoxd]; exact hold
          · intro j oj hj hjl
            by_cases hji : i = j
            · subst hji
              rw [hDx]; trivial
            · rw [getD_set_ne false hji] at hjl
              have hv := hmonoU j (fun e => hji e.symm) _ w w' h2 (hH.vals j oj hj hjl)
              rw [hoxd]
              cases hdj : oj.dst with
              | none => simpa [hdj] using hv
              | some t => simpa [hdj, Act.put] using hv
          · intro j oj hj hjl k hk
            by_cases hji : i = j
            · subst hji
              rw [ho'] at hj
              cases hj
              exact getD_set_true (hedge k hk)
            · rw [getD_set_ne false hji] at hjl
              exact getD_set_true (hH.down j oj hj hjl k hk)
          · intro hq; simp [hH.len, hil] at hq
          · intro _; exact h3
          · rw [getD_set_ne true him]; exact hmu
          · have := count_set hiu
            omega
        · have hst := (stepsJ_get l 0 i o hsteps ho' hi1).resolve_left (by omega)
          rw [Nat.zero_add] at hst
          have hst' := putAll_of (l := l) hH.defers hH.size _ l a0 hH.defers.symm hH.size.symm (fun t ht => (hH.other t fun j oj hj hd => absurd hd (ht oj (List.mem_of_getElem? hj))).symm) hst
          refine wpList_one (R := StepPost E (Ds.getD i fun _ _ => True) o.dst a0.defers w Q) ?_ (fun a' w' h => h.1.trans hH.defers.symm) (fun _ _ _ h => h) (fun _ _ h => h) ho (hst' w hH.ext hkn)
          rintro a' w' ⟨h1, h2, h3⟩ ⟨v, rfl⟩
          have h2U : U w w' := hEU _ _ h2
          refine ih _ _ _ ⟨hU.trans hH.ext h2U, h1, ?_, ?_, ?_, ?_, by simp [hH.len]⟩ ?_ ?_ ?_ ?_
          · cases o.dst <;> simpa [Act.put] using hH.size
          · intro t ht
            have hne' : o.dst ≠ some t := fun hd => by
              have := ht i o ho' hd
              simp [hH.len, hil] at this
            have hold : a.tmps[t]? = a0.tmps[t]? := hH.other t fun j oj hj hd => by
              have := ht j oj hj hd
              by_cases hji : i = j
              · subst hji; rw [ho'] at hj; cases hj; exact absurd hd hne'
              · rwa [getD_set_ne false hji] at this
            cases hd : o.dst with
            | none => exact hold
            | some d => simp only [Act.put]; rw [Array.getElem?_setIfInBounds_ne (fun e => hne' (by rw [hd, e]))]; exact hold
          · intro j oj hj hjl
            by_cases hji : i = j
            · subst hji
              rw [ho'] at hj
              cases hj
              exact h3
            · rw [getD_set_ne false hji] at hjl
              have hv := hmono' j _ w w' h2 (hH.vals j oj hj hjl)
              cases hdj : oj.dst with
              | none => simpa [hdj] using hv
              | some t =>
                have hne' := okD_dst hok ho' hj hdj (fun e => hji e.symm)
                simp only [hdj] at hv ⊢
                cases hd : o.dst with
                | none => simpa [Act.put] using hv
                | some d =>
                  have : d ≠ t := fun e => hne' (by rw [hd, e])
                  simpa [Act.put, Array.getElem?_setIfInBounds_ne this] using hv
          · intro j oj hj hjl k hk
            by_cases hji : i = j
            · subst hji
              rw [ho'] at hj
              cases hj
              exact getD_set_true (hedge k hk)
            · rw [getD_set_ne false hji] at hjl
              exact getD_set_true (hH.down j oj hj hjl k hk)
          · intro hq
            rw [getD_set_ne false hih] at hq
            exact hE.trans (hpre hq) h2
          · intro hq
            rw [getD_set_ne false hih] at hq
            have hjx := hJE _ w w' h2 (hJ hq)
            have hiJ : listed.getD iJ false = true := hH.down hx ox hox hq iJ hxe
            have hne : i ≠ iJ := fun e => by
              rw [e] at hiu
              rw [getD_both (by rw [hH.len]; exact (List.getElem?_eq_some_iff.1 hoJ).1) false true] at hiJ
              rw [hiJ] at hiu
              cases hiu
            have hne' := okD_dst hok ho' hoJ hoJd hne.symm
            cases hd : o.dst with
            | none => simpa [Act.put, hd] using hjx
            | some d =>
              have : d ≠ tJ := fun e => hne' (by rw [hd, e])
              simpa [Act.put, hd, Array.getElem?_setIfInBounds_ne this] using hjx
          · rw [getD_set_ne true him]; exact hmu
          · have := count_set hiu
            omega

end region
end Go.Proofs.YtocadbghhoibnaaFmt
