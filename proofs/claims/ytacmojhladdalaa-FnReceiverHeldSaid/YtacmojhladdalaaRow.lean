/- How the arguments of a law are read: a Number, a list of words or bytes: plain laws over the program's types. -/
import Derived.Test.YtacmojhladdalaaRows
import Derived.Test.YtacmojhladdalaaBase
import Derived.ProofKit
import Derived.OpenShut
import Derived.ShutString
import Derived.ChangeOld
import Derived.SizedLaws
import Derived.Lib.SmallJoins
set_option linter.unusedSimpArgs false
set_option linter.unusedVariables false
namespace Go.Proofs.Ytacmojhladdalaa
open Go.ChangeShapes Go.WideShapes Go.ChangeAt Go.RowKit Go.Joins

set_option maxRecDepth 100000 in
theorem ownRow : ownKnob Try.prog.godebug = none := by kernel_rfl
set_option maxRecDepth 100000 in
theorem laidOut : laidOutB Try.prog = true := by kernel_rfl

set_option maxRecDepth 100000 in
theorem wf_u64 {n : Int} (h : (Lit.int .u64 n).wf = true) : 0 ≤ n ∧ n < 18446744073709551616 := by
  have : 0 ≤ n ∧ n ≤ 18446744073709551615 := by simpa [Lit.wf, IntKind.min, IntKind.max, IntKind.signed, IntKind.bits] using h
  omega
set_option maxRecDepth 100000 in
theorem wf_u8 {n : Int} (h : (Lit.int .u8 n).wf = true) : 0 ≤ n ∧ n < 256 := by
  have : 0 ≤ n ∧ n ≤ 255 := by simpa [Lit.wf, IntKind.min, IntKind.max, IntKind.signed, IntKind.bits] using h
  omega
set_option maxRecDepth 100000 in
theorem wf_i64 {n : Int} (h : (Lit.int .i64 n).wf = true) : -9223372036854775808 ≤ n ∧ n ≤ 9223372036854775807 := by
  simpa [Lit.wf, IntKind.min, IntKind.max, IntKind.signed, IntKind.bits] using h

set_option maxRecDepth 100000 in
/-- A slice of integers that is read as data holds a list of words. -/
theorem openWords {k : IntKind} {H : Type} {enc : TypeId × Value → H} {P : Program} {W : World} {t e : TypeId} {fuel : Nat} {v : Value} {x : DataW H × List MemPlace} (ht : P.underlying t = some (.slice e)) (he : P.underlying e = some (.int k)) (hc : P.cellsOf e = 1)
    (hk : ∀ n, (Lit.int k n).wf = true → 0 ≤ n ∧ n < lim k) (h : DataW.trod enc P W 0 (fun _ => true) true fuel t [v] = some x) :
    ∃ ws, Rd k W v ws ∧ ∀ (N : Nat), (∀ y ∈ x.1.weights P t, y ≤ N) → ws.length * P.bytesOf e ≤ N := by
  rcases open_ints ht he hc h with ⟨hcs, hx⟩ | ⟨a, len, cap, zs, hcs, _, hl, hm, hz, hx, hcell, hwz⟩
  · simp at hcs
    subst hcs
    exact ⟨[], ⟨by simp, none, 0, rfl, by simp, by simp, fun _ => rfl, by simp⟩, by simp⟩
  · simp at hcs
    subst hcs
    have hz' : zs.length = cap := by simpa using hz
    have hlen : ((zs.take len).map Int.toNat).length = len := by simp; omega
    refine ⟨(zs.take len).map Int.toNat, ⟨?_, some a, cap, by rw [hlen], by rw [hlen]; exact hl, by simpa [maxLen] using hm, by simp, ?_⟩, ?_⟩
    · intro y hy
      obtain ⟨z, hz1, rfl⟩ := List.mem_map.1 hy
      have := hk z (hwz z (List.mem_of_mem_take hz1))
      omega
    · intro i hi
      rw [hlen] at hi
      obtain ⟨b, off, rfl, hc'⟩ := ints_at hcell (by omega)
      refine ⟨b, off, rfl, ?_⟩
      have h1 := hc' i (by omega)
      rw [h1]
      have hgi : zs[i]? = some zs[i] := List.getElem?_eq_getElem (by omega)
      have hw := hk zs[i] (hwz _ (List.getElem_mem _))
      have : ((zs.take len).map Int.toNat).getD i 0 = zs[i].toNat := by
        rw [List.getD_eq_getElem?_getD, List.getElem?_map, List.getElem?_take, if_pos hi, hgi]; rfl
      rw [this, List.getD_eq_getElem?_getD, hgi]
      congr 2
      simp; omega
    · intro N hN
      rw [hx] at hN
      have := hN _ (by simp only [DataW.weights, ht]; exact List.mem_cons_self ..)
      refine Nat.le_trans ?_ this
      rw [hlen]
      refine Nat.mul_le_mul_right _ ?_
      simp [lits]; omega

set_option maxRecDepth 100000 in
theorem cellsNumber : Try.prog.cellsOf 24 = 2 := by kernel_rfl
set_option maxRecDepth 100000 in
theorem bytesUint : Try.prog.bytesOf 63 = 8 := by kernel_rfl

set_option maxRecDepth 100000 in
/-- A Number that is read as data. -/
theorem openNumber {H : Type} {enc : TypeId × Value → H} {W : World} {b0 : Nat} {v : Value} {d : DataW H} {p : List MemPlace} (hv : Value.okWide Try.prog W .any b0 24 v) (h : DataW.Trod enc Try.prog W 0 (fun _ => true) true 24 v d p) :
    ∃ n s ws, v = .agg #[.bool n, s] ∧ Rd .u64 W s ws ∧ ∀ (N : Nat), (∀ y ∈ d.weights Try.prog 24, y ≤ N) → ws.length * 8 ≤ N := by
  obtain ⟨c0, c1, y0, y1, m, rfl, hd, hp, hy0, hy1⟩ := open_agg2 Try.underlying24 (by kernel_rfl) cellsNumber hv h
  obtain ⟨b, e0, _⟩ := DataW.trod_bool Try.underlying4 hy0
  simp at e0
  subst e0
  obtain ⟨ws, hr, hw⟩ := openWords Try.underlying22 Try.underlying63 (by kernel_rfl) (fun n h => wf_u64 h) hy1
  refine ⟨b, c1, ws, rfl, hr, fun N hN => ?_⟩
  rw [← bytesUint]
  refine hw N fun y hy => hN y ?_
  rw [hd]
  simp only [DataW.weights, Try.underlying24, DataW.weightsEach]
  exact List.mem_append_right _ (List.mem_append_left _ hy)

end Go.Proofs.Ytacmojhladdalaa
