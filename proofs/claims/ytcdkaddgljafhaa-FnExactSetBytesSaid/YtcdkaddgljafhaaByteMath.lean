/- Bytes as digits of a number: plain laws. -/
import Derived.Test.YtcdkaddgljafhaaPut
import Derived.Test.YtcdkaddgljafhaaSpec
import Derived.Laws.Bits64b
import Derived.Test.YtcdkaddgljafhaaShl
set_option linter.unusedSimpArgs false
set_option linter.unusedVariables false
namespace Go.Proofs.Ytcdkaddgljafhaa
open Go.RowKit

/-- The value of bytes, the lowest first. -/
def bv : List Nat → Nat
  | [] => 0
  | b :: bs => b + 256 * bv bs

/-- The value of bytes, the highest first. -/
def bev (bs : List Nat) : Nat := bv bs.reverse

theorem bv_append (a b : List Nat) : bv (a ++ b) = bv a + 256 ^ a.length * bv b := by
  induction a with
  | nil => simp [bv]
  | cons x a ih =>
    rw [List.cons_append, bv, ih, bv, List.length_cons, Nat.pow_succ, Nat.mul_add, Nat.mul_comm (256 ^ a.length) 256, ← Nat.mul_assoc]
    omega

theorem bv_lt (a : List Nat) (h : ∀ x ∈ a, x < 256) : bv a < 256 ^ a.length := by
  induction a with
  | nil => simp [bv]
  | cons x a ih =>
    have h1 := ih (fun y hy => h y (List.mem_cons_of_mem _ hy))
    have h2 := h x (by simp)
    rw [bv, List.length_cons, Nat.pow_succ]
    omega

theorem bv_snoc (a : List Nat) (x : Nat) : bv (a ++ [x]) = bv a + 256 ^ a.length * x := by
  rw [bv_append]; simp [bv]

theorem bv_take_succ (r : List Nat) (t : Nat) (h : t < r.length) : bv (r.take (t + 1)) = bv (r.take t) + 256 ^ t * r.getD t 0 := by
  rw [List.take_succ_eq_append_getElem h, bv_snoc, List.length_take, Nat.min_eq_left (by omega)]
  simp [h]

theorem pow256_8 (k : Nat) : 256 ^ (8 * k) = 18446744073709551616 ^ k := by
  rw [Nat.pow_mul]

theorem pow256_2 (k : Nat) : 256 ^ k = 2 ^ (8 * k) := by
  rw [Nat.pow_mul]

theorem rev_getD (bs : List Nat) (t : Nat) (h : t < bs.length) : bs.reverse.getD t 0 = bs.getD (bs.length - 1 - t) 0 := by
  have h2 : bs.length - 1 - t < bs.length := by omega
  rw [List.getD_eq_getElem?_getD, List.getD_eq_getElem?_getD, List.getElem?_reverse h]

/-- Eight bytes more. -/
theorem bv_take_eight (r : List Nat) (k : Nat) (h : 8 * k + 8 ≤ r.length) : bv (r.take (8 * (k + 1))) = bv (r.take (8 * k)) + 18446744073709551616 ^ k * bv ((r.drop (8 * k)).take 8) := by
  rw [show 8 * (k + 1) = 8 * k + 8 by omega, List.take_add, bv_append, List.length_take, Nat.min_eq_left (by omega), pow256_8]

theorem take8 (r : List Nat) (m : Nat) (h : m + 8 ≤ r.length) : (r.drop m).take 8 = [r.getD m 0, r.getD (m + 1) 0, r.getD (m + 2) 0, r.getD (m + 3) 0, r.getD (m + 4) 0, r.getD (m + 5) 0, r.getD (m + 6) 0, r.getD (m + 7) 0] := by
  apply List.ext_getElem
  · simp; omega
  · intro i h1 h2
    simp at h2
    rw [List.getElem_take, List.getElem_drop]
    have h3 : m + i < r.length := by omega
    match i, h2 with
    | 0, _ | 1, _ | 2, _ | 3, _ | 4, _ | 5, _ | 6, _ | 7, _ => simp [List.getD_eq_getElem?_getD, (show r[m]? = some r[m] from List.getElem?_eq_getElem (by omega)), List.getElem?_eq_getElem h3]

theorem bits_or_up {d b t : Nat} (hd : d < 2 ^ t) (hb : b * 2 ^ t < 18446744073709551616) (hd2 : d < 18446744073709551616) : bits BinOp.or IntKind.u64 (d : Int) ((b * 2 ^ t : Nat) : Int) = ((d + b * 2 ^ t : Nat) : Int) := by
  rw [bits_or_u64_nat _ _ hd2 hb, Nat.or_comm, or_parts _ _ _ hd, Nat.add_comm]

end Go.Proofs.Ytcdkaddgljafhaa
