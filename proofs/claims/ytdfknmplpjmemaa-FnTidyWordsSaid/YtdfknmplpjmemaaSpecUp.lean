/- spec.double, spec.up: contracts. -/
import Derived.Test.YtdfknmplpjmemaaShl
import Derived.Test.YtdfknmplpjmemaaSpec
import Derived.Test.YtdfknmplpjmemaaSetU
import Derived.Laws.Bits64b
set_option linter.unusedSimpArgs false
set_option linter.unusedVariables false
namespace Go.Proofs.Ytdfknmplpjmemaa
open Go.RowKit

/-- A row that a loop of the reference collects. -/
def Acc (B : Nat) (w0 : World) (ws : List Nat) (v : Value) (wr : World) : Prop :=
  (∀ x ∈ ws, x < 18446744073709551616) ∧ wr.ownsRow B 25 1 v ws.length (words .u64 ws) ∧ Below B w0 wr

theorem shlC_lt (s c : Nat) (hs : s ≤ 64) (xs : List Nat) (hc : c < 2 ^ s) (hb : ∀ x ∈ xs, x < 18446744073709551616) : shlC s c xs < 2 ^ s := by
  induction xs generalizing c with
  | nil => exact hc
  | cons x xs ih =>
    have e := pow_split hs
    have hp : 0 < 2 ^ (64 - s) := Nat.pow_pos (by decide)
    exact ih _ (by rw [Nat.div_lt_iff_lt_mul hp, Nat.mul_comm, e]; exact hb x (by simp)) (fun z hz => hb z (List.mem_cons_of_mem _ hz))

def DblL (w : World) (ws : List Nat) (low : Nat) (v1 v5 v6 : Value) (wr : World) : Prop :=
  ∃ k : Nat, k ≤ ws.length ∧ v6 = .int .i64 (k : Nat) ∧ v1 = .int .u64 (shlC 1 low (ws.take k) : Nat) ∧ Acc w.heap.size w (shlL 1 low (ws.take k)) v5 wr

theorem dbl_word {x c : Nat} (hx : x < 18446744073709551616) (hc : c < 2) : bits BinOp.or IntKind.u64 (IntKind.u64.wrap ((x : Int) * 2)) (c : Int) = (((x % 2 ^ 63) * 2 ^ 1 + c : Nat) : Int) := by
  have h1 : IntKind.u64.wrap ((x : Int) * 2) = (((x % 2 ^ 63) * 2 ^ 1 : Nat) : Int) := by
    rw [IntKind.wrap_u64]; omega
  rw [h1, bits_or_u64_nat _ _ (by omega) (by omega), or_parts _ _ _ (by omega)]

theorem val_zeros' (q : Nat) (ys : List Nat) : val (List.replicate q 0 ++ ys) = 18446744073709551616 ^ q * val ys := by
  induction q with
  | zero => simp
  | succ q ih =>
    rw [List.replicate_succ, List.cons_append, val, ih, Nat.pow_succ, Nat.mul_comm (18446744073709551616 ^ q) 18446744073709551616, Nat.mul_assoc]; omega

/-- Words of value t come back, without zeros at their end, in new memory. -/
def SpecR (t L : Nat) (w : World) (e : Ending) (w' : World) : Prop :=
  Ext w w' ∧ ∃ v' rs, e = .returned v' ∧ Own .u64 w' 0 25 v' rs ∧ norm rs = rs ∧ val rs = t ∧ rs.length ≤ L

theorem len_of_val {rs : List Nat} {m : Nat} (hn : norm rs = rs) (h : val rs < 18446744073709551616 ^ m) : rs.length ≤ m := by
  rcases Nat.lt_or_ge m rs.length with h1 | h1
  · have h2 := norm_last hn (by intro e; rw [e] at h1; simp at h1)
    have h3 : 18446744073709551616 ^ m ≤ 18446744073709551616 ^ (rs.length - 1) := Nat.pow_le_pow_right (by decide) (by omega)
    omega
  · exact h1

/-- 'append(out, xs...)' with a nil xs. -/
theorem wpList_append_none {P : Program} {w : World} {ops : Array Oper} {rest : List Oper} {o : Oper} {a : Act} {Q : Exit → Act → World → Prop} (hgd : o.guard = none) (s x : Operand) (t : TypeId)
    (ho : o.op = .call { callee := .builtin .append, args := #[s, x], argTypes := #[t, t] }) (base : Nat) (e : TypeId) (i : TypeInfo) (size : Nat) (ht : P.underlying t = some (.slice e)) (hi : P.info? e = some i)
    (v : Value) (n : Nat) (xs : List Value) (hs : a.eval s = v) (hx : a.eval x = .slice none 0 0) (hown : w.ownsRow base e size v n xs) (h : wpList P ops Q rest (a.put o.dst v) w) : wpList P ops Q (o :: rest) a w := by
  refine wpList_plain hgd fun K hK => ?_
  have hr := run_append_owned_none (P := P) w base t o.type e i size ht hi v n xs hown
  unfold Oper.wp execOp
  simp only [ho, resolve, invoke, builtin, Sem.run_bind, Sem.run_pure, Result.andThen_ok, List.map_toArray, List.map_cons, List.map_nil, hs, hx, hr]
  exact hK _ _ h

theorem up_lt {v a k j : Nat} (h : v < 18446744073709551616 ^ a) (hj : j + 1 ≤ 64) : v * 18446744073709551616 ^ k * 2 ^ (j + 1) < 18446744073709551616 ^ (a + k + 1) := by
  have h5 : 2 ^ (j + 1) ≤ 2 ^ 64 := Nat.pow_le_pow_right (by decide) hj
  have e : (2 : Nat) ^ 64 = 18446744073709551616 := by rfl
  rw [e] at h5
  rw [Nat.pow_succ 18446744073709551616, Nat.pow_add 18446744073709551616]
  have h6 := pow_pos' k
  have h7 : v * 18446744073709551616 ^ k < 18446744073709551616 ^ a * 18446744073709551616 ^ k := Nat.mul_lt_mul_of_pos_right h h6
  exact Nat.lt_of_le_of_lt (Nat.mul_le_mul_left _ h5) (Nat.mul_lt_mul_of_pos_right h7 (by decide))

def UpZ (w : World) (q : Nat) (v5 v6 : Value) (wr : World) : Prop := ∃ k : Nat, k ≤ q ∧ v6 = .int .u64 (k : Nat) ∧ Acc w.heap.size w (List.replicate k 0) v5 wr

def UpD (w : World) (t m r : Nat) (v5 v7 : Value) (wr : World) : Prop := ∃ (j : Nat) (rs : List Nat), j ≤ r ∧ v7 = .int .u64 (j : Nat) ∧ Rd .u64 wr v5 rs ∧ val rs = t * 2 ^ j ∧ rs.length ≤ m ∧ Ext w wr

end Go.Proofs.Ytdfknmplpjmemaa
