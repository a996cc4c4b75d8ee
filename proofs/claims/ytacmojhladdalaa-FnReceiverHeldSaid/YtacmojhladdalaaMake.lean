/- nat.make, setWord, setUint64, (*Int).SetUint64, impl.SetUint64: contracts. -/
import Derived.Test.YtacmojhladdalaaLev
set_option linter.unusedSimpArgs false
set_option linter.unusedVariables false
namespace Go.Proofs.Ytacmojhladdalaa
open Go.RowKit

/-- What make leaves: n cells of the old row, or of a new one. -/
def MakeR (v0 : Value) (n : Nat) (w : World) (e : Ending) (w' : World) : Prop :=
  ∃ v' xs, e = .returned v' ∧ w'.ownsRow 0 80 1 v' n xs ∧ ((w' = w ∧ v'.ownBlock = v0.ownBlock) ∨ (v'.ownBlock = some w.heap.size ∧ Ext w w'))

set_option maxHeartbeats 400000 in
theorem make_any (v0 : Value) (m n : Nat) (xs : List Value) (w : World) (h : w.ownsRow 0 80 1 v0 m xs) (hn : n ≤ 35184372088827) :
    Calls Try.prog 76 #[v0, .int .i64 n] w (MakeR v0 n w) := by
  obtain ⟨i0, hi, hz0, hz1, hz2⟩ := info_parts infoWord
  have hmk1 := fun wx : World => run_make (P := Try.prog) wx 68 80 i0 _ Try.underlying68 hi hz0 .i64 .i64 1 1 (by omega) (by omega) (by rw [hz2]; omega) (by omega)
  have hmk := fun wx : World => run_make (P := Try.prog) wx 68 80 i0 _ Try.underlying68 hi hz0 .i64 .i64 (n : Int) ((n : Int) + 4) (by omega) (by omega) (by rw [hz2]; omega) (by omega)
  rw [hz1] at hmk1 hmk
  clear hi hz0 hz1 hz2
  obtain ⟨hlen, h2⟩ := h
  have hnew : ∀ (c : Nat), n ≤ c → c ≤ 9223372036854775807 → (w.alloc (.cells (madeCells #[Value.int .u64 0] c) 80)).ownsRow 0 80 1 (.slice (some ⟨w.heap.size, 0, none⟩) n c) n ((madeCells #[Value.int .u64 0] c).toList.take n) := by
    intro c hc hc2
    have hs : (madeCells #[Value.int .u64 0] c).size = c := by simp [madeCells]
    refine ⟨by simp only [List.length_take, Array.length_toList, hs]; omega, .inr ⟨w.heap.size, c, _, rfl, Nat.zero_le _, heap_alloc_new _ _, hc, by simpa [maxLen] using hc2, by rw [hs, Nat.mul_one], by rw [Nat.mul_one]⟩⟩
  have HNEW := Lib.hid hnew
  clear hnew
  rcases h2 with ⟨rfl, h0⟩ | ⟨g, cap, cur, rfl, hb, hg, hle, hcap, hsz, htake⟩
  · by_cases h0' : n = 0
    · subst h0'
      clear hmk hmk1
      go_enter Try.func76, Try.ntmps76
      go_wp2_with fail
      go_ret
      exact ⟨_, [], rfl, World.ownsRow_nil _ _ _ _, .inl ⟨rfl, rfl⟩⟩
    · by_cases h1 : n = 1
      · subst h1
        clear hmk
        go_enter Try.func76, Try.ntmps76
        go_wp2_with fail
        go_ret
        exact ⟨_, _, rfl, HNEW.out 1 (by omega) (by omega), .inr ⟨rfl, Ext.alloc _ _⟩⟩
      · have hpos : 1 < n := by omega
        have hb1 : ((n : Int) == 1) = false := by simp; omega
        clear hmk1 h0' h1
        go_enter Try.func76, Try.ntmps76
        go_wp2_with fail
        go_ret
        exact ⟨_, _, rfl, HNEW.out (n + 4) (by omega) (by omega), .inr ⟨rfl, Ext.alloc _ _⟩⟩
  · have hcap' : cap ≤ 9223372036854775807 := by simpa [maxLen] using hcap
    by_cases hfit : n ≤ cap
    · clear hmk hmk1
      have HG := Lib.hid hg
      have HSZ := Lib.hid hsz
      clear hg htake hsz
      go_enter Try.func76, Try.ntmps76
      go_wp2_with fail
      go_ret
      refine ⟨_, cur.toList.take n, rfl, ⟨?_, .inr ⟨g, cap, cur, rfl, hb, HG.out, hfit, hcap, HSZ.out, by rw [Nat.mul_one]⟩⟩, .inl ⟨rfl, rfl⟩⟩
      rw [List.length_take, Array.length_toList, HSZ.out]; omega
    · by_cases h1 : n = 1
      · subst h1
        clear hmk hg htake hsz
        go_enter Try.func76, Try.ntmps76
        go_wp2_with fail
        go_ret
        exact ⟨_, _, rfl, HNEW.out 1 (by omega) (by omega), .inr ⟨rfl, Ext.alloc _ _⟩⟩
      · have hb1 : ((n : Int) == 1) = false := by simp; omega
        clear hmk1 h1 hg htake hsz
        go_enter Try.func76, Try.ntmps76
        go_wp2_with fail
        go_ret
        exact ⟨_, _, rfl, HNEW.out (n + 4) (by omega) (by omega), .inr ⟨rfl, Ext.alloc _ _⟩⟩

end Go.Proofs.Ytacmojhladdalaa
