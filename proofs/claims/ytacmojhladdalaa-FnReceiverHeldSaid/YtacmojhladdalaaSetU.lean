/- setUint64, (*Int).SetUint64, impl.SetUint64, impl.Bits, impl.SetBits: contracts by values. -/
import Derived.Test.YtacmojhladdalaaSetWord
set_option linter.unusedSimpArgs false
set_option linter.unusedVariables false
namespace Go.Proofs.Ytacmojhladdalaa
open Go.RowKit

/-- The words and the sign of an Int, stored. -/
theorem intAt_store {w : World} {p : Nat} {x y v : Value} {n : Bool} {ws : List Nat} (hp : w.heap[p]? = some (.cells #[x, y] 70 (0, 0))) (ho : Own .u64 w 0 80 v ws) :
    IntAt ((w.setCell ⟨p, 1, none⟩ v).setCell ⟨p, 0, none⟩ (.bool n)) 0 p n ws ∧ Upd (· = p) w ((w.setCell ⟨p, 1, none⟩ v).setCell ⟨p, 0, none⟩ (.bool n)) := by
  have hu : Upd (· = p) w ((w.setCell ⟨p, 1, none⟩ v).setCell ⟨p, 0, none⟩ (.bool n)) := ((Upd.refl (· = p) _).setCell (by rfl) _).setCell (by rfl) _
  exact ⟨⟨v, blk2_set0 (blk2_set1 hp v) _, ho.upd hp (by decide) hu⟩, hu⟩

theorem Own.zero {k : IntKind} {w : World} {base : Nat} {E : TypeId} {v : Value} {ws : List Nat} (h : Own k w base E v ws) : Own k w 0 E v ws := h.mono (Nat.zero_le _)

theorem Own.not {w : World} {base p : Nat} {E T : TypeId} {v : Value} {ws : List Nat} {cs : Array Value} {fr : Nat × Nat} {k : IntKind} (h : Own k w base E v ws) (hp : w.heap[p]? = some (.cells cs T fr)) (hT : T ≠ E) : v.ownBlock ≠ some p := by
  rcases h.2.2 with ⟨rfl, _⟩ | ⟨g, cap, cur, rfl, hb', hg, rest⟩
  · simp [Value.ownBlock]
  · intro e
    simp [Value.ownBlock] at e
    subst e
    rw [hg] at hp; simp at hp; exact hT hp.2.1.symm

theorem ownNil (w : World) (E : TypeId) : Own .u64 w 0 E (.slice none 0 0) [] := ⟨by simp, World.ownsRow_nil w 0 E 1⟩

theorem field_words (n : Bool) (a : Option Addr) (l c : Nat) (w : World) : (Instr.field 30 (.agg #[.bool n, .slice a l c]) 1).run Try.prog w = .ok (.slice a l c) w := by kernel_rfl

end Go.Proofs.Ytacmojhladdalaa
