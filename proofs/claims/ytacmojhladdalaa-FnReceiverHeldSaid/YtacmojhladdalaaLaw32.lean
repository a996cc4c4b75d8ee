/- FnReceiverHeld: small laws (printed by lawgen.py). -/
import Derived.Test.YtacmojhladdalaaAddZ
import Derived.Test.YtacmojhladdalaaImplAS
import Derived.Test.YtacmojhladdalaaHelpers
import Derived.Test.YtacmojhladdalaaCmp3
set_option linter.unusedSimpArgs false
set_option linter.unusedVariables false
namespace Go.Proofs.Ytacmojhladdalaa
open Go.RowKit

theorem IsT.upd {L : Nat} {z x y : Int} {v : Value} {w w' : World} {p : Nat} {cs : Array Value} {T : TypeId} {fr : Nat × Nat} (h : IsT L z x y v w) (hp : w.heap[p]? = some (.cells cs T fr)) (hT : T ≠ 63) (hu : Upd (· = p) w w') : IsT L z x y v w' := by
  obtain ⟨n1, s1, n2, s2, n3, s3, h0, h1, h2, h3⟩ := h
  exact ⟨n1, s1, n2, s2, n3, s3, h0, h1.upd hp hT hu, h2.upd hp hT hu, h3.upd hp hT hu⟩

theorem IsT.form {L : Nat} {z x y : Int} {v : Value} {w : World} (h : IsT L z x y v w) : ∃ n1 a1 l1 c1 n2 a2 l2 c2 n3 a3 l3 c3, v = .agg #[.bool n1, .slice a1 l1 c1, .bool n2, .slice a2 l2 c2, .bool n3, .slice a3 l3 c3] ∧ IsC L z (.agg #[.bool n1, .slice a1 l1 c1]) w ∧ IsC L x (.agg #[.bool n2, .slice a2 l2 c2]) w ∧ IsC L y (.agg #[.bool n3, .slice a3 l3 c3]) w := by
  obtain ⟨n1, s1, n2, s2, n3, s3, rfl, h1, h2, h3⟩ := h
  obtain ⟨m1, a1, l1, c1, e1⟩ := h1.form
  obtain ⟨m2, a2, l2, c2, e2⟩ := h2.form
  obtain ⟨m3, a3, l3, c3, e3⟩ := h3.form
  simp at e1 e2 e3
  obtain ⟨rfl, rfl⟩ := e1
  obtain ⟨rfl, rfl⟩ := e2
  obtain ⟨rfl, rfl⟩ := e3
  exact ⟨m1, a1, l1, c1, m2, a2, l2, c2, m3, a3, l3, c3, rfl, h1, h2, h3⟩

def AtT (n0 : Nat) (v : Value) (w : World) : Prop := ∃ p, v = .pointer (some ⟨p, 0, none⟩) ∧ w.heap[p]? = some (.cells #[.bool false, .slice none 0 0, .bool false, .slice none 0 0, .bool false, .slice none 0 0] 32 (0, 0)) ∧ n0 ≤ p

theorem AtT.ext {n0 : Nat} {v : Value} {w w' : World} (h : AtT n0 v w) (he : Ext w w') : AtT n0 v w' := by
  obtain ⟨p, h1, h2, h3⟩ := h
  exact ⟨p, h1, he.block h2, h3⟩

def AtQ (n0 : Nat) (v : Value) (w : World) : Prop := ∃ p, v = .pointer (some ⟨p, 0, none⟩) ∧ w.heap[p]? = some (.cells #[.bool false, .slice none 0 0] 24 (0, 0)) ∧ n0 ≤ p

theorem AtQ.ext {n0 : Nat} {v : Value} {w w' : World} (h : AtQ n0 v w) (he : Ext w w') : AtQ n0 v w' := by
  obtain ⟨p, h1, h2, h3⟩ := h
  exact ⟨p, h1, he.block h2, h3⟩

theorem implAdd_h0 (L : Nat) (zz x y : Int) (vz vx vy : Value) (w : World) (hz : IsZ L zz vz w) (hx : IsZ L x vx w) (hy : IsZ L y vy w) (hL : L + 1 ≤ 17592186044416) :
    Calls Try.prog 19 #[.int .i64 0, vz, vx, vy] w (ResR (IsT (L + 1) (x + y) x y) w) := by
  have := implAdd_z 0 L zz x y vz vx vy w hz hx hy hL
  simpa [secZ, aftX, aftY, isOne, isX, isY] using this

theorem implSub_h0 (L : Nat) (zz x y : Int) (vz vx vy : Value) (w : World) (hz : IsZ L zz vz w) (hx : IsZ L x vx w) (hy : IsZ L y vy w) (hL : L + 1 ≤ 17592186044416) :
    Calls Try.prog 23 #[.int .i64 0, vz, vx, vy] w (ResR (IsT (L + 1) (x - y) x y) w) := by
  have := implSub_z 0 L zz x y vz vx vy w hz hx hy hL
  simpa [secZ, aftX, aftY, isOne, isX, isY] using this

end Go.Proofs.Ytacmojhladdalaa

