/- CmpAbs by values (printed by lawgen.py). -/
import Derived.Test.YtacmojhladdalaaCmp
set_option linter.unusedSimpArgs false
set_option linter.unusedVariables false
namespace Go.Proofs.Ytacmojhladdalaa
open Go.RowKit

/-- A pointer to an Int of value z. -/
def IsI (L : Nat) (z : Int) (x : Value) (w : World) : Prop := ∃ p base, x = .pointer (some ⟨p, 0, none⟩) ∧ IntZ L z w base p

theorem IsI.ext {L : Nat} {z : Int} {x : Value} {w w' : World} (h : IsI L z x w) (he : Ext w w') : IsI L z x w' := by
  obtain ⟨p, base, h1, h2⟩ := h; exact ⟨p, base, h1, h2.ext he⟩

theorem integer_i (L : Nat) (z : Int) (x : Value) (w : World) (h : IsZ L z x w) (hL : L ≤ 17592186044416) :
    Calls Try.prog 57 #[x] w (ResR (IsI L z) w) := by
  refine (integer_z L z x w h hL).mono ?_
  rintro e w' ⟨he, p, rfl, hp, hI⟩
  exact ⟨he, _, rfl, p, _, rfl, hI⟩

theorem cmp_own (b1 b2 : Nat) (u v : Value) (a b : List Nat) (w : World) (ha : Own .u64 w b1 80 u a) (hb : Own .u64 w b2 80 v b) (hna : norm a = a) (hnb : norm b = b) (hla : a.length ≤ 17592186044416) (hlb : b.length ≤ 17592186044416) :
    Calls Try.prog 65 #[u, v] w (ValR (.int .i64 (cmpW a b)) w) := by
  obtain ⟨a1, c1, rfl⟩ := ha.form
  obtain ⟨a2, c2, rfl⟩ := hb.form
  by_cases hd : a.length ≠ b.length ∨ a.length = 0
  · exact cmp_len a1 a2 a b c1 c2 w hna hnb ha.1 hb.1 hla hlb hd
  · have h1 : a.length = b.length := by omega
    have h2 : 0 < a.length := by omega
    rcases ha.read.shape with ⟨e1, _⟩ | ⟨_, x1, o1, q1, e1, _, _, k1⟩
    · subst e1; simp at h2
    rcases hb.read.shape with ⟨e2, _⟩ | ⟨_, x2, o2, q2, e2, _, _, k2⟩
    · subst e2; rw [h1] at h2; simp at h2
    simp at e1 e2
    obtain ⟨rfl, rfl⟩ := e1
    obtain ⟨rfl, rfl⟩ := e2
    have := cmp_words x1 o1 x2 o2 a b a.length c1 c2 w ha.1 hb.1 rfl h1.symm h2 hla k1 (by rw [h1]; exact k2)
    rw [← h1]
    exact this

end Go.Proofs.Ytacmojhladdalaa

