/- string(b): a slice of bytes as a text. -/
import Derived.Test.YtfpkaamldifkbaaNat
import Derived.Laws.IdiomStrings
import Derived.Laws.BytesArg
set_option linter.unusedSimpArgs false
set_option linter.unusedVariables false
namespace Go.Proofs.Ytfpkaamldifkbaa
open Go.RowKit

/-- The text of these bytes. -/
def strN (bs : List Nat) : ByteArray := ⟨(bs.map UInt8.ofNat).toArray⟩

theorem conv_rd (bs : List Nat) (v : Value) (w : World) (h : Rd .u8 w v bs) : (convert 26 9 v).run Try.prog w = .ok (.string (strN bs)) w := by
  have hb : ∀ x ∈ bs, x < 256 := h.1
  rcases h.shape with ⟨rfl, a, cap, rfl, _, hn⟩ | ⟨h0, b, off, cap, rfl, h1, h2, h3⟩
  · cases a with
    | none => exact run_convert_bytes_nil w 26 5 Try.underlying26 Try.underlying5 0 cap 9 Try.underlying9
    | some ad => exact run_convert_bytes_back (P := Try.prog) w 26 9 5 ad cap [] Try.underlying26 Try.underlying5 Try.underlying9 (by simp)
  · have := run_convert_bytes_back (P := Try.prog) w 26 9 5 ⟨b, off, none⟩ cap (bs.map UInt8.ofNat) Try.underlying26 Try.underlying5 Try.underlying9 (fun j hj => by
      have hj' : j < bs.length := by simpa using hj
      have e : (⟨b, off, none⟩ : Addr).add j = ⟨b, off + j, none⟩ := by unfold Addr.add; split <;> simp_all
      rw [e, h3 j hj', List.getD_eq_getElem?_getD, List.getElem?_eq_getElem hj', List.getElem_map]
      have hx := hb bs[j] (List.getElem_mem hj')
      simp [Nat.mod_eq_of_lt hx])
    rw [List.length_map] at this
    exact this

end Go.Proofs.Ytfpkaamldifkbaa
