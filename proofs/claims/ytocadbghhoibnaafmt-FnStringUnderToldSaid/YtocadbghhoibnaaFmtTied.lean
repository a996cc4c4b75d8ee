/- The sentinels off the row's hypothesis; facts of the dump for the told and tied cards. -/
import Derived.Test.YtocadbghhoibnaaFmtMa1
import Derived.Test.YtocadbghhoibnaaFmtCards
import Derived.Test.YtocadbghhoibnaaFmtTie
import Derived.LaidMore
import Derived.Lib.LaidTab
import Derived.SevenTiedAt
import Derived.Stop.LaidErr
import Derived.Stop.JoinedTold
import Derived.Deep.DeepWitnessRef
set_option linter.unusedSimpArgs false
set_option linter.unusedVariables false
namespace Go.Proofs.YtocadbghhoibnaaFmt
open Go.RowKit

abbrev laidAll : List (String × DataW Unit) := [("io.EOF", Rows.laid_io_EOF), ("math/big.errNoDigits", Rows.laid_math_big_errNoDigits), ("math/big.errInvalSep", Rows.laid_math_big_errInvalSep)]

theorem starErr : "*errors.errorString" = "*" ++ "errors.errorString" := by decide

theorem rowErr (u : TypeId) (h : Tryf.prog.typeName? 3 u = some "*errors.errorString") : u = 164 :=
  typeName_ptr_named (nm := "errors.errorString") (by rw [← starErr]; kernel_rfl) (by kernel_rfl) (by decide) u (by rw [← starErr]; exact h)

theorem sent_of_laid {W : World} (h : laidMetH Tryf.prog laidAll W) : ∃ a0 a1 a2, Sent a0 a1 a2 W := by
  have hL : laidMet Tryf.prog laidAll W := h
  obtain ⟨a0, t0, hv0, _⟩ := laid_sentinel (g := 0) hL (by kernel_rfl) (by kernel_rfl) Tryf.underlying121 rowErr Tryf.underlying164 Tryf.underlying184 rfl rfl Tryf.underlying9 (by kernel_rfl) (by kernel_rfl)
  obtain ⟨a2, t2, hv2, _⟩ := laid_sentinel (g := 2) hL.tail (by kernel_rfl) (by kernel_rfl) Tryf.underlying121 rowErr Tryf.underlying164 Tryf.underlying184 rfl rfl Tryf.underlying9 (by kernel_rfl) (by kernel_rfl)
  obtain ⟨a1, t1, hv1, _⟩ := laid_sentinel (g := 1) hL.tail.tail (by kernel_rfl) (by kernel_rfl) Tryf.underlying121 rowErr Tryf.underlying164 Tryf.underlying184 rfl rfl Tryf.underlying9 (by kernel_rfl) (by kernel_rfl)
  have c0 : W.cell? ⟨0, 0, none⟩ = some (.iface 164 (.pointer (some a0))) := by simpa using World.var?_cell (by kernel_rfl) hv0 0
  have c1 : W.cell? ⟨1, 0, none⟩ = some (.iface 164 (.pointer (some a1))) := by simpa using World.var?_cell (by kernel_rfl) hv1 0
  have c2 : W.cell? ⟨2, 0, none⟩ = some (.iface 164 (.pointer (some a2))) := by simpa using World.var?_cell (by kernel_rfl) hv2 0
  exact ⟨a0, a1, a2, c0, c1, c2, World.block_lt_of_cell? W ⟨2, 0, none⟩ c2⟩

theorem toldStops : Tryf.pinned.checked.prog.stops = ["fmt.Sprintf"] := by kernel_rfl
theorem toldKnobs : Tryf.pinned.checked.prog.stopKnobs = [] := by kernel_rfl
theorem toldQuiet (os : Os) : Stop.quiet Tryf.pinned.checked.prog os := by
  intro k hk
  rw [toldKnobs] at hk
  cases hk

noncomputable def doorW (os : Os) : World := World.doorLaid Tryf.prog 66 os

theorem door_met (os : Os) (args : Array Value) : laidMetH Tryf.prog laidAll ((doorW os).forCall (fun _ _ => 0) ⟨#[], args, []⟩).memory :=
  laidMetH_of_parts3 (fuel := 8) (laidMet_of_run' 8 (by kernel_rfl) (by kernel_rfl)) (by kernel_rfl) (by kernel_rfl)

end Go.Proofs.YtocadbghhoibnaaFmt
