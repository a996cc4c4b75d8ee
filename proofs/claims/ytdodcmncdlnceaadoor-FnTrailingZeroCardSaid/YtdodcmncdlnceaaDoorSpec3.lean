/- Functions that hand a Number on through a result cell: contracts (printed by gen2.py). -/
import Derived.Test.YtdodcmncdlnceaaDoorSpec2
set_option linter.unusedSimpArgs false
set_option linter.unusedVariables false
namespace Go.Proofs.YtdodcmncdlnceaaDoor
open Go.RowKit

theorem heap_second (w : World) (o o' : Obj) : ((w.alloc o).alloc o').heap[w.heap.size + 1]? = some o' := by
  have := heap_alloc_new (w.alloc o) o'
  rwa [World.size_alloc] at this

theorem fromSpec_any (n : Bool) (v : Value) (ws : List Nat) (w : World) (ho : Own .u64 w 0 28 v ws) :
    Calls Tryd.prog 16 #[.agg #[.bool n, v]] w (NumR n ws w) := by
  obtain ⟨a', cap', rfl⟩ := ho.form
  go_enter Tryd.func16, Tryd.ntmps16
  go_wp2_with fail
  have hp : ((w.alloc (.cells #[.bool n, .slice a' ws.length cap'] 26)).alloc (.cells #[.bool n, .slice a' ws.length cap'] 24)).heap[w.heap.size + 1]? = some (.cells #[.bool n, .slice a' ws.length cap'] 24 (0, 0)) := heap_second _ _ _
  have hE : Ext w ((w.alloc (.cells #[.bool n, .slice a' ws.length cap'] 26)).alloc (.cells #[.bool n, .slice a' ws.length cap'] 24)) := (Ext.alloc _ _).trans (Ext.alloc _ _)
  exact bodyPost_ret (results_laws rfl _ rfl (blk_cell hp 0) (blk_cell hp 1)) rfl ⟨hE, _, rfl, ho.ext hE⟩

end Go.Proofs.YtdodcmncdlnceaaDoor
