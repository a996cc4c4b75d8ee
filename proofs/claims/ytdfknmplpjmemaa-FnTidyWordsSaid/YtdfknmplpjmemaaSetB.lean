/- laws.setBits over words that are read: the contract. -/
import Derived.Test.YtdfknmplpjmemaaSetU
import Derived.Test.YtdfknmplpjmemaaHelpers
set_option linter.unusedSimpArgs false
set_option linter.unusedVariables false
namespace Go.Proofs.Ytdfknmplpjmemaa
open Go.RowKit

theorem setBits_rd (ws : List Nat) (v : Value) (w : World) (h : Rd .u64 w v ws) (hl : ws.length ≤ 17592186044416) :
    Calls Try.prog 23 #[v] w (ResR (IsC ws.length (val ws : Int)) w) := by
  obtain ⟨a, c, rfl⟩ := h.form
  have HR := Lib.hid h
  clear h
  go_enter Try.func23, Try.ntmps23
  go_wp2_with (at_builtin; refine wpList_copy_words (k := .u64) (bytes := 8) rfl (.tmp 3) (.tmp 4) 22 rfl 25 Try.underlying22 infoUint w.heap.size (w.heap.size + 1) rfl (heap_second _ _ _) (by omega) _ rfl ws ?r1 ?r2 ?r3 ?_)
  case r1 => exact HR.out.ext ((Ext.alloc _ _).trans (Ext.alloc _ _))
  case r2 => omega
  case r3 => omega
  intro v' w0 ho he
  have HC : Hid (Rd .u64 w0 v' ws) := ho.read
  have HE := Lib.hid (((Ext.alloc _ _).trans (Ext.alloc _ _)).trans he)
  have HB := Lib.hid ((Ext.alloc _ _).trans he)
  clear he ho HR
  go_wp2_with fail
  refine (implSetBits_z ws _ _ HC.out (by omega)).mono ?_
  rintro e w1 ⟨he, y1, rfl, hy⟩
  replace HE := Lib.hid (HE.out.trans he)
  replace HB := Lib.hid (HB.out.trans he)
  have HY1 := Lib.hid hy
  clear he hy
  go_wp2_with fail
  refine (fromImpl_z (ws.length) ((val ws : Int)) _ _ HY1.out).mono ?_
  rintro e w2 ⟨he, y2, rfl, hy⟩
  replace HE := Lib.hid (HE.out.trans he)
  replace HB := Lib.hid (HB.out.trans he)
  have HY2 := Lib.hid hy
  clear he hy HY1
  obtain ⟨m, aa, ll, cc, rfl⟩ := HY2.out.form
  have hp : w2.heap[w.heap.size]? = some (.cells #[.bool false, .slice none 0 0] 24 (0, 0)) := HB.out.block (heap_alloc_new _ _)
  have d0 := blk_cell hp 0
  have d1 := blk_cell hp 1
  have f0 := blk_free hp 0
  have f1 := blk_free hp 1
  simp at d0 d1
  have HP := Lib.hid hp
  clear hp
  go_wp2_with fail
  obtain ⟨e0, e1, hu⟩ := set2 HP.out (.bool m) (.slice aa ll cc)
  exact bodyPost_ret (results_laws rfl _ rfl e0 e1) rfl ⟨hu.ext HE.out (by omega), _, rfl, HY2.out.upd HP.out (by decide) hu⟩

end Go.Proofs.Ytdfknmplpjmemaa
