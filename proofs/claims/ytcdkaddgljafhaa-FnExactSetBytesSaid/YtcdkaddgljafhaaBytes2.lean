/- (*Int).SetBytes, impl.SetBytes, laws.setBytes, laws.noBits: contracts. -/
import Derived.Test.YtcdkaddgljafhaaBytes
import Derived.Test.YtcdkaddgljafhaaHelpers
set_option linter.unusedSimpArgs false
set_option linter.unusedVariables false
namespace Go.Proofs.Ytcdkaddgljafhaa
open Go.RowKit

theorem infoByte : (Try.prog.info? 5).map (fun i => (i.zero, i.size, i.bytes)) = some (some (.int .u8 0), 1, 1) := by kernel_rfl

theorem bytesByte : Try.prog.bytesOf 5 = 1 := by kernel_rfl

theorem intSetBytes_any (p : Nat) (n : Bool) (v : Value) (bs : List Nat) (w : World) (hp : w.heap[p]? = some (.cells #[.bool n, .slice none 0 0] 66 (0, 0))) (h : Rd .u8 w v bs) (hl : bs.length ≤ 140737488355328) :
    Calls Try.prog 57 #[.pointer (some ⟨p, 0, none⟩), v] w fun e w' => e = .returned (.pointer (some ⟨p, 0, none⟩)) ∧ IntZ ((bs.length + 7) / 8) (bev bs : Int) w' 0 p ∧ Upd (fun k => k = p) w w' := by
  obtain ⟨a, c, rfl⟩ := h.form
  have c0 := blk_cell hp 0
  have c1 := blk_cell hp 1
  simp at c0 c1
  have HP := Lib.hid hp
  have HR := Lib.hid h
  clear hp h
  go_enter Try.func57, Try.ntmps57
  go_wp2_with fail
  refine (natSetBytes_any _ bs _ HR.out hl).mono ?_
  rintro e w1 ⟨v', rs, rfl, ho, hn, hv, hrl, he, hb⟩
  have hp1 := he.block HP.out
  obtain ⟨a', c', rfl⟩ := ho.form
  have d0 := blk_cell hp1 0
  have d1 := blk_cell hp1 1
  have f0 := blk_free hp1 0
  have f1 := blk_free hp1 1
  simp at d0 d1
  have HP1 := Lib.hid hp1
  have H1 := Lib.hid ho
  have H2 := Lib.hid (And.intro hn (And.intro hv hrl))
  have H3 := Lib.hid he
  clear ho hn hv hrl he hb hp1 c0 c1
  go_wp2_with fail
  go_ret
  obtain ⟨i1, i2⟩ := intAt_store (n := false) HP1.out H1.out
  obtain ⟨hn, hv, hrl⟩ := H2.out
  refine ⟨rfl, ⟨rs, ?_, hn, by rw [hv]; simp, hrl⟩, Upd.same H3.out.upd i2⟩
  rw [show decide (((bev bs : Nat) : Int) < 0) = false by simp]
  exact i1

theorem implSetBytes_z (v : Value) (bs : List Nat) (w : World) (h : Rd .u8 w v bs) (hl : bs.length ≤ 140737488355328) :
    Calls Try.prog 38 #[v] w (ResR (IsC ((bs.length + 7) / 8) (bev bs : Int)) w) := by
  obtain ⟨a, c, rfl⟩ := h.form
  have HR := Lib.hid h
  clear h
  go_enter Try.func38, Try.ntmps38
  go_wp2_with fail
  refine (intSetBytes_any (w.heap.size + 1) false _ bs _ (heap_second _ _ _) (HR.out.ext ((Ext.alloc _ _).trans (Ext.alloc _ _))) hl).mono ?_
  rintro e w1 ⟨rfl, hI, hu⟩
  have hE : Ext w w1 := hu.ext ((Ext.alloc _ _).trans (Ext.alloc _ _)) (fun i q => by omega)
  have hp : w1.heap[w.heap.size]? = some (.cells #[.bool false, .slice none 0 0] 26 (0, 0)) := hu.heap ((Ext.alloc _ _).block (heap_alloc_new _ _)) (by omega)
  have HIZ := Lib.hid hI
  have HE := Lib.hid hE
  have HP := Lib.hid hp
  clear hI hu hE hp
  generalize hz : ((bev bs : Nat) : Int) = z at *
  have HZ := Lib.hid hz
  clear hz
  go_wp2_with fail
  refine (number_z ((bs.length + 7) / 8) z 0 _ _ HIZ.out (by omega)).mono ?_
  rintro e w2 ⟨he, y, rfl, s, ws, rfl, ho, h3⟩
  obtain ⟨a', c', rfl⟩ := ho.form
  have hp2 := he.block HP.out
  have d0 := blk_cell hp2 0
  have d1 := blk_cell hp2 1
  have f0 := blk_free hp2 0
  have f1 := blk_free hp2 1
  simp at d0 d1
  have HP2 := Lib.hid hp2
  have HE2 := Lib.hid (HE.out.trans he)
  have H3 := Lib.hid h3
  clear he hp2 h3
  generalize hd : decide (z < 0) = nn at *
  have HD := Lib.hid hd
  clear hd
  go_wp2_with fail
  obtain ⟨e0, e1, hu⟩ := set2 HP2.out (.bool nn) (.slice a' ws.length c')
  exact bodyPost_ret (results_impl rfl _ rfl e0 e1) rfl ⟨hu.ext HE2.out (by omega), _, rfl, ⟨_, ws, by rw [HD.out], ho.upd HP2.out (by decide) hu, H3.out⟩⟩

theorem allz_take {bs : List Nat} {k : Nat} (hk : k < bs.length) : (bs.take (k + 1)).all (· == 0) = ((bs.take k).all (· == 0) && (bs.getD k 0 == 0)) := by
  rw [List.take_succ_eq_append_getElem hk, List.all_append, List.getD_eq_getElem?_getD, List.getElem?_eq_getElem hk]
  simp only [List.all_cons, List.all_nil, Bool.and_true, Option.getD_some]

end Go.Proofs.Ytcdkaddgljafhaa
