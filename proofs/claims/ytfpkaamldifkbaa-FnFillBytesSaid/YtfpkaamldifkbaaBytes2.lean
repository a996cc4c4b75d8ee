/- (*Int).SetBytes, impl.SetBytes, laws.setBytes, laws.noBits: contracts. -/
import Derived.Test.YtfpkaamldifkbaaBytes
import Derived.Test.YtfpkaamldifkbaaHelpers
set_option linter.unusedSimpArgs false
set_option linter.unusedVariables false
namespace Go.Proofs.Ytfpkaamldifkbaa
open Go.RowKit

theorem infoByte : (Try.prog.info? 5).map (fun i => (i.zero, i.size, i.bytes)) = some (some (.int .u8 0), 1, 1) := by kernel_rfl

theorem bytesByte : Try.prog.bytesOf 5 = 1 := by kernel_rfl

theorem intSetBytes_any (p : Nat) (n : Bool) (v : Value) (bs : List Nat) (w : World) (hp : w.heap[p]? = some (.cells #[.bool n, .slice none 0 0] 77 (0, 0))) (h : Rd .u8 w v bs) (hl : bs.length ≤ 140737488355328) :
    Calls Try.prog 61 #[.pointer (some ⟨p, 0, none⟩), v] w fun e w' => e = .returned (.pointer (some ⟨p, 0, none⟩)) ∧ IntZ ((bs.length + 7) / 8) (bev bs : Int) w' 0 p ∧ Upd (fun k => k = p) w w' := by
  obtain ⟨a, c, rfl⟩ := h.form
  have c0 := blk_cell hp 0
  have c1 := blk_cell hp 1
  simp at c0 c1
  have HP := Lib.hid hp
  have HR := Lib.hid h
  clear hp h
  go_enter Try.func61, Try.ntmps61
  go_wp2_with fail
  refine (natSetBytes_any _ bs _ HR.out hl).mono ?_
  rintro e w1 ⟨v', rs, rfl, ho, hn, hv, hrl, he, hb⟩
  have hp1 := he.block HP.out
  obtain ⟨a', c', rfl⟩ := ho.form
  have d0 := blk_cell hp1 0
  have d1 := blk_cell hp1 1
  have f0 := blk_free hp1 0
  have f1 := blk_free hp1 1
  simp at d0 d1
  have HP1 := Lib.hid hp1
  have H1 := Lib.hid ho
  have H2 := Lib.hid (And.intro hn (And.intro hv hrl))
  have H3 := Lib.hid he
  clear ho hn hv hrl he hb hp1 c0 c1
  go_wp2_with fail
  go_ret
  obtain ⟨i1, i2⟩ := intAt_store (n := false) HP1.out H1.out
  obtain ⟨hn, hv, hrl⟩ := H2.out
  refine ⟨rfl, ⟨rs, ?_, hn, by rw [hv]; simp, hrl⟩, Upd.same H3.out.upd i2⟩
  rw [show decide (((bev bs : Nat) : Int) < 0) = false by simp]
  exact i1

theorem implSetBytes_z (v : Value) (bs : List Nat) (w : World) (h : Rd .u8 w v bs) (hl : bs.length ≤ 140737488355328) :
    Calls Try.prog 38 #[v] w (ResR (IsC ((bs.length + 7) / 8) (bev bs : Int)) w) := by
  obtain ⟨a, c, rfl⟩ := h.form
  have HR := Lib.hid h
  clear h
  go_enter Try.func38, Try.ntmps38
  go_wp2_with fail
  refine (intSetBytes_any (w.heap.size + 1) false _ bs _ (heap_second _ _ _) (HR.out.ext ((Ext.alloc _ _).trans (Ext.alloc _ _))) hl).mono ?_
  rintro e w1 ⟨rfl, hI, hu⟩
  have hE : Ext w w1 := hu.ext ((Ext.alloc _ _).trans (Ext.alloc _ _)) (fun i q => by omega)
  have hp : w1.heap[w.heap.size]? = some (.cells #[.bool false, .slice none 0 0] 28 (0, 0)) := hu.heap ((Ext.alloc _ _).block (heap_alloc_new _ _)) (by omega)
  have HIZ := Lib.hid hI
  have HE := Lib.hid hE
  have HP := Lib.hid hp
  clear hI hu hE hp
  generalize hz : ((bev bs : Nat) : Int) = z at *
  have HZ := Lib.hid hz
  clear hz
  go_wp2_with fail
  refine (number_z ((bs.length + 7) / 8) z 0 _ _ HIZ.out (by omega)).mono ?_
  rintro e w2 ⟨he, y, rfl, s, ws, rfl, ho, h3⟩
  obtain ⟨a', c', rfl⟩ := ho.form
  have hp2 := he.block HP.out
  have d0 := blk_cell hp2 0
  have d1 := blk_cell hp2 1
  have f0 := blk_free hp2 0
  have f1 := blk_free hp2 1
  simp at d0 d1
  have HP2 := Lib.hid hp2
  have HE2 := Lib.hid (HE.out.trans he)
  have H3 := Lib.hid h3
  clear he hp2 h3
  generalize hd : decide (z < 0) = nn at *
  have HD := Lib.hid hd
  clear hd
  go_wp2_with fail
  obtain ⟨e0, e1, hu⟩ := set2 HP2.out (.bool nn) (.slice a' ws.length c')
  exact bodyPost_ret (results_impl rfl _ rfl e0 e1) rfl ⟨hu.ext HE2.out (by omega), _, rfl, ⟨_, ws, by rw [HD.out], ho.upd HP2.out (by decide) hu, H3.out⟩⟩

theorem setBytes_z (v : Value) (bs : List Nat) (w : World) (h : Rd .u8 w v bs) (hl : bs.length ≤ 140737488355328) :
    Calls Try.prog 18 #[v] w (ResR (IsC ((bs.length + 7) / 8) (bev bs : Int)) w) := by
  obtain ⟨a, c, rfl⟩ := h.form
  have HR := Lib.hid h
  clear h
  go_enter Try.func18, Try.ntmps18
  go_wp2_with (at_builtin; refine wpList_copy_words (k := .u8) (bytes := 1) rfl (.tmp 3) (.tmp 4) 26 rfl 5 Try.underlying26 infoByte w.heap.size (w.heap.size + 1) rfl (heap_second _ _ _) (by omega) _ rfl bs ?r1 ?r2 ?r3 ?_)
  case r1 => exact HR.out.ext ((Ext.alloc _ _).trans (Ext.alloc _ _))
  case r2 => omega
  case r3 => omega
  intro v' w0 ho he
  have HC : Hid (Rd .u8 w0 v' bs) := ho.read
  have HE := Lib.hid (((Ext.alloc _ _).trans (Ext.alloc _ _)).trans he)
  have HB := Lib.hid ((Ext.alloc _ _).trans he)
  clear he ho HR
  go_wp2_with fail
  refine (implSetBytes_z _ bs _ HC.out hl).mono ?_
  rintro e w1 ⟨he, y1, rfl, hy⟩
  replace HE := Lib.hid (HE.out.trans he)
  replace HB := Lib.hid (HB.out.trans he)
  have HY1 := Lib.hid hy
  clear he hy
  go_wp2_with fail
  refine (fromImpl_z ((bs.length + 7) / 8) (bev bs : Int) _ _ HY1.out).mono ?_
  rintro e w2 ⟨he, y2, rfl, hy⟩
  replace HE := Lib.hid (HE.out.trans he)
  replace HB := Lib.hid (HB.out.trans he)
  have HY2 := Lib.hid hy
  clear he hy HY1
  obtain ⟨m, aa, ll, cc, rfl⟩ := HY2.out.form
  have hp : w2.heap[w.heap.size]? = some (.cells #[.bool false, .slice none 0 0] 24 (0, 0)) := HB.out.block (heap_alloc_new _ _)
  have d0 := blk_cell hp 0
  have d1 := blk_cell hp 1
  have f0 := blk_free hp 0
  have f1 := blk_free hp 1
  simp at d0 d1
  have HP := Lib.hid hp
  clear hp
  go_wp2_with fail
  obtain ⟨e0, e1, hu⟩ := set2 HP.out (.bool m) (.slice aa ll cc)
  exact bodyPost_ret (results_laws rfl _ rfl e0 e1) rfl ⟨hu.ext HE.out (by omega), _, rfl, HY2.out.upd HP.out (by decide) hu⟩

theorem allz_take {bs : List Nat} {k : Nat} (hk : k < bs.length) : (bs.take (k + 1)).all (· == 0) = ((bs.take k).all (· == 0) && (bs.getD k 0 == 0)) := by
  rw [List.take_succ_eq_append_getElem hk, List.all_append, List.getD_eq_getElem?_getD, List.getElem?_eq_getElem hk]
  simp only [List.all_cons, List.all_nil, Bool.and_true, Option.getD_some]

theorem noBits_z (v : Value) (bs : List Nat) (w : World) (h : Rd .u8 w v bs) (hl : bs.length ≤ 140737488355328) :
    Calls Try.prog 20 #[v] w (ResR (Is (.bool (bs.all (· == 0)))) w) := by
  obtain ⟨_, a, cap, rfl, hlc, hcap, hnil, hcells⟩ := h
  have HC := Lib.hid hcells
  clear hcells hnil
  go_enter Try.func20, Try.ntmps20
  go_wp2_with fail
  go_loop [4, 7] (fun _ i => ∃ k : Nat, k ≤ bs.length ∧ i = .int .i64 (k : Nat) ∧ Hid ((bs.take k).all (· == 0) = true)) (fun _ i => bs.length - (intOf i).toNat)
  case atStart => exact ⟨0, by omega, rfl, Lib.hid (by simp)⟩
  case round =>
    obtain ⟨k, hk, rfl, ha⟩ := hrel
    by_cases hlt : k < bs.length
    · obtain ⟨b, off, rfl, hc⟩ := HC.out k hlt
      have hz := allz_take hlt
      generalize hx : bs.getD k 0 = x at *
      rw [ha.out] at hz
      by_cases h0 : x = 0
      · subst h0
        have HZ := Lib.hid hz
        clear hz hx
        go_wp2_with fail
        go_round
        case rel => exact ⟨k + 1, by omega, by go_num, Lib.hid (by rw [HZ.out]; rfl)⟩
        case measure => simp [intOf]; omega
      · have hb0 : ((x : Int) == 0) = false := by simp [h0]
        have hall : bs.all (· == 0) = false := by
          rw [List.all_eq_false]
          refine ⟨x, ?_, by simp [h0]⟩
          rw [← hx, List.getD_eq_getElem?_getD, List.getElem?_eq_getElem hlt]
          exact List.getElem_mem _
        have HA := Lib.hid hall
        clear hz hx hall
        go_wp2_with fail
        go_ret
        exact ⟨Ext.refl _, _, rfl, by rw [HA.out]; rfl⟩
    · obtain rfl : k = bs.length := by omega
      rw [List.take_length] at ha
      go_wp2_with fail
      go_ret
      exact ⟨Ext.refl _, _, rfl, by rw [ha.out]; rfl⟩

end Go.Proofs.Ytfpkaamldifkbaa
