/- FnBytesJoined: the walk. -/
import Derived.Test.YtfpkaamldifkbaaBytes3
set_option linter.unusedSimpArgs false
set_option linter.unusedVariables false
namespace Go.Proofs.Ytfpkaamldifkbaa
open Go.RowKit

theorem fnBytesJoined_big (v u : Value) (bs cs : List Nat) (w : World) (h : Rd .u8 w v bs) (hl : bs.length ≤ 140737488351232) (h2 : Rd .u8 w u cs) (hl2 : cs.length ≤ 140737488351232) (hn : 500 < cs.length) :
    Calls Try.prog 9 #[v, u] w (ValR (.bool true) w) := by
  obtain ⟨a, c, rfl⟩ := h.form
  obtain ⟨a2, c2, rfl⟩ := h2.form
  clear h h2
  have hb : decide ((500 : Int) < (cs.length : Int)) = true := by simp; omega
  go_enter Try.func9, Try.ntmps9
  go_wp2_with fail
  go_ret
  exact ⟨Ext.refl _, rfl⟩

set_option maxRecDepth 10000 in
set_option maxHeartbeats 2000000 in
theorem fnBytesJoined_small (v u : Value) (bs cs : List Nat) (w : World) (h : Rd .u8 w v bs) (hl : bs.length ≤ 140737488351232) (h2 : Rd .u8 w u cs) (hn : cs.length ≤ 500) :
    Calls Try.prog 9 #[v, u] w (ValR (.bool true) w) := by
  obtain ⟨a, c, rfl⟩ := h.form
  obtain ⟨a2, c2, rfl⟩ := h2.form
  have HR := Lib.hid h
  have HR2 := Lib.hid h2
  clear h h2
  have hb : decide ((500 : Int) < (cs.length : Int)) = false := by simp; omega
  go_enter Try.func9, Try.ntmps9
  go_wp2_with (at_builtin; refine wpList_append_rd (k := .u8) (bytes := 1) (by rfl) (.tmp 9) (.tmp 10) 26 rfl w.heap.size 5 Try.underlying26 infoByte _ 0 (words .u8 []) rfl ?o1 _ rfl bs ?o2 ?o3 ?o4 ?o5 ?_)
  case o1 => exact row_start .u8 _ _ _ _ rfl (Nat.le_refl _)
  case o2 => exact HR.out.ext (Ext.alloc _ _)
  case o3 => omega
  case o4 => omega
  case o5 => simp
  intro v1 w1 hown hbel
  have hE : Ext w w1 := ((Below.refl w.heap.size w).alloc (Nat.le_refl _) _).trans hbel
  have HE := Lib.hid hE
  have hsz : w.heap.size ≤ w1.heap.size := hE.size
  clear hbel hE
  rw [show words .u8 [] ++ words .u8 bs = words .u8 bs from rfl] at hown
  try rw [Nat.zero_add] at hown
  go_wp2_with (at_builtin; refine wpList_append_rd (k := .u8) (bytes := 1) (by rfl) (.tmp 11) (.tmp 12) 26 rfl w.heap.size 5 Try.underlying26 infoByte _ bs.length (words .u8 bs) rfl hown _ rfl cs ?p2 ?p3 ?p4 ?p5 ?_)
  case p2 => exact HR2.out.ext HE.out
  case p3 => omega
  case p4 => omega
  case p5 => exact hsz
  intro v' w2 hown2 hbel
  have hrd : Rd .u8 w2 v' (bs ++ cs) := by
    refine ownsRow.read (base := w.heap.size) (E := 5) (n := bs.length + cs.length) ?_ (mem_app HR.out.1 HR2.out.1)
    rw [words_app]; exact hown2
  have hE : Ext w w2 := Below.trans HE.out hbel
  obtain ⟨a1, c1, rfl⟩ := hrd.form
  have HRD := Lib.hid hrd
  replace HE := Lib.hid hE
  clear hown hown2 hbel hrd hE hsz
  have hlen : (bs ++ cs).length ≤ 140737488355328 := by simp; omega
  have hQ : (bev (bs ++ cs) : Int) = (bev bs : Int) * 2 ^ (8 * cs.length) + (bev cs : Int) := by
    rw [bev_append, pow256_2]; push_cast; rfl
  generalize bs ++ cs = qs at *
  have HQ := Lib.hid hQ
  clear hQ
  go_wp2_with fail
  refine (setBytes_z _ qs _ HRD.out hlen).mono ?_
  rintro e w3 ⟨he, y2, rfl, hy⟩
  obtain ⟨m2, aa2, ll2, cc2, rfl⟩ := hy.form
  have HY2 := Lib.hid hy
  replace HE := Lib.hid (HE.out.trans he)
  clear he hy HRD
  go_wp2_with fail
  refine (setBytes_z _ bs _ (HR.out.ext HE.out) (by omega)).mono ?_
  rintro e w4 ⟨he, y3, rfl, hy⟩
  obtain ⟨m3, aa3, ll3, cc3, rfl⟩ := hy.form
  have HY3 := Lib.hid hy
  replace HY2 := Lib.hid (HY2.out.ext he)
  replace HE := Lib.hid (HE.out.trans he)
  clear he hy
  obtain ⟨t, ht⟩ : ∃ t, 8 * cs.length = t := ⟨_, rfl⟩
  have hti : 8 * (cs.length : Int) = (t : Int) := by omega
  rw [ht] at HQ
  have ht2 : t ≤ 4000 := by omega
  have HT := Lib.hid ht
  clear ht
  go_wp2_with fail
  refine (lsh_n ((bs.length + 7) / 8) (bev bs : Int) t _ _ HY3.out.z (by omega) (by omega)).mono ?_
  rintro e w5 ⟨he, y5, rfl, hy⟩
  obtain ⟨m5, aa5, ll5, cc5, rfl⟩ := hy.form
  have HY5 := Lib.hid hy
  replace HY2 := Lib.hid (HY2.out.ext he)
  replace HE := Lib.hid (HE.out.trans he)
  clear he hy HY3
  go_wp2_with fail
  refine (setBytes_z _ cs _ (HR2.out.ext HE.out) (by omega)).mono ?_
  rintro e w6 ⟨he, y6, rfl, hy⟩
  obtain ⟨m6, aa6, ll6, cc6, rfl⟩ := hy.form
  have HY6 := Lib.hid hy
  replace HY2 := Lib.hid (HY2.out.ext he)
  replace HY5 := Lib.hid (HY5.out.ext he)
  replace HE := Lib.hid (HE.out.trans he)
  clear he hy
  go_wp2_with fail
  refine (add_z ((bs.length + 7) / 8 + 65) _ _ _ _ _ (HY5.out.z.mono (by omega)) (HY6.out.z.mono (by omega)) (by omega)).mono ?_
  rintro e w7 ⟨he, y7, rfl, hy⟩
  obtain ⟨m7, aa7, ll7, cc7, rfl⟩ := hy.form
  have HY7 := Lib.hid hy
  replace HY2 := Lib.hid (HY2.out.ext he)
  replace HE := Lib.hid (HE.out.trans he)
  clear he hy HY5 HY6
  go_wp2_with fail
  refine (same_z _ _ _ _ _ _ _ HY2.out.z HY7.out.z (by omega) (by omega)).mono ?_
  rintro e w8 ⟨he, y4, rfl, hy⟩
  obtain rfl : y4 = .bool true := hy.trans (by rw [HQ.out]; simp)
  replace HE := Lib.hid (HE.out.trans he)
  clear he hy HY2 HY7
  go_wp2_with fail
  refine (setBytes_z _ bs _ (HR.out.ext HE.out) (by omega)).mono ?_
  rintro e w9 ⟨he, y9, rfl, hy⟩
  obtain ⟨m9, aa9, ll9, cc9, rfl⟩ := hy.form
  have HY9 := Lib.hid hy
  replace HE := Lib.hid (HE.out.trans he)
  clear he hy
  go_wp2_with fail
  refine (sign_z _ _ _ _ HY9.out.z (by omega)).mono ?_
  rintro e wA ⟨he, yA, rfl, hy⟩
  obtain rfl : yA = .int .i64 (sgnZ (bev bs : Int)) := hy
  replace HE := Lib.hid (HE.out.trans he)
  clear he HY9
  have hsz : (sgnZ (bev bs : Int) == 0) = bs.all (· == 0) := by
    rw [Bool.eq_iff_iff, ← bev_zero_iff]
    rcases sgnZ_cases (bev bs : Int) with ⟨h1, h2, h3⟩ | ⟨h1, h3⟩ | ⟨h1, h2, h3⟩ <;> rw [h3] <;> simp <;> omega
  generalize sgnZ (bev bs : Int) = sg at *
  generalize hal : bs.all (· == 0) = al at *
  have HAL := Lib.hid hal
  clear hal
  go_wp2_with fail
  refine (noBits_z _ bs _ (HR.out.ext HE.out) (by omega)).mono ?_
  rintro e wB ⟨he, yB, rfl, hy⟩
  obtain rfl : yB = .bool al := hy.trans (by rw [HAL.out])
  replace HE := Lib.hid (HE.out.trans he)
  clear he
  have hbb : (al == al) = true := by simp
  go_wp2_with fail
  go_ret
  exact ⟨HE.out, rfl⟩

theorem fnBytesJoined_walk (v : Value) (bs : List Nat) (u : Value) (cs : List Nat) (w : World) (h : Rd .u8 w v bs) (hl : bs.length ≤ 140737488351232) (h2 : Rd .u8 w u cs) (hl2 : cs.length ≤ 140737488351232) :
    Calls Try.prog 9 #[v, u] w (ValR (.bool true) w) := by
  by_cases h1 : cs.length ≤ 500
  · exact fnBytesJoined_small v u bs cs w h hl h2 h1
  · exact fnBytesJoined_big v u bs cs w h hl h2 hl2 (by omega)

end Go.Proofs.Ytfpkaamldifkbaa
