/- setUint64, (*Int).SetUint64, impl.SetUint64, impl.Bits, impl.SetBits: contracts by values. -/
import Derived.Test.YtdfknmplpjmemaaSetWord
set_option linter.unusedSimpArgs false
set_option linter.unusedVariables false
namespace Go.Proofs.Ytdfknmplpjmemaa
open Go.RowKit

theorem natSetUint64_any (v0 : Value) (vs : List Nat) (x : Nat) (w : World) (h : Own .u64 w 0 83 v0 vs) (hx : x < 18446744073709551616) :
    Calls Try.prog 82 #[v0, .int .u64 x] w (NatR v0 (norm [x]) w) := by
  have hb0 : ((x : Int) == (x : Int)) = true := by simp
  have HO := Lib.hid h
  have HX := Lib.hid hx
  obtain ⟨a, c, rfl⟩ := h.form
  clear h hx
  go_enter Try.func82, Try.ntmps82
  go_wp2_with fail
  refine (setWord_any _ vs x _ HO.out HX.out).mono ?_
  rintro e w1 ⟨v', rfl, ho, hu, hor⟩
  have H1 := Lib.hid ho
  have H2 := Lib.hid hu
  have H3 := Lib.hid hor
  clear ho hu hor
  go_wp2_with fail
  go_ret
  exact ⟨_, rfl, H1.out, H2.out, H3.out⟩

/-- The words and the sign of an Int, stored. -/
theorem intAt_store {w : World} {p : Nat} {x y v : Value} {n : Bool} {ws : List Nat} (hp : w.heap[p]? = some (.cells #[x, y] 80 (0, 0))) (ho : Own .u64 w 0 83 v ws) :
    IntAt ((w.setCell ⟨p, 1, none⟩ v).setCell ⟨p, 0, none⟩ (.bool n)) 0 p n ws ∧ Upd (· = p) w ((w.setCell ⟨p, 1, none⟩ v).setCell ⟨p, 0, none⟩ (.bool n)) := by
  have hu : Upd (· = p) w ((w.setCell ⟨p, 1, none⟩ v).setCell ⟨p, 0, none⟩ (.bool n)) := ((Upd.refl (· = p) _).setCell (by rfl) _).setCell (by rfl) _
  exact ⟨⟨v, blk2_set0 (blk2_set1 hp v) _, ho.upd hp (by decide) hu⟩, hu⟩

theorem Own.zero {k : IntKind} {w : World} {base : Nat} {E : TypeId} {v : Value} {ws : List Nat} (h : Own k w base E v ws) : Own k w 0 E v ws := h.mono (Nat.zero_le _)

theorem Own.not {w : World} {base p : Nat} {E T : TypeId} {v : Value} {ws : List Nat} {cs : Array Value} {fr : Nat × Nat} {k : IntKind} (h : Own k w base E v ws) (hp : w.heap[p]? = some (.cells cs T fr)) (hT : T ≠ E) : v.ownBlock ≠ some p := by
  rcases h.2.2 with ⟨rfl, _⟩ | ⟨g, cap, cur, rfl, hb', hg, rest⟩
  · simp [Value.ownBlock]
  · intro e
    simp [Value.ownBlock] at e
    subst e
    rw [hg] at hp; simp at hp; exact hT hp.2.1.symm

theorem intSetUint64_any (p : Nat) (n : Bool) (vs : List Nat) (x : Nat) (w : World) (v0 : Value) (hp : w.heap[p]? = some (.cells #[.bool n, v0] 80 (0, 0))) (hv : Own .u64 w 0 83 v0 vs) (hx : x < 18446744073709551616) :
    Calls Try.prog 62 #[.pointer (some ⟨p, 0, none⟩), .int .u64 x] w fun e w' => e = .returned (.pointer (some ⟨p, 0, none⟩)) ∧ IntAt w' 0 p false (norm [x]) ∧ Upd (fun k => k = p ∨ v0.ownBlock = some k) w w' := by
  obtain ⟨a, c, rfl⟩ := hv.form
  have c0 := blk_cell hp 0
  have c1 := blk_cell hp 1
  simp at c0 c1
  have hnp := hv.not hp (by decide)
  have HP := Lib.hid hp
  have HV := Lib.hid hv
  have HX := Lib.hid hx
  have HNP := Lib.hid hnp
  clear hp hv hx hnp
  go_enter Try.func62, Try.ntmps62
  go_wp2_with fail
  refine (natSetUint64_any _ vs x _ HV.out HX.out).mono ?_
  rintro e w1 ⟨v', rfl, ho, hu, hor⟩
  have hp1 := hu.heap HP.out HNP.out
  obtain ⟨a', c', rfl⟩ := ho.form
  have d0 := blk_cell hp1 0
  have d1 := blk_cell hp1 1
  have f0 := blk_free hp1 0
  have f1 := blk_free hp1 1
  simp at d0 d1
  have HP1 := Lib.hid hp1
  have H1 := Lib.hid ho
  have H2 := Lib.hid hu
  clear ho hu hor hp1 c0 c1
  go_wp2_with fail
  go_ret
  obtain ⟨i1, i2⟩ := intAt_store (n := false) HP1.out H1.out
  exact ⟨rfl, i1, (H2.out.trans i2).mono (fun k hk q => q.elim .inr .inl)⟩

theorem ownNil (w : World) (E : TypeId) : Own .u64 w 0 E (.slice none 0 0) [] := ⟨by simp, World.ownsRow_nil w 0 E 1⟩

theorem implSetUint64_z (x : Nat) (w : World) (hx : x < 18446744073709551616) :
    Calls Try.prog 40 #[.int .u64 x] w (ResR (IsC 1 (x : Int)) w) := by
  have HX := Lib.hid hx
  clear hx
  go_enter Try.func40, Try.ntmps40
  go_wp2_with fail
  refine (intSetUint64_any (w.heap.size + 1) false [] x _ (.slice none 0 0) (heap_second _ _ _) (ownNil _ _) HX.out).mono ?_
  rintro e w1 ⟨rfl, hI, hu⟩
  have hE : Ext w w1 := hu.ext ((Ext.alloc _ _).trans (Ext.alloc _ _)) (fun i q => by rcases q with q | q; omega; simp [Value.ownBlock] at q)
  have hp : w1.heap[w.heap.size]? = some (.cells #[.bool false, .slice none 0 0] 36 (0, 0)) := hu.heap ((Ext.alloc _ _).block (heap_alloc_new _ _)) (by simp [Value.ownBlock])
  have hIZ : IntZ 1 (x : Int) w1 0 (w.heap.size + 1) := by
    refine ⟨norm [x], ?_, norm_norm _, ?_, ?_⟩
    · rw [show decide ((x : Int) < 0) = false by simp]; exact hI
    · rw [val_norm]; simp [val]
    · have := norm_length_le [x]; simpa using this
  have HIZ := Lib.hid hIZ
  have HE := Lib.hid hE
  have HP := Lib.hid hp
  clear hI hu hE hp hIZ
  go_wp2_with fail
  refine (number_z 1 _ 0 _ _ HIZ.out (by omega)).mono ?_
  rintro e w2 ⟨he, y, rfl, s, ws, rfl, ho, h3⟩
  obtain ⟨a', c', rfl⟩ := ho.form
  have hp2 := he.block HP.out
  have d0 := blk_cell hp2 0
  have d1 := blk_cell hp2 1
  have f0 := blk_free hp2 0
  have f1 := blk_free hp2 1
  simp at d0 d1
  have HP2 := Lib.hid hp2
  have HE2 := Lib.hid (HE.out.trans he)
  have H3 := Lib.hid h3
  clear he hp2 h3
  generalize hd : decide ((x : Int) < 0) = nn at *
  have HD := Lib.hid hd
  clear hd
  go_wp2_with fail
  obtain ⟨e0, e1, hu⟩ := set2 HP2.out (.bool nn) (.slice a' ws.length c')
  exact bodyPost_ret (results_impl rfl _ rfl e0 e1) rfl ⟨hu.ext HE2.out (by omega), _, rfl, _, ws, by rw [HD.out], ho.upd HP2.out (by decide) hu, H3.out⟩

theorem field_words (n : Bool) (a : Option Addr) (l c : Nat) (w : World) : (Instr.field 36 (.agg #[.bool n, .slice a l c]) 1).run Try.prog w = .ok (.slice a l c) w := by kernel_rfl

theorem implSetBits_z (ws : List Nat) (v : Value) (w : World) (h : Rd .u64 w v ws) (hl : ws.length ≤ 17592186044416) :
    Calls Try.prog 45 #[v] w (ResR (IsC ws.length (val ws : Int)) w) := by
  obtain ⟨a, c, rfl⟩ := h.form
  have H := Lib.hid h
  clear h
  generalize hz : ((val ws : Nat) : Int) = z
  have HZ := Lib.hid hz
  clear hz
  go_enter Try.func45, Try.ntmps45
  go_wp2_with fail
  refine (integer_z ws.length z _ _ ⟨false, _, ws, rfl, H.out.ext (Ext.alloc _ _), Nat.le_refl _, by rw [← HZ.out]; rfl⟩ hl).mono ?_
  rintro e w1 ⟨he, p, rfl, hp, hI⟩
  have hp1 : w1.heap[w.heap.size]? = some (.cells #[.bool false, .slice none 0 0] 36 (0, 0)) := he.block (heap_alloc_new _ _)
  have HP := Lib.hid hp1
  have HE := Lib.hid ((Ext.alloc _ _).trans he)
  have HI := Lib.hid hI
  clear he hI hp1
  go_wp2_with fail
  refine (number_z ws.length z _ p _ HI.out hl).mono ?_
  rintro e w2 ⟨he, y, rfl, s, ws', rfl, ho, h3⟩
  obtain ⟨a', c', rfl⟩ := ho.form
  have hp2 := he.block HP.out
  have d0 := blk_cell hp2 0
  have d1 := blk_cell hp2 1
  have f0 := blk_free hp2 0
  have f1 := blk_free hp2 1
  simp at d0 d1
  have HP2 := Lib.hid hp2
  have HE2 := Lib.hid (HE.out.trans he)
  have H3 := Lib.hid h3
  clear he hp2 h3
  generalize hd : decide (z < 0) = nn at *
  have HD := Lib.hid hd
  clear hd
  go_wp2_with fail
  obtain ⟨e0, e1, hu⟩ := set2 HP2.out (.bool nn) (.slice a' ws'.length c')
  exact bodyPost_ret (results_impl rfl _ rfl e0 e1) rfl ⟨hu.ext HE2.out (by omega), _, rfl, _, ws', by rw [HD.out], ho.upd HP2.out (by decide) hu, H3.out⟩

end Go.Proofs.Ytdfknmplpjmemaa
