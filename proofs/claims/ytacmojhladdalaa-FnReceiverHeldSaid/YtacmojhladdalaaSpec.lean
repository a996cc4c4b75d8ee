/- The reference: trim, IsZero, Sign: contracts. -/
import Derived.Test.YtacmojhladdalaaNat
set_option linter.unusedSimpArgs false
set_option linter.unusedVariables false
namespace Go.Proofs.Ytacmojhladdalaa
open Go.RowKit

theorem infoUint : (Try.prog.info? 63).map (fun i => (i.zero, i.size, i.bytes)) = some (some (.int .u64 0), 1, 8) := by kernel_rfl
theorem mixed : Try.prog.follows .mixedOrders = true := by kernel_rfl

theorem addr_add0 (a : Addr) : a.add 0 = a := by simp [Addr.add]
theorem addr_map0 (a : Option Addr) : a.map (fun x => x.add 0) = a := by cases a <;> simp [addr_add0]

/-- A list of words comes back, in new memory. -/
def WordsR (k : IntKind) (E : TypeId) (ws : List Nat) (w : World) (e : Ending) (w' : World) : Prop := Ext w w' ∧ ∃ v', e = .returned v' ∧ Own k w' 0 E v' ws

/-- A number comes back: its sign, its words, in new memory. -/
def NumR (n : Bool) (ws : List Nat) (w : World) (e : Ending) (w' : World) : Prop := Ext w w' ∧ ∃ v', e = .returned (.agg #[.bool n, v']) ∧ Own .u64 w' 0 63 v' ws

/-- A plain value comes back; memory has only grown. -/
def ValR (v : Value) (w : World) (e : Ending) (w' : World) : Prop := Ext w w' ∧ e = .returned v

set_option maxHeartbeats 1000000 in
theorem trim_any (v : Value) (ws : List Nat) (w : World) (h : Rd .u64 w v ws) (hl : ws.length ≤ 17592186044416) :
    Calls Try.prog 54 #[v] w (WordsR .u64 63 (norm ws) w) := by
  obtain ⟨a, cap, rfl⟩ := h.form
  have H := Lib.hid h
  obtain ⟨_, a', cap', hq, hlc, hcap, hnil, hcells⟩ := h
  simp at hq
  obtain ⟨rfl, rfl⟩ := hq
  have HC := Lib.hid hcells
  clear hcells hnil
  go_enter Try.func54, Try.ntmps54
  go_wp2
  go_loop [3] (fun i => ∃ k : Nat, k ≤ ws.length ∧ i = .int .i64 k ∧ Hid (normLen ws = normLen (ws.take k))) (fun i => (intOf i).toNat)
  case atStart => exact ⟨ws.length, Nat.le_refl _, rfl, by rw [List.take_length]; exact rfl⟩
  case round =>
    obtain ⟨k, hk, rfl, hn⟩ := hrel
    by_cases hz : 0 < k ∧ ws.getD (k - 1) 0 = 0
    · obtain ⟨h0, hz⟩ := hz
      obtain ⟨b, off, rfl, hcell⟩ := HC.out (k - 1) (by omega)
      rw [hz] at hcell
      have HZ := Lib.hid hz
      clear hz
      go_wp2_with fail
      go_round
      case rel => exact ⟨k - 1, by omega, by go_num, by rw [hn.out]; exact normLen_step ws k h0 hk HZ.out⟩
      case measure => simp [intOf]; omega
    · have hfin : norm ws = ws.take k := by
        rw [norm, hn.out]
        by_cases h0 : 0 < k
        · rw [normLen_stop ws k h0 hk (fun q => hz ⟨h0, q⟩)]
        · obtain rfl : k = 0 := by omega
          rfl
      have HF := Lib.hid hfin
      have hkl : (ws.take k).length ≤ 17592186044416 := by rw [List.length_take]; omega
      have HR := Lib.hid (H.out.take k hk)
      clear hfin
      by_cases h0 : 0 < k
      · obtain ⟨b, off, rfl, hcell⟩ := HC.out (k - 1) (by omega)
        obtain ⟨x, hcell', HX⟩ : ∃ x : Nat, w.cell? ⟨b, off + (k - 1), none⟩ = some (.int .u64 x) ∧ Hid (x = ws.getD (k - 1) 0) := ⟨_, hcell, rfl⟩
        have hx : ((x : Int) == 0) = false := by
          have : x ≠ 0 := fun q => hz ⟨h0, by rw [← HX.out, q]⟩
          simp [this]
        clear hcell hz
        go_wp2_with (at_builtin; refine wpList_copy_words (k := .u64) (bytes := 8) rfl (.tmp 18) (.tmp 21) 22 rfl 63 Try.underlying22 infoUint w.heap.size w.heap.size rfl (heap_alloc_new _ _) (Nat.le_refl _) _ rfl (ws.take k) ?r1 ?r2 ?r3 ?_)
        case r1 => exact HR.out.ext (Ext.alloc _ _)
        case r2 => omega
        case r3 => omega
        intro v' w' ho he
        go_wp2_with fail
        go_ret
        exact ⟨(Ext.alloc _ _).trans he, v', rfl, by rw [HF.out]; exact ho.mono (Nat.zero_le _)⟩
      · obtain rfl : k = 0 := by omega
        clear hz
        go_wp2_with (at_builtin; refine wpList_copy_words (k := .u64) (bytes := 8) rfl (.tmp 18) (.tmp 21) 22 rfl 63 Try.underlying22 infoUint w.heap.size w.heap.size rfl (heap_alloc_new _ _) (Nat.le_refl _) _ rfl (ws.take 0) ?r4 ?r5 ?r6 ?_)
        case r4 => exact HR.out.ext (Ext.alloc _ _)
        intro v' w' ho he
        go_wp2_with fail
        go_ret
        exact ⟨(Ext.alloc _ _).trans he, v', rfl, by rw [HF.out]; exact ho.mono (Nat.zero_le _)⟩

theorem isZero_any (n : Bool) (v : Value) (ws : List Nat) (w : World) (h : Rd .u64 w v ws) (hl : ws.length ≤ 17592186044416) :
    Calls Try.prog 53 #[.agg #[.bool n, v]] w (ValR (.bool (isZ ws)) w) := by
  obtain ⟨a, cap, rfl⟩ := h.form
  have hnl := norm_length ws
  have hnl2 := normLen_le ws
  have hnl3 : (norm ws).length ≤ 9223372036854775807 := by omega
  clear hnl hnl2
  have H := Lib.hid h
  clear h
  generalize hm : norm ws = m at *
  have HM := Lib.hid hm
  clear hm
  go_enter Try.func53, Try.ntmps53
  go_wp2_with fail
  refine (trim_any _ ws _ (H.out.ext (Ext.alloc _ _)) hl).mono ?_
  rintro e w1 ⟨he, v', rfl, hr⟩
  rw [HM.out] at hr
  obtain ⟨a', cap', rfl⟩ := hr.form
  go_wp2_with fail
  go_ret
  refine ⟨(Ext.alloc _ _).trans he, ?_⟩
  rw [show isZ ws = ((m.length : Int) == 0) by
    unfold isZ; rw [HM.out]; cases m <;> simp <;> omega]
  simp

set_option maxHeartbeats 400000 in
theorem specSign_any (n : Bool) (v : Value) (ws : List Nat) (w : World) (h : Rd .u64 w v ws) (hl : ws.length ≤ 17592186044416) :
    Calls Try.prog 52 #[.agg #[.bool n, v]] w (ValR (.int .i64 (sgnW n ws)) w) := by
  obtain ⟨a, cap, rfl⟩ := h.form
  have H := Lib.hid h
  clear h
  generalize hz : isZ ws = z
  have HZ := Lib.hid hz
  clear hz
  generalize hq : sgnW n ws = q
  have HQ := Lib.hid hq
  clear hq
  go_enter Try.func52, Try.ntmps52
  go_wp2_with fail
  refine (isZero_any n _ ws _ (H.out.ext (Ext.alloc _ _)) hl).mono ?_
  rintro e w1 ⟨he, rfl⟩
  have hcn : w1.cell? ⟨w.heap.size, 0, none⟩ = some (.bool n) := he.cell (by rw [World.cell?_alloc_at _ _ _ _ rfl]; rfl)
  have HE := Lib.hid ((Ext.alloc _ _).trans he)
  clear he
  rw [HZ.out]
  cases z
  · cases n
    all_goals
      go_wp2_with fail
      go_ret
      refine ⟨HE.out, ?_⟩
      rw [← HQ.out, sgnW, HZ.out]
      rfl
  · go_wp2_with fail
    go_ret
    refine ⟨HE.out, ?_⟩
    rw [← HQ.out, sgnW, HZ.out]
    rfl

end Go.Proofs.Ytacmojhladdalaa
