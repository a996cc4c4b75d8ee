/- laws.upper: contract. -/
import Derived.Test.YtocadbghhoibnaaFmtMa5
import Derived.Test.YtocadbghhoibnaaFmtMa6
set_option linter.unusedSimpArgs false
set_option linter.unusedVariables false
namespace Go.Proofs.YtocadbghhoibnaaFmt
open Go.RowKit

theorem bts_strN {bs : List Nat} (h : ∀ x ∈ bs, x < 256) : bts (strN bs) 0 = bs := by
  unfold bts strN
  rw [List.drop_zero, List.map_map]
  conv => rhs; rw [← List.map_id bs]
  refine List.map_congr_left fun x hx => ?_
  have := h x hx
  simp [Nat.mod_eq_of_lt this]

def UpR (s : ByteArray) (w : World) (e : Ending) (w' : World) : Prop := Ext w w' ∧ ∃ t : ByteArray, e = .returned (.string t) ∧ bts t 0 = (bts s 0).map upC

/-- The first k bytes turned. -/
def UpRow (l : List Nat) (g k : Nat) (w : World) : Prop :=
  ∃ (cells : Array Value) (N : Nat), w.heap[g]? = some (.cells cells 5 (N, N + 1)) ∧ cells.size = N ∧ l.length ≤ N ∧ ∀ j, j < l.length → cells[j]? = some (.int .u8 ((if j < k then upC (l.getD j 0) else l.getD j 0 : Nat) : Int))

theorem UpRow.cell {l : List Nat} {g k : Nat} {w : World} (h : UpRow l g k w) {j : Nat} (hj : j < l.length) : w.cell? ⟨g, j, none⟩ = some (.int .u8 ((if j < k then upC (l.getD j 0) else l.getD j 0 : Nat) : Int)) ∧ w.frozen? ⟨g, j, none⟩ = false := by
  obtain ⟨cells, N, h1, h2, h3, h4⟩ := h
  refine ⟨by rw [blk_cell h1, h4 j hj], ?_⟩
  simp [World.frozen?, h1]
  omega

theorem UpRow.set {l : List Nat} {g k : Nat} {w : World} (h : UpRow l g k w) (hk : k < l.length) : UpRow l g (k + 1) (w.setCell ⟨g, k, none⟩ (.int .u8 ((upC (l.getD k 0) : Nat) : Int))) := by
  obtain ⟨cells, N, h1, h2, h3, h4⟩ := h
  refine ⟨cells.setIfInBounds k (.int .u8 ((upC (l.getD k 0) : Nat) : Int)), N, ?_, by simp [h2], h3, fun j hj => ?_⟩
  · simp only [World.setCell, Array.getElem?_modify]
    simp [h1]
  · rw [Array.getElem?_setIfInBounds]
    by_cases e : k = j
    · subst e
      rw [if_pos rfl, if_pos (by omega), if_pos (by omega)]
    · rw [if_neg e, h4 j hj]
      by_cases hjk : j < k
      · rw [if_pos hjk, if_pos (by omega)]
      · rw [if_neg hjk, if_neg (by omega)]

theorem UpRow.keep {l : List Nat} {g k : Nat} {w : World} (h : UpRow l g k w) (hk : k < l.length) (hu : upC (l.getD k 0) = l.getD k 0) : UpRow l g (k + 1) w := by
  obtain ⟨cells, N, h1, h2, h3, h4⟩ := h
  refine ⟨cells, N, h1, h2, h3, fun j hj => ?_⟩
  rw [h4 j hj]
  by_cases e : j = k
  · subst e
    rw [if_neg (by omega), if_pos (by omega), hu]
  · by_cases hjk : j < k
    · rw [if_pos hjk, if_pos (by omega)]
    · rw [if_neg hjk, if_neg (by omega)]

theorem upC_lt {c : Nat} (h : c < 256) : upC c < 256 := by unfold upC; split <;> omega

theorem UpRow.fin {l : List Nat} {g : Nat} {w : World} (h : UpRow l g l.length w) (hl : ∀ x ∈ l, x < 256) (cap : Nat) : (convert 23 9 (.slice (some ⟨g, 0, none⟩) l.length cap)).run Tryf.prog w = .ok (.string (strN (l.map upC))) w := by
  have := run_convert_bytes_back (P := Tryf.prog) w 23 9 5 ⟨g, 0, none⟩ cap ((l.map upC).map UInt8.ofNat) Tryf.underlying23 Tryf.underlying5 Tryf.underlying9 (fun j hj => by
    have hj' : j < l.length := by simpa using hj
    have e : (⟨g, 0, none⟩ : Addr).add j = ⟨g, j, none⟩ := by unfold Addr.add; split <;> simp_all
    rw [e, (h.cell hj').1, if_pos hj', List.getElem_map, List.getElem_map, List.getD_eq_getElem?_getD, List.getElem?_eq_getElem hj']
    have hx := upC_lt (hl l[j] (List.getElem_mem hj'))
    simp [Nat.mod_eq_of_lt hx])
  rw [List.length_map, List.length_map] at this
  exact this

def UpL (w : World) (l : List Nat) (g : Nat) (v9 : Value) (wr : World) : Prop := ∃ k : Nat, k ≤ l.length ∧ v9 = .int .i64 (k : Nat) ∧ UpRow l g k wr ∧ Ext w wr

set_option maxHeartbeats 1000000 in
theorem upper_any (s : ByteArray) (w : World) (hs : s.size ≤ 140737488357000) :
    Calls Tryf.prog 30 #[.string s] w (UpR s w) := by
  have hcv := run_bytes_of_string (P := Tryf.prog) w 9 23 5 s Tryf.underlying9 Tryf.underlying23 Tryf.underlying5
  generalize grownCap w s.size 0 5 = cap at hcv
  have hlen := bts_len s 0
  have hlt := bts_lt s 0
  obtain ⟨l, hl⟩ : ∃ l, bts s 0 = l := ⟨_, rfl⟩
  have hrow : UpRow l w.heap.size 0 (w.drew.alloc (.cells (bytesRow s cap) 5 ((bytesRow s cap).size, (bytesRow s cap).size + 1))) := by
    refine ⟨bytesRow s cap, (bytesRow s cap).size, heap_alloc_new w.drew _, rfl, ?_, fun j hj => ?_⟩
    · rw [← hl, hlen]
      unfold bytesRow
      rw [Array.size_append, Array.size_map]
      show s.data.size - 0 ≤ _
      omega
    · rw [← hl] at hj ⊢
      rw [hlen] at hj
      have hj2 : j < s.data.size := hj
      rw [if_neg (by omega)]
      simp [bytesRow, bts, Array.getElem?_append, List.getD_eq_getElem?_getD]
      rw [if_pos (show j < s.size by omega), Array.getElem?_eq_getElem hj2]
      rfl
  have hext : Ext w (w.drew.alloc (.cells (bytesRow s cap) 5 ((bytesRow s cap).size, (bytesRow s cap).size + 1))) := (Ext.drew w).trans (Ext.alloc _ _)
  generalize w.drew.alloc (.cells (bytesRow s cap) 5 ((bytesRow s cap).size, (bytesRow s cap).size + 1)) = w0 at *
  rw [hl] at hlen hlt
  have hsz : s.size = l.length := by omega
  have HL := Lib.hid hl
  have HLT := Lib.hid hlt
  have HROW := Lib.hid hrow
  have HEXT := Lib.hid hext
  have HSZ := Lib.hid hsz
  rw [hsz] at hcv hs
  clear hl hlt hlen hrow hext hsz
  go_enter Tryf.func30, Tryf.ntmps30
  go_wp2_with fail
  clear hcv
  go_loopw [9] (fun v9 wr => UpL w l w.heap.size v9 wr) (fun v9 _ => l.length - (intOf v9).toNat)
  case atStart => exact ⟨0, by omega, rfl, HROW.out, HEXT.out⟩
  case round =>
    obtain ⟨k, hk, rfl, hrow, hext⟩ := hrel
    by_cases hlt : k < l.length
    · have elt : decide (k < l.length) = true := decide_eq_true hlt
      obtain ⟨hc, hf⟩ := hrow.cell hlt
      rw [if_neg (by omega)] at hc
      have hset := hrow.set hlt
      have hkeep := hrow.keep hlt
      obtain ⟨x, hx⟩ : ∃ x, l.getD k 0 = x := ⟨_, rfl⟩
      have hx256 : x < 256 := by
        rw [← hx, List.getD_eq_getElem?_getD, List.getElem?_eq_getElem hlt]
        exact HLT.out _ (List.getElem_mem hlt)
      rw [hx] at hc hset hkeep
      have HE := Lib.hid hext
      have HK := Lib.hid hkeep
      have HSET := Lib.hid hset
      have hsize := hext.size
      clear hext hset hkeep hrow hx
      by_cases h97 : 97 ≤ x
      · have e97 : decide ((97 : Int) ≤ (x : Int)) = true := decide_eq_true (by omega)
        by_cases h122 : x ≤ 122
        · have e122 : decide ((x : Int) ≤ 122) = true := decide_eq_true (by omega)
          have hxs : (x : Int) - 32 = ((x - 32 : Nat) : Int) := by omega
          have HREL : Hid (UpL w l w.heap.size (.int .i64 ((k + 1 : Nat) : Int)) (wr.setCell ⟨w.heap.size, k, none⟩ (.int .u8 ((x - 32 : Nat) : Int)))) := Lib.hid ⟨k + 1, by omega, rfl, by
            have := HSET.out
            rwa [show upC x = x - 32 by unfold upC; rw [if_pos ⟨h97, h122⟩]] at this, ((Upd.refl (· = w.heap.size) wr).setCell (p := ⟨w.heap.size, k, none⟩) (by rfl) _).ext HE.out (by omega)⟩
          generalize x - 32 = y at *
          go_wp2_with fail
          go_roundw
          case rel => exact HREL.out
          case measure => simp [intOf]; omega
        · have e122 : decide ((x : Int) ≤ 122) = false := decide_eq_false (by omega)
          have HREL : Hid (UpL w l w.heap.size (.int .i64 ((k + 1 : Nat) : Int)) wr) := Lib.hid ⟨k + 1, by omega, rfl, HK.out (by unfold upC; rw [if_neg (by omega)]), HE.out⟩
          go_wp2_with fail
          go_roundw
          case rel => exact HREL.out
          case measure => simp [intOf]; omega
      · have e97 : decide ((97 : Int) ≤ (x : Int)) = false := decide_eq_false (by omega)
        have HREL : Hid (UpL w l w.heap.size (.int .i64 ((k + 1 : Nat) : Int)) wr) := Lib.hid ⟨k + 1, by omega, rfl, HK.out (by unfold upC; rw [if_neg (by omega)]), HE.out⟩
        go_wp2_with fail
        go_roundw
        case rel => exact HREL.out
        case measure => simp [intOf]; omega
    · have elt : decide (k < l.length) = false := decide_eq_false hlt
      obtain rfl : k = l.length := by omega
      have hcb := hrow.fin HLT.out cap
      have HE := Lib.hid hext
      have HT : Hid (bts (strN (l.map upC)) 0 = l.map upC) := Lib.hid (bts_strN (fun x hx => by
        obtain ⟨y, hy, rfl⟩ := List.mem_map.1 hx
        exact upC_lt (HLT.out y hy)))
      clear hrow hext
      generalize strN (l.map upC) = t at *
      go_wp2_with fail
      go_ret
      exact ⟨HE.out, t, rfl, by rw [HT.out, HL.out]⟩

end Go.Proofs.YtocadbghhoibnaaFmt
