/- nat.set, (*Int).Set, Neg, Abs with another receiver: contracts. -/
import Derived.Test.YtacmojhladdalaaSetU
import Derived.Laws.CopyOwn
set_option linter.unusedSimpArgs false
set_option linter.unusedVariables false
namespace Go.Proofs.Ytacmojhladdalaa
open Go.RowKit

theorem sizeWord : (Try.prog.info? 80).map (·.size) = some 1 := by kernel_rfl

/-- A row whose first cells are overwritten. -/
theorem ownsRow_splice {w : World} {E : TypeId} {g n cap : Nat} {xs ys : List Value} (h : w.ownsRow 0 E 1 (.slice (some ⟨g, 0, none⟩) n cap) n xs) (hl : ys.length = n) :
    ∃ cur : Array Value, w.heap[g]? = some (.cells cur E (0, 0)) ∧ n ≤ cur.size ∧ (w.setRow g (ys ++ cur.toList.drop ys.length).toArray).ownsRow 0 E 1 (.slice (some ⟨g, 0, none⟩) n cap) n ys := by
  obtain ⟨hlen, h2⟩ := h
  rcases h2 with ⟨h3, _⟩ | ⟨g', cap', cur, h3, hb, hg, hle, hcap, hsz, htake⟩
  · simp at h3
  · simp at h3
    obtain ⟨rfl, rfl⟩ := h3
    refine ⟨cur, hg, by omega, by omega, .inr ⟨g, cap, _, rfl, hb, setRow_heap w g cur _ E _ hg, hle, hcap, ?_, ?_⟩⟩
    · simp; omega
    · rw [Nat.mul_one, ← hl]
      simp

theorem upd_setRow (w : World) (g : Nat) (cs : Array Value) : Upd (· = g) w (w.setRow g cs) :=
  ⟨rfl, rfl, rfl, by simp [World.setRow], fun k _ hk => setRow_other w g k cs hk⟩

set_option maxHeartbeats 400000 in
theorem natSet_any (v0 : Value) (vs : List Nat) (u : Value) (xs : List Nat) (w : World) (h0 : Own .u64 w 0 80 v0 vs) (hx : Rd .u64 w u xs) (hl : xs.length ≤ 17592186044416) :
    Calls Try.prog 75 #[v0, u] w (NatR v0 xs w) := by
  obtain ⟨a, c, rfl⟩ := h0.form
  have hshape := hx.shape
  obtain ⟨a1, c1, rfl⟩ := hx.form
  have HO := Lib.hid h0.2
  have HX := Lib.hid hx
  have HB := Lib.hid hx.1
  clear h0 hx
  go_enter Try.func75, Try.ntmps75
  go_wp2_with fail
  refine (make_any _ _ xs.length _ _ HO.out (by omega)).mono ?_
  rintro e w1 ⟨v', ys, rfl, hown, hor⟩
  obtain ⟨u1, u2, u3⟩ := MakeR.upd hor
  rcases hshape with ⟨rfl, _⟩ | ⟨hpos, b, off, cap, hv, hlc, hcap, hcells⟩
  · have hv' : ∃ a' c', v' = .slice a' 0 c' := by
      rcases hown.2 with ⟨rfl, _⟩ | ⟨g, cap, cur, rfl, _⟩
      · exact ⟨_, _, rfl⟩
      · exact ⟨_, _, rfl⟩
    obtain ⟨a', c', rfl⟩ := hv'
    have hO : Own .u64 w1 0 80 (.slice a' 0 c') [] := by
      refine ⟨by simp, ?_⟩
      have : ys = [] := List.eq_nil_of_length_eq_zero (by simpa using hown.1)
      rw [this] at hown
      exact hown
    have HO1 := Lib.hid hO
    have HU1 := Lib.hid u1
    have HU3 := Lib.hid u3
    clear hown hor u1 u2 u3 hO
    go_wp2_with (with_reducible refine wpList_copy_nothing rfl (.tmp 9) (.tmp 10) 68 68 rfl 80 Try.underlying68 sizeWord a' a1 0 c' 0 c1 rfl rfl rfl ?_)
    go_ret
    exact ⟨_, rfl, HO1.out, HU1.out, HU3.out⟩
  · simp at hv
    obtain ⟨rfl, rfl⟩ := hv
    obtain ⟨g, cap', rfl, hle, hcap'⟩ := ownsRow_form hown hpos
    obtain ⟨cur, hg, hsz, hfin⟩ := ownsRow_splice (ys := words .u64 xs) hown (words_len _ _)
    have hsrc : ∀ j v, (words .u64 xs)[j]? = some v → w1.cell? ((⟨b, off, none⟩ : Addr).add j) = some v := by
      intro j v hj
      have hjl : j < xs.length := by have := (List.getElem?_eq_some_iff.1 hj).1; rwa [words_len] at this
      have hc1 : w1.cell? ⟨b, off + j, none⟩ = some (.int .u64 (xs.getD j 0 : Nat)) := by
        rcases hor with ⟨rfl, _⟩ | ⟨_, he⟩
        · exact hcells j hjl
        · exact he.cell (hcells j hjl)
      rw [Addr.add_lit, hc1, ← hj, words_get, List.getElem?_eq_getElem hjl, List.getD_eq_getElem?_getD, List.getElem?_eq_getElem hjl]
      rfl
    have HS := Lib.hid hsrc
    have HG := Lib.hid hg
    have HF := Lib.hid hfin
    have HU := Lib.hid (And.intro u1 (And.intro u2 u3))
    clear hown hor hg hfin hsrc u1 u2 u3 hcells
    go_wp2_with (with_reducible refine wpList_copy_own rfl (.tmp 9) (.tmp 10) 68 68 rfl 80 Try.underlying68 sizeWord g 0 _ _ ⟨b, off, none⟩ _ _ rfl rfl cur 80 HG.out (words .u64 xs) ?s1 HS.out ?s2 (words_one _ _) ?_)
    case s1 => rw [words_len]; exact (Nat.min_self _).symm
    case s2 => rw [words_len]; omega
    go_ret
    obtain ⟨u1, u2, u3⟩ := HU.out
    refine ⟨_, rfl, ⟨HB.out, HF.out⟩, ?_, u3⟩
    refine (u1.trans (upd_setRow w1 g _)).mono ?_
    intro k hk hor
    rcases hor with q | q
    · exact q
    · subst q
      exact (u2 k rfl).resolve_right (by omega)

end Go.Proofs.Ytacmojhladdalaa
