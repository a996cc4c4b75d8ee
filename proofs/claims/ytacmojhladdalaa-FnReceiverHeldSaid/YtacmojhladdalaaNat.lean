/- The norm of a natural number's words, and what SetBits and Neg make of an Int in place: contracts. -/
import Derived.Test.YtacmojhladdalaaProg
import Derived.Test.YtacmojhladdalaaBase
import Derived.Test.YtacmojhladdalaaMath
import Derived.BigQuiet
import Derived.Deep.QuietTactic
import Derived.Outline
import Derived.LaidEqlPtr
import Derived.Lib.Builder
set_option linter.unusedSimpArgs false
set_option linter.unusedVariables false
namespace Go.Proofs.Ytacmojhladdalaa
open Go.RowKit

set_option maxHeartbeats 400000 in
theorem norm_some (b off : Nat) (ws : List Nat) (cap : Nat) (w : World) (hl : ws.length ≤ cap) (hcap : cap ≤ 9223372036854775807)
    (hc : ∀ i, i < ws.length → w.cell? ⟨b, off + i, none⟩ = some (.int .u64 (ws.getD i 0 : Nat))) :
    Calls Try.prog 79 #[.slice (some ⟨b, off, none⟩) ws.length cap] w fun e w' => e = .returned (.slice (some ⟨b, off, none⟩) (normLen ws) cap) ∧ w = w' := by
  have HC := Lib.hid hc
  clear hc
  go_enter Try.func79, Try.ntmps79
  go_wp2
  go_loop [3] (fun i => ∃ k : Nat, k ≤ ws.length ∧ i = .int .i64 k ∧ Hid (normLen ws = normLen (ws.take k))) (fun i => (intOf i).toNat)
  case atStart => exact ⟨ws.length, Nat.le_refl _, rfl, by rw [List.take_length]; exact rfl⟩
  case round =>
    obtain ⟨k, hk, rfl, hn⟩ := hrel
    by_cases h0 : 0 < k
    · have hcell := HC.out (k - 1) (by omega)
      go_wp2
      · have hz : ws.getD (k - 1) 0 = 0 := by
          have h : (((ws[k - 1]?.getD 0 : Nat) : Int) == 0) = true := by assumption
          simpa using h
        go_round
        case rel => exact ⟨k - 1, by omega, by go_num, by rw [hn.out]; exact normLen_step ws k h0 hk hz⟩
        case measure => simp [intOf]; omega
      · have hz : ws.getD (k - 1) 0 ≠ 0 := by
          have h : (((ws[k - 1]?.getD 0 : Nat) : Int) == 0) = false := by assumption
          simpa using h
        go_ret
        rw [hn.out, normLen_stop ws k h0 hk hz]
        exact ⟨rfl, rfl⟩
    · go_wp2
      go_ret
      obtain rfl : k = 0 := by omega
      rw [hn.out]
      exact ⟨rfl, rfl⟩

theorem norm_none (a : Option Addr) (cap : Nat) (w : World) (hcap : cap ≤ 9223372036854775807) :
    Calls Try.prog 79 #[.slice a 0 cap] w fun e w' => e = .returned (.slice a 0 cap) ∧ w = w' := by
  have hadd : (fun x : Addr => x.add 0) = id := by funext x; simp [Addr.add]
  go_enter Try.func79, Try.ntmps79
  go_wp2
  refine wp_loop_rounds 1 ?_
  rw [rounds_succ]
  go_wp2
  all_goals go_ret
  all_goals simp_all


/-- What norm makes of a row that is owned. -/
theorem norm_own (base : Nat) (E : TypeId) (v : Value) (ws : List Nat) (w : World) (h : Own .u64 w base E v ws) :
    Calls Try.prog 79 #[v] w fun e w' => (∃ v', e = .returned v' ∧ Own .u64 w' base E v' (norm ws) ∧ v'.ownBlock = v.ownBlock) ∧ w = w' := by
  have hle := normLen_le ws
  have hlen := norm_length ws
  have hrd := h.read
  obtain ⟨hb, h1, h2⟩ := h
  have hbn : ∀ x ∈ norm ws, x < lim .u64 := fun x hx => hb x (List.mem_of_mem_take hx)
  rcases h2 with ⟨rfl, h0⟩ | ⟨g, cap, cur, rfl, hbg, hg, hlc, hcap, hsz, htake⟩
  · have : ws = [] := List.eq_nil_of_length_eq_zero h0
    subst this
    refine (norm_none none 0 w (by omega)).mono ?_
    rintro e w' ⟨rfl, rfl⟩
    exact ⟨⟨_, rfl, ⟨by simp [norm], by simp [norm, words], .inl ⟨rfl, rfl⟩⟩, rfl⟩, rfl⟩
  · have hcap' : cap ≤ 9223372036854775807 := by simpa [maxLen] using hcap
    refine (norm_some g 0 ws cap w hlc hcap' ?_).mono ?_
    · intro i hi
      obtain ⟨_, a, c, q1, _, _, _, q2⟩ := hrd
      obtain ⟨b', off', q3, q4⟩ := q2 i hi
      simp at q1
      obtain ⟨rfl, rfl⟩ := q1
      simp at q3
      obtain ⟨rfl, rfl⟩ := q3
      exact q4
    · rintro e w' ⟨rfl, rfl⟩
      refine ⟨⟨_, rfl, ⟨hbn, by rw [words_len, Nat.mul_one], .inr ⟨g, cap, cur, by rw [hlen], hbg, hg, by omega, hcap, hsz, ?_⟩⟩, rfl⟩, rfl⟩
      rw [hlen, Nat.mul_one]
      have : words .u64 (norm ws) = (words .u64 ws).take (normLen ws) := by simp [words, norm, List.map_take]
      rw [this, ← htake, List.take_take, Nat.mul_one, Nat.min_eq_left hle]

/-- An Int at block p: its sign, and its words, whose row lies from base on. -/
def IntAt (w : World) (base p : Nat) (n : Bool) (ws : List Nat) : Prop :=
  ∃ s, w.heap[p]? = some (.cells #[.bool n, s] 70 (0, 0)) ∧ Own .u64 w base 80 s ws

set_option maxHeartbeats 400000 in
theorem setBits_any (p base : Nat) (x y v : Value) (ws : List Nat) (w : World) (hp : w.heap[p]? = some (.cells #[x, y] 70 (0, 0))) (h : Own .u64 w base 80 v ws) (hne : v.ownBlock ≠ some p) :
    Calls Try.prog 74 #[.pointer (some ⟨p, 0, none⟩), v] w fun e w' => e = .returned (.pointer (some ⟨p, 0, none⟩)) ∧ IntAt w' base p false (norm ws) ∧ Upd (· = p) w w' := by
  have c0 := blk_cell hp 0
  have c1 := blk_cell hp 1
  have f0 := blk_free hp 0
  have f1 := blk_free hp 1
  simp at c0 c1
  have HP := Lib.hid hp
  have HN := Lib.hid hne
  clear hp hne
  go_enter Try.func74, Try.ntmps74
  go_wp2_with (go_at_call 79; refine (norm_own base 80 v ws w h).mono ?_; rintro e w' ⟨⟨v', rfl, ho, hob⟩, rfl⟩; obtain ⟨sa, sc, rfl⟩ := ho.form; have HO := Lib.hid hob; clear hob)
  go_ret
  refine ⟨rfl, ⟨_, blk2_set0 (blk2_set1 HP.out _) _, ?_⟩, ((Upd.refl (· = p) _).setCell (by rfl) _).setCell (by rfl) _⟩
  refine ⟨ho.1, ho.2.1, ?_⟩
  rcases ho.2.2 with hn | ⟨g, cap, cur, hv, hb', hg, rest⟩
  · exact .inl hn
  · have hgp : g ≠ p := fun e => HN.out (by rw [← HO.out, hv, ← e]; rfl)
    exact .inr ⟨g, cap, cur, hv, hb', by rw [Below.heap_setCell _ _ _ _ hgp, Below.heap_setCell _ _ _ _ hgp]; exact hg, rest⟩


theorem IntAt.cells {w : World} {base p : Nat} {n : Bool} {ws : List Nat} (h : IntAt w base p n ws) : ∃ a c, w.heap[p]? = some (.cells #[.bool n, .slice a ws.length c] 70 (0, 0)) ∧ Own .u64 w base 80 (.slice a ws.length c) ws := by
  obtain ⟨s, h1, h2⟩ := h
  obtain ⟨a, c, rfl⟩ := h2.form
  exact ⟨a, c, h1, h2⟩

/-- A write to the sign alone keeps the words. -/
theorem Own.upd {w w' : World} {k : IntKind} {base p : Nat} {E T : TypeId} {v : Value} {ws : List Nat} {cs : Array Value} {fr : Nat × Nat} (h : Own k w base E v ws) (hp : w.heap[p]? = some (.cells cs T fr)) (hT : T ≠ E) (hu : Upd (· = p) w w') : Own k w' base E v ws := by
  refine ⟨h.1, h.2.1, ?_⟩
  rcases h.2.2 with hn | ⟨g, cap, cur, hv, hb', hg, rest⟩
  · exact .inl hn
  · have hgp : g ≠ p := fun e => by subst e; rw [hg] at hp; simp at hp; exact hT hp.2.1.symm
    exact .inr ⟨g, cap, cur, hv, hb', hu.heap hg hgp, rest⟩

theorem infoInt : (Try.prog.info? 70).map (fun i => i.size) = some 2 := by kernel_rfl
theorem infoInt' : ∃ j, Try.prog.info? 70 = some j ∧ j.size = 2 := by
  obtain ⟨j, h1, h2⟩ := Option.map_eq_some_iff.1 infoInt
  exact ⟨j, h1, h2⟩

theorem neqSame (a : Addr) (w : World) : (binOp .neq 50 (.pointer (some a)) (.pointer (some a))).run Try.prog w = .ok (.bool false) w := by
  obtain ⟨j, h1, _⟩ := infoInt'
  exact Lib.run_neq_ptr_same w a Try.underlying50 h1

theorem neqOther {p q : Nat} (hpq : p ≠ q) {w : World} {c d : Array Value} {T U : TypeId} (hp : w.heap[p]? = some (.cells c T (0, 0))) (hq : w.heap[q]? = some (.cells d U (0, 0))) :
    (binOp .neq 50 (.pointer (some ⟨p, 0, none⟩)) (.pointer (some ⟨q, 0, none⟩))).run Try.prog w = .ok (.bool true) w := by
  obtain ⟨j, h1, h2⟩ := infoInt'
  have h : ∀ d : Nat, (Op.equalIn (d + 1) 50 (.pointer (some ⟨p, 0, none⟩)) (.pointer (some ⟨q, 0, none⟩))).run Try.prog w = .ok false w := fun d => by
    simp [Op.equalIn, run_underlying Try.underlying50, sizeOf, typeInfo, h1, h2, run_sameAddr_other w (a := ⟨p, 0, none⟩) (b := ⟨q, 0, none⟩) (by simp [hpq]) hp hq]
  simp only [binOp]
  simp [Op.equal, Op.maxDepth, h 9999]

set_option maxHeartbeats 400000 in
/-- z.Neg(z). -/
theorem negSelf_any (p base : Nat) (n : Bool) (ws : List Nat) (w : World) (h : IntAt w base p n ws) (hl : ws.length ≤ 9223372036854775807) :
    Calls Try.prog 69 #[.pointer (some ⟨p, 0, none⟩), .pointer (some ⟨p, 0, none⟩)] w fun e w' => e = .returned (.pointer (some ⟨p, 0, none⟩)) ∧ IntAt w' base p (decide (0 < ws.length) && !n) ws ∧ Upd (· = p) w w' := by
  obtain ⟨a, c, hp, ho⟩ := h.cells
  have c0 := blk_cell hp 0
  have c1 := blk_cell hp 1
  have f0 := blk_free hp 0
  have f1 := blk_free hp 1
  simp at c0 c1
  have HP := Lib.hid hp
  clear hp
  have hsame := neqSame ⟨p, 0, none⟩
  by_cases h0 : 0 < ws.length
  · go_enter Try.func69, Try.ntmps69
    go_wp2
    go_ret
    have hu : Upd (· = p) w (w.setCell ⟨p, 0, none⟩ (.bool !n)) := (Upd.refl (· = p) _).setCell (by rfl) _
    rw [show (decide (0 < ws.length) && !n) = !n by simp [h0]]
    exact ⟨rfl, ⟨_, blk2_set0 HP.out _, ho.upd HP.out (by decide) hu⟩, hu⟩
  · go_enter Try.func69, Try.ntmps69
    go_wp2
    go_ret
    have hu : Upd (· = p) w (w.setCell ⟨p, 0, none⟩ (.bool false)) := (Upd.refl (· = p) _).setCell (by rfl) _
    rw [show (decide (0 < ws.length) && !n) = false by simp [h0]]
    exact ⟨rfl, ⟨_, blk2_set0 HP.out _, ho.upd HP.out (by decide) hu⟩, hu⟩

theorem infoWord : (Try.prog.info? 80).map (fun i => (i.zero, i.size, i.bytes)) = some (some (.int .u64 0), 1, 8) := by kernel_rfl

/-- The relation of the loop in 'integer'. -/
def GotWords (B : Nat) (w0 : World) (ws : List Nat) (len : Nat) (v i : Value) (wr : World) : Prop :=
  ∃ k : Nat, k ≤ len ∧ i = .int .i64 k ∧ wr.ownsRow B 80 1 v k (words .u64 (ws.take k)) ∧ Below B w0 wr

theorem words_snoc (k : IntKind) (ws : List Nat) (j : Nat) (h : j < ws.length) : words k (ws.take j) ++ [.int k (ws.getD j 0 : Nat)] = words k (ws.take (j + 1)) := by
  rw [List.take_succ_eq_append_getElem h]
  unfold words
  rw [List.map_append]
  simp [h, -List.map_take]


/-- An Int in new memory, at a pointer. -/
def IntR (n : Bool) (ws : List Nat) (w : World) (e : Ending) (w' : World) : Prop :=
  Ext w w' ∧ ∃ p, e = .returned (.pointer (some ⟨p, 0, none⟩)) ∧ w.heap.size ≤ p ∧ IntAt w' w.heap.size p n ws

theorem row_start (k : IntKind) (w : World) (B : Nat) (E : TypeId) (g : Nat) (hg : w.heap.size = g) (h : B ≤ g) : (w.alloc (.cells #[] E)).ownsRow B E 1 (.slice (some ⟨g, 0, none⟩) 0 0) 0 (words k []) := by
  subst hg
  exact World.ownsRow_made (size := 1) w #[] 0 h (by simp [maxLen]) (by simp)

set_option maxHeartbeats 1000000 in
theorem integer_any (n : Bool) (v : Value) (ws : List Nat) (w : World) (h : Rd .u64 w v ws) (hl : ws.length ≤ 17592186044416) :
    Calls Try.prog 57 #[.agg #[.bool n, v]] w (IntR (decide (0 < (norm ws).length) && n) (norm ws) w) := by
  obtain ⟨hb, a, cap, rfl, hlc, hcap, hnil, hcells⟩ := h
  · have HC := Lib.hid hcells
    have HB := Lib.hid hb
    clear hcells hb hnil
    obtain ⟨i0, hi, hz0, hz1, hz2⟩ := info_parts infoWord
    have HI := Lib.hid hi
    have HI0 := Lib.hid hz0
    have HI1 := Lib.hid hz1
    have HI2 := Lib.hid hz2
    clear hi hz0 hz1 hz2
    go_enter Try.func57, Try.ntmps57
    go_wp2_with fail
    go_loopw [3, 5, 11] (fun v _ i wr => GotWords (w.heap.size + 1) (w.alloc (.cells #[.bool n, .slice a ws.length cap] 30)) ws ws.length v i wr) (fun _ _ i _ => ws.length - (intOf i).toNat)
    case atStart => exact ⟨0, by omega, rfl, row_start .u64 _ _ _ _ (by simp) (Nat.le_refl _), (Below.refl _ _).alloc (by simp) _⟩
    case round =>
      obtain ⟨k, hk, rfl, hown, hbel⟩ := hrel
      by_cases hlt : k < ws.length
      · obtain ⟨b, off, rfl, hc0⟩ := HC.out k hlt
        have hbw : b < w.heap.size := World.block_lt_of_cell? w ⟨b, off + k, none⟩ hc0
        obtain ⟨x, hcell, HX⟩ : ∃ x : Nat, wr.cell? ⟨b, off + k, none⟩ = some (.int .u64 x) ∧ Hid (x = ws.getD k 0) := ⟨ws.getD k 0, by
          rw [hbel.cell (p := ⟨b, off + k, none⟩) (by show b < _; omega), World.cell?_alloc_past _ _ _ (by simpa using hbw)]
          exact hc0, rfl⟩
        clear hc0
        have HBEL := Lib.hid hbel
        have hsz := hbel.size
        simp only [World.size_alloc] at hsz
        clear hbel
        go_wp2_with (at_builtin; refine wpList_append_own _ rfl _ _ 67 rfl (w.heap.size + 1) 80 i0 (.int .u64 0) 1 8 Try.underlying67 HI.out HI0.out HI1.out HI2.out rfl (by decide) _ _ _ rfl (hown.alloc _) ⟨wr.heap.size, 0, none⟩ 1 1 [.int .u64 (x : Nat)] rfl rfl ?c1 ?c2 ?c3 ?c4 ?c5 ?_)
        case c1 => exact cell_one_new _ _ _
        case c2 => simp [Value.oneCell']
        case c3 => simp only [maxLen]; omega
        case c4 => omega
        case c5 => simp; omega
        intro v' w1 hown' hgrow _
        have hrel' : GotWords (w.heap.size + 1) (w.alloc (.cells #[.bool n, .slice (some ⟨b, off, none⟩) ws.length cap] 30)) ws ws.length v' (.int .i64 ((k + 1 : Nat) : Int)) w1 :=
          ⟨k + 1, by omega, rfl, by rw [← words_snoc .u64 ws k hlt, ← HX.out]; exact hown', ((HBEL.out.alloc (by omega) _).grown hgrow (by simp; omega) (fun j hj => (hown.lt j hj).1))⟩
        have HR := Lib.hid hrel'
        clear hrel' hown' hgrow hown
        go_wp2_with fail
        go_roundw
        case rel => exact HR.out
        case measure => simp [intOf]; omega
      · obtain rfl : k = ws.length := by omega
        rw [List.take_length] at hown
        have hO : Own .u64 wr (w.heap.size + 1) 80 u3 ws := ⟨HB.out, hown⟩
        have hsz := hbel.size
        simp only [World.size_alloc] at hsz
        have HBEL := Lib.hid hbel
        have hlt3 := hown.lt
        have HL3 := Lib.hid hlt3
        clear hbel hown hlt3
        obtain ⟨a3, c3, rfl⟩ := hO.form
        go_wp2_with fail
        refine (setBits_any wr.heap.size (w.heap.size + 1) _ _ _ ws _ (heap_alloc_new _ _) (hO.ext (Ext.alloc _ _)) (fun q => by have := (HL3.out _ q).2; omega)).mono ?_
        rintro e w2 ⟨rfl, hI, hU⟩
        have hbel2 : Below (w.heap.size + 1) (w.alloc (.cells #[.bool n, .slice a ws.length cap] 30)) w2 := by
          refine (HBEL.out.alloc (by omega) _).trans ⟨hU.os, hU.tape, hU.output, hU.size, fun j hj => hU.block j (by simp; omega) (by omega)⟩
        have hcn : w2.cell? ⟨w.heap.size, 0, none⟩ = some (.bool n) := by
          rw [hbel2.cell (p := ⟨w.heap.size, 0, none⟩) (by show w.heap.size < _; omega), World.cell?_alloc_at _ _ _ _ rfl]; rfl
        have hext2 : Ext w w2 := (Ext.alloc w _).trans ⟨hbel2.os, hbel2.tape, hbel2.output, hbel2.size, fun j hj => hbel2.block j (by simpa using hj)⟩
        have HI2' := Lib.hid hI
        have HE2 := Lib.hid hext2
        clear hbel2 hU hext2 HL3 hO HBEL
        have hnl := norm_length ws
        have hnl2 := normLen_le ws
        have hnl3 : (norm ws).length ≤ 9223372036854775807 := by omega
        clear hnl hnl2
        cases n
        · go_wp2_with fail
          go_ret
          refine ⟨HE2.out, _, rfl, by omega, ?_⟩
          obtain ⟨s, q1, q2⟩ := HI2'.out
          rw [Bool.and_false]
          exact ⟨s, q1, q2.mono (by omega)⟩
        · go_wp2_with (go_at_call 69; refine (negSelf_any _ _ _ _ _ HI2'.out hnl3).mono ?_; rintro e w3 ⟨rfl, hI3, hU3⟩)
          go_ret
          refine ⟨hU3.ext HE2.out (fun j hj => by omega), _, rfl, by omega, ?_⟩
          obtain ⟨s, q1, q2⟩ := hI3
          exact ⟨s, q1, q2.mono (by omega)⟩

end Go.Proofs.Ytacmojhladdalaa
