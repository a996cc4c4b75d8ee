/- Base texts of the seat, merged: ScanD, ScanE, IsV, Int64, Wrap, Bits, Spec4, Spec5, SpecS, StrLaw, StrM, Set, Reg2, IntSet, Neg, Two, Triple. -/
import Derived.Test.YtocadbghhoibnaaFmtMa4
import Derived.Test.YtocadbghhoibnaaFmtMa2
import Derived.Test.YtocadbghhoibnaaFmtMa1
import Derived.Test.YtocadbghhoibnaaFmtM01
import Derived.Test.YtocadbghhoibnaaFmtMa3
import Derived.Laws.CopyOwn
set_option linter.unusedSimpArgs false
set_option linter.unusedVariables false

/- scanSign, (*Int).scan, setFromScanner: contracts. -/
namespace Go.Proofs.YtocadbghhoibnaaFmt
open Go.RowKit

/-- A sign ahead, or none: the rest of the text begins at place j. -/
def SgnS (s : ByteArray) (neg : Bool) (j : Nat) : Prop := j ≤ s.size ∧ ∀ base, numS (bts s 0) base = (natS (bts s j) base).map fun n => if neg then -(n : Int) else (n : Int)

def SignR (p : Nat) (s : ByteArray) (a0 : Addr) (w : World) (e : Ending) (w' : World) : Prop :=
  ∃ (neg : Bool) (ev : Value) (j : Nat), e = .returned (.tuple #[.bool neg, ev]) ∧ Upd (· = p) w w' ∧ RdrAt p s j w' ∧ ((ev = errAt a0 ∧ bts s 0 = []) ∨ (ev = .nilIface ∧ SgnS s neg j))

theorem numS_nil (base : Nat) : numS [] base = none := by
  unfold numS natS
  split <;> simp_all [spRun, pfx]

theorem sgn_minus {s : ByteArray} (h : bts s 0 = 45 :: bts s 1) (hl : 0 < s.size) : SgnS s true 1 := ⟨hl, fun base => by rw [h]; rfl⟩
theorem sgn_plus {s : ByteArray} (h : bts s 0 = 43 :: bts s 1) (hl : 0 < s.size) : SgnS s false 1 := ⟨hl, fun base => by rw [h]; rfl⟩
theorem sgn_none {s : ByteArray} {c : Nat} (h : bts s 0 = c :: bts s 1) (h1 : c ≠ 45) (h2 : c ≠ 43) : SgnS s false 0 := ⟨Nat.zero_le _, fun base => by
  rw [h]
  unfold numS
  split
  · rename_i hq; exact absurd (List.cons.inj hq).1 h1
  · rename_i hq; exact absurd (List.cons.inj hq).1 h2
  · rfl⟩

set_option maxHeartbeats 1000000 in
theorem scanSign_any (p : Nat) (s : ByteArray) (a0 a1 a2 : Addr) (w : World) (h : RdrAt p s 0 w) (hs : s.size ≤ 9223372036854775800) (hS : Sent a0 a1 a2 w) (hp : 3 ≤ p) :
    Calls Tryf.prog 107 #[.iface 107 (.pointer (some ⟨p, 0, none⟩))] w (SignR p s a0 w) := by
  have hm1 := method_read
  have hm2 := method_unread
  have HR := Lib.hid h
  have HS := Lib.hid hS
  clear h hS
  go_enter Tryf.func107, Tryf.ntmps107
  go_wp2_with fail
  refine (readByte_any p s 0 a0 a1 a2 _ HR.out hs (Nat.zero_le _) HS.out hp).mono ?_
  rintro e w1 ⟨c1, ev1, j1, rfl, hr1, hj1, hu1⟩
  have HJ1 := Lib.hid hj1
  have HU1 := Lib.hid hu1
  clear hj1 hu1
  rcases hr1 with ⟨hlt, hcons, hc1, hev1, hjj⟩ | ⟨hlt, hnil, hc1, hev1, hjj⟩
  · subst hev1
    subst hjj
    have HC := Lib.hid hcons
    clear hcons
    by_cases h45 : c1 = 45
    · subst h45
      have HFIN : Hid (SignR p s a0 w (.returned (.tuple #[.bool true, .nilIface])) w1) := Lib.hid ⟨true, .nilIface, 1, rfl, HU1.out, HJ1.out, .inr ⟨rfl, sgn_minus HC.out hlt⟩⟩
      go_wp2_with fail
      go_ret2
      exact HFIN.out
    by_cases h43 : c1 = 43
    · subst h43
      have HFIN : Hid (SignR p s a0 w (.returned (.tuple #[.bool false, .nilIface])) w1) := Lib.hid ⟨false, .nilIface, 1, rfl, HU1.out, HJ1.out, .inr ⟨rfl, sgn_plus HC.out hlt⟩⟩
      go_wp2_with fail
      go_ret2
      exact HFIN.out
    have e45 : ((c1 : Int) == 45) = false := by simp; omega
    have e43 : ((c1 : Int) == 43) = false := by simp; omega
    have HSG := Lib.hid (sgn_none HC.out h45 h43)
    go_wp2_with fail
    refine (unreadByte_any p s 0 _ HJ1.out (by omega)).mono ?_
    rintro e w3 ⟨rfl, hj3, hu3⟩
    have HFIN : Hid (SignR p s a0 w (.returned (.tuple #[.bool false, .nilIface])) w3) := Lib.hid ⟨false, .nilIface, 0, rfl, HU1.out.same hu3, hj3, .inr ⟨rfl, HSG.out⟩⟩
    clear hj3 hu3
    go_wp2_with fail
    go_ret2
    exact HFIN.out
  · subst hev1
    have HFIN : Hid (SignR p s a0 w (.returned (.tuple #[.bool false, errAt a0])) w1) := Lib.hid ⟨false, errAt a0, j1, rfl, HU1.out, HJ1.out, .inl ⟨rfl, hnil⟩⟩
    clear hnil
    go_wp2_with fail
    go_ret2
    exact HFIN.out

/-- What (*Int).scan leaves. -/
def IScanR (p pz : Nat) (s : ByteArray) (base L : Nat) (w : World) (e : Ending) (w' : World) : Prop :=
  ∃ (vp : Value) (bb : Int) (ev : Value), e = .returned (.tuple #[vp, .int .i64 bb, ev]) ∧ Upd (fun k => k = p ∨ k = pz) w w' ∧
    ((ev = .nilIface ∧ ∃ (j : Nat) (z : Int), j ≤ s.size ∧ RdrAt p s j w' ∧ IntZ L z w' w.heap.size pz ∧ ∀ y, numS (bts s 0) base = some y ↔ (j = s.size ∧ z = y)) ∨ ((∃ a, ev = errAt a) ∧ numS (bts s 0) base = none))

theorem num_of_nat {s : ByteArray} {neg : Bool} {i0 j base : Nat} {zs : List Nat} (hs : SgnS s neg i0) (h : ∀ n, natS (bts s i0) base = some n ↔ (j = s.size ∧ val zs = n)) (y : Int) : numS (bts s 0) base = some y ↔ (j = s.size ∧ (if neg then -(val zs : Int) else (val zs : Int)) = y) := by
  rw [hs.2 base]
  by_cases hj : j = s.size
  · have := (h (val zs)).2 ⟨hj, rfl⟩
    rw [this]
    simp [hj]
  · have : natS (bts s i0) base = none := by
      cases hq : natS (bts s i0) base with
      | none => rfl
      | some n => exact absurd ((h n).1 hq).1 hj
    rw [this]
    simp [hj]

theorem num_of_none {s : ByteArray} {neg : Bool} {i0 base : Nat} (hs : SgnS s neg i0) (h : natS (bts s i0) base = none) : numS (bts s 0) base = none := by rw [hs.2 base, h]; rfl

theorem fit_later {s : ByteArray} {base L i0 : Nat} (h : FitS s base 0 L) : FitS s base i0 L := by
  intro b h1 h2 h3
  obtain ⟨f1, f2, f3, f4⟩ := h b h1 h2 h3
  exact ⟨f1, f2, f3, fun g1 g2 g3 u st q _ hv => f4 g1 g2 g3 u st q (Nat.zero_le _) hv⟩

theorem sgnz {neg : Bool} {zs : List Nat} (hn : norm zs = zs) : decide ((if neg then -(val zs : Int) else (val zs : Int)) < 0) = (decide (0 < zs.length) && neg) ∧ ((if neg then -(val zs : Int) else (val zs : Int))).natAbs = val zs := by
  have := len_pos_iff hn
  cases neg
  · simp
  · simp [this]

set_option maxRecDepth 100000 in
set_option maxHeartbeats 2000000 in
theorem intScan_any (p pz : Nat) (s : ByteArray) (base L : Nat) (a0 a1 a2 : Addr) (w : World) (h : RdrAt p s 0 w) (hz : w.heap[pz]? = some (.cells #[.bool false, .slice none 0 0] 82 (0, 0))) (hne : p ≠ pz) (hs : s.size ≤ 9223372036854775800) (hS : Sent a0 a1 a2 w) (hp : 3 ≤ p) (hp3 : 3 ≤ pz) (hpw : p < w.heap.size) (hb : base = 0 ∨ 2 ≤ base) (hb2 : base ≤ 62) (hL : L ≤ 17592186044415) (hfit : FitS s base 0 L) :
    Calls Tryf.prog 93 #[.pointer (some ⟨pz, 0, none⟩), .iface 107 (.pointer (some ⟨p, 0, none⟩)), .int .i64 (base : Nat)] w (IScanR p pz s base L w) := by
  have HR := Lib.hid h
  have HS := Lib.hid hS
  have HZ := Lib.hid hz
  have HF := Lib.hid hfit
  have hpz : pz < w.heap.size := (Array.getElem?_eq_some_iff.1 hz).1
  clear h hS hz hfit
  go_enter Tryf.func93, Tryf.ntmps93
  go_wp2_with fail
  refine (scanSign_any p s a0 a1 a2 _ HR.out hs HS.out hp).mono ?_
  rintro e w1 ⟨neg, ev1, j1, rfl, hu1, hj1, hor⟩
  have HU1 := Lib.hid hu1
  have HJ1 := Lib.hid hj1
  have HZ1 := Lib.hid (hu1.heap HZ.out (by omega))
  have HS1 := Lib.hid (HS.out.upd hu1 (by intro k hk; omega))
  have hsz1 := hu1.size
  clear hu1 hj1
  rcases hor with ⟨hev, hnil⟩ | ⟨hev, hsg⟩
  · subst hev
    have HFIN : Hid (IScanR p pz s base L w (.returned (.tuple #[.pointer none, .int .i64 0, errAt a0])) w1) := Lib.hid ⟨_, 0, _, rfl, HU1.out.mono (fun k _ h => .inl h), .inr ⟨⟨a0, rfl⟩, by rw [hnil]; exact numS_nil base⟩⟩
    clear hnil
    go_wp2_with fail
    go_ret3
    exact HFIN.out
  · subst hev
    have HSG := Lib.hid hsg
    clear hsg
    have c1 := blk_cell HZ1.out 1
    simp at c1
    go_wp2_with fail
    refine (scan_any p s j1 base L a0 a1 a2 _ HJ1.out hs HSG.out.1 HS1.out hp (by omega) hb hb2 hL (fit_later HF.out)).mono ?_
    rintro e w2 ⟨vz, bb, ct, ev2, j2, zs, rfl, hj2, hjs, hu2, ho2, hor⟩
    have HZ2 := Lib.hid (hu2.heap HZ1.out (by omega))
    have hsz2 := hu2.size
    obtain ⟨az, cz, rfl⟩ := ho2.form
    have hnb : Value.ownBlock (.slice az zs.length cz) ≠ some pz := fun q => by have := own_ge ho2 _ q; omega
    -- the world behind the store
    have hu3 : Upd (· = pz) w2 (w2.setCell ⟨pz, 1, none⟩ (.slice az zs.length cz)) := (Upd.refl _ _).setCell (by rfl) _
    have HZ3 := Lib.hid (blk2_set1 HZ2.out (.slice az zs.length cz))
    have HO3 := Lib.hid (ho2.upd2 hu3 (fun k hk q => hnb (by rw [hk, q])))
    have HJ3 := Lib.hid (hj2.upd hu3 hne)
    have HU3 : Hid (Upd (fun k => k = p ∨ k = pz) w (w2.setCell ⟨pz, 1, none⟩ (.slice az zs.length cz))) := Lib.hid (((HU1.out.same hu2).trans hu3).mono (fun k _ h => h))
    have c1 := blk_cell HZ2.out 1
    have f1 := blk_free HZ2.out 1
    simp at c1
    clear hj2 hu2 ho2 hu3 hnb
    have hlz : zs.length ≤ 9223372036854775807 := by
      have := HO3.out.2.2
      rcases this with ⟨h1, h2⟩ | ⟨g, cap, cur, h1, hb', hg, h3, h4, h5, h6⟩
      · omega
      · simp only [maxLen] at h4; omega
    rcases hor with ⟨hev, hnz, hlL, hnat⟩ | ⟨hev, hno⟩
    · subst hev
      have d1 := blk_cell HZ3.out 1
      have f0 := blk_free HZ3.out 0
      have d0 := blk_cell HZ3.out 0
      simp at d0 d1
      have HNAT := Lib.hid hnat
      have HNZ := Lib.hid hnz
      clear hnat hnz
      have hfin : ∀ B : Bool, B = (decide (0 < zs.length) && neg) → IScanR p pz s base L w (.returned (.tuple #[.pointer (some ⟨pz, 0, none⟩), .int .i64 bb, .nilIface])) ((w2.setCell ⟨pz, 1, none⟩ (.slice az zs.length cz)).setCell ⟨pz, 0, none⟩ (.bool B)) := by
        intro B hB
        have hu4 : Upd (· = pz) (w2.setCell ⟨pz, 1, none⟩ (.slice az zs.length cz)) ((w2.setCell ⟨pz, 1, none⟩ (.slice az zs.length cz)).setCell ⟨pz, 0, none⟩ (.bool B)) := (Upd.refl _ _).setCell (by rfl) _
        have sg := sgnz (neg := neg) HNZ.out
        refine ⟨_, bb, _, rfl, (HU3.out.trans hu4).mono (fun k _ h => by rcases h with h | h; exact h; exact .inr h), .inl ⟨rfl, j2, if neg then -(val zs : Int) else (val zs : Int), hjs, HJ3.out.upd hu4 hne, ⟨zs, ⟨.slice az zs.length cz, ?_, ?_⟩, HNZ.out, by rw [sg.2], hlL⟩, num_of_nat HSG.out HNAT.out⟩⟩
        · rw [sg.1, ← hB]; exact blk2_set0 HZ3.out (.bool B)
        · refine (HO3.out.upd2 hu4 (fun k hk q => ?_)).mono (by omega)
          have := own_ge HO3.out k hk; omega
      have HFIN := Lib.hid hfin
      clear hfin
      rcases Nat.eq_zero_or_pos zs.length with hl0 | hl0
      · have e0 : decide (0 < zs.length) = false := decide_eq_false (by omega)
        have e0' : decide ((0 : Int) < (zs.length : Int)) = false := decide_eq_false (by omega)
        have HF0 := Lib.hid (HFIN.out false (by rw [e0]; rfl))
        clear hl0
        go_wp2_with fail
        go_ret3
        exact HF0.out
      · have e0 : decide (0 < zs.length) = true := decide_eq_true (by omega)
        have e0' : decide ((0 : Int) < (zs.length : Int)) = true := decide_eq_true (by omega)
        have HF0 := Lib.hid (HFIN.out neg (by rw [e0]; simp))
        go_wp2_with fail
        go_ret3
        exact HF0.out
    · have HNO := Lib.hid (num_of_none HSG.out hno)
      obtain ⟨ae, rfl⟩ : ∃ ae, ev2 = errAt ae := by rcases hev with h | h <;> exact ⟨_, h⟩
      clear hno hev
      have HF0 : Hid (IScanR p pz s base L w (.returned (.tuple #[.pointer none, .int .i64 bb, errAt ae])) (w2.setCell ⟨pz, 1, none⟩ (.slice az zs.length cz))) := Lib.hid ⟨_, bb, _, rfl, HU3.out, .inr ⟨⟨ae, rfl⟩, HNO.out⟩⟩
      go_wp2_with fail
      go_ret3
      exact HF0.out

/-- What setFromScanner and SetString leave: the number that the text tells, if it tells one. -/
def SetR (pz : Nat) (L : Nat) (r : Option Int) (S : Nat → Prop) (w : World) (e : Ending) (w' : World) : Prop :=
  ∃ vp, e = .returned (.tuple #[vp, .bool r.isSome]) ∧ Upd S w w' ∧ ∀ y, r = some y → vp = .pointer (some ⟨pz, 0, none⟩) ∧ IntZ L y w' w.heap.size pz

theorem setR_none {pz L : Nat} {r : Option Int} {S : Nat → Prop} {w w' : World} {vp : Value} (h : r = none) (hu : Upd S w w') : SetR pz L r S w (.returned (.tuple #[vp, .bool false])) w' := ⟨vp, by rw [h]; rfl, hu, fun y hy => by rw [h] at hy; cases hy⟩

theorem setR_some {pz L : Nat} {r : Option Int} {z : Int} {S : Nat → Prop} {w w' : World} (h : r = some z) (hu : Upd S w w') (hz : IntZ L z w' w.heap.size pz) : SetR pz L r S w (.returned (.tuple #[.pointer (some ⟨pz, 0, none⟩), .bool true])) w' := ⟨_, by rw [h]; rfl, hu, fun y hy => by rw [h] at hy; cases hy; exact ⟨rfl, hz⟩⟩

theorem IntZ.updB {L : Nat} {z : Int} {w w' : World} {B pz p : Nat} (h : IntZ L z w B pz) (hu : Upd (· = p) w w') (hne : p ≠ pz) (hp : p < B) : IntZ L z w' B pz := by
  obtain ⟨ws, ⟨sv, h1, h2⟩, h3, h4, h5⟩ := h
  exact ⟨ws, ⟨sv, hu.heap h1 (fun q => hne q.symm), h2.upd2 hu (fun k hk q => by have := own_ge h2 k hk; omega)⟩, h3, h4, h5⟩

set_option maxHeartbeats 1000000 in
theorem setFrom_any (p pz : Nat) (s : ByteArray) (base L : Nat) (a0 a1 a2 : Addr) (w : World) (h : RdrAt p s 0 w) (hz : w.heap[pz]? = some (.cells #[.bool false, .slice none 0 0] 82 (0, 0))) (hne : p ≠ pz) (hs : s.size ≤ 9223372036854775800) (hS : Sent a0 a1 a2 w) (hp : 3 ≤ p) (hp3 : 3 ≤ pz) (hpw : p < w.heap.size) (hb : base = 0 ∨ 2 ≤ base) (hb2 : base ≤ 62) (hL : L ≤ 17592186044415) (hfit : FitS s base 0 L) :
    Calls Tryf.prog 78 #[.pointer (some ⟨pz, 0, none⟩), .iface 107 (.pointer (some ⟨p, 0, none⟩)), .int .i64 (base : Nat)] w (SetR pz L (numS (bts s 0) base) (fun k => k = p ∨ k = pz) w) := by
  have hm1 := method_read
  have HR := Lib.hid h
  have HS := Lib.hid hS
  have HZ := Lib.hid hz
  have HF := Lib.hid hfit
  have q1 := neqErrSame a0
  have q2 := neqNilErr a0
  clear h hS hz hfit
  go_enter Tryf.func78, Tryf.ntmps78
  go_wp2_with fail
  refine (intScan_any p pz s base L a0 a1 a2 _ HR.out HZ.out hne hs HS.out hp hp3 hpw hb hb2 hL HF.out).mono ?_
  rintro e w1 ⟨vp, bb, ev1, rfl, hu1, hor⟩
  have HU1 := Lib.hid hu1
  have HS1 := Lib.hid (HS.out.upd hu1 (by intro k hk; omega))
  clear hu1
  rcases hor with ⟨hev, j, z, hjs, hrd, hiz, hnum⟩ | ⟨⟨ae, hev⟩, hno⟩
  · subst hev
    have HRD := Lib.hid hrd
    have HIZ := Lib.hid hiz
    have HNUM := Lib.hid hnum
    clear hrd hiz hnum
    go_wp2_with fail
    refine (readByte_any p s j a0 a1 a2 _ HRD.out hs hjs HS1.out hp).mono ?_
    rintro e w2 ⟨c2, ev2, j2, rfl, hr2, hj2, hu2⟩
    have HU2 : Hid (Upd (fun k => k = p ∨ k = pz) w w2) := Lib.hid ((HU1.out.trans hu2).mono (fun k _ h => by rcases h with h | h; exact h; exact .inl h))
    have l0 := (HS1.out.upd hu2 (by intro k hk; omega)).eof
    have HIZ2 := Lib.hid (HIZ.out.updB hu2 hne hpw)
    clear hj2 hu2
    rcases hr2 with ⟨hlt, hcons, hc, hev, hjj⟩ | ⟨hlt, hnil, hc, hev, hjj⟩
    · subst hev
      have hno : numS (bts s 0) base = none := by
        cases hq : numS (bts s 0) base with
        | none => rfl
        | some y => have := ((HNUM.out y).1 hq).1; omega
      have HFIN : Hid (SetR pz L (numS (bts s 0) base) (fun k => k = p ∨ k = pz) w (.returned (.tuple #[.pointer none, .bool false])) w2) := Lib.hid (setR_none hno HU2.out)
      clear hcons hno
      go_wp2_with fail
      go_ret2
      exact HFIN.out
    · subst hev
      have HFIN : Hid (SetR pz L (numS (bts s 0) base) (fun k => k = p ∨ k = pz) w (.returned (.tuple #[.pointer (some ⟨pz, 0, none⟩), .bool true])) w2) := Lib.hid (setR_some ((HNUM.out z).2 ⟨hlt.symm, rfl⟩) HU2.out HIZ2.out)
      clear hnil
      go_wp2_with fail
      go_ret2
      exact HFIN.out
  · subst hev
    have HFIN : Hid (SetR pz L (numS (bts s 0) base) (fun k => k = p ∨ k = pz) w (.returned (.tuple #[.pointer none, .bool false])) w1) := Lib.hid (setR_none hno HU1.out)
    clear hno
    go_wp2_with fail
    go_ret2
    exact HFIN.out

end Go.Proofs.YtocadbghhoibnaaFmt

/- (*Int).SetString, impl.SetString, laws.setString: contracts. -/
namespace Go.Proofs.YtocadbghhoibnaaFmt
open Go.RowKit

theorem results_impl2 {fn : Func} {t u : Tmp} (h : fn.results = #[.cell t 33, .tmp u]) (tmps : Array Value) {p : Nat} (ht : tmps.getD t undef = .pointer (some ⟨p, 0, none⟩)) {w : World} {x y z : Value} (hu : tmps.getD u undef = z) (d0 : w.cell? ⟨p, 0, none⟩ = some x) (d1 : w.cell? ⟨p, 1, none⟩ = some y) :
    (results fn tmps).run Tryf.prog w = .ok (.tuple #[.agg #[x, y], z]) w := by
  simp at ht hu
  simp [results, h, ht, hu, go_sem, d0, d1]

theorem results_laws2 {fn : Func} {t u : Tmp} (h : fn.results = #[.cell t 26, .tmp u]) (tmps : Array Value) {p : Nat} (ht : tmps.getD t undef = .pointer (some ⟨p, 0, none⟩)) {w : World} {x y z : Value} (hu : tmps.getD u undef = z) (d0 : w.cell? ⟨p, 0, none⟩ = some x) (d1 : w.cell? ⟨p, 1, none⟩ = some y) :
    (results fn tmps).run Tryf.prog w = .ok (.tuple #[.agg #[x, y], z]) w := by
  simp at ht hu
  simp [results, h, ht, hu, go_sem, d0, d1]

theorem results_spec2 {fn : Func} {t u : Tmp} (h : fn.results = #[.cell t 38, .tmp u]) (tmps : Array Value) {p : Nat} (ht : tmps.getD t undef = .pointer (some ⟨p, 0, none⟩)) {w : World} {x y z : Value} (hu : tmps.getD u undef = z) (d0 : w.cell? ⟨p, 0, none⟩ = some x) (d1 : w.cell? ⟨p, 1, none⟩ = some y) :
    (results fn tmps).run Tryf.prog w = .ok (.tuple #[.agg #[x, y], z]) w := by
  simp at ht hu
  simp [results, h, ht, hu, go_sem, d0, d1]

theorem IntZ.base {L : Nat} {z : Int} {w : World} {B B' pz : Nat} (h : IntZ L z w B pz) (hb : B' ≤ B) : IntZ L z w B' pz := by
  obtain ⟨ws, ⟨sv, h1, h2⟩, h3⟩ := h
  exact ⟨ws, ⟨sv, h1, h2.mono hb⟩, h3⟩

theorem intSetString_any (pz : Nat) (s : ByteArray) (base L : Nat) (a0 a1 a2 : Addr) (w : World) (hz : w.heap[pz]? = some (.cells #[.bool false, .slice none 0 0] 82 (0, 0))) (hs : s.size ≤ 9223372036854775800) (hS : Sent a0 a1 a2 w) (hp3 : 3 ≤ pz) (hb : base = 0 ∨ 2 ≤ base) (hb2 : base ≤ 62) (hL : L ≤ 17592186044415) (hfit : FitS s base 0 L) :
    Calls Tryf.prog 50 #[.pointer (some ⟨pz, 0, none⟩), .string s, .int .i64 (base : Nat)] w (SetR pz L (numS (bts s 0) base) (· = pz) w) := by
  have HS := Lib.hid hS
  have HZ := Lib.hid hz
  have HF := Lib.hid hfit
  have hpz : pz < w.heap.size := (Array.getElem?_eq_some_iff.1 hz).1
  have hbig := hS.big
  clear hS hz hfit
  go_enter Tryf.func50, Tryf.ntmps50
  go_wp2_with fail
  refine (newReader_any s w).mono ?_
  rintro e w1 ⟨rfl, hr1, he1⟩
  have hsz := he1.size
  have hlt : w.heap.size < w1.heap.size := by obtain ⟨r, hr⟩ := hr1; exact (Array.getElem?_eq_some_iff.1 hr).1
  have HR1 := Lib.hid hr1
  have HE1 := Lib.hid he1
  clear hr1 he1
  go_wp2_with fail
  refine (setFrom_any w.heap.size pz s base L a0 a1 a2 _ HR1.out (HE1.out.block HZ.out) (by omega) hs (HS.out.ext HE1.out) hbig hp3 hlt hb hb2 hL HF.out).mono ?_
  rintro e w2 ⟨vp, rfl, hu2, hval⟩
  have HFIN : Hid (SetR pz L (numS (bts s 0) base) (· = pz) w (.returned (.tuple #[vp, .bool (numS (bts s 0) base).isSome])) w2) := Lib.hid ⟨vp, rfl, (HE1.out.upd.trans hu2).mono (fun k hk h => by rcases h with h | h | h; exact h; omega; exact h), fun y hy => ⟨(hval y hy).1, (hval y hy).2.base (by omega)⟩⟩
  clear hu2 hval
  generalize (numS (bts s 0) base).isSome = ok at *
  go_wp2_with fail
  go_ret2
  exact HFIN.out

/-- A number and whether there is one. -/
def IsP (L : Nat) (r : Option Int) (x : Value) (w : World) : Prop := ∃ n a l c, x = .tuple #[.agg #[.bool n, .slice a l c], .bool r.isSome] ∧ IsC L (r.getD 0) (.agg #[.bool n, .slice a l c]) w

theorem IsP.ext {L : Nat} {r : Option Int} {x : Value} {w w' : World} (h : IsP L r x w) (he : Ext w w') : IsP L r x w' := by
  obtain ⟨n, a, l, c, h1, h2⟩ := h
  exact ⟨n, a, l, c, h1, h2.ext he⟩

theorem isC_zero (L : Nat) (w : World) : IsC L 0 (.agg #[.bool false, .slice none 0 0]) w := ⟨_, [], rfl, ⟨by simp, rfl, .inl ⟨rfl, rfl⟩⟩, rfl, rfl, Nat.zero_le _⟩

set_option maxHeartbeats 1000000 in
theorem implSetString_any (s : ByteArray) (base L : Nat) (a0 a1 a2 : Addr) (w : World) (hs : s.size ≤ 9223372036854775800) (hS : Sent a0 a1 a2 w) (hb : base = 0 ∨ 2 ≤ base) (hb2 : base ≤ 62) (hL : L ≤ 17592186044415) (hfit : FitS s base 0 L) :
    Calls Tryf.prog 27 #[.string s, .int .i64 (base : Nat)] w (ResR (IsP L (numS (bts s 0) base)) w) := by
  have HSET := Lib.hid (fun (w : World) pz hz hS hp3 => intSetString_any pz s base L a0 a1 a2 w hz hs hS hp3 hb hb2 hL hfit)
  obtain ⟨r, hr⟩ : ∃ r, numS (bts s 0) base = r := ⟨_, rfl⟩
  rw [hr] at HSET ⊢
  have HS := Lib.hid hS
  have hbig := hS.big
  clear hS hfit hr
  go_enter Tryf.func27, Tryf.ntmps27
  go_wp2_with fail
  refine (HSET.out _ (w.heap.size + 1) (heap_second _ _ _) (HS.out.ext ((Ext.alloc _ _).trans (Ext.alloc _ _))) (by omega)).mono ?_
  rintro e w1 ⟨vp, rfl, hu1, hval⟩
  have hE : Ext w w1 := hu1.ext ((Ext.alloc _ _).trans (Ext.alloc _ _)) (fun i q => by omega)
  have hp : w1.heap[w.heap.size]? = some (.cells #[.bool false, .slice none 0 0] 33 (0, 0)) := hu1.heap ((Ext.alloc _ _).block (heap_alloc_new _ _)) (by omega)
  have HE := Lib.hid hE
  have HP := Lib.hid hp
  have d0 := blk_cell hp 0
  have d1 := blk_cell hp 1
  have f0 := blk_free hp 0
  have f1 := blk_free hp 1
  simp at d0 d1
  clear hu1 hE hp
  cases r with
  | none =>
    clear hval
    simp only [Option.isSome]
    go_wp2_with fail
    obtain ⟨e0, e1, hu⟩ := set2 HP.out (.bool false) (.slice none 0 0)
    exact bodyPost_ret (results_impl2 rfl _ rfl rfl e0 e1) rfl ⟨hu.ext HE.out (by omega), _, rfl, false, none, 0, 0, rfl, isC_zero _ _⟩
  | some y =>
    obtain ⟨rfl, hiz⟩ := hval y rfl
    have HIZ := Lib.hid hiz
    clear hval hiz d0 d1 f0 f1
    simp only [Option.isSome]
    go_wp2_with fail
    refine (number_z L y _ _ _ HIZ.out (by omega)).mono ?_
    rintro e w2 ⟨he, y2, rfl, hy⟩
    obtain ⟨n', a', l', c', rfl⟩ := hy.form
    have hp2 := he.block HP.out
    have d0 := blk_cell hp2 0
    have d1 := blk_cell hp2 1
    have f0 := blk_free hp2 0
    have f1 := blk_free hp2 1
    simp at d0 d1
    have HP2 := Lib.hid hp2
    have HE2 := Lib.hid (HE.out.trans he)
    have HY := Lib.hid hy
    clear he hp2 hy
    go_wp2_with fail
    obtain ⟨e0, e1, hu⟩ := set2 HP2.out (.bool n') (.slice a' l' c')
    exact bodyPost_ret (results_impl2 rfl _ rfl rfl e0 e1) rfl ⟨hu.ext HE2.out (by omega), _, rfl, n', a', l', c', rfl, HY.out.upd HP2.out (by decide) hu⟩

set_option maxHeartbeats 1000000 in
theorem setString_any (s : ByteArray) (base L : Nat) (a0 a1 a2 : Addr) (w : World) (hs : s.size ≤ 9223372036854775800) (hS : Sent a0 a1 a2 w) (hb : base = 0 ∨ 2 ≤ base) (hb2 : base ≤ 62) (hL : L ≤ 17592186044415) (hfit : FitS s base 0 L) :
    Calls Tryf.prog 15 #[.string s, .int .i64 (base : Nat)] w (ResR (IsP L (numS (bts s 0) base)) w) := by
  have HSET := Lib.hid (fun (w : World) hS => implSetString_any s base L a0 a1 a2 w hs hS hb hb2 hL hfit)
  obtain ⟨r, hr⟩ : ∃ r, numS (bts s 0) base = r := ⟨_, rfl⟩
  rw [hr] at HSET ⊢
  have HS := Lib.hid hS
  clear hS hfit hr
  go_enter Tryf.func15, Tryf.ntmps15
  go_wp2_with fail
  refine (HSET.out _ (HS.out.ext (Ext.alloc _ _))).mono ?_
  rintro e w1 ⟨he1, y, rfl, n1, b1, l1, c1, rfl, hy⟩
  have hE : Ext w w1 := (Ext.alloc _ _).trans he1
  have hp : w1.heap[w.heap.size]? = some (.cells #[.bool false, .slice none 0 0] 26 (0, 0)) := he1.block (heap_alloc_new _ _)
  have hsz := hE.size
  have HE := Lib.hid hE
  have HP := Lib.hid hp
  have HY := Lib.hid hy
  clear he1 hE hp hy
  have HFIN : Hid (∀ v w', IsC L (r.getD 0) v w' → ∀ n a l c, v = .agg #[.bool n, .slice a l c] → IsP L r (.tuple #[v, .bool r.isSome]) w') := Lib.hid (fun v w' h n a l c e => by subst e; exact ⟨n, a, l, c, rfl, h⟩)
  obtain ⟨z, hz⟩ : ∃ z, r.getD 0 = z := ⟨_, rfl⟩
  obtain ⟨ok, hok⟩ : ∃ ok, r.isSome = ok := ⟨_, rfl⟩
  rw [hz] at HY HFIN
  rw [hok] at HFIN ⊢
  clear hz hok
  go_wp2_with fail
  refine (fromImpl_z L z _ _ (HY.out.ext (Ext.alloc _ _))).mono ?_
  rintro e w2 ⟨he, y2, rfl, hy⟩
  obtain ⟨n', a', l', c', rfl⟩ := hy.form
  have hp2 := he.block ((Ext.alloc _ _).block HP.out)
  have d0 := blk_cell hp2 0
  have d1 := blk_cell hp2 1
  have f0 := blk_free hp2 0
  have f1 := blk_free hp2 1
  simp at d0 d1
  have HP2 := Lib.hid hp2
  have HE2 := Lib.hid ((HE.out.trans (Ext.alloc _ _)).trans he)
  have HY2 := Lib.hid hy
  clear he hp2 hy
  go_wp2_with fail
  obtain ⟨e0, e1, hu⟩ := set2 HP2.out (.bool n') (.slice a' l' c')
  exact bodyPost_ret (v := .tuple #[.agg #[.bool n', .slice a' l' c'], .bool ok]) (results_laws2 rfl _ rfl rfl e0 e1) rfl ⟨hu.ext HE2.out (by omega), _, rfl, HFIN.out _ _ (HY2.out.upd HP2.out (by decide) hu) n' a' l' c' rfl⟩

end Go.Proofs.YtocadbghhoibnaaFmt

/- Words as a value; spec.integer of them: contracts. -/
namespace Go.Proofs.YtocadbghhoibnaaFmt
open Go.RowKit

/-- Words of value t as a value. -/
def IsV (t L : Nat) (v : Value) (w : World) : Prop := ∃ rs, Own .u64 w 0 36 v rs ∧ norm rs = rs ∧ val rs = t ∧ rs.length ≤ L

theorem IsV.ext {t L : Nat} {v : Value} {w w' : World} (h : IsV t L v w) (he : Ext w w') : IsV t L v w' := by
  obtain ⟨rs, h1, h2⟩ := h; exact ⟨rs, h1.ext he, h2⟩

theorem specInteger_v (n : Bool) (t L : Nat) (v : Value) (w : World) (h : IsV t L v w) (hL : L ≤ 17592186044416) :
    Calls Tryf.prog 47 #[.bool n, v] w (ResR (IsC L (bif n then -(t : Int) else (t : Int))) w) := by
  obtain ⟨rs, h1, h2, h3, h4⟩ := h
  rw [show (bif n then -(t : Int) else (t : Int)) = ival n rs by unfold ival; rw [h3]]
  exact (specInteger_any n v rs w h1.read (by omega)).mono fun e w' h => numC_of L h4 h

end Go.Proofs.YtocadbghhoibnaaFmt

/- low64, IsUint64, Uint64, IsInt64, Int64 of an Int by its value: contracts. -/
namespace Go.Proofs.YtocadbghhoibnaaFmt
open Go.RowKit

theorem low64_any (v : Value) (ws : List Nat) (x : Nat) (w : World) (h : Rd .u64 w v ws) (hx : ws.getD 0 0 = x) :
    Calls Tryf.prog 69 #[v] w fun e w' => e = .returned (.int .u64 x) ∧ w = w' := by
  obtain ⟨_, a, cap, rfl, hlc, hcap, hnil, hcells⟩ := h
  by_cases hlt : 0 < ws.length
  · obtain ⟨b, off, rfl, hc⟩ := hcells 0 hlt
    rw [hx] at hc
    simp only [Nat.add_zero] at hc
    clear hcells hnil hx
    go_enter Tryf.func69, Tryf.ntmps69
    go_wp2
    go_ret
    exact ⟨rfl, rfl⟩
  · obtain rfl : x = 0 := by rw [← hx]; simp [Nat.not_lt.1 hlt]
    clear hcells hnil hx
    go_enter Tryf.func69, Tryf.ntmps69
    go_wp2
    go_ret
    exact ⟨rfl, rfl⟩

theorem low_val (ws : List Nat) (h : ∀ x ∈ ws, x < 18446744073709551616) : ws.getD 0 0 = val ws % 18446744073709551616 := by
  cases ws with
  | nil => rfl
  | cons x ws => have := h x (by simp); simp only [val, List.getD_cons_zero]; omega

theorem len_le_one {ws : List Nat} (hn : norm ws = ws) (h : ∀ x ∈ ws, x < 18446744073709551616) : ws.length ≤ 1 ↔ val ws < 18446744073709551616 := by
  constructor
  · intro hl
    match ws, hl with
    | [], _ => simp [val]
    | [x], _ => have := h x (by simp); simp only [val]; omega
  · intro hv
    rcases Nat.lt_or_ge 1 ws.length with h1 | h1
    · have hne : ws ≠ [] := by intro e; subst e; simp at h1
      have := norm_last hn hne
      have h2 : 18446744073709551616 ^ 1 ≤ 18446744073709551616 ^ (ws.length - 1) := Nat.pow_le_pow_right (by decide) (by omega)
      omega
    · exact h1

def isU (z : Int) : Bool := decide (0 ≤ z ∧ z < 18446744073709551616)

def low (z : Int) : Nat := z.natAbs % 18446744073709551616

theorem intIsUint64_z (L : Nat) (z : Int) (base p : Nat) (w : World) (h : IntZ L z w base p) (hL : L ≤ 17592186044416) :
    Calls Tryf.prog 60 #[.pointer (some ⟨p, 0, none⟩)] w fun e w' => e = .returned (.bool (isU z)) ∧ w = w' := by
  obtain ⟨a, c, ws, hp, ho, hn, hv, hl⟩ := h.low
  have hlen := len_le_one hn ho.1
  have hq : isU z = (!decide (z < 0) && decide (ws.length ≤ 1)) := by
    unfold isU
    rw [Bool.eq_iff_iff]
    simp only [decide_eq_true_iff, Bool.and_eq_true, Bool.not_eq_true', decide_eq_false_iff_not, hlen, hv]
    omega
  rw [hq]
  have c0 := blk_cell hp 0
  have c1 := blk_cell hp 1
  simp at c0 c1
  generalize decide (z < 0) = neg at *
  clear hp ho hn hv hq hlen h
  by_cases h1 : ws.length ≤ 1
  all_goals
    cases neg
    all_goals
      go_enter Tryf.func60, Tryf.ntmps60
      go_wp2
      go_ret
      refine ⟨?_, rfl⟩
      simp [h1]
      try omega

theorem intUint64_z (L : Nat) (z : Int) (base p : Nat) (w : World) (h : IntZ L z w base p) (hL : L ≤ 17592186044416) :
    Calls Tryf.prog 42 #[.pointer (some ⟨p, 0, none⟩)] w fun e w' => e = .returned (.int .u64 (low z)) ∧ w = w' := by
  obtain ⟨a, c, ws, hp, ho, hn, hv, hl⟩ := h.low
  have hlow : ws.getD 0 0 = low z := by rw [low_val ws ho.1, hv]; rfl
  have c0 := blk_cell hp 0
  have c1 := blk_cell hp 1
  simp at c0 c1
  generalize low z = x at *
  have HR := Lib.hid ho.read
  have HLW := Lib.hid hlow
  clear hp ho hn hv h hlow
  go_enter Tryf.func42, Tryf.ntmps42
  go_wp2_with fail
  refine (low64_any _ ws x _ HR.out HLW.out).mono ?_
  rintro e w1 ⟨rfl, rfl⟩
  go_wp2_with fail
  go_ret
  exact ⟨rfl, rfl⟩

def isI (z : Int) : Bool := decide (-9223372036854775808 ≤ z ∧ z < 9223372036854775808)

theorem wrap_small (x : Int) (h0 : -9223372036854775808 ≤ x) (h1 : x < 9223372036854775808) : wrap64 x = x := by unfold wrap64; omega

theorem wrap_great (x : Int) (h0 : 9223372036854775808 ≤ x) (h1 : x < 18446744073709551616) : wrap64 x = x - 18446744073709551616 := by unfold wrap64; omega

theorem low_lt (z : Int) : low z < 18446744073709551616 := Nat.mod_lt _ (by decide)

theorem low_eq {z : Int} (hl : z.natAbs < 18446744073709551616) : low z = z.natAbs := Nat.mod_eq_of_lt hl

theorem wrap_sign (x : Nat) (h : x < 18446744073709551616) : 0 ≤ wrap64 (x : Int) ↔ x < 9223372036854775808 := by
  rcases Nat.lt_or_ge x 9223372036854775808 with h1 | h1
  · rw [wrap_small x (by omega) (by omega)]; omega
  · rw [wrap_great x (by omega) (by omega)]; omega

theorem isI_yes {z : Int} {x : Nat} (hx : low z = x) (hl : z.natAbs < 18446744073709551616) (h0 : 0 ≤ wrap64 (x : Int)) : isI z = true := by
  subst hx
  rw [wrap_sign _ (low_lt z), low_eq hl] at h0
  exact decide_eq_true (by omega)

theorem isI_neg {z : Int} {x : Nat} (hx : low z = x) (hl : z.natAbs < 18446744073709551616) (h0 : ¬ 0 ≤ wrap64 (x : Int)) (hz : z < 0) : isI z = (wrap64 (x : Int) == wrap64 (-wrap64 (x : Int))) := by
  subst hx
  rw [wrap_sign _ (low_lt z), low_eq hl] at h0
  rw [low_eq hl, wrap_great _ (by omega) (by omega)]
  rw [Bool.eq_iff_iff, beq_iff_eq, isI, decide_eq_true_iff]
  by_cases h1 : z.natAbs = 9223372036854775808
  · rw [h1]
    have : wrap64 (-(((9223372036854775808 : Nat) : Int) - 18446744073709551616)) = -9223372036854775808 := by unfold wrap64; omega
    rw [this]
    omega
  · rw [wrap_small _ (by omega) (by omega)]
    omega

theorem isI_pos {z : Int} {x : Nat} (hx : low z = x) (hl : z.natAbs < 18446744073709551616) (h0 : ¬ 0 ≤ wrap64 (x : Int)) (hz : ¬ z < 0) : isI z = false := by
  subst hx
  rw [wrap_sign _ (low_lt z), low_eq hl] at h0
  exact decide_eq_false (by omega)

theorem isI_no {z : Int} (hl : ¬ z.natAbs < 18446744073709551616) : isI z = false := decide_eq_false (by omega)

end Go.Proofs.YtocadbghhoibnaaFmt

/- impl.F(x Number) that call a reading method of the Int: contracts by values (printed by gen3.py). -/
namespace Go.Proofs.YtocadbghhoibnaaFmt
open Go.RowKit

theorem implIsUint64_z (L : Nat) (z : Int) (x : Value) (w : World) (h : IsZ L z x w) (hL : L ≤ 17592186044416) :
    Calls Tryf.prog 40 #[x] w (ResR (Is (.bool (isU z))) w) := by
  obtain ⟨n, a, l, c, rfl⟩ := h.form
  have H := Lib.hid h
  clear h
  go_enter Tryf.func40, Tryf.ntmps40
  go_wp2_with fail
  refine (integer_z L z _ _ (H.out.ext (Ext.alloc _ _)) hL).mono ?_
  rintro e w1 ⟨he, p, rfl, hp, hI⟩
  have HE := Lib.hid ((Ext.alloc _ _).trans he)
  have HI := Lib.hid hI
  clear he hI
  go_wp2_with fail
  refine (intIsUint64_z L z _ p _ HI.out hL).mono ?_
  rintro e w2 ⟨rfl, rfl⟩
  go_wp2_with fail
  go_ret
  exact ⟨HE.out, _, rfl, rfl⟩

theorem implUint64_z (L : Nat) (z : Int) (x : Value) (w : World) (h : IsZ L z x w) (hL : L ≤ 17592186044416) :
    Calls Tryf.prog 19 #[x] w (ResR (Is (.int .u64 (low z))) w) := by
  obtain ⟨n, a, l, c, rfl⟩ := h.form
  have H := Lib.hid h
  clear h
  go_enter Tryf.func19, Tryf.ntmps19
  go_wp2_with fail
  refine (integer_z L z _ _ (H.out.ext (Ext.alloc _ _)) hL).mono ?_
  rintro e w1 ⟨he, p, rfl, hp, hI⟩
  have HE := Lib.hid ((Ext.alloc _ _).trans he)
  have HI := Lib.hid hI
  clear he hI
  go_wp2_with fail
  refine (intUint64_z L z _ p _ HI.out hL).mono ?_
  rintro e w2 ⟨rfl, rfl⟩
  go_wp2_with fail
  go_ret
  exact ⟨HE.out, _, rfl, rfl⟩

end Go.Proofs.YtocadbghhoibnaaFmt

/- The reference: bit, length, BitLen, IsUint64, Uint64, CmpAbs, Cmp, Int64 by values: contracts. -/
namespace Go.Proofs.YtocadbghhoibnaaFmt
open Go.RowKit

theorem bit_any (v : Value) (ws : List Nat) (i x : Nat) (w : World) (h : Rd .u64 w v ws) (hi : i ≤ 9223372036854775807) (hx : bitN (val ws) i = x) :
    Calls Tryf.prog 84 #[v, .int .i64 i] w fun e w' => e = .returned (.int .u64 x) ∧ w = w' := by
  obtain ⟨y, hy⟩ : ∃ y, ws.getD (i / 64) 0 = y := ⟨_, rfl⟩
  have hyl : y < 18446744073709551616 := by
    rw [← hy]
    by_cases hj : i / 64 < ws.length
    · rw [List.getD_eq_getElem?_getD, List.getElem?_eq_getElem hj]; exact h.1 _ (List.getElem_mem _)
    · simp [Nat.not_lt.1 hj]
  have hval : y / 2 ^ (i % 64) % 2 = x := by rw [← hx, ← word_bit ws h.1 i, hy]
  have H := Lib.hid h
  have HY := Lib.hid hy
  have HV := Lib.hid hval
  have HL := Lib.hid hyl
  clear h hx hy hval hyl
  have h64 : 0 ≤ (i : Int) % 64 := by omega
  have h65 : (i : Int) % 64 < 64 := by omega
  go_enter Tryf.func84, Tryf.ntmps84
  go_wp2_with fail
  refine (word_any v ws (i / 64) y _ H.out (by omega) HY.out).mono ?_
  rintro e w1 ⟨rfl, rfl⟩
  go_wp2_with fail
  go_ret
  have e1 : bits BinOp.and IntKind.u64 ((y : Int) / 2 ^ (i % 64)) 1 = (x : Int) := by
    have e2 : ((y : Int) / 2 ^ (i % 64)) = ((y / 2 ^ (i % 64) : Nat) : Int) := by simp
    rw [e2]
    have h1 : y / 2 ^ (i % 64) ≤ y := Nat.div_le_self _ _
    have := bits_and_u64_nat (y / 2 ^ (i % 64)) 1 (Nat.lt_of_le_of_lt h1 HL.out) (by decide)
    rw [Nat.and_one_is_mod, HV.out] at this
    exact this
  rw [e1]
  exact ⟨rfl, rfl⟩

set_option maxHeartbeats 400000 in
theorem length_any (v : Value) (ws : List Nat) (w : World) (h : Rd .u64 w v ws) (hl : ws.length ≤ 17592186044416) :
    Calls Tryf.prog 83 #[v] w fun e w' => e = .returned (.int .i64 (blenN (val ws) : Nat)) ∧ w = w' := by
  obtain ⟨a, c, rfl⟩ := h.form
  have hv : val ws < 2 ^ (64 * ws.length) := by rw [← pow64]; exact val_lt ws h.1
  have H := Lib.hid h
  have HV := Lib.hid hv
  clear h hv
  generalize hb : blenN (val ws) = b
  have HB := Lib.hid hb
  clear hb
  go_enter Tryf.func83, Tryf.ntmps83
  go_wp2_with fail
  go_loop [3] (fun i => ∃ k : Nat, k ≤ 64 * ws.length ∧ i = .int .i64 k ∧ Hid (val ws < 2 ^ k)) (fun i => (intOf i).toNat)
  case atStart => exact ⟨64 * ws.length, Nat.le_refl _, by rw [show ((64 * ws.length : Nat) : Int) = (ws.length : Int) * 64 by omega], HV.out⟩
  case round =>
    obtain ⟨k, hk, rfl, hn⟩ := hrel
    cases k with
    | zero =>
      go_wp2_with fail
      go_ret
      rw [← HB.out, blenN_unique hn.out (.inl rfl)]
      exact ⟨rfl, rfl⟩
    | succ j =>
      obtain ⟨x, hx⟩ : ∃ x, bitN (val ws) j = x := ⟨_, rfl⟩
      have HX := Lib.hid hx
      clear hx
      by_cases h0 : x = 0
      · subst h0
        go_wp2_with fail
        refine (bit_any _ ws j 0 _ H.out (by omega) HX.out).mono ?_
        rintro e w1 ⟨rfl, rfl⟩
        go_wp2_with fail
        go_round
        case rel => exact ⟨j, by omega, by go_num, bit_step hn.out HX.out⟩
        case measure => simp [intOf]
      · have hx1 : ((x : Int) == 0) = false := by simp [h0]
        go_wp2_with fail
        refine (bit_any _ ws j x _ H.out (by omega) HX.out).mono ?_
        rintro e w1 ⟨rfl, rfl⟩
        go_wp2_with fail
        go_ret
        rw [← HB.out, blenN_unique hn.out (.inr (bit_stop (by rw [show j + 1 - 1 = j from rfl, HX.out]; exact h0)))]
        exact ⟨rfl, rfl⟩

/-- The length of an integer's absolute value in bits. -/
def blen (z : Int) : Nat := blenN z.natAbs

theorem isU_iff (z : Int) : isU z = (decide (0 ≤ sgnZ z) && decide (blen z ≤ 64)) := by
  rw [Bool.eq_iff_iff]
  simp only [isU, decide_eq_true_iff, Bool.and_eq_true, blen, blenN_le_iff]
  have h64 : (2 : Nat) ^ 64 = 18446744073709551616 := by decide
  rw [h64]
  rcases sgnZ_cases z with ⟨h1, h2, h3⟩ | ⟨h1, h3⟩ | ⟨h1, h2, h3⟩ <;> rw [h3] <;> omega

theorem cmpZ_lt {a b : Int} (h : a < b) : cmpZ a b = -1 := if_pos h

theorem cmpZ_gt {a b : Int} (h : b < a) : cmpZ a b = 1 := by rw [cmpZ, if_neg (by omega), if_pos h]

theorem cmpZ_eq {a b : Int} (h : a = b) : cmpZ a b = 0 := by rw [cmpZ, if_neg (by omega), if_neg (by omega)]

theorem cmpZ_sgn_lt {a b : Int} (h : sgnZ a < sgnZ b) : cmpZ a b = -1 := by
  rcases sgnZ_cases a with ⟨h1, h2, h3⟩ | ⟨h1, h3⟩ | ⟨h1, h2, h3⟩ <;> rcases sgnZ_cases b with ⟨k1, k2, k3⟩ | ⟨k1, k3⟩ | ⟨k1, k2, k3⟩ <;> rw [h3, k3] at h <;> first | (exact cmpZ_lt (by omega)) | omega

theorem cmpZ_sgn_gt {a b : Int} (h : sgnZ b < sgnZ a) : cmpZ a b = 1 := by
  rcases sgnZ_cases a with ⟨h1, h2, h3⟩ | ⟨h1, h3⟩ | ⟨h1, h2, h3⟩ <;> rcases sgnZ_cases b with ⟨k1, k2, k3⟩ | ⟨k1, k3⟩ | ⟨k1, k2, k3⟩ <;> rw [h3, k3] at h <;> first | (exact cmpZ_gt (by omega)) | omega

theorem cmpZ_sgn_neg {a b : Int} (h : sgnZ a = sgnZ b) (hn : sgnZ a < 0) : cmpZ b.natAbs a.natAbs = cmpZ a b := by
  rcases sgnZ_cases a with ⟨h1, h2, h3⟩ | ⟨h1, h3⟩ | ⟨h1, h2, h3⟩ <;> rcases sgnZ_cases b with ⟨k1, k2, k3⟩ | ⟨k1, k3⟩ | ⟨k1, k2, k3⟩ <;> rw [h3, k3] at h <;> rw [h3] at hn <;> first | omega | skip
  rcases Int.lt_trichotomy a b with q | q | q
  · rw [cmpZ_lt q, cmpZ_lt (by omega)]
  · rw [cmpZ_eq q, cmpZ_eq (by omega)]
  · rw [cmpZ_gt q, cmpZ_gt (by omega)]

theorem cmpZ_sgn_pos {a b : Int} (h : sgnZ a = sgnZ b) (hn : ¬ sgnZ a < 0) : cmpZ a.natAbs b.natAbs = cmpZ a b := by
  have ha : 0 ≤ a := by rcases sgnZ_cases a with ⟨h1, h2, h3⟩ | ⟨h1, h3⟩ | ⟨h1, h2, h3⟩ <;> rw [h3] at hn <;> omega
  have hb : 0 ≤ b := by rw [h] at hn; rcases sgnZ_cases b with ⟨h1, h2, h3⟩ | ⟨h1, h3⟩ | ⟨h1, h2, h3⟩ <;> rw [h3] at hn <;> omega
  rw [Int.natAbs_of_nonneg ha, Int.natAbs_of_nonneg hb]

end Go.Proofs.YtocadbghhoibnaaFmt

/- The reference: Int64, IsInt64 by values: contracts. -/
namespace Go.Proofs.YtocadbghhoibnaaFmt
open Go.RowKit

def c63 : Nat := 9223372036854775808

def c62 : Nat := 9223372036854775807

end Go.Proofs.YtocadbghhoibnaaFmt

/- spec.IsInt64 by values (printed by lawgen.py). -/
namespace Go.Proofs.YtocadbghhoibnaaFmt
open Go.RowKit

/-- A slice that reads as words. -/
def IsR (ws : List Nat) (x : Value) (w : World) : Prop := Rd .u64 w x ws

theorem IsR.ext {ws : List Nat} {x : Value} {w w' : World} (h : IsR ws x w) (he : Ext w w') : IsR ws x w' := Rd.ext h he

theorem rd_one (w : World) (x : Nat) (hx : x < 18446744073709551616) : Rd .u64 (w.alloc (.cells #[.int .u64 (x : Nat)] 36)) (.slice (some ⟨w.heap.size, 0, none⟩) 1 1) [x] := by
  refine ⟨by simpa [lim] using hx, _, 1, rfl, by simp, by simp, by simp, fun i hi => ⟨_, _, rfl, ?_⟩⟩
  simp at hi
  subst hi
  rw [blk_cell (heap_alloc_new _ _)]
  rfl

theorem specInteger_c (n : Bool) (ws : List Nat) (z : Int) (v : Value) (w : World) (h : IsR ws v w) (hz : ival n ws = z) (hl : ws.length ≤ 1) :
    Calls Tryf.prog 47 #[.bool n, v] w (ResR (IsC 1 z) w) := by
  subst hz
  exact (specInteger_any n v ws w h (by omega)).mono fun e w' h => numC_of 1 hl h

theorem leZ_lo {z : Int} (h : -9223372036854775808 ≤ z) : decide (cmpZ (-9223372036854775808) z ≤ 0) = true := by
  refine decide_eq_true ?_
  unfold cmpZ; split <;> first | omega | (split <;> omega)

theorem leZ_hi {z : Int} (h : z ≤ 9223372036854775807) : decide (cmpZ z 9223372036854775807 ≤ 0) = true := by
  refine decide_eq_true ?_
  unfold cmpZ; split <;> first | omega | (split <;> omega)

theorem gtZ_lo {z : Int} (h : z < -9223372036854775808) : decide (cmpZ (-9223372036854775808) z ≤ 0) = false := by
  refine decide_eq_false ?_
  unfold cmpZ; split <;> first | omega | (split <;> omega)

theorem gtZ_hi {z : Int} (h : 9223372036854775807 < z) : decide (cmpZ z 9223372036854775807 ≤ 0) = false := by
  refine decide_eq_false ?_
  unfold cmpZ; split <;> first | omega | (split <;> omega)

end Go.Proofs.YtocadbghhoibnaaFmt

/- spec.SetString: contract. -/
namespace Go.Proofs.YtocadbghhoibnaaFmt
open Go.RowKit

/-- What is known ahead of the reference's digits. -/
structure SpPre (s : ByteArray) (base : Nat) (neg u : Bool) (b q : Nat) (may : Bool) : Prop where
  b2 : 2 ≤ b
  b62 : b ≤ 62
  qs : q ≤ s.size
  law : numS (bts s 0) base = (spRun u b may false 0 (bts s q)).map fun n => bif neg then -(n : Int) else (n : Int)

theorem sgnS_bif {s : ByteArray} {neg : Bool} {j : Nat} (h : SgnS s neg j) (base : Nat) : numS (bts s 0) base = (natS (bts s j) base).map fun n => bif neg then -(n : Int) else (n : Int) := by
  rw [h.2 base]
  cases neg <;> rfl

theorem spPre_base {s : ByteArray} {base : Nat} {neg : Bool} {j : Nat} (h : SgnS s neg j) (h2 : 2 ≤ base) (h62 : base ≤ 62) : SpPre s base neg false base j false :=
  ⟨h2, h62, h.1, by rw [sgnS_bif h, natS_base (by omega)]⟩

theorem pfx_len (l : List Nat) : (pfx l).2 ≤ l.length ∧ 2 ≤ (pfx l).1 ∧ (pfx l).1 ≤ 16 := by
  unfold pfx
  split
  · repeat' split
    all_goals (simp; try omega)
  · simp

theorem spPre_zero {s : ByteArray} {neg : Bool} {j b n : Nat} (h : SgnS s neg j) (hp : pfx (bts s j) = (b, n)) : SpPre s 0 neg true b (j + n) (decide (0 < n)) := by
  have hl := pfx_len (bts s j)
  rw [hp, bts_len] at hl
  refine ⟨hl.2.1, by omega, by have := h.1; omega, ?_⟩
  rw [sgnS_bif h]
  unfold natS
  rw [if_pos rfl, hp, bts_drop]

/-- Where the text begins behind a sign. -/
def sgAt (s : ByteArray) : Nat := if sgd (bts s 0) = true then 1 else 0

def sgNeg (s : ByteArray) : Bool := decide (0 < s.size) && (bts s 0).head? == some 45

theorem sgn_all (s : ByteArray) : SgnS s (sgNeg s) (sgAt s) := by
  unfold sgNeg sgAt
  by_cases h0 : 0 < s.size
  · have hc := bts_cons h0
    by_cases h45 : s[0].toNat = 45
    · rw [h45] at hc
      have := sgn_minus hc h0
      rw [hc]
      simpa [sgd, h0] using this
    · by_cases h43 : s[0].toNat = 43
      · rw [h43] at hc
        have := sgn_plus hc h0
        rw [hc]
        simpa [sgd, h0] using this
      · have := sgn_none hc h45 h43
        rw [hc, sgd_other h45 h43]
        have e : (s[0].toNat == 45) = false := by rw [beq_eq_false_iff_ne]; exact h45
        simpa [h0, e] using this
  · have hc : bts s 0 = [] := bts_nil (by omega)
    rw [hc]
    refine ⟨by simp [sgd], fun base => ?_⟩
    simp [sgd, hc, numS]

def SpL (w1 : World) (s : ByteArray) (u : Bool) (b : Nat) (R : Option Nat) (v7 v9 v12 v13 : Value) (wr : World) : Prop :=
  ∃ (q v : Nat) (may done : Bool) (rs : List Nat), v7 = .int .i64 (q : Nat) ∧ v9 = .bool may ∧ v13 = .bool done ∧ Own .u64 wr 0 36 v12 rs ∧ norm rs = rs ∧ val rs = v ∧ q ≤ s.size ∧ spRun u b may done v (bts s q) = R ∧ v < 2 ^ (6 * q) ∧ Ext w1 wr

theorem dig_grow {v b d q : Nat} (h : v < 2 ^ (6 * q)) (hb : b ≤ 62) (hd : d < b) : v * b + d < 2 ^ (6 * (q + 1)) := by
  have e : 2 ^ (6 * (q + 1)) = 2 ^ (6 * q) * 64 := by rw [Nat.mul_add, Nat.pow_add]
  rw [e]
  have h1 : (v + 1) * b ≤ 2 ^ (6 * q) * 62 := Nat.mul_le_mul h hb
  rw [Nat.add_mul] at h1
  omega

theorem fit_len {v q size L : Nat} {rs : List Nat} (h : v < 2 ^ (6 * q)) (hq : q ≤ size) (hs : 6 * size ≤ 64 * L) (hn : norm rs = rs) (hv : val rs = v) : rs.length ≤ L := by
  refine len_of_val hn ?_
  rw [hv, pow64]
  exact Nat.lt_of_lt_of_le h (Nat.pow_le_pow_right (by decide) (by omega))

set_option maxRecDepth 100000 in
set_option maxHeartbeats 4000000 in
theorem specSetString_any (s : ByteArray) (base L : Nat) (w : World) (hs : s.size ≤ 9223372036854775800) (hb : base = 0 ∨ 2 ≤ base) (hb2 : base ≤ 62) (hL : L + 4 ≤ 17592186044416) (hfit : 6 * s.size ≤ 64 * L) :
    Calls Tryf.prog 22 #[.string s, .int .i64 (base : Nat)] w (ResR (IsP L (numS (bts s 0) base)) w) := by
  have hsa := sgn_all s
  obtain ⟨neg, hneg⟩ : ∃ neg, sgNeg s = neg := ⟨_, rfl⟩
  obtain ⟨j, hj⟩ : ∃ j, sgAt s = j := ⟨_, rfl⟩
  rw [hneg, hj] at hsa
  have hjl : j ≤ 1 := by rw [← hj]; unfold sgAt; split <;> omega
  have HSA := Lib.hid hsa
  have HNEG := Lib.hid hneg
  have HJ := Lib.hid hj
  have hjs := hsa.1
  obtain ⟨r, hr⟩ : ∃ r, numS (bts s 0) base = r := ⟨_, rfl⟩
  rw [hr]
  have HRR := Lib.hid hr
  clear hsa hneg hj hr
  go_enter Tryf.func22, Tryf.ntmps22
  go_upto_region 1 with fail
  go_cut [6] from 15 to 22 (fun v6 wx => v6 = .bool neg ∧ w.alloc (.cells #[.bool false, .slice none 0 0] 38) = wx)
  case first =>
    by_cases h0 : 0 < s.size
    · have e0 : decide (0 < s.size) = true := decide_eq_true h0
      by_cases h45 : s[0].toNat = 45
      · have e45 : ((s[0].toNat : Int) == 45) = true := by rw [h45]; rfl
        obtain rfl : neg = true := by rw [← HNEG.out]; unfold sgNeg; rw [bts_cons h0, h45]; simp [h0]
        clear h45
        go_wp2_with fail
        go_meet
        case rel => exact ⟨rfl, rfl⟩
      · have e45 : ((s[0].toNat : Int) == 45) = false := by rw [beq_eq_false_iff_ne]; omega
        obtain rfl : neg = false := by rw [← HNEG.out]; unfold sgNeg; rw [bts_cons h0]; simp [h45]
        clear h45
        go_wp2_with fail
        go_meet
        case rel => exact ⟨rfl, rfl⟩
    · have e0 : decide (0 < s.size) = false := decide_eq_false h0
      obtain rfl : neg = false := by rw [← HNEG.out]; unfold sgNeg; simp [h0]
      go_wp2_with fail
      go_meet
      case rel => exact ⟨rfl, rfl⟩
  case rest =>
    obtain ⟨rfl, rfl⟩ := hcut
    go_wp2_with fail
    refine (signed_any s _ (by omega)).mono ?_
    rintro e w' ⟨rfl, rfl⟩
    obtain ⟨g, hg⟩ : ∃ g, sgd (bts s 0) = g := ⟨_, rfl⟩
    rw [hg]
    have HG := Lib.hid hg
    clear hg
    have HP0 := Lib.hid (heap_alloc_new w (.cells #[.bool false, .slice none 0 0] 38))
    have HE0 := Lib.hid (Ext.alloc w (.cells #[.bool false, .slice none 0 0] 38))
    have hszn : (w.alloc (.cells #[.bool false, .slice none 0 0] 38)).heap.size = w.heap.size + 1 := by simp
    generalize w.alloc (.cells #[.bool false, .slice none 0 0] 38) = w1 at *
    have hsz1 : w.heap.size < w1.heap.size := by omega
    clear hszn
    go_upto_if 24 with fail
    go_cut [7] from 23 to 24 (fun v7 wx => v7 = .int .i64 (j : Nat) ∧ w1 = wx)
    case first =>
      cases g
      · obtain rfl : j = 0 := by rw [← HJ.out]; unfold sgAt; rw [HG.out]; rfl
        go_wp2_with fail
        go_meet
        case rel => exact ⟨rfl, rfl⟩
      · obtain rfl : j = 1 := by rw [← HJ.out]; unfold sgAt; rw [HG.out]; rfl
        go_wp2_with fail
        go_meet
        case rel => exact ⟨rfl, rfl⟩
    case rest =>
      obtain ⟨rfl, rfl⟩ := hcut
      obtain ⟨u, hu⟩ : ∃ u : Bool, ((base : Int) == 0) = u := ⟨_, rfl⟩
      have HU := Lib.hid hu
      go_upto_if 28 with fail
      clear hu
      go_cut [1, 7, 9] from 29 to 41 (fun v1 v7 v9 wx => ∃ (b q : Nat) (may : Bool), v1 = .int .i64 (b : Nat) ∧ v7 = .int .i64 (q : Nat) ∧ v9 = .bool may ∧ SpPre s base neg u b q may ∧ w1 = wx)
      case first =>
        by_cases h0 : base = 0
        · subst h0
          obtain rfl : u = true := by rw [← HU.out]; rfl
          obtain ⟨b, n, hp⟩ : ∃ b n, pfx (bts s j) = (b, n) := ⟨_, _, rfl⟩
          have HREL := Lib.hid (spPre_zero HSA.out hp)
          have hl := pfx_len (bts s j)
          rw [hp, bts_len] at hl
          have hp' : pfx (bts (s.extract j s.size) 0) = (b, n) := by rw [bts_tail s j hjs]; exact hp
          have HP := Lib.hid hp'
          have hext : (s.extract j s.size).size ≤ 9223372036854775807 := by rw [size_tail s j hjs]; omega
          clear hp hp'
          obtain ⟨m, hm⟩ : ∃ m, decide (0 < n) = m := ⟨_, rfl⟩
          have hm' : decide ((0 : Int) < (n : Int)) = m := by rw [← hm]; simp
          rw [hm] at HREL
          go_wp2_with fail
          refine (prefix_any _ b n _ hext HP.out).mono ?_
          rintro e w' ⟨rfl, rfl⟩
          go_wp2_with fail
          go_meet
          case rel => exact ⟨b, j + n, m, rfl, rfl, rfl, HREL.out, rfl⟩
        · have h2 : 2 ≤ base := by omega
          obtain rfl : u = false := by rw [← HU.out, beq_eq_false_iff_ne]; omega
          have HREL := Lib.hid (spPre_base HSA.out h2 hb2)
          go_wp2_with fail
          go_meet
          case rel => exact ⟨base, j, false, rfl, rfl, rfl, HREL.out, rfl⟩
      case rest =>
        obtain ⟨b, q0, may0, rfl, rfl, rfl, hpre, rfl⟩ := hcut
        have HPRE := Lib.hid hpre
        have hbl : 2 ≤ b := hpre.b2
        have hbh : b ≤ 62 := hpre.b62
        have hq0 := hpre.qs
        clear hpre
        obtain ⟨R, hR⟩ : ∃ R, spRun u b may0 false 0 (bts s q0) = R := ⟨_, rfl⟩
        have HLAW : Hid (r = R.map fun n => bif neg then -(n : Int) else (n : Int)) := Lib.hid (by rw [← HRR.out, HPRE.out.law, hR])
        have HR0 := Lib.hid hR
        clear hR
        go_wp2_with fail
        go_loopw [7, 9, 12, 13] (fun v7 v9 v12 v13 wr => SpL w1 s u b R v7 v9 v12 v13 wr) (fun v7 _ _ _ _ => s.size - (intOf v7).toNat)
        case atStart => exact ⟨q0, 0, may0, false, [], rfl, rfl, rfl, ⟨by simp, row_start .u64 _ _ _ _ rfl (Nat.zero_le _)⟩, rfl, rfl, hq0, HR0.out, Nat.pow_pos (by decide), Ext.alloc _ _⟩
        case round =>
          obtain ⟨q, v, may, done, rs, rfl, rfl, rfl, hown, hnr, hvr, hqs, hrun, hvl, hext⟩ := hrel
          have hlr : rs.length ≤ L := fit_len hvl hqs hfit hnr hvr
          obtain ⟨a5, c5, rfl⟩ := hown.form
          have hpw := hext.block HP0.out
          have HPW := Lib.hid hpw
          have HO := Lib.hid hown
          have HN := Lib.hid hnr
          have HV := Lib.hid hvr
          have HE := Lib.hid hext
          have HEW := Lib.hid (HE0.out.trans hext)
          have HRUN := Lib.hid hrun
          have HVL := Lib.hid hvl
          have d0 := blk_cell hpw 0
          have d1 := blk_cell hpw 1
          have f0 := blk_free hpw 0
          have f1 := blk_free hpw 1
          simp at d0 d1
          have HNO : Hid (R = none → ResR (IsP L r) w (.returned (.tuple #[.agg #[.bool false, .slice none 0 0], .bool false])) ((wr.setCell ⟨w.heap.size, 0, none⟩ (.bool false)).setCell ⟨w.heap.size, 1, none⟩ (.slice none 0 0))) := Lib.hid (fun hR => by
            obtain ⟨e0, e1, hu⟩ := set2 hpw (.bool false) (.slice none 0 0)
            have hr : r = none := by rw [HLAW.out, hR]; rfl
            exact ⟨hu.ext HEW.out (by omega), _, rfl, false, none, 0, 0, by rw [hr]; rfl, by rw [hr]; exact isC_zero _ _⟩)
          clear hpw hown hnr hvr hext hrun hvl
          by_cases hlt : q < s.size
          · have hcons := bts_cons hlt
            have hc256 : s[q].toNat < 256 := s[q].toNat_lt
            have HCONS := Lib.hid hcons
            clear hcons
            by_cases h95 : s[q].toNat = 95
            · have e95 : ((s[q].toNat : Int) == 95) = true := by rw [h95]; rfl
              have hrun := HRUN.out
              rw [HCONS.out, h95, spRun, if_pos rfl] at hrun
              clear h95
              by_cases hum : u = true ∧ may = true
              · obtain ⟨rfl, rfl⟩ := hum
                rw [if_pos ⟨rfl, rfl⟩] at hrun
                have HREL : Hid (SpL w1 s true b R (.int .i64 ((q + 1 : Nat) : Int)) (.bool false) (.slice a5 rs.length c5) (.bool false) wr) := Lib.hid ⟨q + 1, v, false, false, rs, rfl, rfl, rfl, HO.out, HN.out, HV.out, by omega, hrun, Nat.lt_of_lt_of_le HVL.out (Nat.pow_le_pow_right (by decide) (by omega)), HE.out⟩
                clear hrun
                go_wp2_with fail
                go_roundw
                case rel => exact HREL.out
                case measure => simp [intOf]; omega
              · rw [if_neg hum] at hrun
                have HF := Lib.hid (HNO.out hrun.symm)
                clear hrun
                cases u
                · go_wp2_with fail
                  exact bodyPost_ret (v := .tuple #[.agg #[.bool false, .slice none 0 0], .bool false]) (results_spec2 rfl _ rfl rfl (set2 HPW.out (.bool false) (.slice none 0 0)).1 (set2 HPW.out (.bool false) (.slice none 0 0)).2.1) rfl HF.out
                · cases may
                  · go_wp2_with fail
                    exact bodyPost_ret (v := .tuple #[.agg #[.bool false, .slice none 0 0], .bool false]) (results_spec2 rfl _ rfl rfl (set2 HPW.out (.bool false) (.slice none 0 0)).1 (set2 HPW.out (.bool false) (.slice none 0 0)).2.1) rfl HF.out
                  · exact absurd ⟨rfl, rfl⟩ hum
            · have e95 : ((s[q].toNat : Int) == 95) = false := by rw [beq_eq_false_iff_ne]; omega
              have hrun := HRUN.out
              rw [HCONS.out, spRun, if_neg h95] at hrun
              obtain ⟨c, hc⟩ : ∃ c, s[q].toNat = c := ⟨_, rfl⟩
              rw [hc] at hrun
              have HRUN2 := Lib.hid hrun
              have HC := Lib.hid hc
              clear h95 hrun hc
              go_wp2_with fail
              refine (digit_any _ b _ hc256 hbl hbh).mono ?_
              rintro e w' ⟨rfl, rfl⟩
              rw [HC.out]
              by_cases hdb : dgv c b < b
              · have hrun := HRUN2.out
                rw [if_neg (by omega)] at hrun
                obtain ⟨d, hd⟩ : ∃ d, dgv c b = d := ⟨_, rfl⟩
                have hdig : digI c b = (d : Int) := by unfold digI; rw [if_pos hdb, hd]
                rw [hd] at hrun hdb
                rw [hdig]
                have HRUN3 := Lib.hid hrun
                clear hd hdig hrun
                have e3 : decide ((d : Int) < 0) = false := decide_eq_false (by omega)
                go_wp2_with fail
                refine (times_any _ rs b _ HO.out.read (by omega) (by omega)).mono ?_
                rintro e w2 ⟨he2, v2, rs2, rfl, ho2, hn2, hv2, hl2⟩
                have HE2 := Lib.hid (HE.out.trans he2)
                have HO2 := Lib.hid ho2
                have HV2 : Hid (val rs2 = v * b) := Lib.hid (by rw [hv2, HV.out])
                obtain ⟨a2, c2, rfl⟩ := ho2.form
                clear he2 ho2 hn2 hv2
                go_wp2_with fail
                refine (specSum_any _ _ rs2 [d] _ (L + 1) (HO2.out.read.ext (Ext.alloc _ _)) (rd_one _ d (by omega)) (by omega) (by omega) (by simp)).mono ?_
                rintro e w3 ⟨he3, v3, rs3, rfl, ho3, hn3, hv3, hl3⟩
                have HREL : Hid (SpL w1 s u b R (.int .i64 ((q + 1 : Nat) : Int)) (.bool true) v3 (.bool true) w3) := Lib.hid ⟨q + 1, v * b + d, true, true, rs3, rfl, rfl, rfl, ho3, hn3, by rw [hv3, HV2.out]; simp [val], by omega, HRUN3.out, dig_grow HVL.out hbh hdb, (HE2.out.trans (Ext.alloc _ _)).trans he3⟩
                clear he3 ho3 hn3 hv3 hl3
                go_wp2_with fail
                go_roundw
                case rel => exact HREL.out
                case measure => simp [intOf]; omega
              · have hrun := HRUN2.out
                rw [if_pos (by omega)] at hrun
                have HF := Lib.hid (HNO.out hrun.symm)
                have hdig : digI c b = -1 := by unfold digI; rw [if_neg hdb]
                rw [hdig]
                clear hdig hrun
                go_wp2_with fail
                exact bodyPost_ret (v := .tuple #[.agg #[.bool false, .slice none 0 0], .bool false]) (results_spec2 rfl _ rfl rfl (set2 HPW.out (.bool false) (.slice none 0 0)).1 (set2 HPW.out (.bool false) (.slice none 0 0)).2.1) rfl HF.out
          · have hqe : q = s.size := by omega
            have hrun := HRUN.out
            rw [bts_nil (by omega), spRun] at hrun
            clear hqe
            have elt : decide (q < s.size) = false := decide_eq_false hlt
            cases done
            · have HF := Lib.hid (HNO.out hrun.symm)
              clear hrun
              go_wp2_with fail
              exact bodyPost_ret (v := .tuple #[.agg #[.bool false, .slice none 0 0], .bool false]) (results_spec2 rfl _ rfl rfl (set2 HPW.out (.bool false) (.slice none 0 0)).1 (set2 HPW.out (.bool false) (.slice none 0 0)).2.1) rfl HF.out
            · have hrv : r = some (bif neg then -(v : Int) else (v : Int)) := by rw [HLAW.out, ← hrun]; rfl
              have HRV := Lib.hid hrv
              clear hrun hrv d0 d1 f0 f1
              go_wp2_with fail
              refine (specInteger_v neg v L _ _ ⟨rs, HO.out, HN.out, HV.out, hlr⟩ (by omega)).mono ?_
              rintro e w2 ⟨he2, y2, rfl, hy⟩
              obtain ⟨n', a', l', c', rfl⟩ := hy.form
              have hp2 := he2.block HPW.out
              have d0 := blk_cell hp2 0
              have d1 := blk_cell hp2 1
              have f0 := blk_free hp2 0
              have f1 := blk_free hp2 1
              simp at d0 d1
              have HP2 := Lib.hid hp2
              have HE2 := Lib.hid (HEW.out.trans he2)
              have HY := Lib.hid hy
              clear he2 hp2 hy
              go_wp2_with fail
              obtain ⟨e0, e1, hu⟩ := set2 HP2.out (.bool n') (.slice a' l' c')
              exact bodyPost_ret (v := .tuple #[.agg #[.bool n', .slice a' l' c'], .bool true]) (results_spec2 rfl _ rfl rfl e0 e1) rfl ⟨hu.ext HE2.out (by omega), _, rfl, n', a', l', c', by rw [HRV.out]; rfl, by rw [HRV.out]; exact HY.out.upd HP2.out (by decide) hu⟩

end Go.Proofs.YtocadbghhoibnaaFmt

/- SetString at any text that can be: contracts for the laws; spec.Bare, laws.plain. -/
namespace Go.Proofs.YtocadbghhoibnaaFmt
open Go.RowKit

theorem scRun_lt (u : Bool) (b : Nat) (hb : 1 ≤ b) : ∀ (l : List Nat) (st : Sc), (scRun u b st l).1.v < (st.v + 1) * b ^ l.length
  | [], st => by simp [scRun]
  | c :: cs, st => by
    unfold scRun
    have hp : 1 ≤ b ^ cs.length := Nat.pow_pos hb
    have e : (st.v + 1) * b ^ (c :: cs).length = (st.v + 1) * b * b ^ cs.length := by rw [List.length_cons, Nat.pow_succ, Nat.mul_assoc, Nat.mul_comm b]
    rw [e]
    have h1 : 1 ≤ b * b ^ cs.length := Nat.mul_le_mul hb hp
    cases hs : scStep u b st c with
    | none =>
      have := Nat.mul_le_mul_left (st.v + 1) h1
      simp only
      rw [Nat.mul_assoc]
      omega
    | some st' =>
      refine Nat.lt_of_lt_of_le (scRun_lt u b hb cs st') (Nat.mul_le_mul_right _ ?_)
      unfold scStep at hs
      split at hs
      · cases hs
        have := Nat.mul_le_mul_left (st.v + 1) hb
        simp only
        omega
      · split at hs
        · cases hs
        · cases hs
          simp only
          rw [Nat.add_mul]
          omega

theorem fit_size {s : ByteArray} {base i0 L : Nat} (hb : base ≤ 62) (h : 6 * s.size ≤ 64 * L) : FitS s base i0 L := by
  intro b h1 h2 h3
  refine ⟨fun _ => by omega, fun _ => by omega, fun _ => by omega, fun g1 g2 g3 u st q _ hv => ?_⟩
  have hlt := scRun_lt u b (by omega) (bts s q) st
  rw [hv, bts_len, Nat.zero_add, Nat.one_mul] at hlt
  refine Nat.lt_of_lt_of_le hlt ?_
  have hb64 : b ≤ 2 ^ 6 := by
    have : b ≤ 62 := by omega
    exact Nat.le_trans this (by decide)
  refine Nat.le_trans (Nat.pow_le_pow_left hb64 _) ?_
  rw [← Nat.pow_mul, pow64]
  exact Nat.pow_le_pow_right (by decide) (by omega)

theorem setString_s (s : ByteArray) (base : Nat) (a0 a1 a2 : Addr) (w : World) (hs : s.size ≤ 140737488357000) (hS : Sent a0 a1 a2 w) (hb : base = 0 ∨ 2 ≤ base) (hb2 : base ≤ 62) :
    Calls Tryf.prog 15 #[.string s, .int .i64 (base : Nat)] w (ResR (IsP 13194139533500 (numS (bts s 0) base)) w) :=
  setString_any s base 13194139533500 a0 a1 a2 w (by omega) hS hb hb2 (by decide) (fit_size hb2 (by omega))

theorem implSetString_s (s : ByteArray) (base : Nat) (a0 a1 a2 : Addr) (w : World) (hs : s.size ≤ 140737488357000) (hS : Sent a0 a1 a2 w) (hb : base = 0 ∨ 2 ≤ base) (hb2 : base ≤ 62) :
    Calls Tryf.prog 27 #[.string s, .int .i64 (base : Nat)] w (ResR (IsP 13194139533500 (numS (bts s 0) base)) w) :=
  implSetString_any s base 13194139533500 a0 a1 a2 w (by omega) hS hb hb2 (by decide) (fit_size hb2 (by omega))

theorem specSetString_s (s : ByteArray) (base : Nat) (w : World) (hs : s.size ≤ 140737488357000) (hb : base = 0 ∨ 2 ≤ base) (hb2 : base ≤ 62) :
    Calls Tryf.prog 22 #[.string s, .int .i64 (base : Nat)] w (ResR (IsP 13194139533500 (numS (bts s 0) base)) w) :=
  specSetString_any s base 13194139533500 w (by omega) hb hb2 (by decide) (by omega)

/-- Bare answers. -/
theorem bare_any (s : ByteArray) (base : Nat) (w : World) (hs : s.size ≤ 140737488357000) :
    Calls Tryf.prog 26 #[.string s, .int .i64 (base : Nat)] w (BoolR (fun _ => True) w) := by
  go_enter Tryf.func26, Tryf.ntmps26
  go_wp2_with fail
  refine (signed_any s _ (by omega)).mono ?_
  rintro e w' ⟨rfl, rfl⟩
  obtain ⟨g, hg⟩ : ∃ g, sgd (bts s 0) = g := ⟨_, rfl⟩
  rw [hg]
  have HG := Lib.hid hg
  clear hg
  go_upto_if 7 with fail
  go_cut [0] from 6 to 9 (fun v0 wx => (∃ t : ByteArray, v0 = .string t ∧ t.size ≤ 140737488357000) ∧ w = wx)
  case first =>
    cases g
    · go_wp2_with fail
      go_meet
      case rel => exact ⟨⟨s, rfl, hs⟩, rfl⟩
    · have h0 : 0 < s.size := by
        rcases Nat.eq_zero_or_pos s.size with h | h
        · have := HG.out; rw [bts_nil (by omega)] at this; cases this
        · exact h
      have HT := Lib.hid (size_tail s 1 h0)
      go_wp2_with fail
      go_meet
      case rel => exact ⟨⟨s.extract 1 s.size, rfl, by rw [HT.out]; omega⟩, rfl⟩
  case rest =>
    obtain ⟨⟨t, rfl, ht⟩, rfl⟩ := hcut
    by_cases hb0 : base = 0
    · subst hb0
      by_cases h2 : t.size < 2
      · have e2 : decide (t.size < 2) = true := decide_eq_true h2
        go_wp2_with fail
        go_ret
        exact ⟨_, rfl, trivial, rfl⟩
      · have e2 : decide (t.size < 2) = false := decide_eq_false h2
        have h0 : 0 < t.size := by omega
        by_cases h48 : t[0].toNat = 48
        · have e48 : ((t[0].toNat : Int) != 48) = false := by rw [h48]; rfl
          have e48' : ((t[0].toNat : Int) == 48) = true := by rw [h48]; rfl
          clear h48
          go_wp2_with fail
          go_loop [5] (fun i => ∃ k : Nat, k ≤ t.size ∧ i = .int .i64 k) (fun i => t.size - (intOf i).toNat)
          case atStart => exact ⟨1, by omega, rfl⟩
          case round =>
            obtain ⟨k, hk, rfl⟩ := hrel
            by_cases hlt : k < t.size
            · have elt : decide (k < t.size) = true := decide_eq_true hlt
              by_cases h95 : t[k].toNat = 95
              · have e95 : ((t[k].toNat : Int) != 95) = false := by rw [h95]; rfl
                have e95' : ((t[k].toNat : Int) == 95) = true := by rw [h95]; rfl
                clear h95
                go_wp2_with fail
                go_round
                case rel => exact ⟨k + 1, by omega, by go_num⟩
                case measure => simp [intOf]; omega
              · have e95 : ((t[k].toNat : Int) != 95) = true := by rw [bne_iff_ne]; omega
                have e95' : ((t[k].toNat : Int) == 95) = false := by rw [beq_eq_false_iff_ne]; omega
                clear h95
                go_wp2_with fail
                go_ret
                exact ⟨_, rfl, trivial, rfl⟩
            · have elt : decide (k < t.size) = false := decide_eq_false hlt
              go_wp2_with fail
              go_ret
              exact ⟨_, rfl, trivial, rfl⟩
        · have e48 : ((t[0].toNat : Int) != 48) = true := by rw [bne_iff_ne]; omega
          have e48' : ((t[0].toNat : Int) == 48) = false := by rw [beq_eq_false_iff_ne]; omega
          go_wp2_with fail
          go_ret
          exact ⟨_, rfl, trivial, rfl⟩
    · have eb : ((base : Int) != 0) = true := by rw [bne_iff_ne]; omega
      have eb' : ((base : Int) == 0) = false := by rw [beq_eq_false_iff_ne]; omega
      go_wp2_with fail
      go_ret
      exact ⟨_, rfl, trivial, rfl⟩

def PlainP (s : ByteArray) (b : Bool) : Prop := b = true → unsg (bts s 0) ∧ ∀ c ∈ bts s 0, c ≠ 95

/-- plain: no underscore, no sign. -/
theorem plain_any (s : ByteArray) (w : World) (hs : s.size ≤ 140737488357000) :
    Calls Tryf.prog 31 #[.string s] w (BoolR (PlainP s) w) := by
  go_enter Tryf.func31, Tryf.ntmps31
  go_wp2_with fail
  go_loop [3] (fun i => ∃ k : Nat, k ≤ s.size ∧ i = .int .i64 k ∧ Hid (∀ c ∈ (bts s 0).take k, c ≠ 95)) (fun i => s.size - (intOf i).toNat)
  case atStart => exact ⟨0, by omega, rfl, Lib.hid (by simp)⟩
  case round =>
    obtain ⟨k, hk, rfl, HNU⟩ := hrel
    by_cases hlt : k < s.size
    · have elt : decide (k < s.size) = true := decide_eq_true hlt
      by_cases h95 : s[k].toNat = 95
      · have e95 : ((s[k].toNat : Int) == 95) = true := by rw [h95]; rfl
        clear h95
        go_wp2_with fail
        go_ret
        exact ⟨false, rfl, (fun h => by cases h), rfl⟩
      · have e95 : ((s[k].toNat : Int) == 95) = false := by rw [beq_eq_false_iff_ne]; omega
        have HNU2 : Hid (∀ c ∈ (bts s 0).take (k + 1), c ≠ 95) := Lib.hid (by
          have hd : (bts s 0).drop k = s[k].toNat :: bts s (k + 1) := by rw [bts_drop, Nat.zero_add]; exact bts_cons hlt
          have hl : k < (bts s 0).length := by rw [bts_len]; omega
          rw [List.drop_eq_getElem_cons hl] at hd
          rw [List.take_succ_eq_append_getElem hl]
          intro c hc
          rcases List.mem_append.1 hc with h | h
          · exact HNU.out c h
          · rw [List.mem_singleton.1 h, (List.cons.inj hd).1]; exact h95)
        clear h95
        go_wp2_with fail
        go_round
        case rel => exact ⟨k + 1, by omega, by go_num, HNU2⟩
        case measure => simp [intOf]; omega
    · have elt : decide (k < s.size) = false := decide_eq_false hlt
      have HF : Hid (∀ c ∈ bts s 0, c ≠ 95) := Lib.hid (by have := HNU.out; rwa [List.take_of_length_le (by rw [bts_len]; omega)] at this)
      go_wp2_with fail
      refine (signed_any s _ (by omega)).mono ?_
      rintro e w' ⟨rfl, rfl⟩
      obtain ⟨g, hg⟩ : ∃ g, sgd (bts s 0) = g := ⟨_, rfl⟩
      rw [hg]
      have HG := Lib.hid hg
      clear hg
      cases g
      · go_wp2_with fail
        go_ret
        exact ⟨true, rfl, fun _ => ⟨sgd_false HG.out, HF.out⟩, rfl⟩
      · go_wp2_with fail
        go_ret
        exact ⟨false, rfl, (fun h => by cases h), rfl⟩

end Go.Proofs.YtocadbghhoibnaaFmt

/- Texts joined, and what they tell: plain laws. -/
namespace Go.Proofs.YtocadbghhoibnaaFmt
open Go.RowKit

theorem bts_append (x y : ByteArray) : bts (x ++ y) 0 = bts x 0 ++ bts y 0 := by
  unfold bts
  rw [List.drop_zero, List.drop_zero, List.drop_zero, ByteArray.data_append, Array.toList_append, List.map_append]

theorem size_append (x y : ByteArray) : (x ++ y).size = x.size + y.size := by
  have h := bts_len (x ++ y) 0
  rw [bts_append, List.length_append, bts_len, bts_len] at h
  omega

theorem map_some (r : Option Int) : (r.map fun z : Int => -z).isSome = r.isSome := by cases r <;> rfl
theorem map_val (r : Option Int) : (r.map fun z : Int => -z).getD 0 = -(r.getD 0) := by cases r <;> rfl

theorem numS_neg {l : List Nat} {b : Nat} {r : Option Int} (h : unsg l) (hr : numS l b = r) : numS (45 :: l) b = r.map fun z => -z := by
  rw [← hr, numS_un h, numS_minus]
  cases natS l b <;> rfl

theorem numS_pos {l : List Nat} {b : Nat} {r : Option Int} (h : unsg l) (hr : numS l b = r) : numS (43 :: l) b = r := by
  rw [← hr, numS_un h, numS_plus]

theorem numS_zeros {l : List Nat} {b n : Nat} {r : Option Int} (h : unsg l) (hl : l ≠ []) (hb : 2 ≤ b) (hr : numS l b = r) : numS (List.replicate n 48 ++ l) b = r := by
  rw [← hr, numS_un h]
  cases n with
  | zero => rw [List.replicate_zero, List.nil_append, numS_un h]
  | succ n =>
    rw [numS_un (by rw [List.replicate_succ, List.cons_append]; exact unsg_cons (by decide) (by decide)), natS_zeros hb hl]

theorem numS_pre {l p : List Nat} {b : Nat} {r : Option Int} (h : unsg l) (hp : pfx (48 :: p ++ l) = (b, (48 :: p).length)) (hb : b ≠ 0) (hu : ∀ c ∈ l, c ≠ 95) (hr : numS l b = r) : numS (48 :: p ++ l) 0 = r := by
  rw [← hr, numS_un h, numS_un (by rw [List.cons_append]; exact unsg_cons (by decide) (by decide)), natS_pfx hp hb hu]

theorem numS_dec {l : List Nat} {r : Option Int} (h : unsg l) (hp : pfx l = (10, 0)) (hu : ∀ c ∈ l, c ≠ 95) (hr : numS l 10 = r) : numS l 0 = r := by
  rw [← hr, numS_un h, numS_un h]
  have := natS_pfx (l := l) (p := []) (b := 10) (by simpa using hp) (by decide) hu
  rw [List.nil_append] at this
  rw [this]

theorem numS_case {l : List Nat} {b : Nat} {r : Option Int} (h : unsg l) (hb : b ≤ 36) (hr : numS l b = r) : numS (l.map upC) b = r := by
  rw [← hr, numS_un h, numS_un (unsg_up h), natS_up hb]

theorem bts_ne {s : ByteArray} (h : 0 < s.size) : bts s 0 ≠ [] := by
  intro e
  have := bts_len s 0
  rw [e] at this
  simp at this
  omega

theorem pfx_not48 {s : ByteArray} (h : s.size = 0 ∨ ∃ h0 : 0 < s.size, s[0].toNat ≠ 48) : pfx (bts s 0) = (10, 0) := by
  rcases h with h | ⟨h0, h⟩
  · rw [bts_nil (by omega)]; rfl
  · rw [bts_cons h0]; exact pfx_ten h

theorem bytes_nil {s : ByteArray} (h : s.size = 0) : s = { data := #[] } := by
  cases s with
  | mk d =>
    have : d.size = 0 := h
    rw [Array.eq_empty_of_size_eq_zero this]

theorem bytes_some {s : ByteArray} (h : 0 < s.size) : s.toList.isEmpty = false := by
  rw [← decide_eq_emptyBytes s]
  refine decide_eq_false ?_
  rintro rfl
  exact absurd h (by decide)

theorem size_one (c : UInt8) (s : ByteArray) : (({ data := #[c] } : ByteArray) ++ s).size = s.size + 1 := by
  rw [size_append]
  show 1 + s.size = _
  omega

theorem size_two (c d : UInt8) (s : ByteArray) : (({ data := #[c, d] } : ByteArray) ++ s).size = s.size + 2 := by
  rw [size_append]
  show 2 + s.size = _
  omega

theorem bts_one (c : UInt8) (s : ByteArray) : bts ({ data := #[c] } ++ s) 0 = c.toNat :: bts s 0 := by rw [bts_append]; rfl
theorem bts_two (c d : UInt8) (s : ByteArray) : bts ({ data := #[c, d] } ++ s) 0 = c.toNat :: d.toNat :: bts s 0 := by rw [bts_append]; rfl

end Go.Proofs.YtocadbghhoibnaaFmt

/- nat.set, (*Int).Set, Neg, Abs with another receiver: contracts. -/
namespace Go.Proofs.YtocadbghhoibnaaFmt
open Go.RowKit

theorem sizeWord : (Tryf.prog.info? 93).map (·.size) = some 1 := by kernel_rfl

/-- A row whose first cells are overwritten. -/
theorem ownsRow_splice {w : World} {E : TypeId} {g n cap : Nat} {xs ys : List Value} (h : w.ownsRow 0 E 1 (.slice (some ⟨g, 0, none⟩) n cap) n xs) (hl : ys.length = n) :
    ∃ cur : Array Value, w.heap[g]? = some (.cells cur E (0, 0)) ∧ n ≤ cur.size ∧ (w.setRow g (ys ++ cur.toList.drop ys.length).toArray).ownsRow 0 E 1 (.slice (some ⟨g, 0, none⟩) n cap) n ys := by
  obtain ⟨hlen, h2⟩ := h
  rcases h2 with ⟨h3, _⟩ | ⟨g', cap', cur, h3, hb, hg, hle, hcap, hsz, htake⟩
  · simp at h3
  · simp at h3
    obtain ⟨rfl, rfl⟩ := h3
    refine ⟨cur, hg, by omega, by omega, .inr ⟨g, cap, _, rfl, hb, setRow_heap w g cur _ E _ hg, hle, hcap, ?_, ?_⟩⟩
    · simp; omega
    · rw [Nat.mul_one, ← hl]
      simp

theorem upd_setRow (w : World) (g : Nat) (cs : Array Value) : Upd (· = g) w (w.setRow g cs) :=
  ⟨rfl, rfl, rfl, by simp [World.setRow], fun k _ hk => setRow_other w g k cs hk⟩

set_option maxHeartbeats 400000 in
theorem natSet_any (v0 : Value) (vs : List Nat) (u : Value) (xs : List Nat) (w : World) (h0 : Own .u64 w 0 93 v0 vs) (hx : Rd .u64 w u xs) (hl : xs.length ≤ 17592186044416) :
    Calls Tryf.prog 97 #[v0, u] w (NatR v0 xs w) := by
  obtain ⟨a, c, rfl⟩ := h0.form
  have hshape := hx.shape
  obtain ⟨a1, c1, rfl⟩ := hx.form
  have HO := Lib.hid h0.2
  have HX := Lib.hid hx
  have HB := Lib.hid hx.1
  clear h0 hx
  go_enter Tryf.func97, Tryf.ntmps97
  go_wp2_with fail
  refine (make_any _ _ xs.length _ _ HO.out (by omega)).mono ?_
  rintro e w1 ⟨v', ys, rfl, hown, hor⟩
  obtain ⟨u1, u2, u3⟩ := MakeR.upd hor
  rcases hshape with ⟨rfl, _⟩ | ⟨hpos, b, off, cap, hv, hlc, hcap, hcells⟩
  · have hv' : ∃ a' c', v' = .slice a' 0 c' := by
      rcases hown.2 with ⟨rfl, _⟩ | ⟨g, cap, cur, rfl, _⟩
      · exact ⟨_, _, rfl⟩
      · exact ⟨_, _, rfl⟩
    obtain ⟨a', c', rfl⟩ := hv'
    have hO : Own .u64 w1 0 93 (.slice a' 0 c') [] := by
      refine ⟨by simp, ?_⟩
      have : ys = [] := List.eq_nil_of_length_eq_zero (by simpa using hown.1)
      rw [this] at hown
      exact hown
    have HO1 := Lib.hid hO
    have HU1 := Lib.hid u1
    have HU3 := Lib.hid u3
    clear hown hor u1 u2 u3 hO
    go_wp2_with (with_reducible refine wpList_copy_nothing rfl (.tmp 9) (.tmp 10) 80 80 rfl 93 Tryf.underlying80 sizeWord a' a1 0 c' 0 c1 rfl rfl rfl ?_)
    go_ret
    exact ⟨_, rfl, HO1.out, HU1.out, HU3.out⟩
  · simp at hv
    obtain ⟨rfl, rfl⟩ := hv
    obtain ⟨g, cap', rfl, hle, hcap'⟩ := ownsRow_form hown hpos
    obtain ⟨cur, hg, hsz, hfin⟩ := ownsRow_splice (ys := words .u64 xs) hown (words_len _ _)
    have hsrc : ∀ j v, (words .u64 xs)[j]? = some v → w1.cell? ((⟨b, off, none⟩ : Addr).add j) = some v := by
      intro j v hj
      have hjl : j < xs.length := by have := (List.getElem?_eq_some_iff.1 hj).1; rwa [words_len] at this
      have hc1 : w1.cell? ⟨b, off + j, none⟩ = some (.int .u64 (xs.getD j 0 : Nat)) := by
        rcases hor with ⟨rfl, _⟩ | ⟨_, he⟩
        · exact hcells j hjl
        · exact he.cell (hcells j hjl)
      rw [Addr.add_lit, hc1, ← hj, words_get, List.getElem?_eq_getElem hjl, List.getD_eq_getElem?_getD, List.getElem?_eq_getElem hjl]
      rfl
    have HS := Lib.hid hsrc
    have HG := Lib.hid hg
    have HF := Lib.hid hfin
    have HU := Lib.hid (And.intro u1 (And.intro u2 u3))
    clear hown hor hg hfin hsrc u1 u2 u3 hcells
    go_wp2_with (with_reducible refine wpList_copy_own rfl (.tmp 9) (.tmp 10) 80 80 rfl 93 Tryf.underlying80 sizeWord g 0 _ _ ⟨b, off, none⟩ _ _ rfl rfl cur 93 HG.out (words .u64 xs) ?s1 HS.out ?s2 (words_one _ _) ?_)
    case s1 => rw [words_len]; exact (Nat.min_self _).symm
    case s2 => rw [words_len]; omega
    go_ret
    obtain ⟨u1, u2, u3⟩ := HU.out
    refine ⟨_, rfl, ⟨HB.out, HF.out⟩, ?_, u3⟩
    refine (u1.trans (upd_setRow w1 g _)).mono ?_
    intro k hk hor
    rcases hor with q | q
    · exact q
    · subst q
      exact (u2 k rfl).resolve_right (by omega)

end Go.Proofs.YtocadbghhoibnaaFmt

/- The rule for drawn regions, with one operation (h) that may change memory by a wider relation U; the others change it by E alone. -/
namespace Go.Proofs.YtocadbghhoibnaaFmt
open Go.RowKit

section region
variable {P : Program} {Q : Exit → Act → World → Prop}

/-- What operation k may do to memory. -/
def relH (E U : World → World → Prop) (h k : Nat) : World → World → Prop := if k = h then U else E

def StepsH (P : Program) (E U : World → World → Prop) (h : Nat) (Q : Exit → Act → World → Prop) (a0 : Act) (w0 : World) (Ds : List (Value → World → Prop)) (l : List Oper) : Nat → List Oper → Prop
  | _, [] => True
  | k, o :: rest => (match rest with
      | [] => True
      | _ :: _ => AllPuts (fun a => ∀ w, relH U E h k w0 w → KnownD Ds l (o.looksAt l.toArray) a w → wpList P l.toArray (StepPost (relH E U h k) (Ds.getD k fun _ _ => True) o.dst a0.defers w Q) [o] a w) l a0 ∧ StepsH P E U h Q a0 w0 Ds l (k + 1) rest)

theorem stepsH_get {E U : World → World → Prop} {h : Nat} {a0 : Act} {w0 : World} {Ds : List (Value → World → Prop)} {l : List Oper} :
    ∀ (l' : List Oper) (k i : Nat) (o : Oper), StepsH P E U h Q a0 w0 Ds l k l' → l'[i]? = some o → i + 1 < l'.length →
      AllPuts (fun a => ∀ w, relH U E h (k + i) w0 w → KnownD Ds l (o.looksAt l.toArray) a w → wpList P l.toArray (StepPost (relH E U h (k + i)) (Ds.getD (k + i) fun _ _ => True) o.dst a0.defers w Q) [o] a w) l a0
  | [], _, _, _, _, h, _ => by simp at h
  | [_], _, i, _, _, _, h => by simp at h
  | o' :: o'' :: rest, k, 0, o, hs, h, _ => by
    simp at h; subst h; simpa using hs.1
  | o' :: o'' :: rest, k, i + 1, o, hs, h, hl => by
    have := stepsH_get (o'' :: rest) (k + 1) i o hs.2 (by simpa using h) (by simp at hl ⊢; omega)
    rw [show k + (i + 1) = k + 1 + i by omega]
    exact this

theorem wp_region_H {E U : World → World → Prop} (hE : PreW E) (hU : PreW U) (hEU : ∀ w w', E w w' → U w w') (hx : Nat) {id : Nat} {l : List Oper} {a0 : Act} {w0 : World} (hm : P.follows .mixedOrders = true)
    (Ds : List (Value → World → Prop)) (hok : okD l = true) (hmono : ∀ D ∈ Ds, ∀ v w w', E w w' → D v w → D v w') (hmonoU : ∀ j, j ≠ hx → ∀ v w w', U w w' → (Ds.getD j fun _ _ => True) v w → (Ds.getD j fun _ _ => True) v w') (hne : l.isEmpty = false)
    (hsteps : StepsH P E U hx Q a0 w0 Ds l 0 l) (hlast : ∀ w, U w0 w → LastD P Q l w l Ds a0) : (Code.region id l.toArray true).wp P Q a0 w0 := by
  have hmono' : ∀ j v w w', E w w' → (Ds.getD j fun _ _ => True) v w → (Ds.getD j fun _ _ => True) v w' := by
    intro j v w w' he h
    by_cases hj : j < Ds.length
    · have : (Ds.getD j fun _ _ => True) = Ds[j] := by simp [hj]
      rw [this] at h ⊢
      exact hmono _ (List.getElem_mem _) v w w' he h
    · have : (Ds.getD j fun _ _ => True) = fun _ _ => True := by simp [Nat.not_lt.1 hj]
      rw [this]; trivial
  refine wp_region_any hm ?_
  change wpAny P .any l.toArray Q l.toArray.size (Array.replicate l.toArray.size false) a0 w0.drew
  have hl0 : 0 < l.length := by cases l <;> simp at hne ⊢
  obtain ⟨m, hmlen⟩ : ∃ m, l.length = m + 1 := ⟨l.length - 1, by omega⟩
  have hlastop : l[m]? = some l[m] := List.getElem?_eq_getElem (by omega)
  have hgl : l.getLast? = some l[m] := by rw [List.getLast?_eq_getElem?]; simp [hmlen]
  suffices H : ∀ (fuel : Nat) (listed : Array Bool) (a : Act) (w : World), Held U Ds l a0 w0 listed a w → (listed.getD hx false = false → E w0 w) → listed.getD m true = false → listed.toList.count false ≤ fuel → wpAny P .any l.toArray Q fuel listed a w by
    refine H _ _ _ _ ⟨hU.drew w0, rfl, rfl, fun _ _ => rfl, fun j o hj h => ?_, fun j o hj h => ?_, by simp⟩ (fun _ => hE.drew w0) (by simp [hmlen]) ?_
    · have : j < l.length := (List.getElem?_eq_some_iff.1 hj).1
      simp [this] at h
    · have : j < l.length := (List.getElem?_eq_some_iff.1 hj).1
      simp [this] at h
    · simp
  intro fuel
  induction fuel with
  | zero =>
    intro listed a w hH hpre hmu hc
    exfalso
    have hi : m < listed.size := by rw [hH.len]; omega
    have hv : listed.toList[m]'(by simpa using hi) = false := by simpa [hi] using hmu
    have : 0 < listed.toList.count false := List.count_pos_iff.2 (hv ▸ List.getElem_mem _)
    omega
  | succ fuel ih =>
    intro listed a w hH hpre hmu hc
    refine ⟨fun h0 => ?_, fun i hi => ?_⟩
    · obtain ⟨i, hi⟩ := ready_ne hok hH.len m (by omega) hmu
      rw [h0] at hi; cases hi
    · obtain ⟨hiu, o, ho, hdep⟩ := mem_ready.1 hi
      have ho' : l[i]? = some o := by simpa using ho
      have hil : i < l.length := (List.getElem?_eq_some_iff.1 ho').1
      have hedge : ∀ j, hasEdge o j = true → listed.getD j false = true := by
        intro j hj
        obtain ⟨e, he, hb, rfl⟩ := hasEdge_iff.1 hj
        exact hdep e he hb
      by_cases him : i = m
      · subst him
        have hall : ∀ j, j < i → listed.getD j false = true := by
          have : ∀ d j, i - j = d → j < i → listed.getD j false = true := by
            intro d
            induction d using Nat.strongRecOn with
            | _ d ihd =>
              intro j hd hj
              obtain ⟨k, ok, hjk, hok', hek⟩ := okD_last hok (j := j) (by omega)
              have hkl : k < l.length := (List.getElem?_eq_some_iff.1 hok').1
              by_cases hki : k = i
              · subst hki
                rw [ho'] at hok'
                cases hok'
                exact hedge j hek
              · exact hH.down k ok hok' (ihd (i - k) (by omega) k rfl (by omega)) j hek
          exact fun j hj => this _ j rfl hj
        have hoe : o = l[i] := by rw [ho'] at hlastop; exact Option.some.inj hlastop
        have hwl : wpList P l.toArray Q [o] a w := by
          refine lastD_of l Ds a0 o (by rw [hgl, hoe]) hH.defers.symm hH.size.symm ?_ ?_ (hlast w hH.ext)
          · intro t ht
            refine (hH.other t fun j oj hj hd => ?_).symm
            have hjl : j < l.length := (List.getElem?_eq_some_iff.1 hj).1
            by_cases hji : j = i
            · subst hji; rw [getD_both (by rw [hH.len]; omega) false true]; exact hiu
            · exact absurd hd (ht oj (by
                rw [List.dropLast_eq_take]
                have : (l.take (l.length - 1))[j]? = some oj := by rw [List.getElem?_take, if_pos (by omega)]; exact hj
                exact List.mem_of_getElem? this))
          · intro j oj hj hjl
            exact hH.vals j oj hj (hall j (by omega))
        have hdone : ∀ a' w', Q .normal a' w' → wpAny P .any l.toArray Q fuel (listed.setIfInBounds i true) a' w' := by
          intro a' w' hq
          refine wpAny_done ?_ hq fuel
          rw [List.eq_nil_iff_forall_not_mem]
          intro j hj
          obtain ⟨hju, oj, hoj, _⟩ := mem_ready.1 hj
          have hjl : j < l.length := by have := (Array.getElem?_eq_some_iff.1 hoj).1; simpa using this
          have : (listed.setIfInBounds i true).getD j false = true := by
            by_cases hji : j = i
            · subst hji; simp [hH.len, hil]
            · exact getD_set_true (hall j (by omega))
          rw [getD_both (by simp [hH.len, hjl]) false true] at this
          rw [this] at hju; cases hju
        have hop : wpOp P l.toArray Q i (fun a' w' => Q .normal a' w') a w := by
          unfold wpOp
          simp only [ho]
          exact hwl
        exact wpOp_mono hdone hop
      · have hi1 : i + 1 < l.length := by omega
        have hst := stepsH_get l 0 i o hsteps ho' hi1
        rw [Nat.zero_add] at hst
        have hst' := putAll_of (l := l) hH.defers hH.size _ l a0 hH.defers.symm hH.size.symm (fun t ht => (hH.other t fun j oj hj hd => absurd hd (ht oj (List.mem_of_getElem? hj))).symm) hst
        have hkn := known_of hH (o.looksAt l.toArray) (fun t ht j oj hj hd => hedge j (okD_looks hok ho' ht hj hd))
        refine wpList_one (R := StepPost (relH E U hx i) (Ds.getD i fun _ _ => True) o.dst a0.defers w Q) ?_ (fun a' w' h => h.1.trans hH.defers.symm) (fun _ _ _ h => h) (fun _ _ h => h) ho (hst' w (by
          unfold relH
          split
          · rename_i hih
            refine hpre ?_
            rw [← hih, getD_both (by rw [hH.len]; omega) false true]; exact hiu
          · exact hH.ext) hkn)
        rintro a' w' ⟨h1, h2, h3⟩ ⟨v, rfl⟩
        have h2U : U w w' := by
          unfold relH at h2
          split at h2
          · exact h2
          · exact hEU _ _ h2
        refine ih _ _ _ ⟨hU.trans hH.ext h2U, h1, ?_, ?_, ?_, ?_, by simp [hH.len]⟩ ?_ ?_ ?_
        · cases o.dst <;> simpa [Act.put] using hH.size
        · intro t ht
          have hne' : o.dst ≠ some t := fun hd => by
            have := ht i o ho' hd
            simp [hH.len, hil] at this
          have hold : a.tmps[t]? = a0.tmps[t]? := hH.other t fun j oj hj hd => by
            have := ht j oj hj hd
            by_cases hji : i = j
            · subst hji; rw [ho'] at hj; cases hj; exact absurd hd hne'
            · rwa [getD_set_ne false hji] at this
          cases hd : o.dst with
          | none => exact hold
          | some d => simp only [Act.put]; rw [Array.getElem?_setIfInBounds_ne (fun e => hne' (by rw [hd, e]))]; exact hold
        · intro j oj hj hjl
          by_cases hji : i = j
          · subst hji
            rw [ho'] at hj
            cases hj
            exact h3
          · rw [getD_set_ne false hji] at hjl
            have hv := (show (Ds.getD j fun _ _ => True) _ w' from by
              unfold relH at h2
              split at h2
              · exact hmonoU j (fun e => hji (by omega)) _ w w' h2 (hH.vals j oj hj hjl)
              · exact hmono' j _ w w' h2 (hH.vals j oj hj hjl))
            cases hdj : oj.dst with
            | none => simpa [hdj] using hv
            | some t =>
              have hne' := okD_dst hok ho' hj hdj (fun e => hji e.symm)
              simp only [hdj] at hv ⊢
              cases hd : o.dst with
              | none => simpa [Act.put] using hv
              | some d =>
                have : d ≠ t := fun e => hne' (by rw [hd, e])
                simpa [Act.put, Array.getElem?_setIfInBounds_ne this] using hv
        · intro j oj hj hjl k hk
          by_cases hji : i = j
          · subst hji
            rw [ho'] at hj
            cases hj
            exact getD_set_true (hedge k hk)
          · rw [getD_set_ne false hji] at hjl
            exact getD_set_true (hH.down j oj hj hjl k hk)
        · intro hq
          by_cases hih : i = hx
          · subst hih; simp [hH.len, hil] at hq
          · rw [getD_set_ne false hih] at hq
            unfold relH at h2
            rw [if_neg hih] at h2
            exact hE.trans (hpre hq) h2
        · rw [getD_set_ne true him]; exact hmu
        · have := count_set hiu
          omega

end region
end Go.Proofs.YtocadbghhoibnaaFmt

/- (*Int).Set, Neg, Abs with another receiver: contracts. -/
namespace Go.Proofs.YtocadbghhoibnaaFmt
open Go.RowKit

theorem preUpd (S : Nat → Prop) : PreW (Upd S) := ⟨Upd.refl S, fun h k => (h.trans k).mono (fun _ _ q => q.elim id id), fun w => (Upd.refl S w).drew⟩

/-- Words in a row of their own. -/
def IsNat (ws : List Nat) (x : Value) (w : World) : Prop := Own .u64 w 0 93 x ws

set_option maxHeartbeats 1000000 in
theorem intSet_any (p q : Nat) (hpq : p ≠ q) (n0 n : Bool) (v0 u : Value) (vs xs : List Nat) (w : World) (hp : w.heap[p]? = some (.cells #[.bool n0, v0] 82 (0, 0))) (hq : w.heap[q]? = some (.cells #[.bool n, u] 82 (0, 0)))
    (hv : Own .u64 w 0 93 v0 vs) (hu : Own .u64 w 0 93 u xs) (hl : xs.length ≤ 17592186044416) :
    Calls Tryf.prog 88 #[.pointer (some ⟨p, 0, none⟩), .pointer (some ⟨q, 0, none⟩)] w fun e w' => e = .returned (.pointer (some ⟨p, 0, none⟩)) ∧ IntAt w' 0 p n xs ∧ Upd (fun k => k = p ∨ v0.ownBlock = some k) w w' := by
  obtain ⟨a, c, rfl⟩ := hv.form
  obtain ⟨a1, c1, rfl⟩ := hu.form
  have hnp := hv.not hp (by decide)
  have hnq := hv.not hq (by decide)
  have hne := neqOther hpq hp hq
  have HP := Lib.hid hp
  have HQ := Lib.hid hq
  have HV := Lib.hid hv
  have HU := Lib.hid hu
  have HNP := Lib.hid hnp
  have HNQ := Lib.hid hnq
  clear hp hq hv hu hnp hnq
  go_enter Tryf.func88, Tryf.ntmps88
  go_wp2_with fail
  clear hne
  refine wp_region_H preExt (preUpd (fun k => (Value.slice a vs.length c).ownBlock = some k)) (fun _ _ h => h.upd) 9 mixed [Is (.pointer (some ⟨p, 0, none⟩)), Is (.pointer (some ⟨p, 0, none⟩)), Is (.pointer (some ⟨p, 0, none⟩)), Is (.pointer (some ⟨p, 1, none⟩)), Is (.slice a vs.length c),
    Is (.pointer (some ⟨q, 0, none⟩)), Is (.pointer (some ⟨q, 0, none⟩)), Is (.pointer (some ⟨q, 1, none⟩)), Is (.slice a1 xs.length c1), IsNat xs, Is (.pointer (some ⟨p, 0, none⟩)), Is (.pointer (some ⟨p, 1, none⟩))] (by kernel_rfl) ?mono ?monoU rfl ?steps ?last
  case mono =>
    simp only [List.forall_mem_cons, List.not_mem_nil, false_implies, implies_true, and_true]
    refine ⟨?_, ?_, ?_, ?_, ?_, ?_, ?_, ?_, ?_, ?_, ?_, ?_⟩
    all_goals first | exact fun _ _ _ _ q => q | exact fun _ _ _ he q => Own.ext q he
  case monoU =>
    intro j hj
    match j, hj with
    | 0, _ => exact fun _ _ _ _ q => q
    | 1, _ => exact fun _ _ _ _ q => q
    | 2, _ => exact fun _ _ _ _ q => q
    | 3, _ => exact fun _ _ _ _ q => q
    | 4, _ => exact fun _ _ _ _ q => q
    | 5, _ => exact fun _ _ _ _ q => q
    | 6, _ => exact fun _ _ _ _ q => q
    | 7, _ => exact fun _ _ _ _ q => q
    | 8, _ => exact fun _ _ _ _ q => q
    | 9, h => exact absurd rfl h
    | 10, _ => exact fun _ _ _ _ q => q
    | 11, _ => exact fun _ _ _ _ q => q
    | j + 12, _ => exact fun _ _ _ _ q => trivial
  case steps =>
    refine ⟨?_, ?_, ?_, ?_, ?_, ?_, ?_, ?_, ?_, ?_, ?_, ?_, trivial⟩
    all_goals
      intro u0 u1 u2 u3 u4 u5 u6 u7 u8 u9 u10 u11 u12 w1 he hk
      simp [KnownD, Oper.looksAt, Op.operands, Call.operands, List.findIdx?_cons, Act.put] at hk
      simp only [Act.put, List.setIfInBounds_toArray, List.set_cons_succ, List.set_cons_zero]
    · go_wp2_with fail
      exact ⟨rfl, Ext.refl _, rfl⟩
    · go_wp2_with fail
      exact ⟨rfl, Ext.refl _, rfl⟩
    · obtain rfl : u1 = _ := hk
      go_wp2_with fail
      exact ⟨rfl, Ext.refl _, rfl⟩
    · obtain rfl : u2 = _ := hk
      go_wp2_with fail
      exact ⟨rfl, Ext.refl _, rfl⟩
    · obtain rfl : u3 = _ := hk
      have he' : Upd (fun k => (Value.slice a vs.length c).ownBlock = some k) w w1 := he
      have hc : w1.cell? ⟨p, 1, none⟩ = some (.slice a vs.length c) := by rw [blk_cell (he'.heap HP.out HNP.out)]; rfl
      go_wp2_with fail
      exact ⟨rfl, Ext.refl _, rfl⟩
    · go_wp2_with fail
      exact ⟨rfl, Ext.refl _, rfl⟩
    · obtain rfl : u5 = _ := hk
      go_wp2_with fail
      exact ⟨rfl, Ext.refl _, rfl⟩
    · obtain rfl : u6 = _ := hk
      go_wp2_with fail
      exact ⟨rfl, Ext.refl _, rfl⟩
    · obtain rfl : u7 = _ := hk
      have he' : Upd (fun k => (Value.slice a vs.length c).ownBlock = some k) w w1 := he
      have hc : w1.cell? ⟨q, 1, none⟩ = some (.slice a1 xs.length c1) := by rw [blk_cell (he'.heap HQ.out HNQ.out)]; rfl
      go_wp2_with fail
      exact ⟨rfl, Ext.refl _, rfl⟩
    · obtain ⟨k0, k1⟩ := hk
      obtain rfl : u4 = _ := k0
      obtain rfl : u8 = _ := k1
      have he' : Ext w w1 := he
      have HE := Lib.hid he'
      clear he he'
      go_wp2_with fail
      refine (natSet_any _ vs _ xs _ (HV.out.ext HE.out) (HU.out.read.ext HE.out) hl).mono ?_
      rintro e w2 ⟨v', rfl, ho, hup, hor⟩
      have H1 := Lib.hid ho
      have H2 := Lib.hid hup
      clear ho hup hor
      go_wp2_with fail
      exact ⟨rfl, H2.out, H1.out⟩
    · obtain rfl : u0 = _ := hk
      go_wp2_with fail
      exact ⟨rfl, Ext.refl _, rfl⟩
    · obtain rfl : u10 = _ := hk
      go_wp2_with fail
      exact ⟨rfl, Ext.refl _, rfl⟩
  case last =>
    intro w1 he u0 h0 u1 h1 u2 h2 u3 h3 u4 h4 u5 h5 u6 h6 u7 h7 u8 h8 u9 h9 u10 h10 u11 h11
    obtain rfl : u11 = _ := h11
    have ho : Own .u64 w1 0 93 u9 xs := h9
    clear h0 h1 h2 h3 h4 h5 h6 h7 h8 h9 h10
    have hp1 := he.heap HP.out HNP.out
    have hq1 := he.heap HQ.out HNQ.out
    obtain ⟨a', c', rfl⟩ := ho.form
    have d0 := blk_cell hp1 0
    have d1 := blk_cell hp1 1
    have f0 := blk_free hp1 0
    have f1 := blk_free hp1 1
    have g0 := blk_cell hq1 0
    simp at d0 d1 g0
    have hqp : q ≠ p := fun e => hpq e.symm
    have HP1 := Lib.hid hp1
    have HO := Lib.hid ho
    have HE := Lib.hid he
    clear hp1 hq1 ho he
    have g1 : ∀ v, (w1.setCell ⟨p, 1, none⟩ v).cell? ⟨q, 0, none⟩ = some (.bool n) := fun v => by
      rw [World.cell?_setCell_other _ _ _ _ (by simp [hqp])]; exact g0
    simp only [LastD, Act.put, List.setIfInBounds_toArray, List.set_cons_succ, List.set_cons_zero]
    go_wp2_with fail
    go_ret
    obtain ⟨i1, i2⟩ := intAt_store (n := n) HP1.out HO.out
    exact ⟨rfl, i1, (HE.out.trans i2).mono (fun k hk q => q.elim .inr .inl)⟩

end Go.Proofs.YtocadbghhoibnaaFmt

/- (*Int).Neg, (*Int).Abs by values, the receiver the operand or another Int: contracts. -/
namespace Go.Proofs.YtocadbghhoibnaaFmt
open Go.RowKit

theorem neg_sign {ws : List Nat} {z : Int} (hn : norm ws = ws) (hv : val ws = z.natAbs) : (decide (0 < ws.length) && !decide (z < 0)) = decide (-z < 0) := by
  have h := len_pos_iff hn
  rw [hv] at h
  rw [Bool.eq_iff_iff]
  simp only [Bool.and_eq_true, decide_eq_true_iff, Bool.not_eq_true', decide_eq_false_iff_not, h]
  omega

theorem intNegSelf_z (L : Nat) (z : Int) (base p : Nat) (w : World) (h : IntZ L z w base p) (hL : L ≤ 17592186044416) :
    Calls Tryf.prog 62 #[.pointer (some ⟨p, 0, none⟩), .pointer (some ⟨p, 0, none⟩)] w fun e w' => e = .returned (.pointer (some ⟨p, 0, none⟩)) ∧ IntZ L (-z) w' base p ∧ Upd (· = p) w w' := by
  obtain ⟨ws, hI, hn, hv, hl⟩ := h
  refine (negSelf_any p base _ ws w hI (by omega)).mono ?_
  rintro e w' ⟨rfl, hI', hU⟩
  rw [neg_sign hn hv] at hI'
  exact ⟨rfl, ⟨ws, hI', hn, by rw [hv]; omega, hl⟩, hU⟩

set_option maxHeartbeats 400000 in
theorem intNegOther_z (L : Nat) (z : Int) (p q : Nat) (hpq : p ≠ q) (n0 : Bool) (v0 : Value) (vs : List Nat) (w : World) (hp : w.heap[p]? = some (.cells #[.bool n0, v0] 82 (0, 0))) (hv : Own .u64 w 0 93 v0 vs) (h : IntZ L z w 0 q) (hL : L ≤ 17592186044416) :
    Calls Tryf.prog 62 #[.pointer (some ⟨p, 0, none⟩), .pointer (some ⟨q, 0, none⟩)] w fun e w' => e = .returned (.pointer (some ⟨p, 0, none⟩)) ∧ IntZ L (-z) w' 0 p ∧ Upd (fun k => k = p ∨ v0.ownBlock = some k) w w' := by
  obtain ⟨a, c, ws, hq, ho, hn, hvv, hl⟩ := h.low
  have hsg := neg_sign hn hvv
  have HP := Lib.hid hp
  have HQ := Lib.hid hq
  have HV := Lib.hid hv
  have HO := Lib.hid ho
  have HN := Lib.hid hn
  have HVV := Lib.hid hvv
  have HSG := Lib.hid hsg
  clear hp hq hv ho hn hvv h hsg
  generalize hd : decide (z < 0) = nn at *
  clear hd
  go_enter Tryf.func62, Tryf.ntmps62
  go_wp2_with fail
  refine (intSet_any p q hpq n0 nn v0 _ vs ws _ HP.out HQ.out HV.out HO.out (by omega)).mono ?_
  rintro e w1 ⟨rfl, hI, hU⟩
  obtain ⟨a', c', hp1, ho1⟩ := hI.cells
  have d0 := blk_cell hp1 0
  have d1 := blk_cell hp1 1
  have f0 := blk_free hp1 0
  have f1 := blk_free hp1 1
  simp at d0 d1
  have HP1 := Lib.hid hp1
  have HO1 := Lib.hid ho1
  have HU := Lib.hid hU
  clear hp1 ho1 hU hI
  by_cases h0 : 0 < ws.length
  · go_wp2_with fail
    go_ret
    have hu : Upd (· = p) w1 (w1.setCell ⟨p, 0, none⟩ (.bool !nn)) := (Upd.refl (· = p) _).setCell (by rfl) _
    refine ⟨rfl, ⟨ws, ⟨_, ?_, HO1.out.upd HP1.out (by decide) hu⟩, HN.out, by rw [HVV.out]; omega, hl⟩, (HU.out.trans hu).mono (fun k hk q => q.elim id .inl)⟩
    rw [← HSG.out, show (decide (0 < ws.length) && !nn) = !nn by simp [h0]]
    exact blk2_set0 HP1.out _
  · have hd : decide ((0 : Int) < (ws.length : Int)) = false := decide_eq_false (by omega)
    go_wp2_with fail
    go_ret
    have hu : Upd (· = p) w1 (w1.setCell ⟨p, 0, none⟩ (.bool false)) := (Upd.refl (· = p) _).setCell (by rfl) _
    refine ⟨rfl, ⟨ws, ⟨_, ?_, HO1.out.upd HP1.out (by decide) hu⟩, HN.out, by rw [HVV.out]; omega, hl⟩, (HU.out.trans hu).mono (fun k hk q => q.elim id .inl)⟩
    rw [← HSG.out, show (decide (0 < ws.length) && !nn) = false by simp [h0]]
    exact blk2_set0 HP1.out _

theorem intAbsSelf_z (L : Nat) (z : Int) (base p : Nat) (w : World) (h : IntZ L z w base p) (hL : L ≤ 17592186044416) :
    Calls Tryf.prog 85 #[.pointer (some ⟨p, 0, none⟩), .pointer (some ⟨p, 0, none⟩)] w fun e w' => e = .returned (.pointer (some ⟨p, 0, none⟩)) ∧ IntZ L (z.natAbs : Int) w' base p ∧ Upd (· = p) w w' := by
  obtain ⟨a, c, ws, hp, ho, hn, hv, hl⟩ := h.low
  have hsame := neqSame ⟨p, 0, none⟩
  have d0 := blk_cell hp 0
  have f0 := blk_free hp 0
  simp at d0
  have HP := Lib.hid hp
  have HO := Lib.hid ho
  have HN := Lib.hid hn
  have HV := Lib.hid hv
  clear hp ho hn hv h
  generalize hd : decide (z < 0) = nn at *
  clear hd
  go_enter Tryf.func85, Tryf.ntmps85
  go_wp2
  go_ret
  have hu : Upd (· = p) w (w.setCell ⟨p, 0, none⟩ (.bool false)) := (Upd.refl (· = p) _).setCell (by rfl) _
  refine ⟨rfl, ⟨ws, ⟨_, ?_, HO.out.upd HP.out (by decide) hu⟩, HN.out, by rw [HV.out]; omega, hl⟩, hu⟩
  rw [show decide ((z.natAbs : Int) < 0) = false from decide_eq_false (by omega)]
  exact blk2_set0 HP.out _

theorem intAbsOther_z (L : Nat) (z : Int) (p q : Nat) (hpq : p ≠ q) (n0 : Bool) (v0 : Value) (vs : List Nat) (w : World) (hp : w.heap[p]? = some (.cells #[.bool n0, v0] 82 (0, 0))) (hv : Own .u64 w 0 93 v0 vs) (h : IntZ L z w 0 q) (hL : L ≤ 17592186044416) :
    Calls Tryf.prog 85 #[.pointer (some ⟨p, 0, none⟩), .pointer (some ⟨q, 0, none⟩)] w fun e w' => e = .returned (.pointer (some ⟨p, 0, none⟩)) ∧ IntZ L (z.natAbs : Int) w' 0 p ∧ Upd (fun k => k = p ∨ v0.ownBlock = some k) w w' := by
  obtain ⟨a, c, ws, hq, ho, hn, hvv, hl⟩ := h.low
  have HP := Lib.hid hp
  have HQ := Lib.hid hq
  have HV := Lib.hid hv
  have HO := Lib.hid ho
  have HN := Lib.hid hn
  have HVV := Lib.hid hvv
  clear hp hq hv ho hn hvv h
  generalize hd : decide (z < 0) = nn at *
  clear hd
  go_enter Tryf.func85, Tryf.ntmps85
  go_wp2_with fail
  refine (intSet_any p q hpq n0 nn v0 _ vs ws _ HP.out HQ.out HV.out HO.out (by omega)).mono ?_
  rintro e w1 ⟨rfl, hI, hU⟩
  obtain ⟨a', c', hp1, ho1⟩ := hI.cells
  have d0 := blk_cell hp1 0
  have f0 := blk_free hp1 0
  simp at d0
  have HP1 := Lib.hid hp1
  have HO1 := Lib.hid ho1
  have HU := Lib.hid hU
  clear hp1 ho1 hU hI
  go_wp2_with fail
  go_ret
  have hu : Upd (· = p) w1 (w1.setCell ⟨p, 0, none⟩ (.bool false)) := (Upd.refl (· = p) _).setCell (by rfl) _
  refine ⟨rfl, ⟨ws, ⟨_, ?_, HO1.out.upd HP1.out (by decide) hu⟩, HN.out, by rw [HVV.out]; omega, hl⟩, (HU.out.trans hu).mono (fun k hk q => q.elim id .inl)⟩
  rw [show decide ((z.natAbs : Int) < 0) = false from decide_eq_false (by omega)]
  exact blk2_set0 HP1.out _

end Go.Proofs.YtocadbghhoibnaaFmt

/- impl.two, impl.pair: the Ints of a receiver and an operand, and what they tell: contracts. -/
namespace Go.Proofs.YtocadbghhoibnaaFmt
open Go.RowKit

/-- An Int stays what it is if neither its block nor its words' block is touched. -/
theorem IntZ.upd {S : Nat → Prop} {L : Nat} {z : Int} {w w' : World} {base q : Nat} (h : IntZ L z w base q) (hq : ¬ S q) (hg : ∀ n s, w.heap[q]? = some (.cells #[.bool n, s] 82 (0, 0)) → ∀ g, s.ownBlock = some g → ¬ S g) (hu : Upd S w w') : IntZ L z w' base q := by
  obtain ⟨ws, ⟨s, h1, h2⟩, h3⟩ := h
  refine ⟨ws, ⟨s, hu.heap h1 hq, h2.1, h2.2.1, ?_⟩, h3⟩
  rcases h2.2.2 with hn | ⟨g, cap, cur, hv, hb', hgg, rest⟩
  · exact .inl hn
  · exact .inr ⟨g, cap, cur, hv, hb', hu.heap hgg (hg _ _ h1 g (by rw [hv]; rfl)), rest⟩

/-- The block of an Int's words. -/
theorem IntZ.own {L : Nat} {z : Int} {w : World} {base q : Nat} (h : IntZ L z w base q) {n : Bool} {s : Value} (hs : w.heap[q]? = some (.cells #[.bool n, s] 82 (0, 0))) {g : Nat} (hg : s.ownBlock = some g) : base ≤ g ∧ g < w.heap.size ∧ ∃ cur, w.heap[g]? = some (.cells cur 93 (0, 0)) := by
  obtain ⟨ws, ⟨s', h1, h2⟩, h3⟩ := h
  rw [hs] at h1
  simp at h1
  obtain ⟨_, rfl⟩ := h1
  rcases h2.2.2 with ⟨rfl, _⟩ | ⟨g', cap, cur, rfl, hb', hgg, rest⟩
  · simp [Value.ownBlock] at hg
  · simp [Value.ownBlock] at hg
    subst hg
    exact ⟨hb', (Array.getElem?_eq_some_iff.1 hgg).1, cur, hgg⟩

theorem IntZ.mono {L : Nat} {z : Int} {w : World} {base base' q : Nat} (h : IntZ L z w base q) (hb : base' ≤ base) : IntZ L z w base' q := by
  obtain ⟨ws, ⟨s, h1, h2⟩, h3⟩ := h
  exact ⟨ws, ⟨s, h1, h2.mono hb⟩, h3⟩

theorem IntZ.more {L M : Nat} {z : Int} {w : World} {base q : Nat} (h : IntZ L z w base q) (hl : L ≤ M) : IntZ M z w base q := by
  obtain ⟨ws, h1, h2, h3, h4⟩ := h; exact ⟨ws, h1, h2, h3, Nat.le_trans h4 hl⟩

theorem IntZ.blk {L : Nat} {z : Int} {w : World} {base q : Nat} (h : IntZ L z w base q) : ∃ n s vs, w.heap[q]? = some (.cells #[.bool n, s] 82 (0, 0)) ∧ Own .u64 w base 93 s vs := by
  obtain ⟨ws, ⟨s, h1, h2⟩, h3⟩ := h
  exact ⟨_, s, ws, h1, h2⟩

/-- Two Ints: one and the same, or two that share nothing. -/
def TwoR (one : Bool) (L : Nat) (z : Int) (w : World) (e : Ending) (w' : World) : Prop :=
  Ext w w' ∧ ∃ p q, e = .returned (.tuple #[.pointer (some ⟨p, 0, none⟩), .pointer (some ⟨q, 0, none⟩)]) ∧ IntZ L z w' 0 q ∧ w.heap.size ≤ q ∧
    ((one = true ∧ p = q) ∨ (one = false ∧ p ≠ q ∧ ∃ n0 v0 vs, w'.heap[p]? = some (.cells #[.bool n0, v0] 82 (0, 0)) ∧ Own .u64 w' 0 93 v0 vs ∧
      (∀ w'', Upd (fun k => k = p ∨ v0.ownBlock = some k) w' w'' → IntZ L z w'' 0 q) ∧ (∀ k, (k = p ∨ v0.ownBlock = some k) → w.heap.size ≤ k)))

theorem sep_two {Lx Lz : Nat} {zx zz : Int} {w1 w2 : World} {B0 p q : Nat} (hx : IntZ Lx zx w1 B0 q) (he : Ext w1 w2) (hz : IntZ Lz zz w2 w1.heap.size p) (hp : w1.heap.size ≤ p) :
    p ≠ q ∧ ∃ n0 v0 vs, w2.heap[p]? = some (.cells #[.bool n0, v0] 82 (0, 0)) ∧ Own .u64 w2 0 93 v0 vs ∧ (∀ w'', Upd (fun k => k = p ∨ v0.ownBlock = some k) w2 w'' → IntZ Lx zx w'' 0 q) ∧ (∀ k, (k = p ∨ v0.ownBlock = some k) → w1.heap.size ≤ k) := by
  obtain ⟨nx, sx, vx, hxq, hxo⟩ := hx.blk
  have hql : q < w1.heap.size := (Array.getElem?_eq_some_iff.1 hxq).1
  obtain ⟨n0, v0, vs, hzp, hzo⟩ := hz.blk
  have hnew : ∀ k, (k = p ∨ v0.ownBlock = some k) → w1.heap.size ≤ k := by
    rintro k (rfl | hk)
    · exact hp
    · exact (hz.own hzp hk).1
  refine ⟨by omega, n0, v0, vs, hzp, hzo.zero, fun w'' hu => ?_, hnew⟩
  refine ((hx.ext he).mono (Nat.zero_le _)).upd (fun h => by have := hnew q h; omega) ?_ hu
  intro n s hs g hg hS
  have h1 := hnew g hS
  rw [he.block hxq] at hs
  simp at hs
  obtain ⟨_, rfl⟩ := hs
  have h2 := (hx.own hxq hg).2.1
  omega

set_option maxHeartbeats 400000 in
theorem two_z (k : Int) (Lz Lx : Nat) (zz zx : Int) (Z X : Value) (w : World) (hZ : IsZ Lz zz Z w) (hX : IsZ Lx zx X w) (hLz : Lz ≤ 17592186044416) (hLx : Lx ≤ 17592186044416) :
    Calls Tryf.prog 75 #[.int .i64 k, Z, X] w (TwoR (decide (k = 1)) Lx zx w) := by
  obtain ⟨n1, a1, l1, c1, rfl⟩ := hZ.form
  obtain ⟨n2, a2, l2, c2, rfl⟩ := hX.form
  have HZ := Lib.hid hZ
  have HX := Lib.hid hX
  clear hZ hX
  by_cases hk : k = 1
  · subst hk
    rw [show decide ((1 : Int) = 1) = true by simp]
    go_enter Tryf.func75, Tryf.ntmps75
    go_wp2_with fail
    refine (integer_z Lx zx _ _ (HX.out.ext ((Ext.alloc _ _).trans (Ext.alloc _ _))) hLx).mono ?_
    rintro e w1 ⟨he, p, rfl, hp, hI⟩
    simp only [World.size_alloc] at hp hI
    have HE := Lib.hid (((Ext.alloc _ _).trans (Ext.alloc _ _)).trans he)
    have HI := Lib.hid hI
    clear he hI
    go_wp2_with fail
    go_ret2
    exact ⟨HE.out, p, p, rfl, HI.out.mono (Nat.zero_le _), by omega, .inl ⟨rfl, rfl⟩⟩
  · rw [show decide (k = 1) = false by simp [hk]]
    have hb : (k == 1) = false := by simp [hk]
    clear hk
    go_enter Tryf.func75, Tryf.ntmps75
    go_wp2_with fail
    refine (integer_z Lx zx _ _ (HX.out.ext ((Ext.alloc _ _).trans (Ext.alloc _ _))) hLx).mono ?_
    rintro e w1 ⟨he, q, rfl, hq, hI⟩
    simp only [World.size_alloc] at hq hI
    have hcc := fun a v h => Ext.cell he (a := a) (v := v) h
    have HE := Lib.hid (((Ext.alloc _ _).trans (Ext.alloc _ _)).trans he)
    have HI := Lib.hid hI
    have hs1 := he.size
    simp only [World.size_alloc] at hs1
    clear he hI
    go_wp2_with fail
    refine (integer_z Lz zz _ _ (HZ.out.ext HE.out) hLz).mono ?_
    rintro e w2 ⟨he, p, rfl, hp, hI2⟩
    have hsep := sep_two HI.out he hI2 hp
    have HE2 := Lib.hid (HE.out.trans he)
    have HI2 := Lib.hid (HI.out.ext he)
    have HS := Lib.hid hsep
    clear he hI2 hcc hsep
    go_wp2_with fail
    go_ret2
    obtain ⟨hpq, n0, v0, vs, q1, q2, q3, q4⟩ := HS.out
    exact ⟨HE2.out, p, q, rfl, HI2.out.mono (Nat.zero_le _), by omega, .inr ⟨rfl, hpq, n0, v0, vs, q1, q2, q3, fun k hk => by have := q4 k hk; omega⟩⟩

end Go.Proofs.YtocadbghhoibnaaFmt

/- Triples: pair, impl.Neg, impl.Abs by values: contracts. -/
namespace Go.Proofs.YtocadbghhoibnaaFmt
open Go.RowKit

theorem results_triple {fn : Func} {t : Tmp} (h : fn.results = #[.cell t 75]) (tmps : Array Value) {p : Nat} (ht : tmps.getD t undef = .pointer (some ⟨p, 0, none⟩)) {w : World} {x0 x1 x2 x3 x4 x5 : Value} (d0 : w.cell? ⟨p, 0, none⟩ = some x0) (d1 : w.cell? ⟨p, 1, none⟩ = some x1) (d2 : w.cell? ⟨p, 2, none⟩ = some x2) (d3 : w.cell? ⟨p, 3, none⟩ = some x3) (d4 : w.cell? ⟨p, 4, none⟩ = some x4) (d5 : w.cell? ⟨p, 5, none⟩ = some x5) :
    (results fn tmps).run Tryf.prog w = .ok (.agg #[x0, x1, x2, x3, x4, x5]) w := by
  simp at ht
  simp [results, h, ht, go_sem, d0, d1, d2, d3, d4, d5]

/-- Six cells, written one after the other. -/
def put6 (w : World) (p : Nat) (x0 x1 x2 x3 x4 x5 : Value) : World :=
  (((((w.setCell ⟨p, 0, none⟩ x0).setCell ⟨p, 1, none⟩ x1).setCell ⟨p, 2, none⟩ x2).setCell ⟨p, 3, none⟩ x3).setCell ⟨p, 4, none⟩ x4).setCell ⟨p, 5, none⟩ x5

theorem blk_set {w : World} {p : Nat} {c : Array Value} {T : TypeId} {fr : Nat × Nat} (h : w.heap[p]? = some (.cells c T fr)) (i : Nat) (v : Value) : (w.setCell ⟨p, i, none⟩ v).heap[p]? = some (.cells (c.setIfInBounds i v) T fr) := by
  simp only [World.setCell, Array.getElem?_modify]
  simp [h]

theorem put6_heap {w : World} {p : Nat} {y0 y1 y2 y3 y4 y5 : Value} {T : TypeId} {fr : Nat × Nat} (h : w.heap[p]? = some (.cells #[y0, y1, y2, y3, y4, y5] T fr)) (x0 x1 x2 x3 x4 x5 : Value) : (put6 w p x0 x1 x2 x3 x4 x5).heap[p]? = some (.cells #[x0, x1, x2, x3, x4, x5] T fr) := by
  have := blk_set (blk_set (blk_set (blk_set (blk_set (blk_set h 0 x0) 1 x1) 2 x2) 3 x3) 4 x4) 5 x5
  simpa [put6] using this

theorem put6_upd (w : World) (p : Nat) (x0 x1 x2 x3 x4 x5 : Value) : Upd (· = p) w (put6 w p x0 x1 x2 x3 x4 x5) :=
  ((((((Upd.refl (· = p) _).setCell (by rfl) _).setCell (by rfl) _).setCell (by rfl) _).setCell (by rfl) _).setCell (by rfl) _).setCell (by rfl) _

/-- A Triple of three numbers without zeros at their end. -/
def IsT (L : Nat) (z x y : Int) (v : Value) (w : World) : Prop := ∃ n1 s1 n2 s2 n3 s3, v = .agg #[n1, s1, n2, s2, n3, s3] ∧ IsC L z (.agg #[n1, s1]) w ∧ IsC L x (.agg #[n2, s2]) w ∧ IsC L y (.agg #[n3, s3]) w

theorem IsT.ext {L : Nat} {z x y : Int} {v : Value} {w w' : World} (h : IsT L z x y v w) (he : Ext w w') : IsT L z x y v w' := by
  obtain ⟨n1, s1, n2, s2, n3, s3, h0, h1, h2, h3⟩ := h
  exact ⟨n1, s1, n2, s2, n3, s3, h0, h1.ext he, h2.ext he, h3.ext he⟩

theorem IsC.zeroN (L : Nat) (w : World) : IsC L 0 (.agg #[.bool false, .slice none 0 0]) w := ⟨_, [], by simp, ownNil _ _, rfl, rfl, Nat.zero_le _⟩

theorem field_z (x0 x1 x2 x3 x4 x5 : Value) (w : World) : (Instr.field 75 (.agg #[x0, x1, x2, x3, x4, x5]) 0).run Tryf.prog w = .ok (.agg #[x0, x1]) w := by kernel_rfl

theorem field_x (x0 x1 x2 x3 x4 x5 : Value) (w : World) : (Instr.field 75 (.agg #[x0, x1, x2, x3, x4, x5]) 1).run Tryf.prog w = .ok (.agg #[x2, x3]) w := by kernel_rfl

theorem field_y (x0 x1 x2 x3 x4 x5 : Value) (w : World) : (Instr.field 75 (.agg #[x0, x1, x2, x3, x4, x5]) 2).run Tryf.prog w = .ok (.agg #[x4, x5]) w := by kernel_rfl

set_option maxHeartbeats 400000 in
theorem pair_z (L : Nat) (zc za : Int) (p q : Nat) (w : World) (hc : IntZ L zc w 0 p) (ha : IntZ L za w 0 q) (hL : L ≤ 17592186044416) :
    Calls Tryf.prog 77 #[.pointer (some ⟨p, 0, none⟩), .pointer (some ⟨q, 0, none⟩)] w (ResR (IsT L zc za 0) w) := by
  have HC := Lib.hid hc
  have HA := Lib.hid ha
  clear hc ha
  go_enter Tryf.func77, Tryf.ntmps77
  go_wp2_with fail
  refine (number_z L zc 0 p _ (HC.out.ext (Ext.alloc _ _)) hL).mono ?_
  rintro e w1 ⟨he, x, rfl, hx⟩
  have hp1 : w1.heap[w.heap.size]? = some (.cells #[.bool false, .slice none 0 0, .bool false, .slice none 0 0, .bool false, .slice none 0 0] 75 (0, 0)) := he.block (heap_alloc_new _ _)
  obtain ⟨n1, a1, l1, c1, rfl⟩ := hx.form
  have HX := Lib.hid hx
  have HP1 := Lib.hid hp1
  have HE := Lib.hid ((Ext.alloc _ _).trans he)
  clear hx hp1 he
  go_wp2_with fail
  refine (number_z L za 0 q _ (HA.out.ext HE.out) hL).mono ?_
  rintro e w2 ⟨he, y, rfl, hy⟩
  obtain ⟨n2, a2, l2, c2, rfl⟩ := hy.form
  have hp2 := he.block HP1.out
  have d0 := blk_cell hp2 0
  have d1 := blk_cell hp2 1
  have d2 := blk_cell hp2 2
  have d3 := blk_cell hp2 3
  have d4 := blk_cell hp2 4
  have d5 := blk_cell hp2 5
  have f0 := blk_free hp2 0
  have f1 := blk_free hp2 1
  have f2 := blk_free hp2 2
  have f3 := blk_free hp2 3
  have f4 := blk_free hp2 4
  have f5 := blk_free hp2 5
  simp at d0 d1 d2 d3 d4 d5
  have HX2 := Lib.hid (HX.out.ext he)
  have HY := Lib.hid hy
  have HP2 := Lib.hid hp2
  have HE2 := Lib.hid (HE.out.trans he)
  clear hy hp2 he
  go_wp2_with fail
  have hh := put6_heap HP2.out (.bool n1) (.slice a1 l1 c1) (.bool n2) (.slice a2 l2 c2) (.bool false) (.slice none 0 0)
  have hu := put6_upd w2 w.heap.size (.bool n1) (.slice a1 l1 c1) (.bool n2) (.slice a2 l2 c2) (.bool false) (.slice none 0 0)
  exact bodyPost_ret (results_triple rfl _ rfl (blk_cell hh 0) (blk_cell hh 1) (blk_cell hh 2) (blk_cell hh 3) (blk_cell hh 4) (blk_cell hh 5)) rfl
    ⟨hu.ext HE2.out (by omega), _, rfl, _, _, _, _, _, _, rfl, HX2.out.upd HP2.out (by decide) hu, HY.out.upd HP2.out (by decide) hu, IsC.zeroN _ _⟩

end Go.Proofs.YtocadbghhoibnaaFmt
