/- impl.three, impl.triple: contracts (printed by genthree.py). -/
import Derived.Test.YtacmojhladdalaaTriple
import Derived.Deep.RegionHeld3
set_option linter.unusedSimpArgs false
set_option linter.unusedVariables false
namespace Go.Proofs.Ytacmojhladdalaa
open Go.RowKit

/-- Whether the receiver is the first operand, the second one, and whether both operands are one. -/
def isX (k : Int) : Bool := decide (k = 1) || decide (k = 3)

def isY (k : Int) : Bool := decide (k = 2) || decide (k = 3)

def isOne (k : Int) : Bool := decide (k = 3) || decide (k = 4)

/-- What the second operand is; what an operand holds behind the call. -/
def secZ (k : Int) (x y : Int) : Int := bif isOne k then x else y

def aftX (k : Int) (new x : Int) : Int := bif isX k then new else x

def aftY (k : Int) (new y : Int) : Int := bif isY k then new else y

theorem sep_old {Lx Lz : Nat} {zx zz : Int} {w1 w2 : World} {B0 r q : Nat} (hx : IntZ Lx zx w1 B0 q) (hB : B0 ≤ q) (he : Ext w1 w2) (hz : IntZ Lz zz w2 w1.heap.size r) (hr : w1.heap.size ≤ r) :
    ∃ n0 v0 vs, w2.heap[q]? = some (.cells #[.bool n0, v0] 70 (0, 0)) ∧ Own .u64 w2 0 80 v0 vs ∧ (∀ w'', Upd (fun k => k = q ∨ v0.ownBlock = some k) w2 w'' → IntZ Lz zz w'' 0 r) ∧ (∀ k, (k = q ∨ v0.ownBlock = some k) → B0 ≤ k) := by
  obtain ⟨nx, sx, vx, hxq, hxo⟩ := hx.blk
  have hql : q < w1.heap.size := (Array.getElem?_eq_some_iff.1 hxq).1
  have hold : ∀ k, (k = q ∨ sx.ownBlock = some k) → B0 ≤ k ∧ k < w1.heap.size := by
    rintro k (rfl | hk)
    · exact ⟨hB, hql⟩
    · exact ⟨(hx.own hxq hk).1, (hx.own hxq hk).2.1⟩
  refine ⟨nx, sx, vx, he.block hxq, (hxo.ext he).zero, fun w'' hu => ?_, fun k hk => (hold k hk).1⟩
  refine (hz.mono (Nat.zero_le _)).upd (fun h => by have := (hold r h).2; omega) ?_ hu
  intro n s hs g hg hS
  have h1 := (hold g hS).2
  have h2 := (hz.own hs hg).1
  omega

/-- Three Ints: a receiver and two operands; what may be written of the receiver leaves the others. -/
def ThreeR (kx ky one : Bool) (L : Nat) (zx zy : Int) (w : World) (e : Ending) (w' : World) : Prop :=
  Ext w w' ∧ ∃ p q r n0 v0 vs, e = .returned (.tuple #[.pointer (some ⟨p, 0, none⟩), .pointer (some ⟨q, 0, none⟩), .pointer (some ⟨r, 0, none⟩)]) ∧ IntZ L zx w' 0 q ∧ IntZ L (bif one then zx else zy) w' 0 r ∧
    w'.heap[p]? = some (.cells #[.bool n0, v0] 70 (0, 0)) ∧ Own .u64 w' 0 80 v0 vs ∧ (∀ k, (k = p ∨ v0.ownBlock = some k) → w.heap.size ≤ k) ∧
    (bif kx then q = p else ∀ w'', Upd (fun k => k = p ∨ v0.ownBlock = some k) w' w'' → IntZ L zx w'' 0 q) ∧
    (bif ky then r = p else ∀ w'', Upd (fun k => k = p ∨ v0.ownBlock = some k) w' w'' → IntZ L (bif one then zx else zy) w'' 0 r)

set_option maxHeartbeats 1000000 in
theorem three_1 (k : Int) (L : Nat) (zz zx zy : Int) (n1 n2 n3 : Bool) (a1 a2 a3 : Option Addr) (l1 l2 l3 c1 c2 c3 : Nat) (w : World) (hZ : IsZ L zz (.agg #[.bool n1, .slice a1 l1 c1]) w) (hX : IsZ L zx (.agg #[.bool n2, .slice a2 l2 c2]) w) (hY : IsZ L zy (.agg #[.bool n3, .slice a3 l3 c3]) w) (hL : L ≤ 17592186044416) (hk : k = 1) :
    Calls Try.prog 41 #[.int .i64 k, .agg #[.bool n1, .slice a1 l1 c1], .agg #[.bool n2, .slice a2 l2 c2], .agg #[.bool n3, .slice a3 l3 c3]] w (ThreeR true false false L zx zy w) := by
  have HZ := Lib.hid hZ
  have HX := Lib.hid hX
  have HY := Lib.hid hY
  clear hZ hX hY
  subst hk
  have tok1 : True := trivial
  go_enter Try.func41, Try.ntmps41
  go_wp2_with fail
  have hE0 : Ext w (((w.alloc (.cells #[.bool n1, .slice a1 l1 c1] 30)).alloc (.cells #[.bool n2, .slice a2 l2 c2] 30)).alloc (.cells #[.bool n3, .slice a3 l3 c3] 30)) := ((Ext.alloc _ _).trans (Ext.alloc _ _)).trans (Ext.alloc _ _)
  have hsz0 : (((w.alloc (.cells #[.bool n1, .slice a1 l1 c1] 30)).alloc (.cells #[.bool n2, .slice a2 l2 c2] 30)).alloc (.cells #[.bool n3, .slice a3 l3 c3] 30)).heap.size = w.heap.size + 3 := by simp
  have hb1 := (Ext.alloc ((w.alloc (.cells #[.bool n1, .slice a1 l1 c1] 30)).alloc (.cells #[.bool n2, .slice a2 l2 c2] 30)) (.cells #[.bool n3, .slice a3 l3 c3] 30)).block ((Ext.alloc _ _).block (heap_alloc_new w (.cells #[.bool n1, .slice a1 l1 c1] 30)))
  have hb2 := (Ext.alloc ((w.alloc (.cells #[.bool n1, .slice a1 l1 c1] 30)).alloc (.cells #[.bool n2, .slice a2 l2 c2] 30)) (.cells #[.bool n3, .slice a3 l3 c3] 30)).block (heap_second w (.cells #[.bool n1, .slice a1 l1 c1] 30) (.cells #[.bool n2, .slice a2 l2 c2] 30))
  have hb3 := heap_third' w (.cells #[.bool n1, .slice a1 l1 c1] 30) (.cells #[.bool n2, .slice a2 l2 c2] 30) (.cells #[.bool n3, .slice a3 l3 c3] 30)
  generalize (((w.alloc (.cells #[.bool n1, .slice a1 l1 c1] 30)).alloc (.cells #[.bool n2, .slice a2 l2 c2] 30)).alloc (.cells #[.bool n3, .slice a3 l3 c3] 30)) = W at *
  have e0 := blk_cell hb1 0
  have e1 := blk_cell hb1 1
  have b0 := blk_cell hb2 0
  have b1 := blk_cell hb2 1
  have d0 := blk_cell hb3 0
  have d1 := blk_cell hb3 1
  simp at e0 e1 b0 b1 d0 d1
  have HE0 := Lib.hid hE0
  have HSZ := Lib.hid hsz0
  clear hE0 hb1 hb2 hb3 hsz0
  go_region_held3 (fun w' => w'.cell? ⟨w.heap.size + 1, 0, none⟩ = some (.bool n2) ∧ w'.cell? ⟨w.heap.size + 1, 1, none⟩ = some (.slice a2 l2 c2) ∧ w'.cell? ⟨w.heap.size + 1 + 1, 0, none⟩ = some (.bool n3) ∧ w'.cell? ⟨w.heap.size + 1 + 1, 1, none⟩ = some (.slice a3 l3 c3))
    (first | go_keep | (go_split_ands; exact ⟨hce _ _ (by assumption), hce _ _ (by assumption), hce _ _ (by assumption), hce _ _ (by assumption)⟩))
    (first
      | (go_at_call 57; have _t := tok1; refine (integer_z L zx _ _ (HX.out.ext (HE0.out.trans (Ext.drew _))) hL).mono ?_; rintro e w1 ⟨he, q, rfl, hq, hI⟩; have hce := fun a v h => Ext.cell he (a := a) (v := v) h; have HE1 := Lib.hid he; have HI1 := Lib.hid hI; clear he hI tok1 _t)
      | (go_at_call 57; refine (integer_z L zy _ _ ((HY.out.ext (HE0.out.trans (Ext.drew _))).ext HE1.out) hL).mono ?_; rintro e w2 ⟨he, r, rfl, hr, hI⟩; have hce2 := fun a v h => Ext.cell he (a := a) (v := v) h; have HE2 := Lib.hid he; have HI2 := Lib.hid hI; clear he hI))
  have hqs : w.heap.size ≤ W.drew.heap.size := by have h := HSZ.out; show _ ≤ W.heap.size; omega
  have hw1 : W.drew.heap.size ≤ w1.heap.size := HE1.out.size
  have HEE := Lib.hid ((HE0.out.trans (Ext.drew W)).trans HE1.out)
  have HI1' := Lib.hid (HI1.out.ext HE2.out)
  replace HI1 := Lib.hid (HI1.out)
  have HQ := Lib.hid hq
  have HQS := Lib.hid hqs
  have HW1 := Lib.hid hw1
  have hs := sep_old HI1.out HQ.out HE2.out HI2.out hr
  have HS := Lib.hid hs
  clear hs hqs hw1 hq
  have hE : Ext w w2 := HEE.out.trans HE2.out
  have HE := Lib.hid hE
  clear hE
  go_wp2_with fail
  go_ret3
  obtain ⟨n0, v0, vs, s1, s2, s3, s4⟩ := HS.out
  exact ⟨HE.out, q, q, r, n0, v0, vs, rfl, HI1'.out.mono (Nat.zero_le _), HI2.out.mono (Nat.zero_le _), s1, s2, fun k hk => by have h1 := s4 k hk; have h2 := HQS.out; omega, rfl, s3⟩

set_option maxHeartbeats 1000000 in
theorem three_2 (k : Int) (L : Nat) (zz zx zy : Int) (n1 n2 n3 : Bool) (a1 a2 a3 : Option Addr) (l1 l2 l3 c1 c2 c3 : Nat) (w : World) (hZ : IsZ L zz (.agg #[.bool n1, .slice a1 l1 c1]) w) (hX : IsZ L zx (.agg #[.bool n2, .slice a2 l2 c2]) w) (hY : IsZ L zy (.agg #[.bool n3, .slice a3 l3 c3]) w) (hL : L ≤ 17592186044416) (hk : k = 2) :
    Calls Try.prog 41 #[.int .i64 k, .agg #[.bool n1, .slice a1 l1 c1], .agg #[.bool n2, .slice a2 l2 c2], .agg #[.bool n3, .slice a3 l3 c3]] w (ThreeR false true false L zx zy w) := by
  have HZ := Lib.hid hZ
  have HX := Lib.hid hX
  have HY := Lib.hid hY
  clear hZ hX hY
  subst hk
  have tok1 : True := trivial
  go_enter Try.func41, Try.ntmps41
  go_wp2_with fail
  have hE0 : Ext w (((w.alloc (.cells #[.bool n1, .slice a1 l1 c1] 30)).alloc (.cells #[.bool n2, .slice a2 l2 c2] 30)).alloc (.cells #[.bool n3, .slice a3 l3 c3] 30)) := ((Ext.alloc _ _).trans (Ext.alloc _ _)).trans (Ext.alloc _ _)
  have hsz0 : (((w.alloc (.cells #[.bool n1, .slice a1 l1 c1] 30)).alloc (.cells #[.bool n2, .slice a2 l2 c2] 30)).alloc (.cells #[.bool n3, .slice a3 l3 c3] 30)).heap.size = w.heap.size + 3 := by simp
  have hb1 := (Ext.alloc ((w.alloc (.cells #[.bool n1, .slice a1 l1 c1] 30)).alloc (.cells #[.bool n2, .slice a2 l2 c2] 30)) (.cells #[.bool n3, .slice a3 l3 c3] 30)).block ((Ext.alloc _ _).block (heap_alloc_new w (.cells #[.bool n1, .slice a1 l1 c1] 30)))
  have hb2 := (Ext.alloc ((w.alloc (.cells #[.bool n1, .slice a1 l1 c1] 30)).alloc (.cells #[.bool n2, .slice a2 l2 c2] 30)) (.cells #[.bool n3, .slice a3 l3 c3] 30)).block (heap_second w (.cells #[.bool n1, .slice a1 l1 c1] 30) (.cells #[.bool n2, .slice a2 l2 c2] 30))
  have hb3 := heap_third' w (.cells #[.bool n1, .slice a1 l1 c1] 30) (.cells #[.bool n2, .slice a2 l2 c2] 30) (.cells #[.bool n3, .slice a3 l3 c3] 30)
  generalize (((w.alloc (.cells #[.bool n1, .slice a1 l1 c1] 30)).alloc (.cells #[.bool n2, .slice a2 l2 c2] 30)).alloc (.cells #[.bool n3, .slice a3 l3 c3] 30)) = W at *
  have e0 := blk_cell hb1 0
  have e1 := blk_cell hb1 1
  have b0 := blk_cell hb2 0
  have b1 := blk_cell hb2 1
  have d0 := blk_cell hb3 0
  have d1 := blk_cell hb3 1
  simp at e0 e1 b0 b1 d0 d1
  have HE0 := Lib.hid hE0
  have HSZ := Lib.hid hsz0
  clear hE0 hb1 hb2 hb3 hsz0
  go_region_held3 (fun w' => w'.cell? ⟨w.heap.size + 1, 0, none⟩ = some (.bool n2) ∧ w'.cell? ⟨w.heap.size + 1, 1, none⟩ = some (.slice a2 l2 c2) ∧ w'.cell? ⟨w.heap.size + 1 + 1, 0, none⟩ = some (.bool n3) ∧ w'.cell? ⟨w.heap.size + 1 + 1, 1, none⟩ = some (.slice a3 l3 c3))
    (first | go_keep | (go_split_ands; exact ⟨hce _ _ (by assumption), hce _ _ (by assumption), hce _ _ (by assumption), hce _ _ (by assumption)⟩))
    (first
      | (go_at_call 57; have _t := tok1; refine (integer_z L zx _ _ (HX.out.ext (HE0.out.trans (Ext.drew _))) hL).mono ?_; rintro e w1 ⟨he, q, rfl, hq, hI⟩; have hce := fun a v h => Ext.cell he (a := a) (v := v) h; have HE1 := Lib.hid he; have HI1 := Lib.hid hI; clear he hI tok1 _t)
      | (go_at_call 57; refine (integer_z L zy _ _ ((HY.out.ext (HE0.out.trans (Ext.drew _))).ext HE1.out) hL).mono ?_; rintro e w2 ⟨he, r, rfl, hr, hI⟩; have hce2 := fun a v h => Ext.cell he (a := a) (v := v) h; have HE2 := Lib.hid he; have HI2 := Lib.hid hI; clear he hI))
  have hqs : w.heap.size ≤ W.drew.heap.size := by have h := HSZ.out; show _ ≤ W.heap.size; omega
  have hw1 : W.drew.heap.size ≤ w1.heap.size := HE1.out.size
  have HEE := Lib.hid ((HE0.out.trans (Ext.drew W)).trans HE1.out)
  have HI1' := Lib.hid (HI1.out.ext HE2.out)
  replace HI1 := Lib.hid (HI1.out)
  have HQ := Lib.hid hq
  have HQS := Lib.hid hqs
  have HW1 := Lib.hid hw1
  have hs := sep_two HI1.out HE2.out HI2.out hr
  have HS := Lib.hid hs
  clear hs hqs hw1 hq
  have hE : Ext w w2 := HEE.out.trans HE2.out
  have HE := Lib.hid hE
  clear hE
  go_wp2_with fail
  go_ret3
  obtain ⟨_, n0, v0, vs, s1, s2, s3, s4⟩ := HS.out
  exact ⟨HE.out, r, q, r, n0, v0, vs, rfl, HI1'.out.mono (Nat.zero_le _), HI2.out.mono (Nat.zero_le _), s1, s2, fun k hk => by have h1 := s4 k hk; have h2 := HQS.out; have h3 := HW1.out; omega, s3, rfl⟩

set_option maxHeartbeats 1000000 in
theorem three_3 (k : Int) (L : Nat) (zz zx zy : Int) (n1 n2 n3 : Bool) (a1 a2 a3 : Option Addr) (l1 l2 l3 c1 c2 c3 : Nat) (w : World) (hZ : IsZ L zz (.agg #[.bool n1, .slice a1 l1 c1]) w) (hX : IsZ L zx (.agg #[.bool n2, .slice a2 l2 c2]) w) (hY : IsZ L zy (.agg #[.bool n3, .slice a3 l3 c3]) w) (hL : L ≤ 17592186044416) (hk : k = 3) :
    Calls Try.prog 41 #[.int .i64 k, .agg #[.bool n1, .slice a1 l1 c1], .agg #[.bool n2, .slice a2 l2 c2], .agg #[.bool n3, .slice a3 l3 c3]] w (ThreeR true true true L zx zy w) := by
  have HZ := Lib.hid hZ
  have HX := Lib.hid hX
  have HY := Lib.hid hY
  clear hZ hX hY
  subst hk
  have tok1 : True := trivial
  go_enter Try.func41, Try.ntmps41
  go_wp2_with fail
  have hE0 : Ext w (((w.alloc (.cells #[.bool n1, .slice a1 l1 c1] 30)).alloc (.cells #[.bool n2, .slice a2 l2 c2] 30)).alloc (.cells #[.bool n3, .slice a3 l3 c3] 30)) := ((Ext.alloc _ _).trans (Ext.alloc _ _)).trans (Ext.alloc _ _)
  have hsz0 : (((w.alloc (.cells #[.bool n1, .slice a1 l1 c1] 30)).alloc (.cells #[.bool n2, .slice a2 l2 c2] 30)).alloc (.cells #[.bool n3, .slice a3 l3 c3] 30)).heap.size = w.heap.size + 3 := by simp
  have hb1 := (Ext.alloc ((w.alloc (.cells #[.bool n1, .slice a1 l1 c1] 30)).alloc (.cells #[.bool n2, .slice a2 l2 c2] 30)) (.cells #[.bool n3, .slice a3 l3 c3] 30)).block ((Ext.alloc _ _).block (heap_alloc_new w (.cells #[.bool n1, .slice a1 l1 c1] 30)))
  have hb2 := (Ext.alloc ((w.alloc (.cells #[.bool n1, .slice a1 l1 c1] 30)).alloc (.cells #[.bool n2, .slice a2 l2 c2] 30)) (.cells #[.bool n3, .slice a3 l3 c3] 30)).block (heap_second w (.cells #[.bool n1, .slice a1 l1 c1] 30) (.cells #[.bool n2, .slice a2 l2 c2] 30))
  have hb3 := heap_third' w (.cells #[.bool n1, .slice a1 l1 c1] 30) (.cells #[.bool n2, .slice a2 l2 c2] 30) (.cells #[.bool n3, .slice a3 l3 c3] 30)
  generalize (((w.alloc (.cells #[.bool n1, .slice a1 l1 c1] 30)).alloc (.cells #[.bool n2, .slice a2 l2 c2] 30)).alloc (.cells #[.bool n3, .slice a3 l3 c3] 30)) = W at *
  have e0 := blk_cell hb1 0
  have e1 := blk_cell hb1 1
  have b0 := blk_cell hb2 0
  have b1 := blk_cell hb2 1
  have d0 := blk_cell hb3 0
  have d1 := blk_cell hb3 1
  simp at e0 e1 b0 b1 d0 d1
  have HE0 := Lib.hid hE0
  have HSZ := Lib.hid hsz0
  clear hE0 hb1 hb2 hb3 hsz0
  go_region_held3 (fun w' => w'.cell? ⟨w.heap.size + 1, 0, none⟩ = some (.bool n2) ∧ w'.cell? ⟨w.heap.size + 1, 1, none⟩ = some (.slice a2 l2 c2) ∧ w'.cell? ⟨w.heap.size + 1 + 1, 0, none⟩ = some (.bool n3) ∧ w'.cell? ⟨w.heap.size + 1 + 1, 1, none⟩ = some (.slice a3 l3 c3))
    (first | go_keep | (go_split_ands; exact ⟨hce _ _ (by assumption), hce _ _ (by assumption), hce _ _ (by assumption), hce _ _ (by assumption)⟩))
    (first
      | (go_at_call 57; have _t := tok1; refine (integer_z L zx _ _ (HX.out.ext (HE0.out.trans (Ext.drew _))) hL).mono ?_; rintro e w1 ⟨he, q, rfl, hq, hI⟩; have hce := fun a v h => Ext.cell he (a := a) (v := v) h; have HE1 := Lib.hid he; have HI1 := Lib.hid hI; clear he hI tok1 _t)
      | (go_at_call 57; refine (integer_z L zy _ _ ((HY.out.ext (HE0.out.trans (Ext.drew _))).ext HE1.out) hL).mono ?_; rintro e w2 ⟨he, r, rfl, hr, hI⟩; have hce2 := fun a v h => Ext.cell he (a := a) (v := v) h; have HE2 := Lib.hid he; have HI2 := Lib.hid hI; clear he hI))
  have hqs : w.heap.size ≤ W.drew.heap.size := by have h := HSZ.out; show _ ≤ W.heap.size; omega
  have hw1 : W.drew.heap.size ≤ w1.heap.size := HE1.out.size
  have HEE := Lib.hid ((HE0.out.trans (Ext.drew W)).trans HE1.out)
  have HI1' := Lib.hid (HI1.out.ext HE2.out)
  replace HI1 := Lib.hid (HI1.out)
  have HQ := Lib.hid hq
  have HQS := Lib.hid hqs
  have HW1 := Lib.hid hw1
  have hs := sep_old HI1.out HQ.out HE2.out HI2.out hr
  have HS := Lib.hid hs
  clear hs hqs hw1 hq
  have hE : Ext w w2 := HEE.out.trans HE2.out
  have HE := Lib.hid hE
  clear hE
  go_wp2_with fail
  go_ret3
  obtain ⟨n0, v0, vs, s1, s2, s3, s4⟩ := HS.out
  exact ⟨HE.out, q, q, q, n0, v0, vs, rfl, HI1'.out.mono (Nat.zero_le _), HI1'.out.mono (Nat.zero_le _), s1, s2, fun k hk => by have h1 := s4 k hk; have h2 := HQS.out; omega, rfl, rfl⟩

set_option maxHeartbeats 1000000 in
theorem three_4 (k : Int) (L : Nat) (zz zx zy : Int) (n1 n2 n3 : Bool) (a1 a2 a3 : Option Addr) (l1 l2 l3 c1 c2 c3 : Nat) (w : World) (hZ : IsZ L zz (.agg #[.bool n1, .slice a1 l1 c1]) w) (hX : IsZ L zx (.agg #[.bool n2, .slice a2 l2 c2]) w) (hY : IsZ L zy (.agg #[.bool n3, .slice a3 l3 c3]) w) (hL : L ≤ 17592186044416) (hk : k = 4) :
    Calls Try.prog 41 #[.int .i64 k, .agg #[.bool n1, .slice a1 l1 c1], .agg #[.bool n2, .slice a2 l2 c2], .agg #[.bool n3, .slice a3 l3 c3]] w (ThreeR false false true L zx zy w) := by
  have HZ := Lib.hid hZ
  have HX := Lib.hid hX
  have HY := Lib.hid hY
  clear hZ hX hY
  subst hk
  have tok1 : True := trivial
  go_enter Try.func41, Try.ntmps41
  go_wp2_with fail
  have hE0 : Ext w (((w.alloc (.cells #[.bool n1, .slice a1 l1 c1] 30)).alloc (.cells #[.bool n2, .slice a2 l2 c2] 30)).alloc (.cells #[.bool n3, .slice a3 l3 c3] 30)) := ((Ext.alloc _ _).trans (Ext.alloc _ _)).trans (Ext.alloc _ _)
  have hsz0 : (((w.alloc (.cells #[.bool n1, .slice a1 l1 c1] 30)).alloc (.cells #[.bool n2, .slice a2 l2 c2] 30)).alloc (.cells #[.bool n3, .slice a3 l3 c3] 30)).heap.size = w.heap.size + 3 := by simp
  have hb1 := (Ext.alloc ((w.alloc (.cells #[.bool n1, .slice a1 l1 c1] 30)).alloc (.cells #[.bool n2, .slice a2 l2 c2] 30)) (.cells #[.bool n3, .slice a3 l3 c3] 30)).block ((Ext.alloc _ _).block (heap_alloc_new w (.cells #[.bool n1, .slice a1 l1 c1] 30)))
  have hb2 := (Ext.alloc ((w.alloc (.cells #[.bool n1, .slice a1 l1 c1] 30)).alloc (.cells #[.bool n2, .slice a2 l2 c2] 30)) (.cells #[.bool n3, .slice a3 l3 c3] 30)).block (heap_second w (.cells #[.bool n1, .slice a1 l1 c1] 30) (.cells #[.bool n2, .slice a2 l2 c2] 30))
  have hb3 := heap_third' w (.cells #[.bool n1, .slice a1 l1 c1] 30) (.cells #[.bool n2, .slice a2 l2 c2] 30) (.cells #[.bool n3, .slice a3 l3 c3] 30)
  generalize (((w.alloc (.cells #[.bool n1, .slice a1 l1 c1] 30)).alloc (.cells #[.bool n2, .slice a2 l2 c2] 30)).alloc (.cells #[.bool n3, .slice a3 l3 c3] 30)) = W at *
  have e0 := blk_cell hb1 0
  have e1 := blk_cell hb1 1
  have b0 := blk_cell hb2 0
  have b1 := blk_cell hb2 1
  have d0 := blk_cell hb3 0
  have d1 := blk_cell hb3 1
  simp at e0 e1 b0 b1 d0 d1
  have HE0 := Lib.hid hE0
  have HSZ := Lib.hid hsz0
  clear hE0 hb1 hb2 hb3 hsz0
  go_region_held3 (fun w' => w'.cell? ⟨w.heap.size + 1, 0, none⟩ = some (.bool n2) ∧ w'.cell? ⟨w.heap.size + 1, 1, none⟩ = some (.slice a2 l2 c2) ∧ w'.cell? ⟨w.heap.size + 1 + 1, 0, none⟩ = some (.bool n3) ∧ w'.cell? ⟨w.heap.size + 1 + 1, 1, none⟩ = some (.slice a3 l3 c3))
    (first | go_keep | (go_split_ands; exact ⟨hce _ _ (by assumption), hce _ _ (by assumption), hce _ _ (by assumption), hce _ _ (by assumption)⟩))
    (first
      | (go_at_call 57; have _t := tok1; refine (integer_z L zx _ _ (HX.out.ext (HE0.out.trans (Ext.drew _))) hL).mono ?_; rintro e w1 ⟨he, q, rfl, hq, hI⟩; have hce := fun a v h => Ext.cell he (a := a) (v := v) h; have HE1 := Lib.hid he; have HI1 := Lib.hid hI; clear he hI tok1 _t)
      | (go_at_call 57; refine (integer_z L zy _ _ ((HY.out.ext (HE0.out.trans (Ext.drew _))).ext HE1.out) hL).mono ?_; rintro e w2 ⟨he, r, rfl, hr, hI⟩; have hce2 := fun a v h => Ext.cell he (a := a) (v := v) h; have HE2 := Lib.hid he; have HI2 := Lib.hid hI; clear he hI))
  have hqs : w.heap.size ≤ W.drew.heap.size := by have h := HSZ.out; show _ ≤ W.heap.size; omega
  have hw1 : W.drew.heap.size ≤ w1.heap.size := HE1.out.size
  have HEE := Lib.hid ((HE0.out.trans (Ext.drew W)).trans HE1.out)
  have HI1' := Lib.hid (HI1.out.ext HE2.out)
  replace HI1 := Lib.hid (HI1.out)
  have HQ := Lib.hid hq
  have HQS := Lib.hid hqs
  have HW1 := Lib.hid hw1
  clear hqs hw1 hq
  have hE : Ext w w2 := HEE.out.trans HE2.out
  have HE := Lib.hid hE
  clear hE
  have h0 := hce2 _ _ (hce _ _ e0)
  have h1 := hce2 _ _ (hce _ _ e1)
  clear hce hce2 e0 e1 b0 b1 d0 d1
  go_wp2_with fail
  refine (integer_z L zz _ _ (HZ.out.ext HE.out) hL).mono ?_
  rintro e w3 ⟨he, p, rfl, hp, hI⟩
  have hsq := sep_two HI1'.out he hI hp
  have hsr := sep_two HI2.out he hI hp
  have HE3 := Lib.hid (HE.out.trans he)
  have HJ1 := Lib.hid ((HI1'.out.ext he).mono (Nat.zero_le _))
  have HJ2 := Lib.hid ((HI2.out.ext he).mono (Nat.zero_le _))
  have hsz : w.heap.size ≤ w2.heap.size := HE.out.size
  have HZZ := Lib.hid hI
  have HSQ := Lib.hid hsq
  have HSR := Lib.hid hsr
  clear hsq hsr hI he h0 h1
  go_wp2_with fail
  go_ret3
  obtain ⟨_, n0, v0, vs, s1, s2, s3, s4⟩ := HSQ.out
  obtain ⟨_, m0, u0, us, t1, t2, t3, t4⟩ := HSR.out
  rw [s1] at t1
  obtain ⟨rfl, rfl⟩ : n0 = m0 ∧ v0 = u0 := by simpa using t1
  exact ⟨HE3.out, p, q, q, n0, v0, vs, rfl, HJ1.out, HJ1.out, s1, s2, fun k hk => by have h1 := s4 k hk; omega, s3, s3⟩

set_option maxHeartbeats 1000000 in
theorem three_o (k : Int) (L : Nat) (zz zx zy : Int) (n1 n2 n3 : Bool) (a1 a2 a3 : Option Addr) (l1 l2 l3 c1 c2 c3 : Nat) (w : World) (hZ : IsZ L zz (.agg #[.bool n1, .slice a1 l1 c1]) w) (hX : IsZ L zx (.agg #[.bool n2, .slice a2 l2 c2]) w) (hY : IsZ L zy (.agg #[.bool n3, .slice a3 l3 c3]) w) (hL : L ≤ 17592186044416) (hk : k ≠ 1 ∧ k ≠ 2 ∧ k ≠ 3 ∧ k ≠ 4) :
    Calls Try.prog 41 #[.int .i64 k, .agg #[.bool n1, .slice a1 l1 c1], .agg #[.bool n2, .slice a2 l2 c2], .agg #[.bool n3, .slice a3 l3 c3]] w (ThreeR false false false L zx zy w) := by
  have HZ := Lib.hid hZ
  have HX := Lib.hid hX
  have HY := Lib.hid hY
  clear hZ hX hY
  have hk1 : (k == 1) = false := beq_eq_false_iff_ne.2 hk.1
  have hk2 : (k == 2) = false := beq_eq_false_iff_ne.2 hk.2.1
  have hk3 : (k == 3) = false := beq_eq_false_iff_ne.2 hk.2.2.1
  have hk4 : (k == 4) = false := beq_eq_false_iff_ne.2 hk.2.2.2
  clear hk
  have tok1 : True := trivial
  go_enter Try.func41, Try.ntmps41
  go_wp2_with fail
  have hE0 : Ext w (((w.alloc (.cells #[.bool n1, .slice a1 l1 c1] 30)).alloc (.cells #[.bool n2, .slice a2 l2 c2] 30)).alloc (.cells #[.bool n3, .slice a3 l3 c3] 30)) := ((Ext.alloc _ _).trans (Ext.alloc _ _)).trans (Ext.alloc _ _)
  have hsz0 : (((w.alloc (.cells #[.bool n1, .slice a1 l1 c1] 30)).alloc (.cells #[.bool n2, .slice a2 l2 c2] 30)).alloc (.cells #[.bool n3, .slice a3 l3 c3] 30)).heap.size = w.heap.size + 3 := by simp
  have hb1 := (Ext.alloc ((w.alloc (.cells #[.bool n1, .slice a1 l1 c1] 30)).alloc (.cells #[.bool n2, .slice a2 l2 c2] 30)) (.cells #[.bool n3, .slice a3 l3 c3] 30)).block ((Ext.alloc _ _).block (heap_alloc_new w (.cells #[.bool n1, .slice a1 l1 c1] 30)))
  have hb2 := (Ext.alloc ((w.alloc (.cells #[.bool n1, .slice a1 l1 c1] 30)).alloc (.cells #[.bool n2, .slice a2 l2 c2] 30)) (.cells #[.bool n3, .slice a3 l3 c3] 30)).block (heap_second w (.cells #[.bool n1, .slice a1 l1 c1] 30) (.cells #[.bool n2, .slice a2 l2 c2] 30))
  have hb3 := heap_third' w (.cells #[.bool n1, .slice a1 l1 c1] 30) (.cells #[.bool n2, .slice a2 l2 c2] 30) (.cells #[.bool n3, .slice a3 l3 c3] 30)
  generalize (((w.alloc (.cells #[.bool n1, .slice a1 l1 c1] 30)).alloc (.cells #[.bool n2, .slice a2 l2 c2] 30)).alloc (.cells #[.bool n3, .slice a3 l3 c3] 30)) = W at *
  have e0 := blk_cell hb1 0
  have e1 := blk_cell hb1 1
  have b0 := blk_cell hb2 0
  have b1 := blk_cell hb2 1
  have d0 := blk_cell hb3 0
  have d1 := blk_cell hb3 1
  simp at e0 e1 b0 b1 d0 d1
  have HE0 := Lib.hid hE0
  have HSZ := Lib.hid hsz0
  clear hE0 hb1 hb2 hb3 hsz0
  go_region_held3 (fun w' => w'.cell? ⟨w.heap.size + 1, 0, none⟩ = some (.bool n2) ∧ w'.cell? ⟨w.heap.size + 1, 1, none⟩ = some (.slice a2 l2 c2) ∧ w'.cell? ⟨w.heap.size + 1 + 1, 0, none⟩ = some (.bool n3) ∧ w'.cell? ⟨w.heap.size + 1 + 1, 1, none⟩ = some (.slice a3 l3 c3))
    (first | go_keep | (go_split_ands; exact ⟨hce _ _ (by assumption), hce _ _ (by assumption), hce _ _ (by assumption), hce _ _ (by assumption)⟩))
    (first
      | (go_at_call 57; have _t := tok1; refine (integer_z L zx _ _ (HX.out.ext (HE0.out.trans (Ext.drew _))) hL).mono ?_; rintro e w1 ⟨he, q, rfl, hq, hI⟩; have hce := fun a v h => Ext.cell he (a := a) (v := v) h; have HE1 := Lib.hid he; have HI1 := Lib.hid hI; clear he hI tok1 _t)
      | (go_at_call 57; refine (integer_z L zy _ _ ((HY.out.ext (HE0.out.trans (Ext.drew _))).ext HE1.out) hL).mono ?_; rintro e w2 ⟨he, r, rfl, hr, hI⟩; have hce2 := fun a v h => Ext.cell he (a := a) (v := v) h; have HE2 := Lib.hid he; have HI2 := Lib.hid hI; clear he hI))
  have hqs : w.heap.size ≤ W.drew.heap.size := by have h := HSZ.out; show _ ≤ W.heap.size; omega
  have hw1 : W.drew.heap.size ≤ w1.heap.size := HE1.out.size
  have HEE := Lib.hid ((HE0.out.trans (Ext.drew W)).trans HE1.out)
  have HI1' := Lib.hid (HI1.out.ext HE2.out)
  replace HI1 := Lib.hid (HI1.out)
  have HQ := Lib.hid hq
  have HQS := Lib.hid hqs
  have HW1 := Lib.hid hw1
  clear hqs hw1 hq
  have hE : Ext w w2 := HEE.out.trans HE2.out
  have HE := Lib.hid hE
  clear hE
  have h0 := hce2 _ _ (hce _ _ e0)
  have h1 := hce2 _ _ (hce _ _ e1)
  clear hce hce2 e0 e1 b0 b1 d0 d1
  go_wp2_with fail
  refine (integer_z L zz _ _ (HZ.out.ext HE.out) hL).mono ?_
  rintro e w3 ⟨he, p, rfl, hp, hI⟩
  have hsq := sep_two HI1'.out he hI hp
  have hsr := sep_two HI2.out he hI hp
  have HE3 := Lib.hid (HE.out.trans he)
  have HJ1 := Lib.hid ((HI1'.out.ext he).mono (Nat.zero_le _))
  have HJ2 := Lib.hid ((HI2.out.ext he).mono (Nat.zero_le _))
  have hsz : w.heap.size ≤ w2.heap.size := HE.out.size
  have HZZ := Lib.hid hI
  have HSQ := Lib.hid hsq
  have HSR := Lib.hid hsr
  clear hsq hsr hI he h0 h1
  go_wp2_with fail
  go_ret3
  obtain ⟨_, n0, v0, vs, s1, s2, s3, s4⟩ := HSQ.out
  obtain ⟨_, m0, u0, us, t1, t2, t3, t4⟩ := HSR.out
  rw [s1] at t1
  obtain ⟨rfl, rfl⟩ : n0 = m0 ∧ v0 = u0 := by simpa using t1
  exact ⟨HE3.out, p, q, r, n0, v0, vs, rfl, HJ1.out, HJ2.out, s1, s2, fun k hk => by have h1 := s4 k hk; omega, s3, t3⟩

theorem three_z (k : Int) (L : Nat) (zz zx zy : Int) (Z X Y : Value) (w : World) (hZ : IsZ L zz Z w) (hX : IsZ L zx X w) (hY : IsZ L zy Y w) (hL : L ≤ 17592186044416) :
    Calls Try.prog 41 #[.int .i64 k, Z, X, Y] w (ThreeR (isX k) (isY k) (isOne k) L zx zy w) := by
  obtain ⟨n1, a1, l1, c1, rfl⟩ := hZ.form
  obtain ⟨n2, a2, l2, c2, rfl⟩ := hX.form
  obtain ⟨n3, a3, l3, c3, rfl⟩ := hY.form
  by_cases h1 : k = 1
  · have := three_1 k L zz zx zy n1 n2 n3 a1 a2 a3 l1 l2 l3 c1 c2 c3 w hZ hX hY hL h1
    subst h1; exact this
  · by_cases h2 : k = 2
    · have := three_2 k L zz zx zy n1 n2 n3 a1 a2 a3 l1 l2 l3 c1 c2 c3 w hZ hX hY hL h2
      subst h2; exact this
    · by_cases h3 : k = 3
      · have := three_3 k L zz zx zy n1 n2 n3 a1 a2 a3 l1 l2 l3 c1 c2 c3 w hZ hX hY hL h3
        subst h3; exact this
      · by_cases h4 : k = 4
        · have := three_4 k L zz zx zy n1 n2 n3 a1 a2 a3 l1 l2 l3 c1 c2 c3 w hZ hX hY hL h4
          subst h4; exact this
        · have := three_o k L zz zx zy n1 n2 n3 a1 a2 a3 l1 l2 l3 c1 c2 c3 w hZ hX hY hL ⟨h1, h2, h3, h4⟩
          rw [show isX k = false by simp [isX, h1, h3], show isY k = false by simp [isY, h2, h3], show isOne k = false by simp [isOne, h3, h4]]
          exact this

set_option maxHeartbeats 400000 in
theorem triple_z (L : Nat) (zc za zb : Int) (p q r : Nat) (w : World) (hc : IntZ L zc w 0 p) (ha : IntZ L za w 0 q) (hb : IntZ L zb w 0 r) (hL : L ≤ 17592186044416) :
    Calls Try.prog 43 #[.pointer (some ⟨p, 0, none⟩), .pointer (some ⟨q, 0, none⟩), .pointer (some ⟨r, 0, none⟩)] w (ResR (IsT L zc za zb) w) := by
  have HC := Lib.hid hc
  have HA := Lib.hid ha
  have HB := Lib.hid hb
  clear hc ha hb
  go_enter Try.func43, Try.ntmps43
  go_wp2_with fail
  refine (number_z L zc 0 p _ (HC.out.ext (Ext.alloc _ _)) hL).mono ?_
  rintro e w1 ⟨he, x, rfl, hx⟩
  have hp1 : w1.heap[w.heap.size]? = some (.cells #[.bool false, .slice none 0 0, .bool false, .slice none 0 0, .bool false, .slice none 0 0] 32 (0, 0)) := he.block (heap_alloc_new _ _)
  obtain ⟨n1, a1, l1, c1, rfl⟩ := hx.form
  have HX := Lib.hid hx
  have HP1 := Lib.hid hp1
  have HE := Lib.hid ((Ext.alloc _ _).trans he)
  clear hx hp1 he
  go_wp2_with fail
  refine (number_z L za 0 q _ (HA.out.ext HE.out) hL).mono ?_
  rintro e w2 ⟨he, y, rfl, hy⟩
  obtain ⟨n2, a2, l2, c2, rfl⟩ := hy.form
  have HX2 := Lib.hid (HX.out.ext he)
  have HY := Lib.hid hy
  have HP2 := Lib.hid (he.block HP1.out)
  have HE2 := Lib.hid (HE.out.trans he)
  clear hy he
  go_wp2_with fail
  refine (number_z L zb 0 r _ (HB.out.ext HE2.out) hL).mono ?_
  rintro e w3 ⟨he, y, rfl, hy⟩
  obtain ⟨n3, a3, l3, c3, rfl⟩ := hy.form
  have hp2 := he.block HP2.out
  have d0 := blk_cell hp2 0
  have d1 := blk_cell hp2 1
  have d2 := blk_cell hp2 2
  have d3 := blk_cell hp2 3
  have d4 := blk_cell hp2 4
  have d5 := blk_cell hp2 5
  have f0 := blk_free hp2 0
  have f1 := blk_free hp2 1
  have f2 := blk_free hp2 2
  have f3 := blk_free hp2 3
  have f4 := blk_free hp2 4
  have f5 := blk_free hp2 5
  simp at d0 d1 d2 d3 d4 d5
  have HX3 := Lib.hid (HX2.out.ext he)
  have HY3 := Lib.hid (HY.out.ext he)
  have HW := Lib.hid hy
  have HP3 := Lib.hid hp2
  have HE3 := Lib.hid (HE2.out.trans he)
  clear hy hp2 he
  go_wp2_with fail
  have hh := put6_heap HP3.out (.bool n1) (.slice a1 l1 c1) (.bool n2) (.slice a2 l2 c2) (.bool n3) (.slice a3 l3 c3)
  have hu := put6_upd w3 w.heap.size (.bool n1) (.slice a1 l1 c1) (.bool n2) (.slice a2 l2 c2) (.bool n3) (.slice a3 l3 c3)
  exact bodyPost_ret (results_triple rfl _ rfl (blk_cell hh 0) (blk_cell hh 1) (blk_cell hh 2) (blk_cell hh 3) (blk_cell hh 4) (blk_cell hh 5)) rfl
    ⟨hu.ext HE3.out (by omega), _, rfl, _, _, _, _, _, _, rfl, HX3.out.upd HP3.out (by decide) hu, HY3.out.upd HP3.out (by decide) hu, HW.out.upd HP3.out (by decide) hu⟩

end Go.Proofs.Ytacmojhladdalaa
