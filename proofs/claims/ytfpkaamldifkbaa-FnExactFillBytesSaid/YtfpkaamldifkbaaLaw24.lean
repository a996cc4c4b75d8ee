/- FnExactFillBytes: the walk. -/
import Derived.Test.YtfpkaamldifkbaaBytes11
import Derived.Test.YtfpkaamldifkbaaRow
set_option linter.unusedSimpArgs false
set_option linter.unusedVariables false
namespace Go.Proofs.Ytfpkaamldifkbaa
open Go.RowKit

theorem fbl_len (n v : Nat) : (fbl n v).length ≤ n := by
  unfold fbl
  cases decide (v < 256 ^ n) <;> simp [beb_len]

set_option maxRecDepth 10000 in
set_option maxHeartbeats 2000000 in
theorem fnExactFillBytes_walk (n0 : Bool) (v0 : Value) (ws0 : List Nat) (v1 : Value) (bs : List Nat) (w : World) (hr0 : Rd .u64 w v0 ws0) (hl0 : ws0.length ≤ 17592186043904) (hr1 : Rd .u8 w v1 bs) (hl1 : bs.length ≤ 140737488351232) :
    Calls Try.prog 4 #[.agg #[.bool n0, v0], v1] w (ValR (.bool true) w) := by
  obtain ⟨a0, c0, rfl⟩ := hr0.form
  obtain ⟨a1, c1, rfl⟩ := hr1.form
  have hz0 : IsZ 17592186043904 (ival n0 ws0) (.agg #[.bool n0, .slice a0 ws0.length c0]) w := ⟨n0, _, ws0, rfl, hr0, hl0, rfl⟩
  generalize ival n0 ws0 = z at hz0
  have HZ := Lib.hid hz0
  have HR := Lib.hid hr1
  clear hr0 hr1 hz0
  have hll := fbl_len bs.length z.natAbs
  go_enter Try.func4, Try.ntmps4
  go_wp2_with fail
  refine (toImpl_z 17592186043904 z _ _ (HZ.out.ext (Ext.alloc _ _)) (by omega)).mono ?_
  rintro e w1 ⟨he, y1, rfl, hy⟩
  obtain ⟨m1, b1, l1, d1, rfl⟩ := hy.form
  have HE := Lib.hid ((Ext.alloc _ _).trans he)
  have G := Lib.hid (he.block (heap_alloc_new w (.cells #[.bool n0, .slice a0 ws0.length c0] 24)))
  have HY1 := Lib.hid hy
  clear he hy
  go_wp2_with (at_builtin; refine wpList_copy_words (k := .u8) (bytes := 1) rfl (.tmp 12) (.tmp 13) 26 rfl 5 Try.underlying26 infoByte w1.heap.size w1.heap.size rfl (heap_alloc_new _ _) (by omega) _ rfl bs ?r1 ?r2 ?r3 ?_)
  case r1 => exact HR.out.ext (HE.out.trans (Ext.alloc _ _))
  case r2 => omega
  case r3 => omega
  intro v' w2 ho he2
  have HB2 := Lib.hid ho.read
  obtain ⟨a', c', rfl⟩ := ho.form
  replace HE := Lib.hid (HE.out.trans ((Ext.alloc _ _).trans he2))
  replace G := Lib.hid (((Ext.alloc _ _).trans he2).block G.out)
  replace HY1 := Lib.hid (HY1.out.ext ((Ext.alloc _ _).trans he2))
  clear ho he2
  go_wp2_with fail
  refine (implFillBytes_z 17592186043904 z _ _ bs _ HY1.out.z (by omega) HB2.out (by omega)).mono ?_
  rintro e w3 ⟨he, y3, rfl, s3, rfl, hs3⟩
  obtain ⟨a3, c3, rfl⟩ := hs3.form
  replace HE := Lib.hid (HE.out.trans he)
  replace G := Lib.hid (he.block G.out)
  have HS3 := Lib.hid hs3
  clear he hs3 HY1 HB2
  have d0 := blk_cell G.out 0
  have d1 := blk_cell G.out 1
  simp at d0 d1
  go_wp2_with fail
  refine (toSpec_z 17592186043904 z _ _ (HZ.out.ext HE.out) (by omega)).mono ?_
  rintro e w4 ⟨he, y4, rfl, hy⟩
  obtain ⟨m4, b4, l4, d4, rfl⟩ := hy.form
  replace HE := Lib.hid (HE.out.trans he)
  replace HS3 := Lib.hid (HS3.out.ext he)
  have HY4 := Lib.hid hy
  clear he hy d0 d1 G
  go_wp2_with fail
  refine (specFillBytes_z 17592186043904 z bs.length _ _ HY4.out.z (by omega) (by omega)).mono ?_
  rintro e w5 ⟨he, y5, rfl, s5, rfl, hs5⟩
  obtain ⟨a5, c5, rfl⟩ := hs5.form
  replace HE := Lib.hid (HE.out.trans he)
  replace HS3 := Lib.hid (HS3.out.ext he)
  have HS5 := Lib.hid hs5
  clear he hs5 HY4
  have hbt : (true == true) = true := rfl
  have hbf : (false == false) = true := rfl
  generalize decide (z.natAbs < 256 ^ bs.length) = dd at *
  generalize fbl bs.length z.natAbs = fl at *
  cases dd
  · go_wp2_with fail
    go_ret
    exact ⟨HE.out, rfl⟩
  · go_wp2_with fail
    refine (sameBytes_z _ _ fl fl _ HS3.out HS5.out (by omega) (by omega)).mono ?_
    rintro e w6 ⟨he, y6, rfl, hy⟩
    obtain rfl : y6 = .bool true := hy.trans (by simp)
    replace HE := Lib.hid (HE.out.trans he)
    clear he
    go_wp2_with fail
    go_ret
    exact ⟨HE.out, rfl⟩

end Go.Proofs.Ytfpkaamldifkbaa
