/- FnBytesZeros: the walk. -/
import Derived.Test.YtfpkaamldifkbaaBytes2
import Derived.Test.YtfpkaamldifkbaaCmp3
import Derived.Test.YtfpkaamldifkbaaLshZ
import Derived.Test.YtfpkaamldifkbaaAddZ
set_option linter.unusedSimpArgs false
set_option linter.unusedVariables false
namespace Go.Proofs.Ytfpkaamldifkbaa
open Go.RowKit

theorem wpList_taken {P : Program} {w : World} {ops : Array Oper} {rest : List Oper} {o : Oper} {a : Act} {Q : Exit → Act → World → Prop} (hw : Region.wanted o (yielded ops a.tmps) = true)
    (h : ∀ K : Act → World → Prop, (∀ a w, wpList P ops Q rest a w → K a w) → o.wp P a w K Q) : wpList P ops Q (o :: rest) a w :=
  wpList_step fun K hK => by rw [if_pos hw]; exact h K hK

/-- 'append(s, xs...)' to a row that is owned. -/
theorem wpList_append_rd {k : IntKind} {bytes : Nat} {P : Program} {w : World} {ops : Array Oper} {rest : List Oper} {o : Oper} {a : Act} {Q : Exit → Act → World → Prop} (hw : Region.wanted o (yielded ops a.tmps) = true) (s x : Operand) (t : TypeId)
    (ho : o.op = .call { callee := .builtin .append, args := #[s, x], argTypes := #[t, t] }) (base : Nat) (e : TypeId) (ht : P.underlying t = some (.slice e)) (hinfo : (P.info? e).map (fun i => (i.zero, i.size, i.bytes)) = some (some (.int k 0), 1, bytes))
    (v : Value) (n : Nat) (xs : List Value) (hs : a.eval s = v) (hown : w.ownsRow base e 1 v n xs) (v2 : Value) (hx : a.eval x = v2) (ws : List Nat) (hrd : Rd k w v2 ws) (h63 : n + ws.length ≤ 9223372036854775807) (hbytes : (n + ws.length) * bytes ≤ 140737488355328) (hbase : base ≤ w.heap.size)
    (h : ∀ v' w', w'.ownsRow base e 1 v' (n + ws.length) (xs ++ words k ws) → Below base w w' → wpList P ops Q rest (a.put o.dst v') w') : wpList P ops Q (o :: rest) a w := by
  obtain ⟨i, hi, hz, hsz, hby⟩ := info_parts hinfo
  have hlt := hown.lt
  have key : ∀ (ad : Addr) (c : Nat), a.eval x = .slice (some ad) ws.length c → (∀ j u, (words k ws)[j]? = some u → w.cell? (ad.add j) = some u) → wpList P ops Q (o :: rest) a w := by
    intro ad c hxa hn
    refine wpList_taken hw fun K hK => wp_append_own w s x t ho base e i (.int k 0) 1 bytes ht hi hz hsz hby rfl (by decide) v n xs hs hown ad ws.length c (words k ws) hxa (by rw [words_len, Nat.mul_one]) hn (words_one k ws) (by simpa [maxLen] using h63) hbytes hbase fun v' w' h2 h3 h4 => hK _ _ (h v' w' h2 ((Below.refl _ _).grown h3 hbase (fun j hj => (hlt j hj).1)))
  obtain ⟨hb, ad, cap, rfl, hle, hcap, hnil, hcells⟩ := hrd
  cases ws with
  | nil =>
    rcases ad with _ | ad
    · obtain rfl : cap = 0 := hnil rfl
      refine wpList_taken hw fun K hK => ?_
      have hr := run_append_owned_none (P := P) w base t o.type e i 1 ht hi v n xs hown
      unfold Oper.wp execOp
      simp only [ho, resolve, invoke, builtin, Sem.run_bind, Sem.run_pure, Result.andThen_ok, List.map_toArray, List.map_cons, List.map_nil, hs, hx, List.length_nil, hr]
      exact hK _ _ (h v w (by simpa [words] using hown) (Below.refl _ _))
    · exact key ad cap hx (by simp [words])
  | cons y ws =>
    obtain ⟨b, off, rfl, _⟩ := hcells 0 (by simp)
    refine key ⟨b, off, none⟩ cap hx fun j u hu => ?_
    have hj : j < (y :: ws).length := by
      have := (List.getElem?_eq_some_iff.1 hu).1
      rwa [words_len] at this
    obtain ⟨b', off', q1, q2⟩ := hcells j hj
    simp at q1
    obtain ⟨rfl, rfl⟩ := q1
    rw [words_get, List.getElem?_eq_getElem hj] at hu
    simp only [Option.map_some, Option.some.injEq] at hu
    subst hu
    rw [List.getD_eq_getElem?_getD, List.getElem?_eq_getElem hj] at q2
    have ea : (⟨b, off, none⟩ : Addr).add j = ⟨b, off + j, none⟩ := by cases j <;> simp [Addr.add]
    rw [ea]
    exact q2

theorem bev_append (a b : List Nat) : bev (a ++ b) = bev a * 256 ^ b.length + bev b := by
  unfold bev
  rw [List.reverse_append, bv_append, List.length_reverse, Nat.mul_comm, Nat.add_comm]

theorem bv_zero_iff (a : List Nat) : bv a = 0 ↔ a.all (· == 0) = true := by
  induction a with
  | nil => simp [bv]
  | cons x a ih =>
    rw [bv, List.all_cons, Bool.and_eq_true, ← ih]
    simp
    omega

theorem bev_zero_iff (a : List Nat) : bev a = 0 ↔ a.all (· == 0) = true := by
  unfold bev
  rw [bv_zero_iff, List.all_reverse]

theorem bev_zeros (n : Nat) (a : List Nat) : bev (List.replicate n 0 ++ a) = bev a := by
  rw [bev_append, (bev_zero_iff _).2 (by simp), Nat.zero_mul, Nat.zero_add]

theorem made_bytes (w : World) (n : Nat) (hn : n ≤ 9223372036854775807) : (w.alloc (.cells (madeCells #[Value.int .u8 0] n) 5)).ownsRow w.heap.size 5 1 (.slice (some ⟨w.heap.size, 0, none⟩) n n) n (words .u8 (List.replicate n 0)) := by
  have hs : (madeCells #[Value.int .u8 0] n).size = n := by simp [madeCells]
  refine ⟨by simp [words], .inr ⟨w.heap.size, n, _, rfl, Nat.le_refl _, heap_alloc_new _ _, Nat.le_refl _, by simpa [maxLen] using hn, by rw [hs, Nat.mul_one], ?_⟩⟩
  rw [Nat.mul_one]
  apply List.ext_getElem?
  intro j
  by_cases hj : j < n <;> simp [words, madeCells, hj, Nat.mod_one, List.getElem?_take]

theorem fnBytesZeros_big (v : Value) (bs : List Nat) (n : Nat) (w : World) (h : Rd .u8 w v bs) (hl : bs.length ≤ 140737488351232) (hn : 100 < n) :
    Calls Try.prog 5 #[v, .int .u64 (n : Nat)] w (ValR (.bool true) w) := by
  obtain ⟨a, c, rfl⟩ := h.form
  clear h
  have hb : decide ((100 : Int) < (n : Int)) = true := by simp; omega
  go_enter Try.func5, Try.ntmps5
  go_wp2_with fail
  go_ret
  exact ⟨Ext.refl _, rfl⟩

set_option maxRecDepth 10000 in
set_option maxHeartbeats 2000000 in
theorem fnBytesZeros_small (v : Value) (bs : List Nat) (n : Nat) (w : World) (h : Rd .u8 w v bs) (hl : bs.length ≤ 140737488351232) (hn : n ≤ 100) :
    Calls Try.prog 5 #[v, .int .u64 (n : Nat)] w (ValR (.bool true) w) := by
  obtain ⟨a, c, rfl⟩ := h.form
  have HR := Lib.hid h
  clear h
  have hb : decide ((100 : Int) < (n : Int)) = false := by simp; omega
  obtain ⟨i0, hi, hz0, hz1, hz2⟩ := info_parts infoByte
  have hmk := fun wx : World => run_make (P := Try.prog) wx 26 5 i0 _ Try.underlying26 hi hz0 .u64 .u64 (n : Int) (n : Int) (by omega) (by omega) (by rw [hz2]; omega) (by omega)
  rw [hz1] at hmk
  clear hi hz0 hz1 hz2
  go_enter Try.func5, Try.ntmps5
  go_wp2_with (at_builtin; refine wpList_append_rd (k := .u8) (bytes := 1) (by rfl) _ _ 26 rfl w.heap.size 5 Try.underlying26 infoByte _ n (words .u8 (List.replicate n 0)) rfl ?o1 _ rfl bs ?o2 ?o3 ?o4 ?o5 ?_)
  case o1 => exact made_bytes w n (by omega)
  case o2 => exact HR.out.ext (Ext.alloc _ _)
  case o3 => omega
  case o4 => omega
  case o5 => simp
  intro v' w1 hown hbel
  have hrd : Rd .u8 w1 v' (List.replicate n 0 ++ bs) := by
    refine ownsRow.read (base := w.heap.size) (E := 5) (n := n + bs.length) ?_ (mem_app (by intro x hx; rw [List.eq_of_mem_replicate hx]; decide) HR.out.1)
    rw [words_app]; exact hown
  have hE : Ext w w1 := ((Below.refl w.heap.size w).alloc (Nat.le_refl _) _).trans hbel
  obtain ⟨a1, c1, rfl⟩ := hrd.form
  have HRD := Lib.hid hrd
  have HE := Lib.hid hE
  clear hown hbel hrd hE hmk
  have hlen : (List.replicate n 0 ++ bs).length ≤ 140737488355328 := by simp; omega
  generalize hq : List.replicate n 0 ++ bs = qs at *
  have HQ : Hid (bev qs = bev bs) := Lib.hid (by rw [← hq]; exact bev_zeros n bs)
  clear hq
  go_wp2_with fail
  refine (setBytes_z _ qs _ HRD.out hlen).mono ?_
  rintro e w2 ⟨he, y2, rfl, hy⟩
  obtain ⟨m2, aa2, ll2, cc2, rfl⟩ := hy.form
  have HY2 := Lib.hid hy
  replace HE := Lib.hid (HE.out.trans he)
  clear he hy HRD
  go_wp2_with fail
  refine (setBytes_z _ bs _ (HR.out.ext HE.out) (by omega)).mono ?_
  rintro e w3 ⟨he, y3, rfl, hy⟩
  obtain ⟨m3, aa3, ll3, cc3, rfl⟩ := hy.form
  have HY3 := Lib.hid hy
  replace HY2 := Lib.hid (HY2.out.ext he)
  replace HE := Lib.hid (HE.out.trans he)
  clear he hy
  go_wp2_with fail
  refine (same_z _ _ _ _ _ _ _ HY2.out.z HY3.out.z (by omega) (by omega)).mono ?_
  rintro e w4 ⟨he, y4, rfl, hy⟩
  obtain rfl : y4 = .bool true := hy.trans (by rw [HQ.out]; simp)
  replace HE := Lib.hid (HE.out.trans he)
  clear he hy HY2 HY3
  go_wp2_with fail
  refine (setBytes_z _ bs _ (HR.out.ext HE.out) (by omega)).mono ?_
  rintro e w5 ⟨he, y5, rfl, hy⟩
  obtain ⟨m5, aa5, ll5, cc5, rfl⟩ := hy.form
  have HY5 := Lib.hid hy
  replace HE := Lib.hid (HE.out.trans he)
  clear he hy
  go_wp2_with fail
  refine (sign_z _ _ _ _ HY5.out.z (by omega)).mono ?_
  rintro e w6 ⟨he, y6, rfl, hy⟩
  obtain rfl : y6 = .int .i64 (sgnZ (bev bs : Int)) := hy
  replace HE := Lib.hid (HE.out.trans he)
  clear he HY5
  have hsz : (sgnZ (bev bs : Int) == 0) = bs.all (· == 0) := by
    rw [Bool.eq_iff_iff, ← bev_zero_iff]
    rcases sgnZ_cases (bev bs : Int) with ⟨h1, h2, h3⟩ | ⟨h1, h3⟩ | ⟨h1, h2, h3⟩ <;> rw [h3] <;> simp <;> omega
  generalize sgnZ (bev bs : Int) = sg at *
  generalize hal : bs.all (· == 0) = al at *
  have HAL := Lib.hid hal
  clear hal
  go_wp2_with fail
  refine (noBits_z _ bs _ (HR.out.ext HE.out) (by omega)).mono ?_
  rintro e w7 ⟨he, y7, rfl, hy⟩
  obtain rfl : y7 = .bool al := hy.trans (by rw [HAL.out])
  replace HE := Lib.hid (HE.out.trans he)
  clear he
  have hbb : (al == al) = true := by simp
  go_wp2_with fail
  go_ret
  exact ⟨HE.out, rfl⟩

theorem fnBytesZeros_walk (v : Value) (bs : List Nat) (n : Int) (w : World) (h : Rd .u8 w v bs) (hl : bs.length ≤ 140737488351232) (hn : (Lit.int .u64 n).wf = true) :
    Calls Try.prog 5 #[v, .int .u64 n] w (ValR (.bool true) w) := by
  obtain ⟨n, rfl, hn⟩ := u64_nat hn
  by_cases h1 : n ≤ 100
  · exact fnBytesZeros_small v bs n w h hl h1
  · exact fnBytesZeros_big v bs n w h hl (by omega)

end Go.Proofs.Ytfpkaamldifkbaa
