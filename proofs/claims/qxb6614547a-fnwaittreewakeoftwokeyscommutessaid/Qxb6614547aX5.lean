import Derived.Test.Qxb6614547aX4
import Derived.Deep.RegionHeld3
namespace Go.Proofs.Qxb6614547a
open Go.RowKit
open Go.Deep (BT)
set_option linter.unusedVariables false

theorem own_slice {w : World} {e : TypeId} {v : Value} {n : Nat} {xs : List Value} (ho : w.ownsRow 0 e 1 v n xs) : ∃ ao cap, v = .slice ao n cap := by
  rcases ho.2 with ⟨rfl, rfl⟩ | ⟨g, cap, cur, rfl, _⟩
  · exact ⟨none, 0, rfl⟩
  · exact ⟨_, cap, rfl⟩
theorem own_kept {w w' : World} {b : Nat} {v : Value} {n : Nat} {xs : List Value} (ho : w.ownsRow 0 36 1 v n xs) (hk : Kept [b] w w') {o : Obj} (hb : w.heap[b]? = some o) (hne : ∀ cs, o ≠ .cells cs 36 (0, 0)) : w'.ownsRow 0 36 1 v n xs := by
  refine ⟨ho.1, ?_⟩
  rcases ho.2 with h2 | ⟨g, cap, cur, hv, hg, hh, r'⟩
  · exact .inl h2
  · refine .inr ⟨g, cap, cur, hv, hg, (hk.block g ?_).trans hh, r'⟩
    intro e
    simp at e
    rw [e, hb] at hh
    simp only [Option.some.injEq] at hh
    exact hne _ hh

set_option maxHeartbeats 4000000 in
set_option maxRecDepth 100000 in
theorem build_node (b o : Nat) (a : TW) (l r : BT TW) (ihl : Hid (BuildOK l)) (ihr : Hid (BuildOK r)) : BuildOK (.node b o a l r) := by
  intro B ob v n xs w hX hE hc ho hv hob hB hn
  obtain ⟨i0, hi, hz0, hz1, hz2⟩ := info_parts Try.info36
  obtain ⟨hN, hl, hr⟩ := hX
  simp only [sizeX] at hn
  have hE2 : endsOKB l = true ∧ endsOKB r = true := by simp only [endsOKB, Bool.and_eq_true] at hE; exact hE.2
  show Calls Try.prog 15 #[.pointer (some ⟨b, o, none⟩), .pointer (some ⟨ob, 0, none⟩)] w _
  have c6 := hN.c6
  obtain ⟨pl, hpl⟩ := xptr_form l
  obtain ⟨pr, hpr⟩ := xptr_form r
  rw [hpl] at c6
  have HE := hid hE
  have HE2 := hid hE2
  have HC := hid hc
  have HPL := hid hpl
  have HPR := hid hpr
  have HN := hid hN
  have HL := hid hl
  have HR := hid hr
  have HO := hid ho
  have HV := hid hv
  clear hN hl hr hpl hpr ho hv hE hE2 hc
  go_enter Try.func15, Try.ntmps15
  go_wp2_with fail
  rw [← HPL.out]
  refine (ihl.out B ob v n xs w HL.out HE2.out.1 HC.out HO.out HV.out hob hB (by omega)).mono ?_
  rintro e w1 ⟨v1, Kl, rfl, hb1⟩
  have HB1 := hid hb1
  have hbe1 := hb1.bx.below hob HV.out hB
  have HBE1 := hid hbe1
  have HV1 := hid (hb1.bx.ownge HV.out hB)
  have hs1 : B ≤ w1.heap.size := Nat.le_trans hB hb1.bx.size
  have hN1 := HN.out.below hbe1
  have d0 := hN1.c0
  have d1 := hN1.c1
  have d2 := hN1.c2
  have d3 := hN1.c3
  have d4 := hN1.c4
  have d5 := hN1.c5
  obtain ⟨ql, hql⟩ := ptr_form Kl w1 hb1.tin
  have HQL := hid hql
  rw [hql]
  clear c6 hb1 hbe1 hN1 hql
  have C28 := hid (f28_any a.frm a.to a.en a.nxt a.seq a.prio w1.drew)
  go_wp2_with fail
  go_region_held3 (fun w' => w'.cell? ⟨b, o, none⟩ = some (.string a.frm) ∧ w'.cell? ⟨b, o + 1, none⟩ = some (.string a.to) ∧ w'.cell? ⟨b, o + 2, none⟩ = some (.int .u64 a.nxt) ∧ w'.cell? ⟨b, o + 3, none⟩ = some (.int .u64 a.seq) ∧ w'.cell? ⟨b, o + 4, none⟩ = some (.int .u64 a.prio) ∧ w'.cell? ⟨b, o + 5, none⟩ = some (.string a.en)) (go_keep) ((go_at_call 28; refine (f28_any a.frm a.to a.en a.nxt a.seq a.prio _).mono ?_; rintro e w2 ⟨rfl, rfl⟩))
  obtain ⟨w2, hw2⟩ : ∃ w2, w2 = ((w1.alloc (.chan 0 #[] false 0 0 false)).alloc (.cells (wcells ⟨a.frm, a.to, a.seq, a.prio, w1.heap.size, a.nxt⟩ true (.pointer none) (.pointer none) a.en) 74)).drew := ⟨_, rfl⟩
  rw [← hw2]
  have hs2 : w2.heap.size = w1.heap.size + 2 := by rw [hw2]; simp
  have x12 : BX ob w1 w2 v1 v1 := by rw [hw2]; exact (((BX.refl ob w1 v1).alloc _).alloc _).drew
  have hc2 : w2.heap[ob]? = some (.cells #[v1] 35) := by
    have := (Array.getElem?_eq_some_iff.1 HB1.out.cell).1
    rw [hw2]; exact (Below.heap_alloc _ _ _ (by simp; omega)).trans ((Below.heap_alloc _ _ _ this).trans HB1.out.cell)
  have ho2 : w2.ownsRow 0 36 1 v1 (n + sizeX l) (xs ++ (ino Kl).map ptrOf) := by rw [hw2]; exact (HB1.out.row.alloc _).alloc _
  have hh2 : w2.heap[w1.heap.size + 1]? = some (.cells (wcells ⟨a.frm, a.to, a.seq, a.prio, w1.heap.size, a.nxt⟩ true (.pointer none) (.pointer none) a.en) 74) := by
    rw [hw2]; exact heap_top _ _ _ (by simp)
  have HW2 : Hid (w2 = (w1.drew.alloc (.chan 0 #[] false 0 0 false)).alloc (.cells (wcells ⟨a.frm, a.to, a.seq, a.prio, w1.heap.size, a.nxt⟩ true (.pointer none) (.pointer none) a.en) 74)) := hw2
  have e1 : w2.cell? ⟨ob, 0, none⟩ = some v1 := cell_of_row _ _ 0 _ _ _ hc2
  have HBE2 := hid (HBE1.out.trans (x12.below hob HV1.out hs1))
  have HS2 := hid hs2
  have HX12 := hid x12
  have HC2 := hid hc2
  have HH2 := hid hh2
  have hsB2 : B ≤ w2.heap.size := by omega
  have hbo : ¬ b = ob := by have := HN.out.lt; omega
  have hbo' : ¬ ob = b := by omega
  clear hw2 hs2 x12 hc2 hh2 d0 d1 d2 d3 d4 d5 C28
  go_wp2_with (at_builtin; go_must (refine wpList_append_one _ rfl _ _ 35 rfl 36 i0 (.pointer none) 8 Try.underlying35 hi hz0 hz1 hz2 rfl _ _ _ rfl (ho2.alloc _) ⟨w2.heap.size, 0, none⟩ (.pointer (some ⟨w1.heap.size + 1, 0, none⟩)) rfl (cell_one_new _ _ _) rfl (by unfold maxLen; omega) (by omega) ?_); intro v3 w3 ho3 hx3; obtain ⟨ao3, cap3, rfl⟩ := own_slice ho3; have hxx := ((Ext.refl w2 v1).alloc _).trans hx3; have hc3 := ext_block ho2 hxx HC2.out (by simp); have e3 : w3.cell? ⟨ob, 0, none⟩ = some v1 := cell_of_row _ _ 0 _ _ _ hc3; have f3 := frozen_of_row _ _ 0 _ _ hc3; have d7 := (HN.out.below (HBE2.out.trans (hxx.below HV1.out hsB2))).c7; rw [HPR.out] at d7)
  clear hx3
  generalize Value.slice ao3 (n + sizeX l + 1) cap3 = v3 at ho3 hxx ⊢
  have hk4 : Kept [ob] w3 (w3.setCell ⟨ob, 0, none⟩ v3) := upd_kept w3 _
  have hc4 : (w3.setCell ⟨ob, 0, none⟩ v3).heap[ob]? = some (.cells #[v3] 35) := (heap_setCell_same w3 ob 0 _ 35 v3 hc3).trans rfl
  have ho4 := own_kept ho3 hk4 hc3 (by simp)
  have x24 : BX ob w2 (w3.setCell ⟨ob, 0, none⟩ v3) v1 v3 := hxx.bx.trans (hk4.bx v3)
  generalize w3.setCell ⟨ob, 0, none⟩ v3 = w4 at hk4 hc4 ho4 x24 ⊢
  have hbe4 := HBE2.out.trans (x24.below hob HV1.out hsB2)
  have hh4 := x24.plain HC2.out ho2 HH2.out (fun cs => ⟨by simp, by simp⟩)
  rw [← HPR.out]
  refine (ihr.out B ob v3 (n + sizeX l + 1) _ w4 (HR.out.below hbe4) HE2.out.2 hc4 ho4 (x24.ownge HV1.out hsB2) hob (Nat.le_trans hsB2 x24.size) (by omega)).mono ?_
  rintro e w5 ⟨v5, Kr, rfl, hb5⟩
  obtain ⟨qr, hqr⟩ := ptr_form Kr w5 hb5.tin
  have hh5 := hb5.bx.plain hc4 ho4 hh4 (fun cs => ⟨by simp, by simp⟩)
  have C29 := hid (f29_any (w1.heap.size + 1) _ true _ _ ql qr a.en w5 hh5)
  have HQR := hid hqr
  have HB5 := hid hb5
  have HX24 := hid x24
  have HC4 := hid hc4
  have HO4 := hid ho4
  rw [hqr]
  clear ho2 e1 ho3 hxx hc3 e3 f3 d7 hk4 hc4 ho4 x24 hbe4 hh4 hb5 hqr hh5
  go_wp2_with fail
  refine C29.out.mono ?_
  rintro e w6 ⟨rfl, hh6, hk6⟩
  have HH6 := hid hh6
  have HK6 := hid hk6
  clear hh6 hk6 C29
  go_wp2_with fail
  go_ret
  refine ⟨v5, .node (w1.heap.size + 1) 0 ⟨a.frm, a.to, a.seq, a.prio, w1.heap.size, a.nxt⟩ Kl Kr, rfl, ?_⟩
  exact built_node HE.out HC.out HO.out HB1.out HW2.out HX24.out HC4.out HO4.out HB5.out HK6.out (by rw [HQL.out, HQR.out]; exact HH6.out)
theorem f15_any (X : BT TW) : BuildOK X := by
  induction X with
  | nil => exact build_nil
  | node b o a l r hl hr => exact build_node b o a l r hl hr
end Go.Proofs.Qxb6614547a
