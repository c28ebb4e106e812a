import Derived.Test.Qxb6614547aX1
namespace Go.Proofs.Qxb6614547a
open Go.RowKit
open Go.Deep (BT)
set_option linter.unusedVariables false

theorem Try.info30 : (Try.prog.info? 30).map (fun i => (i.zero, i.size, i.bytes)) = some (some (.pointer none), 1, 8) := by kernel_rfl
def tptr (p : Nat × Nat × TW) : Value := .pointer (some ⟨p.1, p.2.1, none⟩)
theorem Ext.below {w w' : World} {v v' : Value} {B : Nat} (h : Ext w w' v v') (hv : ∀ k, v.ownBlock = some k → B ≤ k) (hB : B ≤ w.heap.size) : Below B w w' :=
  ⟨h.os, h.tape, h.output, h.size, fun k hk => h.block k (by omega) (fun e => by have := hv k e.symm; omega)⟩
theorem Ext.ownge {w w' : World} {v v' : Value} {B : Nat} (h : Ext w w' v v') (hv : ∀ k, v.ownBlock = some k → B ≤ k) (hB : B ≤ w.heap.size) : ∀ k, v'.ownBlock = some k → B ≤ k := by
  intro k hk
  rcases h.own with e | ⟨j, e, hj⟩
  · exact hv k (e.symm.trans hk)
  · rw [e] at hk; cases hk; omega

def FlatOK (X : BT TW) : Prop := ∀ (B : Nat) (v : Value) (n : Nat) (xs : List Value) (w : World), XIn w B X → w.ownsRow 0 30 1 v n xs → (∀ k, v.ownBlock = some k → B ≤ k) → B ≤ w.heap.size → n + sizeX X ≤ 100000 →
  Calls Try.prog 14 #[X.ptr, v] w fun e w' => ∃ v', e = .returned v' ∧ w'.ownsRow 0 30 1 v' (n + sizeX X) (xs ++ (tino X).map tptr) ∧ Ext w w' v v'

set_option maxHeartbeats 1000000 in
theorem flat_nil : FlatOK .nil := by
  intro B v n xs w _ ho hv hB hn
  show Calls Try.prog 14 #[.pointer none, v] w _
  have HO := hid ho
  clear ho
  go_enter Try.func14, Try.ntmps14
  go_wp2_with fail
  go_ret
  exact ⟨v, rfl, by simpa [sizeX, tino] using HO.out, Ext.refl _ _⟩

set_option maxHeartbeats 2000000 in
set_option maxRecDepth 100000 in
theorem flat_node (b o : Nat) (a : TW) (l r : BT TW) (ihl : Hid (FlatOK l)) (ihr : Hid (FlatOK r)) : FlatOK (.node b o a l r) := by
  intro B v n xs w hX ho hv hB hn
  obtain ⟨i0, hi, hz0, hz1, hz2⟩ := info_parts Try.info30
  obtain ⟨hN, hl, hr⟩ := hX
  simp only [sizeX] at hn
  show Calls Try.prog 14 #[.pointer (some ⟨b, o, none⟩), v] w _
  have c6 := hN.c6
  obtain ⟨pl, hpl⟩ := xptr_form l
  obtain ⟨pr, hpr⟩ := xptr_form r
  rw [hpl] at c6
  have HPL := hid hpl
  have HPR := hid hpr
  have HN := hid hN
  have HL := hid hl
  have HR := hid hr
  have HO := hid ho
  have HV := hid hv
  clear hN hl hr hpl hpr ho hv
  go_enter Try.func14, Try.ntmps14
  go_wp2_with fail
  rw [← HPL.out]
  refine (ihl.out B v n xs w HL.out HO.out HV.out hB (by omega)).mono ?_
  rintro e w1 ⟨v1, rfl, ho1, hx1⟩
  have hb1 := hx1.below HV.out hB
  have hv1 := hx1.ownge HV.out hB
  have HB1 := hid hb1
  have HV1 := hid hv1
  have HX1 := hid hx1
  have hs1 : B ≤ w1.heap.size := Nat.le_trans hB hx1.size
  clear c6 hb1 hv1 hx1
  go_wp2_with (at_builtin; go_must (refine wpList_append_one _ rfl _ _ 33 rfl 30 i0 (.pointer none) 8 Try.underlying33 hi hz0 hz1 hz2 rfl _ _ _ rfl (ho1.alloc _) ⟨w1.heap.size, 0, none⟩ (.pointer (some ⟨b, o, none⟩)) rfl (cell_one_new _ _ _) rfl (by unfold maxLen; omega) (by omega) ?_); intro v2 w2 ho2 hx2; have hxx := ((Ext.refl w1 v1).alloc _).trans hx2; have d7 := (HN.out.below (HB1.out.trans (hxx.below HV1.out hs1))).c7; rw [HPR.out] at d7)
  rw [← HPR.out]
  have hs2 : B ≤ w2.heap.size := Nat.le_trans hs1 hxx.size
  refine (ihr.out B v2 (n + sizeX l + 1) _ w2 (HR.out.below (HB1.out.trans (hxx.below HV1.out hs1))) ho2 (hxx.ownge HV1.out hs1) hs2 (by omega)).mono ?_
  rintro e w3 ⟨v3, rfl, ho3, hx3⟩
  have HO3 := hid ho3
  have HX3 := hid ((HX1.out.trans hxx).trans hx3)
  clear ho1 ho2 hx2 hxx d7 ho3 hx3
  go_wp2_with fail
  go_ret
  refine ⟨v3, rfl, ?_, HX3.out⟩
  have := HO3.out
  simp only [sizeX, tino]
  rw [show n + (sizeX l + sizeX r + 1) = n + sizeX l + 1 + sizeX r from by omega]
  simpa [tptr] using this
theorem f14_any (X : BT TW) : FlatOK X := by
  induction X with
  | nil => exact flat_nil
  | node b o a l r hl hr => exact flat_node b o a l r hl hr

def toWt (a : TW) : Wt := ⟨a.frm, a.to, a.seq, a.prio, 0, a.nxt⟩

set_option maxHeartbeats 1000000 in
theorem f26_any (B g go h ho : Nat) (a b : TW) (la ra lb rb : Value) (w : World) (hg : NodeAt w B g go a la ra) (hh : NodeAt w B h ho b lb rb) :
    Calls Try.prog 26 #[.pointer (some ⟨g, go, none⟩), .pointer (some ⟨h, ho, none⟩)] w fun x w' => x = .returned (.bool (prec (toWt a) (toWt b))) ∧ ∃ q, w' = w.drewN q := by
  have a1 := hg.c0
  have a8 := hg.c3
  have b1 := hh.c0
  have b8 := hh.c3
  clear hg hh
  cases h1 : bl a.frm.toList b.frm.toList
  · cases h2 : (a.frm.toList == b.frm.toList)
    · have hp : prec (toWt a) (toWt b) = false := by simp only [prec, toWt, h1, h2]; rfl
      rw [hp]
      clear hp
      go_enter Try.func26, Try.ntmps26
      go_wp2
      go_quiet (fail)
      go_wp2
      go_ret
      exact ⟨rfl, _, rfl⟩
    · have hp : prec (toWt a) (toWt b) = decide (a.seq < b.seq) := by simp only [prec, toWt, h1, h2]; rfl
      rw [hp]
      clear hp
      go_enter Try.func26, Try.ntmps26
      go_wp2
      go_quiet (fail)
      go_wp2
      go_ret
      exact ⟨rfl, _, rfl⟩
  · have hp : prec (toWt a) (toWt b) = true := by simp only [prec, toWt, h1]; rfl
    rw [hp]
    clear hp
    go_enter Try.func26, Try.ntmps26
    go_wp2
    go_quiet (fail)
    go_wp2
    go_ret
    exact ⟨rfl, _, rfl⟩

set_option maxHeartbeats 1000000 in
theorem f21_any (B g go : Nat) (a : TW) (l r : Value) (k : ByteArray) (w : World) (hg : NodeAt w B g go a l r) :
    Calls Try.prog 21 #[.pointer (some ⟨g, go, none⟩), .string k] w fun x w' => x = .returned (.bool (holdsW k (toWt a))) ∧ w' = w := by
  have a0 := hg.c0
  have a1 := hg.c1
  clear hg
  have hle := bl_le a.frm.toList k.toList
  have HLE : Hid ((Op.bytesLess a.frm.toList k.toList || a.frm.toList == k.toList) = !bl k.toList a.frm.toList) := hle
  clear hle
  cases h1 : bl k.toList a.frm.toList
  · have hh : (Op.bytesLess a.frm.toList k.toList || a.frm.toList == k.toList) = true := by rw [HLE.out, h1]; rfl
    cases h2 : a.to.toList.isEmpty
    · have hp : holdsW k (toWt a) = bl k.toList a.to.toList := by simp only [holdsW, toWt, endsA, h1, h2]; simp
      rw [hp]
      clear hp h1
      go_enter Try.func21, Try.ntmps21
      go_wp2
      go_ret
      exact ⟨rfl, rfl⟩
    · have hp : holdsW k (toWt a) = true := by simp only [holdsW, toWt, endsA, h1, h2]; simp
      rw [hp]
      clear hp h1
      go_enter Try.func21, Try.ntmps21
      go_wp2
      go_ret
      exact ⟨rfl, rfl⟩
  · have hh : (Op.bytesLess a.frm.toList k.toList || a.frm.toList == k.toList) = false := by rw [HLE.out, h1]; rfl
    have hp : holdsW k (toWt a) = false := by simp only [holdsW, toWt, h1]; rfl
    rw [hp]
    clear hp h1
    go_enter Try.func21, Try.ntmps21
    go_wp2
    go_ret
    exact ⟨rfl, rfl⟩
end Go.Proofs.Qxb6614547a
