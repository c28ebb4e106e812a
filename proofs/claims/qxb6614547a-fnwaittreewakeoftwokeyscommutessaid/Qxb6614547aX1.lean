import Derived.Test.Qxb6614547aW7
namespace Go.Proofs.Qxb6614547a
open Go.RowKit
open Go.Deep (BT)
set_option linter.unusedVariables false

/-- what a TWaiter holds -/
structure TW where
  frm : ByteArray
  to : ByteArray
  nxt : Int
  seq : Int
  prio : Int
  en : ByteArray

def tino : BT TW → List (Nat × Nat × TW)
  | .nil => []
  | .node b o a l r => tino l ++ (b, o, a) :: tino r
def sizeX : BT TW → Nat
  | .nil => 0
  | .node _ _ _ l r => sizeX l + sizeX r + 1
theorem len_tino (X : BT TW) : (tino X).length = sizeX X := by
  induction X with
  | nil => rfl
  | node b o a l r hl hr => simp [tino, sizeX, hl, hr]; omega

/-- one node's cells, below block B -/
structure NodeAt (W : World) (B b o : Nat) (a : TW) (l r : Value) : Prop where
  lt : b < B
  c0 : W.cell? ⟨b, o, none⟩ = some (.string a.frm)
  c1 : W.cell? ⟨b, o + 1, none⟩ = some (.string a.to)
  c2 : W.cell? ⟨b, o + 2, none⟩ = some (.int .u64 a.nxt)
  c3 : W.cell? ⟨b, o + 3, none⟩ = some (.int .u64 a.seq)
  c4 : W.cell? ⟨b, o + 4, none⟩ = some (.int .u64 a.prio)
  c5 : W.cell? ⟨b, o + 5, none⟩ = some (.string a.en)
  c6 : W.cell? ⟨b, o + 6, none⟩ = some l
  c7 : W.cell? ⟨b, o + 7, none⟩ = some r
  z0 : a.frm.size ≤ 9223372036854775807
  z1 : a.to.size ≤ 9223372036854775807
  z5 : a.en.size ≤ 9223372036854775807
theorem NodeAt.below {W W' : World} {B b o : Nat} {a : TW} {l r : Value} (h : NodeAt W B b o a l r) (hb : Below B W W') : NodeAt W' B b o a l r :=
  ⟨h.lt, (hb.cell (p := ⟨b, o, none⟩) h.lt).trans h.c0, (hb.cell (p := ⟨b, o + 1, none⟩) h.lt).trans h.c1, (hb.cell (p := ⟨b, o + 2, none⟩) h.lt).trans h.c2, (hb.cell (p := ⟨b, o + 3, none⟩) h.lt).trans h.c3, (hb.cell (p := ⟨b, o + 4, none⟩) h.lt).trans h.c4, (hb.cell (p := ⟨b, o + 5, none⟩) h.lt).trans h.c5, (hb.cell (p := ⟨b, o + 6, none⟩) h.lt).trans h.c6, (hb.cell (p := ⟨b, o + 7, none⟩) h.lt).trans h.c7, h.z0, h.z1, h.z5⟩

def XIn (W : World) (B : Nat) : BT TW → Prop
  | .nil => True
  | .node b o a l r => NodeAt W B b o a l.ptr r.ptr ∧ XIn W B l ∧ XIn W B r
theorem XIn.below {W W' : World} {B : Nat} (hb : Below B W W') : ∀ {X : BT TW}, XIn W B X → XIn W' B X
  | .nil, _ => trivial
  | .node b o a l r, ⟨h, hl, hr⟩ => ⟨h.below hb, XIn.below hb hl, XIn.below hb hr⟩
theorem xptr_form (X : BT TW) : ∃ p, X.ptr = .pointer p := by cases X <;> exact ⟨_, rfl⟩

def SpendOK (X : BT TW) : Prop := ∀ (B : Nat) (left : Int) (w : World), XIn w B X → -1 ≤ left → left ≤ 1048576 →
  Calls Try.prog 12 #[X.ptr, .int .i64 left] w fun e w' => ∃ r : Int, e = .returned (.int .i64 r) ∧ w' = w ∧ -1 ≤ r ∧ r ≤ left ∧ (0 ≤ r → 64 * (sizeX X : Int) + r ≤ left)

set_option maxHeartbeats 2000000 in
set_option maxRecDepth 100000 in
theorem spend_nil : SpendOK .nil := by
  intro B left w _ h0 h1
  show Calls Try.prog 12 #[.pointer none, .int .i64 left] w _
  by_cases hl : left < 0
  · go_enter Try.func12, Try.ntmps12
    go_wp2_with fail
    go_ret
    exact ⟨left, rfl, rfl, h0, by omega, by simp [sizeX]⟩
  · have hd : decide (left < 0) = false := by simpa using hl
    go_enter Try.func12, Try.ntmps12
    go_wp2_with fail
    go_ret
    exact ⟨left, rfl, rfl, h0, by omega, by simp [sizeX]⟩

set_option maxHeartbeats 2000000 in
set_option maxRecDepth 100000 in
theorem spend_node (b o : Nat) (a : TW) (l r : BT TW) (ihl : Hid (SpendOK l)) (ihr : Hid (SpendOK r)) : SpendOK (.node b o a l r) := by
  intro B left w hX h0 h1
  obtain ⟨hN, hl, hr⟩ := hX
  show Calls Try.prog 12 #[.pointer (some ⟨b, o, none⟩), .int .i64 left] w _
  by_cases hneg : left < 0
  · go_enter Try.func12, Try.ntmps12
    go_wp2_with fail
    go_ret
    exact ⟨left, rfl, rfl, h0, by omega, fun h => by omega⟩
  · have hd : decide (left < 0) = false := by simpa using hneg
    have c0 := hN.c0
    have c1 := hN.c1
    have c5 := hN.c5
    have c6 := hN.c6
    have c7 := hN.c7
    have z0 := hN.z0
    have z1 := hN.z1
    have z5 := hN.z5
    have HL := hid hl
    have HR := hid hr
    obtain ⟨pl, hpl⟩ := xptr_form l
    obtain ⟨pr, hpr⟩ := xptr_form r
    rw [hpl] at c6
    rw [hpr] at c7
    have HPL := hid hpl
    have HPR := hid hpr
    clear hN hl hr hpl hpr
    by_cases q1 : left - 64 < 0
    · go_enter Try.func12, Try.ntmps12
      go_wp2_with fail
      go_ret
      exact ⟨-1, rfl, rfl, by omega, by omega, fun h => by omega⟩
    have d1 : decide (left - 64 < 0) = false := by simpa using q1
    by_cases q2 : left - 64 < a.frm.size
    · go_enter Try.func12, Try.ntmps12
      go_wp2_with fail
      go_ret
      exact ⟨-1, rfl, rfl, by omega, by omega, fun h => by omega⟩
    by_cases q3 : left - 64 - a.frm.size < a.to.size
    · go_enter Try.func12, Try.ntmps12
      go_wp2_with fail
      go_ret
      exact ⟨-1, rfl, rfl, by omega, by omega, fun h => by omega⟩
    by_cases q4 : left - 64 - a.frm.size - a.to.size < a.en.size
    · go_enter Try.func12, Try.ntmps12
      go_wp2_with fail
      go_ret
      exact ⟨-1, rfl, rfl, by omega, by omega, fun h => by omega⟩
    go_enter Try.func12, Try.ntmps12
    go_wp2_with fail
    rw [← HPL.out]
    refine (ihl.out B _ w HL.out (by omega) (by omega)).mono ?_
    rintro e w1 ⟨r1, rfl, hw1, k1, k2, k3⟩
    rw [hw1]
    clear hw1
    go_wp2_with fail
    rw [← HPR.out]
    refine (ihr.out B _ w HR.out (by omega) (by omega)).mono ?_
    rintro e w2 ⟨r2, rfl, hw2, k4, k5, k6⟩
    rw [hw2]
    clear hw2
    go_wp2_with fail
    go_ret
    refine ⟨r2, rfl, rfl, by omega, by omega, fun h => ?_⟩
    have k6' := k6 h
    have k3' := k3 (by omega)
    simp only [sizeX]
    omega
theorem f12_any (X : BT TW) : SpendOK X := by
  induction X with
  | nil => exact spend_nil
  | node b o a l r hl hr => exact spend_node b o a l r hl hr
end Go.Proofs.Qxb6614547a
