import Derived.Test.Qxb6614547aX9
namespace Go.Proofs.Qxb6614547a
open Go.RowKit
open Go.Deep (BT)
set_option linter.unusedVariables false

set_option maxHeartbeats 1000000 in
theorem f22_any (b : Nat) (x : Bool) (w : World) (h : w.cell? ⟨b, 5, none⟩ = some (.bool x)) : Calls Try.prog 22 #[.pointer (some ⟨b, 0, none⟩)] w fun e w' => e = .returned (.bool x) ∧ w' = w := by
  go_enter Try.func22, Try.ntmps22
  go_wp2_with fail
  go_ret
  exact ⟨rfl, rfl⟩
set_option maxHeartbeats 1000000 in
theorem f23_any (b : Nat) (x : Int) (w : World) (h : w.cell? ⟨b, 4, none⟩ = some (.int .u64 x)) : Calls Try.prog 23 #[.pointer (some ⟨b, 0, none⟩)] w fun e w' => e = .returned (.int .u64 x) ∧ w' = w := by
  go_enter Try.func23, Try.ntmps23
  go_wp2_with fail
  go_ret
  exact ⟨rfl, rfl⟩
set_option maxHeartbeats 1000000 in
theorem f33_any (b : Nat) (x : Option Addr) (w : World) (h : w.cell? ⟨b, 10, none⟩ = some (.pointer x)) : Calls Try.prog 33 #[.pointer (some ⟨b, 0, none⟩)] w fun e w' => e = .returned (.pointer x) ∧ w' = w := by
  go_enter Try.func33, Try.ntmps33
  go_wp2_with fail
  go_ret
  exact ⟨rfl, rfl⟩
set_option maxHeartbeats 1000000 in
theorem f34_any (b : Nat) (x : Option Addr) (w : World) (h : w.cell? ⟨b, 11, none⟩ = some (.pointer x)) : Calls Try.prog 34 #[.pointer (some ⟨b, 0, none⟩)] w fun e w' => e = .returned (.pointer x) ∧ w' = w := by
  go_enter Try.func34, Try.ntmps34
  go_wp2_with fail
  go_ret
  exact ⟨rfl, rfl⟩
set_option maxHeartbeats 1000000 in
theorem f38_any (b : Nat) (x : ByteArray) (w : World) (h : w.cell? ⟨b, 2, none⟩ = some (.string x)) : Calls Try.prog 38 #[.pointer (some ⟨b, 0, none⟩)] w fun e w' => e = .returned (.string x) ∧ w' = w := by
  go_enter Try.func38, Try.ntmps38
  go_wp2_with fail
  go_ret
  exact ⟨rfl, rfl⟩
set_option maxHeartbeats 1000000 in
theorem f40_any (b : Nat) (x : ByteArray) (w : World) (h : w.cell? ⟨b, 12, none⟩ = some (.string x)) : Calls Try.prog 40 #[.pointer (some ⟨b, 0, none⟩)] w fun e w' => e = .returned (.string x) ∧ w' = w := by
  go_enter Try.func40, Try.ntmps40
  go_wp2_with fail
  go_ret
  exact ⟨rfl, rfl⟩
set_option maxHeartbeats 1000000 in
theorem f31_any (b : Nat) (x : Int) (w : World) (h : w.cell? ⟨b, 1, none⟩ = some (.int .u64 x)) : Calls Try.prog 31 #[.pointer (some ⟨b, 0, none⟩)] w fun e w' => e = .returned (.int .u64 x) ∧ w' = w := by
  go_enter Try.func31, Try.ntmps31
  go_wp2_with fail
  go_ret
  exact ⟨rfl, rfl⟩
set_option maxHeartbeats 1000000 in
theorem f35_any (b : Nat) (ao : Option Addr) (n cap : Nat) (w : World) (h : w.cell? ⟨b, 2, none⟩ = some (.slice ao n cap)) : Calls Try.prog 35 #[.pointer (some ⟨b, 0, none⟩)] w fun e w' => e = .returned (.slice ao n cap) ∧ w' = w := by
  go_enter Try.func35, Try.ntmps35
  go_wp2_with fail
  go_ret
  exact ⟨rfl, rfl⟩
set_option maxHeartbeats 1000000 in
theorem f37_any (b : Nat) (x : Option Addr) (w : World) (h : w.cell? ⟨b, 0, none⟩ = some (.pointer x)) : Calls Try.prog 37 #[.pointer (some ⟨b, 0, none⟩)] w fun e w' => e = .returned (.pointer x) ∧ w' = w := by
  go_enter Try.func37, Try.ntmps37
  go_wp2_with fail
  go_ret
  exact ⟨rfl, rfl⟩

/-! ### pwFlat -/
def PwOK (T : BT Wt) : Prop := ∀ (d lim : Nat) (v : Value) (n : Nat) (xs : List Value) (w : World), TIn w T → w.ownsRow 0 36 1 v n xs → d + sizeT T ≤ lim → n + sizeT T ≤ lim → lim ≤ 20000 →
  Calls Try.prog 36 #[T.ptr, v, .int .i64 d, .int .i64 lim] w fun e w' => ∃ v', e = .returned (.tuple #[v', .bool true]) ∧ w'.ownsRow 0 36 1 v' (n + sizeT T) (xs ++ (ino T).map ptrOf) ∧ Ext w w' v v'

set_option maxHeartbeats 2000000 in
theorem pw_nil : PwOK .nil := by
  intro d lim v n xs w _ ho hd hn hl
  show Calls Try.prog 36 #[.pointer none, _, _, _] w _
  obtain ⟨ao, cap, rfl⟩ := own_slice ho
  have HO := hid ho
  clear ho
  go_enter Try.func36, Try.ntmps36
  go_wp2_with fail
  refine bodyPost_ret (v := .tuple #[.slice ao n cap, .bool true]) (by simp [results, Try.results36, go_sem]) rfl ⟨_, rfl, by simpa [sizeT, ino] using HO.out, Ext.refl _ _⟩

set_option maxHeartbeats 4000000 in
set_option maxRecDepth 100000 in
theorem pw_node (b o : Nat) (a : Wt) (l r : BT Wt) (ihl : Hid (PwOK l)) (ihr : Hid (PwOK r)) : PwOK (.node b o a l r) := by
  intro d lim v n xs w hin ho hd hn hl
  obtain ⟨i0, hi, hz0, hz1, hz2⟩ := info_parts Try.info36
  have HIN := hid hin
  obtain ⟨h0, hb, hl1, hr1⟩ := hin
  subst h0
  obtain ⟨_, _, _, _, _, _, _, c10, c11, _, _⟩ := wcell hb
  obtain ⟨pl, hpl⟩ := ptr_form l w hl1
  obtain ⟨pr, hpr⟩ := ptr_form r w hr1
  rw [hpl] at c10
  have HPL := hid hpl
  have HPR := hid hpr
  simp only [sizeT] at hd hn
  show Calls Try.prog 36 #[.pointer (some ⟨b, 0, none⟩), _, _, _] w _
  obtain ⟨ao, cap, rfl⟩ := own_slice ho
  have HO := hid ho
  have HL1 := hid hl1
  clear hpl hpr hl1 hr1 ho hb c11
  have i1 : ¬ (lim : Int) < (d : Int) := by omega
  have i2 : ¬ (lim : Int) ≤ (n : Int) := by omega
  have i3 : IntKind.i64.wrap ((d : Int) + 1) = ((d + 1 : Nat) : Int) := by
    have := wrap_small (d + 1) (by omega)
    simpa using this
  have C33 := hid (f33_any b pl w c10)
  go_enter Try.func36, Try.ntmps36
  go_wp2_with (go_at_call 33; refine C33.out.mono ?_; rintro e0 w' ⟨rfl, hw'⟩; rw [hw']; clear hw')
  rw [← HPL.out]
  refine (ihl.out (d + 1) lim (.slice ao n cap) n xs w HL1.out HO.out (by omega) (by omega) hl).mono ?_
  rintro e w1 ⟨v1, rfl, ho1, hx1⟩
  obtain ⟨ao1, cap1, rfl⟩ := own_slice ho1
  have hin1 := TIn.ext HO.out hx1 HIN.out
  have HIN1 := hid hin1
  have HX1 := hid hx1
  have i4 : ¬ (lim : Int) ≤ ((n + sizeT l : Nat) : Int) := by omega
  have i4' : ¬ (lim : Int) ≤ (n : Int) + (sizeT l : Int) := by omega
  clear hx1 hin1 c10 C33
  go_wp2_with (at_builtin; go_must (refine wpList_append_one _ rfl _ _ 35 rfl 36 i0 (.pointer none) 8 Try.underlying35 hi hz0 hz1 hz2 rfl _ _ _ rfl (ho1.alloc _) ⟨w1.heap.size, 0, none⟩ (.pointer (some ⟨b, 0, none⟩)) rfl (cell_one_new _ _ _) rfl (by unfold maxLen; omega) (by omega) ?_); intro v2 w2 ho2 hx2; have hxx := ((Ext.refl w1 (.slice ao1 (n + sizeT l) cap1)).alloc _).trans hx2; have hin2 := TIn.ext ho1 hxx HIN1.out; have d11 := (wcell hin2.2.1).2.2.2.2.2.2.2.2.1; rw [HPR.out] at d11; have C34 := hid (f34_any b pr w2 d11))
  refine C34.out.mono ?_
  rintro e w3 ⟨rfl, hw3⟩
  rw [hw3]
  clear hw3
  have HR2 := hid hin2.2.2.2
  have HO2 := hid ho2
  have HXX := hid hxx
  clear ho1 hx2 hxx hin2 d11 C34 ho2
  go_wp2_with fail
  rw [← HPR.out]
  refine (ihr.out (d + 1) lim v2 (n + sizeT l + 1) _ w2 HR2.out HO2.out (by omega) (by omega) hl).mono ?_
  rintro e w4 ⟨v4, rfl, ho4, hx4⟩
  obtain ⟨ao4, cap4, rfl⟩ := own_slice ho4
  have HO4 := hid ho4
  have HX4 := hid hx4
  clear ho4 hx4
  go_wp2_with fail
  refine bodyPost_ret (v := .tuple #[.slice ao4 (n + sizeT l + 1 + sizeT r) cap4, .bool true]) (by simp [results, Try.results36, go_sem]) rfl ⟨_, rfl, ?_, (HX1.out.trans HXX.out).trans HX4.out⟩
  have := HO4.out
  simp only [sizeT, ino]
  rw [show n + (sizeT l + sizeT r + 1) = n + sizeT l + 1 + sizeT r from by omega]
  simpa [ptrOf] using this
theorem f36_any (T : BT Wt) : PwOK T := by
  induction T with
  | nil => exact pw_nil
  | node b o a l r hl hr => exact pw_node b o a l r hl hr
end Go.Proofs.Qxb6614547a
