import Derived.Test.Qxb6614547aChan
import Derived.Test.Qxb6614547aTr
import Derived.RegionTactic
import Derived.ChangeAlike
import Derived.Deep.QuietTactic
import Derived.Deep.RegionWith
import Derived.BigQuiet
import Derived.Below
import Derived.Outline
import Derived.LaidEqlPtr
namespace Go.Proofs.Qxb6614547a
open Go.RowKit
open Go.Deep (BT)
set_option linter.unusedVariables false

def wcells (a : Wt) (wt : Bool) (l r : Value) (en : ByteArray) : Array Value :=
  #[.pointer none, .string a.frm, .string a.to, .chan (some a.ch), .int .u64 a.nxt, .bool wt, .pointer none, .int .i64 0, .int .u64 a.seq, .int .u64 a.prio, l, r, .string en]

theorem hid {p : Prop} (h : p) : Hid p := h

set_option maxHeartbeats 400000 in
theorem f44_any (e k : ByteArray) (w : World) : Calls Try.prog 44 #[.string e, .string k] w fun x w' => x = .returned (.bool (endsA e k)) ∧ w' = w := by
  cases he : e.toList.isEmpty
  · have h : endsA e k = bl k.toList e.toList := by simp [endsA, he]
    rw [h]
    go_enter Try.func44, Try.ntmps44
    go_wp2
    go_ret
    exact ⟨rfl, rfl⟩
  · have h : endsA e k = true := by simp [endsA, he]
    rw [h]
    go_enter Try.func44, Try.ntmps44
    go_wp2
    go_ret
    exact ⟨rfl, rfl⟩

theorem run_max_str (w : World) (ts : Array TypeId) (t : TypeId) (x y : ByteArray) : (Builtin.max_ ts t #[.string x, .string y]).run Try.prog w = .ok (.string (if bl x.toList y.toList = true then y else x)) w := by
  cases h : bl x.toList y.toList
  · have h' : Op.bytesLess x.toList y.toList = false := h
    simp [Builtin.max_, Builtin.max2, Op.stringOp, asBool, h']
  · have h' : Op.bytesLess x.toList y.toList = true := h
    simp [Builtin.max_, Builtin.max2, Op.stringOp, asBool, h']
set_option maxHeartbeats 400000 in
theorem f49_any (a b : ByteArray) (w : World) : Calls Try.prog 49 #[.string a, .string b] w fun x w' => x = .returned (.string (laterB a b)) ∧ w' = w := by
  cases ha : a.toList.isEmpty
  · cases hb : b.toList.isEmpty
    · have hmx := fun (w : World) ts t => run_max_str w ts t a b
      cases hab : bl a.toList b.toList
      · have h : laterB a b = a := by simp [laterB, ha, hb, hab]
        rw [h]
        go_enter Try.func49, Try.ntmps49
        go_wp2
        go_ret
        exact ⟨rfl, rfl⟩
      · have h : laterB a b = b := by simp [laterB, ha, hb, hab]
        rw [h]
        go_enter Try.func49, Try.ntmps49
        go_wp2
        go_ret
        exact ⟨rfl, rfl⟩
    · have h : laterB a b = ⟨#[]⟩ := by simp [laterB, ha, hb]
      rw [h]
      go_enter Try.func49, Try.ntmps49
      go_wp2
      go_ret
      exact ⟨rfl, rfl⟩
  · have h : laterB a b = ⟨#[]⟩ := by simp [laterB, ha]
    rw [h]
    go_enter Try.func49, Try.ntmps49
    go_wp2
    go_ret
    exact ⟨rfl, rfl⟩

set_option maxHeartbeats 400000 in
theorem f39_any (a b : ByteArray) (w : World) : Calls Try.prog 39 #[.string a, .string b] w fun x w' => x = .returned (.string (laterB a b)) ∧ w' = w := by
  cases ha : a.toList.isEmpty
  · cases hb : b.toList.isEmpty
    · cases hab : bl a.toList b.toList
      · cases heq : (a.toList == b.toList)
        · have h : laterB a b = a := by simp [laterB, ha, hb, hab]
          rw [h]
          go_enter Try.func39, Try.ntmps39
          go_wp2
          go_ret
          exact ⟨rfl, rfl⟩
        · have h : laterB a b = b := by simp only [laterB, ha, hb, hab]; simp; exact toList_inj (by simpa using heq)
          rw [h]
          go_enter Try.func39, Try.ntmps39
          go_wp2
          go_ret
          exact ⟨rfl, rfl⟩
      · have h : laterB a b = b := by simp [laterB, ha, hb, hab]
        rw [h]
        go_enter Try.func39, Try.ntmps39
        go_wp2
        go_ret
        exact ⟨rfl, rfl⟩
    · have h : laterB a b = ⟨#[]⟩ := by simp [laterB, ha, hb]
      rw [h]
      go_enter Try.func39, Try.ntmps39
      go_wp2
      go_ret
      exact ⟨rfl, rfl⟩
  · have h : laterB a b = ⟨#[]⟩ := by simp [laterB, ha]
    rw [h]
    go_enter Try.func39, Try.ntmps39
    go_wp2
    go_ret
    exact ⟨rfl, rfl⟩

/-- a waiter's cells, one by one -/
theorem wcell {W : World} {b : Nat} {a : Wt} {wt : Bool} {l r : Value} {en : ByteArray} (h : W.heap[b]? = some (.cells (wcells a wt l r en) 74)) :
    W.cell? ⟨b, 1, none⟩ = some (.string a.frm) ∧ W.cell? ⟨b, 2, none⟩ = some (.string a.to) ∧ W.cell? ⟨b, 3, none⟩ = some (.chan (some a.ch)) ∧ W.cell? ⟨b, 4, none⟩ = some (.int .u64 a.nxt) ∧
    W.cell? ⟨b, 5, none⟩ = some (.bool wt) ∧ W.cell? ⟨b, 8, none⟩ = some (.int .u64 a.seq) ∧ W.cell? ⟨b, 9, none⟩ = some (.int .u64 a.prio) ∧ W.cell? ⟨b, 10, none⟩ = some l ∧ W.cell? ⟨b, 11, none⟩ = some r ∧
    W.cell? ⟨b, 12, none⟩ = some (.string en) ∧ ∀ i, W.frozen? ⟨b, i, none⟩ = false :=
  ⟨cell_of_row _ _ 1 _ _ _ h, cell_of_row _ _ 2 _ _ _ h, cell_of_row _ _ 3 _ _ _ h, cell_of_row _ _ 4 _ _ _ h, cell_of_row _ _ 5 _ _ _ h, cell_of_row _ _ 8 _ _ _ h, cell_of_row _ _ 9 _ _ _ h, cell_of_row _ _ 10 _ _ _ h, cell_of_row _ _ 11 _ _ _ h, cell_of_row _ _ 12 _ _ _ h, fun i => frozen_of_row _ _ i _ _ h⟩

set_option maxHeartbeats 1000000 in
theorem f47_any (g h : Nat) (a b : Wt) (wa wb : Bool) (la ra lb rb : Value) (ea eb : ByteArray) (w : World) (hg : w.heap[g]? = some (.cells (wcells a wa la ra ea) 74)) (hh : w.heap[h]? = some (.cells (wcells b wb lb rb eb) 74)) :
    Calls Try.prog 47 #[.pointer (some ⟨g, 0, none⟩), .pointer (some ⟨h, 0, none⟩)] w fun x w' => x = .returned (.bool (prec a b)) ∧ ∃ q, w' = w.drewN q := by
  obtain ⟨a1, _, _, _, _, a8, _, _, _, _, _⟩ := wcell hg
  obtain ⟨b1, _, _, _, _, b8, _, _, _, _, _⟩ := wcell hh
  clear hg hh
  cases h1 : bl a.frm.toList b.frm.toList
  · cases h2 : (a.frm.toList == b.frm.toList)
    · have hp : prec a b = false := by simp only [prec, h1, h2]; rfl
      rw [hp]
      clear hp
      go_enter Try.func47, Try.ntmps47
      go_wp2
      go_quiet (fail)
      go_wp2
      go_ret
      exact ⟨rfl, _, rfl⟩
    · have hp : prec a b = decide (a.seq < b.seq) := by simp only [prec, h1, h2]; rfl
      rw [hp]
      clear hp
      go_enter Try.func47, Try.ntmps47
      go_wp2
      go_quiet (fail)
      go_wp2
      go_ret
      exact ⟨rfl, _, rfl⟩
  · have hp : prec a b = true := by simp only [prec, h1]; rfl
    rw [hp]
    clear hp
    go_enter Try.func47, Try.ntmps47
    go_wp2
    go_quiet (fail)
    go_wp2
    go_ret
    exact ⟨rfl, _, rfl⟩
end Go.Proofs.Qxb6614547a
