import Derived.Test.Qxb6615648aRows
import Derived.Test.Qxb6615648aPlain
import Derived.WalkKit
import Derived.WalkSpells
import Derived.WalkLawsBesides
import Derived.RegionTactic
import Derived.ChangeAlike
import Derived.Deep.QuietTactic
import Derived.BigQuiet
import Derived.Below
import Derived.Outline
namespace Go.Proofs.Qxb6615648a
open Go.RowKit

def objSQL (k o : ByteArray) : ByteArray :=
  ⟨#[112, 103, 95, 99, 97, 116, 97, 108, 111, 103, 46, 102, 111, 114, 109, 97, 116, 40, 39, 105, 115, 111, 98, 97, 110, 100, 46, 37, 73, 39, 44, 32, 39]⟩ ++ k ++ ⟨#[95, 39, 32, 124, 124, 32]⟩ ++ o ++ ⟨#[41]⟩

set_option maxHeartbeats 400000 in
theorem f9_any (k o : ByteArray) (w : World) (hk : k.size ≤ 1048576) (ho : o.size ≤ 1048576) :
    Calls Try.prog 9 #[.string k, .string o] w fun e w' => e = .returned (.string (objSQL k o)) ∧ w' = w := by
  go_enter Try.func9, Try.ntmps9
  go_wp2
  go_ret
  exact ⟨rfl, rfl⟩

set_option maxHeartbeats 400000 in
theorem f6_any (k o : ByteArray) (w : World) (hk : k.size ≤ 1048576) (ho : o.size ≤ 1048576) :
    Calls Try.prog 6 #[.string k, .string o] w fun e w' => e = .returned (.string (objSQL k o)) ∧ w' = w := by
  go_enter Try.func6, Try.ntmps6
  go_wp2_with (go_at_call 9; refine (f9_any _ _ _ hk ho).mono ?_; rintro e w' ⟨rfl, rfl⟩)
  go_ret
  exact ⟨rfl, rfl⟩

/-- what the round at place k tests -/
def Meets (r1 r2 a b : ByteArray) (k : Nat) : Prop :=
  ((r1.extract 0 k).toList == (r2.extract 0 k).toList) = true ∧ ((r1.extract k (k + a.size)).toList == a.toList) = true ∧ ((r2.extract k (k + b.size)).toList == b.toList) = true ∧
    ((r1.extract (k + a.size) r1.size).toList == (r2.extract (k + b.size) r2.size).toList) = true

theorem not_meets {r1 r2 a b : ByteArray} {k P : Nat} (h : Meets r1 r2 a b P) (hk : k ≤ P) (hn : ¬ Meets r1 r2 a b k) : k + 1 ≤ P := by
  rcases Nat.lt_or_ge k P with h1 | h1
  · exact h1
  · exact absurd (by have : k = P := by omega
                     rw [this]; exact h) hn

set_option maxHeartbeats 4000000 in
theorem f7_any (r1 r2 a b : ByteArray) (P : Nat) (w : World) (hk : r1.size ≤ 9000000) (ho : r2.size ≤ 9000000) (ha : P + a.size ≤ r1.size) (hb : P + b.size ≤ r2.size) (hP : Meets r1 r2 a b P) :
    Calls Try.prog 7 #[.string r1, .string r2, .string a, .string b] w fun e w' => e = .returned (.bool true) ∧ ∃ q, w' = w.drewN q := by
  have HP : Hid (Meets r1 r2 a b P) := hP
  clear hP
  go_enter Try.func7, Try.ntmps7
  go_wp2
  go_loopw [9] (fun i wr => ∃ k : Nat, k ≤ P ∧ i = .int .i64 k ∧ ∃ q, wr = w.drewN q) (fun i _ => P - (intOf i).toNat)
  case atStart => exact ⟨0, by omega, rfl, 0, rfl⟩
  case round =>
    obtain ⟨k, hkP, rfl, q, rfl⟩ := hrel
    have hk1 : k + a.size ≤ r1.size := by omega
    have hk2 : k + b.size ≤ r2.size := by omega
    have hq1 : k ≤ r1.size := by omega
    have hq2 : k ≤ r2.size := by omega
    have hno : ¬ Meets r1 r2 a b k → k + 1 ≤ P := not_meets HP.out hkP
    cases e1 : ((r1.extract 0 k).toList == (r2.extract 0 k).toList)
    · have hlt : k + 1 ≤ P := hno (fun h => by rw [h.1] at e1; cases e1)
      clear hno
      go_wp2
      go_quiet (fail)
      go_wp2
      go_roundw
      case rel => exact ⟨k + 1, hlt, by go_num, q + nq, by simp⟩
      case measure => simp [intOf]; omega
    · cases e2 : ((r1.extract k (k + a.size)).toList == a.toList)
      · have hlt : k + 1 ≤ P := hno (fun h => by rw [h.2.1] at e2; cases e2)
        clear hno
        go_wp2
        go_quiet (fail)
        go_wp2
        go_roundw
        case rel => exact ⟨k + 1, hlt, by go_num, q + nq, by simp⟩
        case measure => simp [intOf]; omega
      · cases e3 : ((r2.extract k (k + b.size)).toList == b.toList)
        · have hlt : k + 1 ≤ P := hno (fun h => by rw [h.2.2.1] at e3; cases e3)
          clear hno
          go_wp2
          go_quiet (fail)
          go_wp2
          go_roundw
          case rel => exact ⟨k + 1, hlt, by go_num, q + nq, by simp⟩
          case measure => simp [intOf]; omega
        · cases e4 : ((r1.extract (k + a.size) r1.size).toList == (r2.extract (k + b.size) r2.size).toList)
          · have hlt : k + 1 ≤ P := hno (fun h => by rw [h.2.2.2] at e4; cases e4)
            clear hno
            go_wp2
            go_quiet (fail)
            go_wp2
            obtain ⟨nq0, hnq0⟩ : ∃ n0 : Nat, n0 = nq := ⟨_, rfl⟩
            subst hnq0
            go_quiet (fail)
            go_wp2
            go_roundw
            case rel => exact ⟨k + 1, hlt, by go_num, q + nq0 + nq, by simp⟩
            case measure => simp [intOf]; omega
          · clear hno
            go_wp2
            go_quiet (fail)
            go_wp2
            go_quiet (fail)
            go_wp2
            go_ret
            exact ⟨rfl, _, by rw [World.drewN_drewN, World.drewN_drewN]⟩

set_option maxHeartbeats 1000000 in
theorem f5_true (a b c d : ByteArray) (w : World) (h : a.size + b.size + c.size + d.size ≤ 1048576) :
    Calls Try.prog 5 #[.string a, .string b, .string c, .string d] w fun e w' => e = .returned (.bool true) ∧ w' = w := by
  go_enter Try.func5, Try.ntmps5
  go_wp2
  go_ret
  exact ⟨rfl, rfl⟩

set_option maxHeartbeats 1000000 in
theorem f5_false (a b c d : ByteArray) (w : World) (ha : a.size ≤ 9223372036854775807) (hb : b.size ≤ 9223372036854775807) (hc : c.size ≤ 9223372036854775807) (hd : d.size ≤ 9223372036854775807) (h : ¬ a.size + b.size + c.size + d.size ≤ 1048576) :
    Calls Try.prog 5 #[.string a, .string b, .string c, .string d] w fun e w' => e = .returned (.bool false) ∧ w' = w := by
  by_cases g1 : 1048576 < a.size
  · (go_enter Try.func5, Try.ntmps5); go_wp2; go_ret; exact ⟨rfl, rfl⟩
  by_cases g2 : 1048576 < b.size
  · (go_enter Try.func5, Try.ntmps5); go_wp2; go_ret; exact ⟨rfl, rfl⟩
  by_cases g3 : 1048576 < a.size + b.size
  · (go_enter Try.func5, Try.ntmps5); go_wp2; go_ret; exact ⟨rfl, rfl⟩
  by_cases g4 : 1048576 < c.size
  · (go_enter Try.func5, Try.ntmps5); go_wp2; go_ret; exact ⟨rfl, rfl⟩
  by_cases g5 : 1048576 < a.size + b.size + c.size
  · (go_enter Try.func5, Try.ntmps5); go_wp2; go_ret; exact ⟨rfl, rfl⟩
  by_cases g6 : 1048576 < d.size
  · (go_enter Try.func5, Try.ntmps5); go_wp2; go_ret; exact ⟨rfl, rfl⟩
  · (go_enter Try.func5, Try.ntmps5); go_wp2; go_ret; exact ⟨rfl, rfl⟩

set_option maxHeartbeats 1000000 in
theorem f8_true (a b c d : ByteArray) (w : World) (h : a.size + b.size + c.size + d.size ≤ 1048576) :
    Calls Try.prog 8 #[.string a, .string b, .string c, .string d] w fun e w' => e = .returned (.bool true) ∧ w' = w := by
  go_enter Try.func8, Try.ntmps8
  go_wp2
  go_ret
  exact ⟨rfl, rfl⟩

set_option maxHeartbeats 1000000 in
theorem f8_false (a b c d : ByteArray) (w : World) (ha : a.size ≤ 9223372036854775807) (hb : b.size ≤ 9223372036854775807) (hc : c.size ≤ 9223372036854775807) (hd : d.size ≤ 9223372036854775807) (h : ¬ a.size + b.size + c.size + d.size ≤ 1048576) :
    Calls Try.prog 8 #[.string a, .string b, .string c, .string d] w fun e w' => e = .returned (.bool false) ∧ w' = w := by
  by_cases g1 : 1048576 < a.size
  · (go_enter Try.func8, Try.ntmps8); go_wp2; go_ret; exact ⟨rfl, rfl⟩
  by_cases g2 : 1048576 < b.size
  · (go_enter Try.func8, Try.ntmps8); go_wp2; go_ret; exact ⟨rfl, rfl⟩
  by_cases g3 : 1048576 < a.size + b.size
  · (go_enter Try.func8, Try.ntmps8); go_wp2; go_ret; exact ⟨rfl, rfl⟩
  by_cases g4 : 1048576 < c.size
  · (go_enter Try.func8, Try.ntmps8); go_wp2; go_ret; exact ⟨rfl, rfl⟩
  by_cases g5 : 1048576 < a.size + b.size + c.size
  · (go_enter Try.func8, Try.ntmps8); go_wp2; go_ret; exact ⟨rfl, rfl⟩
  by_cases g6 : 1048576 < d.size
  · (go_enter Try.func8, Try.ntmps8); go_wp2; go_ret; exact ⟨rfl, rfl⟩
  · (go_enter Try.func8, Try.ntmps8); go_wp2; go_ret; exact ⟨rfl, rfl⟩
end Go.Proofs.Qxb6615648a
