import Derived.Test.Qxb6613757aRows
import Derived.WalkKit
import Derived.WalkSpells
import Derived.WalkLawsBesides
import Derived.RegionTactic
import Derived.ChangeAlike
import Derived.Deep.QuietTactic
import Derived.Deep.RegionWith
import Derived.BigQuiet
import Derived.Below
import Derived.Outline
namespace Go.Proofs.Qxb6613757a
open Go.RowKit
set_option linter.unusedVariables false

def mixA (x : Int) : Int := IntKind.u64.wrap (bits BinOp.xor IntKind.u64 x (x / 8589934592) * 18397679294719823053)
def mixB (y : Int) : Int := IntKind.u64.wrap (bits BinOp.xor IntKind.u64 y (y / 8589934592) * 14181476777654086739)
def mix (x : Int) : Int := bits BinOp.xor IntKind.u64 (mixB (mixA x)) (mixB (mixA x) / 8589934592)
def fac (k : Int) : Int := bits BinOp.or IntKind.u32 (k / 32 % 4294967296) 1
def inv (b : Int) : Int := b * ((2 - b * b) % 4294967296) % 4294967296

set_option maxHeartbeats 400000 in
theorem f39_any (x : Int) (w : World) (h0 : 0 ≤ x) (h1 : x ≤ 18446744073709551615) :
    Calls Try.prog 39 #[.int .u64 x] w fun e w' => e = .returned (.int .u64 (mix x)) ∧ w' = w := by
  go_enter Try.func39, Try.ntmps39
  go_wp2
  go_ret
  exact ⟨rfl, rfl⟩
set_option maxHeartbeats 400000 in
theorem f28_any (n i k p : Int) (w : World) (h0 : 0 ≤ k) (h1 : k ≤ 18446744073709551615) :
    Calls Try.prog 28 #[.agg #[.int .u32 n, .int .u32 i, .int .u64 k, .int .u64 p]] w fun e w' => e = .returned (.int .u32 (fac k)) ∧
      w' = w.alloc (.cells #[.int .u32 n, .int .u32 i, .int .u64 k, .int .u64 p] 31) := by
  go_enter Try.func28, Try.ntmps28
  go_wp2
  go_ret
  exact ⟨rfl, rfl⟩
set_option maxHeartbeats 400000 in
theorem f40_any (b : Int) (w : World) (h0 : 0 ≤ b) (h1 : b ≤ 4294967295) :
    Calls Try.prog 40 #[.int .u32 b] w fun e w' => e = .returned (.int .u32 (inv b)) ∧ w' = w := by
  go_enter Try.func40, Try.ntmps40
  go_wp2
  refine wp_loop_rounds 2 ?_
  rw [rounds_succ]
  go_wp2
  rw [rounds_succ]
  go_wp2
  go_ret
  exact ⟨rfl, rfl⟩

theorem wrap_u64 (n : Int) : 0 ≤ IntKind.u64.wrap n ∧ IntKind.u64.wrap n ≤ 18446744073709551615 := by
  simp [IntKind.wrap, IntKind.bits, IntKind.signed]; omega
theorem wrap_u32 (n : Int) : 0 ≤ IntKind.u32.wrap n ∧ IntKind.u32.wrap n ≤ 4294967295 := by
  simp [IntKind.wrap, IntKind.bits, IntKind.signed]; omega
theorem bits_u64 (op : BinOp) (a b : Int) : 0 ≤ bits op .u64 a b ∧ bits op .u64 a b ≤ 18446744073709551615 := wrap_u64 _
theorem bits_u32 (op : BinOp) (a b : Int) : 0 ≤ bits op .u32 a b ∧ bits op .u32 a b ≤ 4294967295 := wrap_u32 _
theorem mix_bd (x : Int) : 0 ≤ mix x ∧ mix x ≤ 18446744073709551615 := bits_u64 _ _ _
theorem fac_bd (x : Int) : 0 ≤ fac x ∧ fac x ≤ 4294967295 := bits_u32 _ _ _
theorem inv_bd (x : Int) : 0 ≤ inv x ∧ inv x ≤ 4294967295 := by unfold inv; omega

theorem xor_nat64 (a b : Nat) (ha : a < 2 ^ 64) (hb : b < 2 ^ 64) : bits .xor .u64 (a : Int) (b : Int) = ((a ^^^ b : Nat) : Int) := by
  have h : a ^^^ b < 2 ^ 64 := Nat.xor_lt_two_pow ha hb
  have e : bits .xor .u64 (a : Int) (b : Int) = IntKind.u64.wrap (((BitVec.ofInt 64 (a : Int)) ^^^ (BitVec.ofInt 64 (b : Int))).toNat : Int) := rfl
  rw [e, BitVec.toNat_xor, BitVec.ofInt_natCast, BitVec.ofInt_natCast, BitVec.toNat_ofNat, BitVec.toNat_ofNat, Nat.mod_eq_of_lt ha, Nat.mod_eq_of_lt hb]
  simp [IntKind.wrap, IntKind.bits, IntKind.signed]
  omega
theorem xor_nat32 (a b : Nat) (ha : a < 2 ^ 32) (hb : b < 2 ^ 32) : bits .xor .u32 (a : Int) (b : Int) = ((a ^^^ b : Nat) : Int) := by
  have h : a ^^^ b < 2 ^ 32 := Nat.xor_lt_two_pow ha hb
  have e : bits .xor .u32 (a : Int) (b : Int) = IntKind.u32.wrap (((BitVec.ofInt 32 (a : Int)) ^^^ (BitVec.ofInt 32 (b : Int))).toNat : Int) := rfl
  rw [e, BitVec.toNat_xor, BitVec.ofInt_natCast, BitVec.ofInt_natCast, BitVec.toNat_ofNat, BitVec.toNat_ofNat, Nat.mod_eq_of_lt ha, Nat.mod_eq_of_lt hb]
  simp [IntKind.wrap, IntKind.bits, IntKind.signed]
  omega
theorem and_nat32 (a b : Nat) (ha : a < 2 ^ 32) (hb : b < 2 ^ 32) : bits .and .u32 (a : Int) (b : Int) = ((a &&& b : Nat) : Int) := by
  have h : a &&& b < 2 ^ 32 := Nat.and_lt_two_pow a hb
  have e : bits .and .u32 (a : Int) (b : Int) = IntKind.u32.wrap (((BitVec.ofInt 32 (a : Int)) &&& (BitVec.ofInt 32 (b : Int))).toNat : Int) := rfl
  rw [e, BitVec.toNat_and, BitVec.ofInt_natCast, BitVec.ofInt_natCast, BitVec.toNat_ofNat, BitVec.toNat_ofNat, Nat.mod_eq_of_lt ha, Nat.mod_eq_of_lt hb]
  simp [IntKind.wrap, IntKind.bits, IntKind.signed]
  omega
theorem or_nat32 (a b : Nat) (ha : a < 2 ^ 32) (hb : b < 2 ^ 32) : bits .or .u32 (a : Int) (b : Int) = ((a ||| b : Nat) : Int) := by
  have h : a ||| b < 2 ^ 32 := Nat.or_lt_two_pow ha hb
  have e : bits .or .u32 (a : Int) (b : Int) = IntKind.u32.wrap (((BitVec.ofInt 32 (a : Int)) ||| (BitVec.ofInt 32 (b : Int))).toNat : Int) := rfl
  rw [e, BitVec.toNat_or, BitVec.ofInt_natCast, BitVec.ofInt_natCast, BitVec.toNat_ofNat, BitVec.toNat_ofNat, Nat.mod_eq_of_lt ha, Nat.mod_eq_of_lt hb]
  simp [IntKind.wrap, IntKind.bits, IntKind.signed]
  omega

theorem xor_cancel (a s x : Int) (a0 : 0 ≤ a) (a1 : a ≤ 18446744073709551615) (s0 : 0 ≤ s) (s1 : s ≤ 4294967295) (x0 : 0 ≤ x) (x1 : x ≤ 4294967295) :
    bits .xor .u64 (bits .xor .u64 a x) (bits .xor .u32 s x) = bits .xor .u64 a s := by
  obtain ⟨a, rfl⟩ := Int.eq_ofNat_of_zero_le a0
  obtain ⟨s, rfl⟩ := Int.eq_ofNat_of_zero_le s0
  obtain ⟨x, rfl⟩ := Int.eq_ofNat_of_zero_le x0
  have ha : a < 2 ^ 64 := by omega
  have hs : s < 2 ^ 32 := by omega
  have hx : x < 2 ^ 32 := by omega
  have hx' : x < 2 ^ 64 := by omega
  have hs' : s < 2 ^ 64 := by omega
  have h1 : s ^^^ x < 2 ^ 32 := Nat.xor_lt_two_pow hs hx
  have h2 : a ^^^ x < 2 ^ 64 := Nat.xor_lt_two_pow ha hx'
  rw [xor_nat64 a x ha hx', xor_nat32 s x hs hx, xor_nat64 _ _ h2 (by omega), xor_nat64 a s ha hs']
  rw [Nat.xor_comm s x, Nat.xor_assoc, ← Nat.xor_assoc x x s, Nat.xor_self, Nat.zero_xor]

theorem fac_odd (k : Int) : fac k % 2 = 1 := by
  unfold fac
  have h0 : 0 ≤ k / 32 % 4294967296 := by omega
  have h1 : k / 32 % 4294967296 < 4294967296 := by omega
  generalize k / 32 % 4294967296 = y at h0 h1
  obtain ⟨n, rfl⟩ := Int.eq_ofNat_of_zero_le h0
  have e := or_nat32 n 1 (by omega) (by omega)
  have e1 : ((1 : Nat) : Int) = 1 := rfl
  rw [e1] at e
  rw [e]
  have : (n ||| 1) % 2 = 1 := by rw [Nat.or_mod_two_eq_one]; simp
  omega

theorem and31 (y : Int) (h0 : 0 ≤ y) (h1 : y ≤ 4294967295) : bits .and .u32 y 31 = y % 32 := by
  obtain ⟨n, rfl⟩ := Int.eq_ofNat_of_zero_le h0
  have e := and_nat32 n 31 (by omega) (by omega)
  have e1 : ((31 : Nat) : Int) = 31 := rfl
  rw [e1] at e
  rw [e]
  have : n &&& 31 = n % 32 := Nat.and_two_pow_sub_one_eq_mod n 5
  omega

theorem inv_fac (b : Int) (hb : b % 2 = 1) : (inv b * b % 4294967296) % 32 = 1 := by
  have hd : (32 : Int) ∣ 4294967296 := ⟨134217728, rfl⟩
  have e1 : inv b % 32 = b * (2 - b * b) % 32 := by
    unfold inv
    rw [Int.emod_emod_of_dvd _ hd, Int.mul_emod b ((2 - b * b) % 4294967296) 32, Int.emod_emod_of_dvd _ hd, ← Int.mul_emod]
  rw [Int.emod_emod_of_dvd _ hd, Int.mul_emod, e1, ← Int.mul_emod]
  clear e1 hd
  obtain ⟨c, rfl⟩ : ∃ c, b = 2 * c + 1 := ⟨b / 2, by omega⟩
  obtain ⟨d, hd⟩ : ∃ d, c * (c + 1) = 2 * d := ⟨c * (c + 1) / 2, by
    rcases Int.emod_two_eq c with h | h
    · obtain ⟨m, rfl⟩ : ∃ m, c = 2 * m := ⟨c / 2, by omega⟩
      rw [show 2 * m * (2 * m + 1) = 2 * (m * (2 * m + 1)) by rw [Int.mul_assoc]]; omega
    · obtain ⟨m, rfl⟩ : ∃ m, c = 2 * m + 1 := ⟨c / 2, by omega⟩
      rw [show (2 * m + 1) * (2 * m + 1 + 1) = 2 * ((2 * m + 1) * (m + 1)) by rw [show 2 * m + 1 + 1 = 2 * (m + 1) by omega, ← Int.mul_assoc, Int.mul_comm (2 * m + 1) 2, Int.mul_assoc]]; omega⟩
  have hsq : (2 * c + 1) * (2 * c + 1) = 8 * d + 1 := by
    have : (2 * c + 1) * (2 * c + 1) = 4 * (c * (c + 1)) + 1 := by
      simp only [Int.mul_add, Int.add_mul, Int.mul_one, Int.one_mul]
      have : 2 * c * (2 * c) = 4 * (c * c) := by rw [Int.mul_assoc, Int.mul_left_comm c 2 c, ← Int.mul_assoc]; rfl
      rw [this]; omega
    rw [this, hd]; omega
  have : (2 * c + 1) * (2 - (2 * c + 1) * (2 * c + 1)) * (2 * c + 1) = 1 - 64 * (d * d) := by
    rw [Int.mul_comm, ← Int.mul_assoc, hsq]
    simp only [Int.mul_sub, Int.mul_add, Int.add_mul, Int.mul_one, Int.one_mul]
    have : 8 * d * (8 * d) = 64 * (d * d) := by rw [Int.mul_assoc, Int.mul_left_comm d 8 d, ← Int.mul_assoc]; rfl
    rw [this]; omega
  rw [this]
  omega
end Go.Proofs.Qxb6613757a
