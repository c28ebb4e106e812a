import Derived.Test.Qxb6614547aBytes
namespace Go.Proofs.Qxb6614547a
open Go.RowKit
set_option linter.unusedVariables false

theorem or_add (X d K : Nat) (h : X < 2 ^ K) : X ||| (d * 2 ^ K) = X + d * 2 ^ K := by
  rw [Nat.or_comm, Nat.mul_comm, ← Nat.two_pow_add_eq_or_of_lt h, Nat.add_comm]
theorem acc (X d K : Nat) (h : X < 128 ^ K) (h2 : X + 128 ^ K * (d % 128) ≤ 18446744073709551615) :
    bits .or .u64 (X : Int) (IntKind.u64.wrap ((d : Int) % 128 * 2 ^ (7 * K))) = ((X + 128 ^ K * (d % 128) : Nat) : Int) := by
  have e7 : (128 : Nat) ^ K = 2 ^ (7 * K) := by rw [show (128 : Nat) = 2 ^ 7 from rfl, ← Nat.pow_mul]
  rw [e7] at h h2 ⊢
  have e1 : ((d : Int) % 128 * 2 ^ (7 * K)) = (((d % 128) * 2 ^ (7 * K) : Nat) : Int) := by push_cast; rfl
  have hb : (d % 128) * 2 ^ (7 * K) < 2 ^ 64 := by rw [Nat.mul_comm]; omega
  have e2 : IntKind.u64.wrap ((((d % 128) * 2 ^ (7 * K) : Nat)) : Int) = (((d % 128) * 2 ^ (7 * K) : Nat) : Int) := by
    generalize (d % 128) * 2 ^ (7 * K) = z at hb
    simp [IntKind.wrap, IntKind.bits, IntKind.signed]
    omega
  rw [e1, e2, or_nat64 _ _ (by omega) hb, or_add X (d % 128) (7 * K) h, Nat.mul_comm (2 ^ (7 * K))]
theorem wrap0 (y : Nat) : IntKind.u64.wrap ((y : Int) % 128 * 2 ^ (7 * 0)) = (y : Int) % 128 := by
  simp [IntKind.wrap, IntKind.bits, IntKind.signed]; omega
theorem wrap9 (y : Nat) (h : y ≤ 1) : IntKind.u64.wrap ((y : Int) % 128 * 2 ^ (7 * 9)) = (y : Int) % 128 * 9223372036854775808 := by
  simp [IntKind.wrap, IntKind.bits, IntKind.signed]; omega
theorem ret_dec {c : Nat} {a b : Int} (h : a = b) : Ending.returned (.tuple #[.int .u8 (c : Int), .int .u64 a, .bool true]) = .returned (.tuple #[.int .u8 (c : Int), .int .u64 b, .bool true]) := by rw [h]

set_option maxHeartbeats 4000000 in
set_option maxRecDepth 100000 in
theorem f8_any (c n : Nat) (v : Value) (w : World) (hv : Reads w v (c :: uv n)) (hn : n ≤ 18446744073709551615) :
    Calls Try.prog 8 #[v] w fun e w' => e = .returned (.tuple #[.int .u8 c, .int .u64 n, .bool true]) ∧ w' = w := by
  obtain ⟨g, cap, rfl, hg, hc, hd⟩ := hv
  have hlen := uv_len n
  have c0 : w.cell? ⟨g, 0, none⟩ = some (.int .u8 (c : Int)) := hc 0 (by simp)
  generalize hL : (c :: uv n).length = L at hc ⊢
  have hL2 : L = (uv n).length + 1 := by simpa using hL.symm
  have hL1 : 2 ≤ L := by omega
  have hL11 : L ≤ 11 := by omega
  have HL : Hid (L = (uv n).length + 1) := hL2
  clear hL hL2 hlen
  go_enter Try.func8, Try.ntmps8
  go_wp2
  go_loop [5, 6, 7] (fun x s i => ∃ (f y X : Nat) (ys : List Nat), i = .int .i64 ((ys.length : Int) + 1) ∧ s = .int .u64 (7 * (ys.length : Int)) ∧ x = .int .u64 X ∧ Hid (uv n = ys ++ uvD f y) ∧ Hid (n = X + 128 ^ ys.length * y) ∧ Hid (X < 128 ^ ys.length) ∧ Hid (y < 128 ^ (f + 1)) ∧ ys.length + f ≤ 9 ∧ (1 ≤ ys.length → 1 ≤ y)) (fun _ _ i => 20 - (intOf i).toNat)
  case atStart => exact ⟨9, n, 0, [], rfl, rfl, rfl, rfl, by show n = _; simp, by show 0 < _; simp, Nat.lt_of_lt_of_le (Nat.lt_succ_of_le hn) pow_bd, by simp, by simp⟩
  case round =>
    obtain ⟨f, y, X, ys, rfl, rfl, rfl, hu, hX, hXlt, hy, hf, hy1⟩ := hrel
    have hlL : L = ys.length + (uvD f y).length + 1 := by rw [HL.out, hu.out]; simp
    have hlf := uvD_len f y
    have hcell : w.cell? ⟨g, ys.length + 1, none⟩ = some (.int .u8 (((c :: uv n).getD (ys.length + 1) 0 : Nat) : Int)) := hc _ (by omega)
    generalize hK : ys.length = K at *
    have hXb : X ≤ 18446744073709551615 := by have := hX.out; have : X ≤ n := by rw [this]; exact Nat.le_add_right _ _
                                              omega
    by_cases hlt : y < 128
    · have hcy : (c :: uv n).getD (K + 1) 0 = y := by
        rw [hu.out, uvD_small f y hlt]; simp [← hK]
      rw [hcy] at hcell
      have hKL : L = K + 2 := by rw [hlL, uvD_small f y hlt]; simp
      subst hKL
      clear hcy hlL hlf hc hK
      have a127 := and127 y (by omega)
      have hacc : bits .or .u64 (X : Int) (IntKind.u64.wrap ((y : Int) % 128 * 2 ^ (7 * K))) = (n : Int) := by
        rw [acc X y K hXlt.out (by rw [Nat.mod_eq_of_lt hlt, ← hX.out]; exact hn), Nat.mod_eq_of_lt hlt, ← hX.out]
      have HA : Hid (bits .or .u64 (X : Int) (IntKind.u64.wrap ((y : Int) % 128 * 2 ^ (7 * K))) = (n : Int)) := hacc
      clear hacc HL hL1 hL11 hu
      by_cases hK0 : K = 0
      · subst hK0
        go_wp2
        go_ret3
        exact ⟨ret_dec (by rw [← HA.out, wrap0 y]), rfl⟩
      · have hy1' : 1 ≤ y := hy1 (by omega)
        have hyz : ((y : Int) == 0) = false := by rw [beq_eq_false_iff_ne]; omega
        clear hy1
        by_cases hK9 : K = 9
        · subst hK9
          have hyle : y ≤ 1 := by
            have h1 := hX.out
            have h2 : 128 ^ 9 * y ≤ n := by rw [h1]; exact Nat.le_add_left _ _
            omega
          go_wp2
          go_ret3
          exact ⟨ret_dec (by rw [← HA.out, wrap9 y hyle]), rfl⟩
        · have hK8 : K ≤ 8 := by omega
          go_wp2
          go_ret3
          exact ⟨ret_dec HA.out, rfl⟩
    · obtain ⟨f', rfl⟩ : ∃ f', f = f' + 1 := by
        cases f with
        | zero => have := hy.out; simp at this; omega
        | succ f' => exact ⟨f', rfl⟩
      have hcy : (c :: uv n).getD (K + 1) 0 = y % 128 + 128 := by
        rw [hu.out, uvD_big f' y hlt]; simp [← hK]
      rw [hcy] at hcell
      have hlf' := uvD_len f' (y / 128)
      have hlL' : L = K + ((uvD f' (y / 128)).length + 1) + 1 := by rw [hlL, uvD_big f' y hlt]; simp
      have hKL : K + 1 < L := by omega
      have hK8 : K ≤ 8 := by omega
      have hX1 : n = X + 128 ^ K * (y % 128) + 128 ^ (K + 1) * (y / 128) := by
        rw [Nat.pow_succ, Nat.mul_assoc, Nat.add_assoc, ← Nat.mul_add, Nat.mod_add_div]; exact hX.out
      have hX2 : X + 128 ^ K * (y % 128) < 128 ^ (K + 1) := by
        have h1 := hXlt.out
        have h2 : 128 ^ K * (y % 128) ≤ 128 ^ K * 127 := Nat.mul_le_mul_left _ (by omega)
        rw [Nat.pow_succ]; omega
      have hX3 : X + 128 ^ K * (y % 128) ≤ n := by rw [hX1]; exact Nat.le_add_right _ _
      have hacc : bits .or .u64 (X : Int) (IntKind.u64.wrap (((y % 128 + 128 : Nat) : Int) % 128 * 2 ^ (7 * K))) = ((X + 128 ^ K * (y % 128) : Nat) : Int) := by
        rw [acc X (y % 128 + 128) K hXlt.out (by rw [show (y % 128 + 128) % 128 = y % 128 from by omega]; omega), show (y % 128 + 128) % 128 = y % 128 from by omega]
      have hU : uv n = (ys ++ [y % 128 + 128]) ++ uvD f' (y / 128) := by rw [hu.out, uvD_big f' y hlt]; simp
      have hy' := div_pow f' y hy.out
      have hy1' : 1 ≤ y / 128 := by omega
      have HX1 : Hid (n = X + 128 ^ K * (y % 128) + 128 ^ (K + 1) * (y / 128)) := hX1
      have HX2 : Hid (X + 128 ^ K * (y % 128) < 128 ^ (K + 1)) := hX2
      have HX3 : Hid (X + 128 ^ K * (y % 128) ≤ n) := hX3
      have HU : Hid (uv n = (ys ++ [y % 128 + 128]) ++ uvD f' (y / 128)) := hU
      have HY : Hid (y / 128 < 128 ^ (f' + 1)) := hy'
      have HY1 : Hid (1 ≤ y / 128) := hy1'
      have HK : Hid (ys.length = K) := hK
      have hD1 : 128 ≤ y % 128 + 128 := by omega
      have hD2 : y % 128 + 128 ≤ 255 := by omega
      have HDD : Hid (f' + 1 + K ≤ 9) := by show _ ≤ _; omega
      clear hX1 hX2 hX3 hU hy' hy1' hu hX hXlt hy hcy hlf' hlL' hlL hlf hc HL hK hy1 hf
      generalize hDD : y % 128 + 128 = D at *
      have HD : Hid (y % 128 + 128 = D) := hDD
      clear hDD hlt
      have a127 := and127 D (by omega)
      have HA : Hid (bits .or .u64 (X : Int) (IntKind.u64.wrap ((D : Int) % 128 * 2 ^ (7 * K))) = ((X + 128 ^ K * (y % 128) : Nat) : Int)) := hacc
      clear hacc
      go_wp2
      go_round
      case rel =>
        refine ⟨f', y / 128, X + 128 ^ K * (y % 128), ys ++ [D], ?_, ?_, ?_, HU, ?_, ?_, HY, ?_, fun _ => HY1.out⟩
        · rw [List.length_append, HK.out]; simp
        · rw [List.length_append, HK.out]; simp; omega
        · rw [HA.out]
        · rw [List.length_append, HK.out]; exact HX1
        · rw [List.length_append, HK.out]; exact HX2
        · rw [List.length_append, HK.out]; have := HDD.out; simp; omega
      case measure => simp [intOf]; omega
end Go.Proofs.Qxb6614547a
