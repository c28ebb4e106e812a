import Derived.Test.Qxb6614547aDecode
namespace Go.Proofs.Qxb6614547a
open Go.RowKit
set_option linter.unusedVariables false

/-- d digits hold n -/
def holdsB (n d : Nat) : Bool := decide (n < 128 ^ d)

theorem holds_div (n d : Nat) : ((n : Int) / 2 ^ (7 * d) == 0) = holdsB n d := by
  have e7 : (128 : Nat) ^ d = 2 ^ (7 * d) := by rw [show (128 : Nat) = 2 ^ 7 from rfl, ← Nat.pow_mul]
  unfold holdsB
  rw [e7]
  have e : ((n : Int) / 2 ^ (7 * d)) = ((n / 2 ^ (7 * d) : Nat) : Int) := by push_cast; rfl
  rw [e, Bool.eq_iff_iff]
  simp only [beq_iff_eq, decide_eq_true_eq]
  have : 0 < 2 ^ (7 * d) := Nat.two_pow_pos _
  rw [show (((n / 2 ^ (7 * d) : Nat) : Int) = 0) ↔ (n / 2 ^ (7 * d) = 0) by omega, Nat.div_eq_zero_iff]
  omega

set_option maxHeartbeats 1000000 in
theorem f25_any (n d : Nat) (w : World) (hn : n ≤ 18446744073709551615) (hd : d ≤ 10) :
    Calls Try.prog 25 #[.int .u64 n, .int .i64 d] w fun e w' => e = .returned (.bool (holdsB n d)) ∧ w' = w := by
  have hh := holds_div n d
  have HH : Hid (((n : Int) / 2 ^ (7 * d) == 0) = holdsB n d) := hh
  clear hh
  by_cases hd10 : d = 10
  · subst hd10
    have : holdsB n 10 = true := by unfold holdsB; simp; omega
    go_enter Try.func25, Try.ntmps25
    go_wp2
    go_ret
    exact ⟨ret_bool this.symm, rfl⟩
  · have hd9 : d ≤ 9 := by omega
    go_enter Try.func25, Try.ntmps25
    go_wp2
    go_ret
    exact ⟨ret_bool HH.out, rfl⟩

set_option maxHeartbeats 1000000 in
theorem f10_any (n d : Nat) (w : World) (hn : n ≤ 18446744073709551615) (h1 : 1 ≤ d) (h10 : d ≤ 10) (hh : holdsB n d = true) (h2 : d = 1 ∨ holdsB n (d - 1) = false) :
    Calls Try.prog 10 #[.int .u64 n, .int .i64 ((d : Int) + 1)] w fun e w' => e = .returned (.bool true) ∧ w' = w := by
  by_cases hd1 : d = 1
  · subst hd1
    go_enter Try.func10, Try.ntmps10
    go_wp2_with (go_at_call 25; refine (f25_any n 1 _ hn (by omega)).mono ?_; rintro e w' ⟨rfl, rfl⟩)
    go_ret
    exact ⟨rfl, rfl⟩
  · have hf : holdsB n (d - 1) = false := by rcases h2 with h | h; exact absurd h hd1; exact h
    obtain ⟨k, rfl⟩ : ∃ k, d = k + 1 := ⟨d - 1, by omega⟩
    have hk0 : 1 ≤ k := by omega
    have hk9 : k ≤ 9 := by omega
    have hb : (((k : Int) + 1) == 1) = false := by rw [beq_eq_false_iff_ne]; omega
    simp only [Nat.add_sub_cancel] at hf
    have c1 := f25_any n (k + 1) w hn (by omega)
    have c2 := f25_any n k w hn (by omega)
    rw [show (((k + 1 : Nat) : Int)) = (k : Int) + 1 from by omega] at c1 ⊢
    rw [hh] at c1
    rw [hf] at c2
    have C1 : Hid (Calls Try.prog 25 #[.int .u64 n, .int .i64 ((k : Int) + 1)] w fun e w' => e = .returned (.bool true) ∧ w' = w) := c1
    have C2 : Hid (Calls Try.prog 25 #[.int .u64 n, .int .i64 (k : Int)] w fun e w' => e = .returned (.bool false) ∧ w' = w) := c2
    clear h2 hd1 h1 c1 c2 hh hf
    go_enter Try.func10, Try.ntmps10
    go_wp2_with fail
    refine C1.out.mono ?_
    rintro e w1 ⟨rfl, hw⟩
    subst hw
    go_wp2_with fail
    refine C2.out.mono ?_
    rintro e w1 ⟨rfl, hw⟩
    subst hw
    go_wp2
    go_ret
    exact ⟨rfl, rfl⟩
theorem uv_holds (n : Nat) (hn : n ≤ 18446744073709551615) : holdsB n (uv n).length = true ∧ ((uv n).length = 1 ∨ holdsB n ((uv n).length - 1) = false) := by
  have h := uv_short n (by omega)
  unfold holdsB
  refine ⟨by simpa using h.1, ?_⟩
  rcases h.2 with h2 | h2
  · exact .inl h2
  · exact .inr (by simpa using h2)

theorem hid {p : Prop} (h : p) : Hid p := h
set_option maxHeartbeats 1000000 in
theorem law3 (c1 n1 c2 n2 : Nat) (w : World) (hc1 : c1 ≤ 255) (hn1 : n1 ≤ 18446744073709551615) (hc2 : c2 ≤ 255) (hn2 : n2 ≤ 18446744073709551615) :
    Calls Try.prog 3 #[.int .u8 c1, .int .u64 n1, .int .u8 c2, .int .u64 n2] w fun e w' => e = .returned (.bool true) ∧ Below w.heap.size w w' := by
  have hl1 := uv_len n1
  have hl2 := uv_len n2
  have HE : Hid (((c1 :: uv n1) == (c2 :: uv n2)) = (((c1 : Int) == (c2 : Int)) && ((n1 : Int) == (n2 : Int)))) := by
    show _ = _
    rw [Bool.eq_iff_iff]
    simp only [beq_iff_eq, List.cons.injEq, Bool.and_eq_true]
    constructor
    · rintro ⟨rfl, h⟩
      exact ⟨rfl, by rw [uv_inj n1 n2 (by omega) (by omega) h]⟩
    · rintro ⟨a, b⟩
      have hb : n1 = n2 := by omega
      exact ⟨by omega, by rw [hb]⟩
  go_enter Try.func3, Try.ntmps3
  go_wp2_with fail
  refine (f7_any c1 n1 w hc1 hn1).mono ?_
  rintro e w1 ⟨v1, rfl, hr1, hb1⟩
  go_wp2_with fail
  refine (f7_any c2 n2 w1 hc2 hn2).mono ?_
  rintro e w2 ⟨v2, rfl, hr2, hb2⟩
  have hr1' := hr1.below hb2
  have HB : Hid (Below w.heap.size w w2) := hb1.trans (hb2.mono hb1.size)
  clear hb1 hb2 hr1
  go_wp2_with fail
  refine (f8_any c1 n1 v1 w2 hr1' hn1).mono ?_
  rintro e w3 ⟨rfl, hw⟩
  have HW3 : Hid (w3 = w2) := hw
  clear hw
  go_wp2_with fail
  rw [HW3.out]
  refine (f8_any c2 n2 v2 w2 hr2 hn2).mono ?_
  rintro e w4 ⟨rfl, hw⟩
  have HW4 : Hid (w4 = w2) := hw
  clear hw
  go_wp2_with fail
  rw [HW4.out]
  refine (f9_any _ _ v1 v2 w2 hr1' hr2 (by simp; omega) (by simp; omega)).mono ?_
  rintro e w5 ⟨rfl, q, hq⟩
  rw [HE.out]
  have HQ : Hid (w5 = w2.drewN q) := hq
  clear hq
  have HBQ : Hid (Below w.heap.size w w5) := by rw [HQ.out]; exact ⟨HB.out.os, HB.out.tape, HB.out.output, HB.out.size, HB.out.block⟩
  cases hb1 : ((c1 : Int) == (c2 : Int))
  · go_wp2
    go_ret
    exact ⟨ret_bool (by simp), HBQ.out⟩
  · go_wp2
    go_ret
    exact ⟨ret_bool (by simp), HBQ.out⟩

theorem cons_pre (c1 n1 c2 n2 : Nat) (hn1 : n1 ≤ 18446744073709551615) (hn2 : n2 ≤ 18446744073709551615) (h : ¬ (c1 = c2 ∧ n1 = n2)) : (c1 :: uv n1).isPrefixOf (c2 :: uv n2) = false := by
  rw [Bool.eq_false_iff]
  intro e
  rw [List.isPrefixOf_iff_prefix, List.cons_prefix_cons] at e
  exact h ⟨e.1, uv_prefix n1 n2 (by omega) (by omega) e.2⟩

set_option maxHeartbeats 4000000 in
theorem law4 (c1 n1 c2 n2 : Nat) (w : World) (hc1 : c1 ≤ 255) (hn1 : n1 ≤ 18446744073709551615) (hc2 : c2 ≤ 255) (hn2 : n2 ≤ 18446744073709551615) :
    Calls Try.prog 4 #[.int .u8 c1, .int .u64 n1, .int .u8 c2, .int .u64 n2] w fun e w' => e = .returned (.bool true) ∧ Below w.heap.size w w' := by
  have hl1 := uv_len n1
  have hl2 := uv_len n2
  have hu1 := uv_holds n1 hn1
  have hu2 := uv_holds n2 hn2
  have hm1 : n1 ≤ n2 → (uv n1).length ≤ (uv n2).length := uv_mono n1 n2 (by omega) (by omega)
  have hm2 : n2 ≤ n1 → (uv n2).length ≤ (uv n1).length := uv_mono n2 n1 (by omega) (by omega)
  have HU1 := hid hu1
  have HU2 := hid hu2
  clear hu1 hu2
  go_enter Try.func4, Try.ntmps4
  go_wp2_with fail
  refine (f7_any c1 n1 w hc1 hn1).mono ?_
  rintro e w1 ⟨v1, rfl, hr1, hb1⟩
  go_wp2_with fail
  refine (f7_any c2 n2 w1 hc2 hn2).mono ?_
  rintro e w2 ⟨v2, rfl, hr2, hb2⟩
  have hr1' := hr1.below hb2
  have HB : Hid (Below w.heap.size w w2) := hb1.trans (hb2.mono hb1.size)
  clear hb1 hb2 hr1
  have R1 := hid hr1'
  have R2 := hid hr2
  obtain ⟨g1, cap1, rfl, _⟩ := hr1'
  obtain ⟨g2, cap2, rfl, _⟩ := hr2
  simp only [List.length_cons]
  have C1 := hid (f10_any n1 (uv n1).length w2 hn1 hl1.1 hl1.2 HU1.out.1 HU1.out.2)
  have C2 := hid (f10_any n2 (uv n2).length w2 hn2 hl2.1 hl2.2 HU2.out.1 HU2.out.2)
  have HP1 : Hid (¬ (c1 = c2 ∧ n1 = n2) → (c1 :: uv n1).isPrefixOf (c2 :: uv n2) = false) := cons_pre c1 n1 c2 n2 hn1 hn2
  have HP2 : Hid (¬ (c2 = c1 ∧ n2 = n1) → (c2 :: uv n2).isPrefixOf (c1 :: uv n1) = false) := cons_pre c2 n2 c1 n1 hn2 hn1
  clear HU1 HU2
  generalize hL1 : (uv n1).length = L1 at *
  generalize hL2 : (uv n2).length = L2 at *
  have HL1 : Hid ((uv n1).length = L1) := hL1
  have HL2 : Hid ((uv n2).length = L2) := hL2
  clear hL1 hL2
  go_wp2_with fail
  refine C1.out.mono ?_
  rintro e w3 ⟨rfl, hw⟩
  have HW3 : Hid (w3 = w2) := hw
  clear hw
  go_wp2_with fail
  rw [HW3.out]
  refine C2.out.mono ?_
  rintro e w4 ⟨rfl, hw⟩
  have HW4 : Hid (w4 = w2) := hw
  clear hw
  have HR1 : Hid (Reads w4 (.slice (some ⟨g1, 0, none⟩) (L1 + 1) cap1) (c1 :: uv n1)) := by rw [HW4.out, ← HL1.out]; exact R1.out
  have HR2 : Hid (Reads w4 (.slice (some ⟨g2, 0, none⟩) (L2 + 1) cap2) (c2 :: uv n2)) := by rw [HW4.out, ← HL2.out]; exact R2.out
  have HLa : Hid ((c1 :: uv n1).length ≤ 1000) := by have := HL1.out; show _ ≤ _; simp; omega
  have HLb : Hid ((c2 :: uv n2).length ≤ 1000) := by have := HL2.out; show _ ≤ _; simp; omega
  have HB4 : Hid (Below w.heap.size w w4) := by rw [HW4.out]; exact HB.out
  clear C1 C2 R1 R2 HB HW3 HW4
  by_cases hn : n1 = n2
  · subst hn
    have hLL : L1 = L2 := HL1.out.symm.trans HL2.out
    subst hLL
    clear hm1 hm2
    have hb : ((n1 : Int) == (n1 : Int)) = true := by simp
    by_cases hc : c1 = c2
    · subst hc
      have hcb : ((c1 : Int) == (c1 : Int)) = true := by simp
      go_wp2_with fail
      refine (f9_any _ _ _ _ w4 HR1.out HR2.out HLa.out HLb.out).mono ?_
      rintro e w5 ⟨rfl, q, hq⟩
      have HBQ : Hid (Below w.heap.size w w5) := by rw [hq]; exact ⟨HB4.out.os, HB4.out.tape, HB4.out.output, HB4.out.size, HB4.out.block⟩
      clear hq
      go_wp2
      go_ret
      exact ⟨ret_bool (by simp), HBQ.out⟩
    · have hcb : ((c1 : Int) == (c2 : Int)) = false := by rw [beq_eq_false_iff_ne]; omega
      have P1 := HP1.out (fun h => hc h.1)
      have P2 := HP2.out (fun h => hc h.1.symm)
      have hc' : ¬ (c1 : Int) = (c2 : Int) := by omega
      go_wp2_with fail
      refine (f11_any _ _ _ _ w4 HR1.out HR2.out HLa.out HLb.out).mono ?_
      rw [P1]
      rintro e w5 ⟨rfl, q, hq⟩
      have HQ : Hid (w5 = w4.drewN q) := hq
      clear hq P1
      go_wp2_with fail
      rw [HQ.out]
      refine (f11_any _ _ _ _ (w4.drewN q) HR2.out HR1.out HLb.out HLa.out).mono ?_
      rw [P2]
      rintro e w6 ⟨rfl, q2, hq2⟩
      have HBQ : Hid (Below w.heap.size w w6) := by rw [hq2]; exact ⟨HB4.out.os, HB4.out.tape, HB4.out.output, HB4.out.size, HB4.out.block⟩
      clear hq2 P2
      go_wp2
      go_ret
      exact ⟨rfl, HBQ.out⟩
  · have P1 := HP1.out (fun h => hn h.2)
    have P2 := HP2.out (fun h => hn h.2.symm)
    have hnb : ((n1 : Int) == (n2 : Int)) = false := by rw [beq_eq_false_iff_ne]; omega
    have HPP1 := hid P1
    have HPP2 := hid P2
    clear P1 P2
    rcases (show n1 < n2 ∨ n2 < n1 by omega) with hlt | hlt
    · have hLL : L1 ≤ L2 := hm1 (by omega)
      clear hm1 hm2 hn
      have P1 := HPP1.out
      have P2 := HPP2.out
      clear HPP1 HPP2
      cases hcb : ((c1 : Int) == (c2 : Int))
      all_goals
        go_wp2_with fail
        refine (f11_any _ _ _ _ w4 HR1.out HR2.out HLa.out HLb.out).mono ?_
        rw [P1]
        rintro e w5 ⟨rfl, q, hq⟩
        have HQ : Hid (w5 = w4.drewN q) := hq
        clear hq P1
        go_wp2_with fail
        rw [HQ.out]
        refine (f11_any _ _ _ _ (w4.drewN q) HR2.out HR1.out HLb.out HLa.out).mono ?_
        rw [P2]
        rintro e w6 ⟨rfl, q2, hq2⟩
        have HBQ : Hid (Below w.heap.size w w6) := by rw [hq2]; exact ⟨HB4.out.os, HB4.out.tape, HB4.out.output, HB4.out.size, HB4.out.block⟩
        clear hq2 P2
        go_wp2
        go_ret
        exact ⟨rfl, HBQ.out⟩
    · have hLL : L2 ≤ L1 := hm2 (by omega)
      clear hm1 hm2 hn
      have P1 := HPP1.out
      have P2 := HPP2.out
      clear HPP1 HPP2
      cases hcb : ((c1 : Int) == (c2 : Int))
      all_goals
        go_wp2_with fail
        refine (f11_any _ _ _ _ w4 HR1.out HR2.out HLa.out HLb.out).mono ?_
        rw [P1]
        rintro e w5 ⟨rfl, q, hq⟩
        have HQ : Hid (w5 = w4.drewN q) := hq
        clear hq P1
        go_wp2_with fail
        rw [HQ.out]
        refine (f11_any _ _ _ _ (w4.drewN q) HR2.out HR1.out HLb.out HLa.out).mono ?_
        rw [P2]
        rintro e w6 ⟨rfl, q2, hq2⟩
        have HBQ : Hid (Below w.heap.size w w6) := by rw [hq2]; exact ⟨HB4.out.os, HB4.out.tape, HB4.out.output, HB4.out.size, HB4.out.block⟩
        clear hq2 P2
        go_wp2
        go_ret
        exact ⟨rfl, HBQ.out⟩
end Go.Proofs.Qxb6614547a
