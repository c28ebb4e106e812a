import Derived.Test.Qxb6614547aX7
namespace Go.Proofs.Qxb6614547a
open Go.RowKit
open Go.Deep (BT)
set_option linter.unusedVariables false

set_option maxHeartbeats 4000000 in
set_option maxRecDepth 100000 in
theorem f18_any (X : BT TW) (B gw gn : Nat) (L : List En) (ao : Option Addr) (n cap : Nat) (k : ByteArray) (rev : Int) (w : World) (hX : XIn w B X) (ho : w.ownsRow 0 30 1 (.slice ao n cap) n ((tino X).map tptr)) (hR : Rw w gw gn L) (hgw : B ≤ gw) (hgn : B ≤ gn)
    (hM : L.map (fun e => (e.a.frm, e.a.to)) = (tino X).map (fun p => (p.2.2.frm, p.2.2.to))) (hL : L.length = n) (hn : n ≤ 20000) :
    Calls Try.prog 18 #[.slice ao n cap, .slice (some ⟨gw, 0, none⟩) n n, .slice (some ⟨gn, 0, none⟩) n n, .string k, .int .u64 rev] w fun e w' => e = .returned (.int .i64 ((HL k L).length : Int)) ∧ Rw w' gw gn (L.map (wakeE k rev)) ∧ Kept [gw, gn] w w' := by
  have HX := hid hX
  have HO := hid ho
  have HR := hid hR
  have HM := hid hM
  have hty : ∀ b ∈ [gw, gn], ∃ o, w.heap[b]? = some o ∧ ∀ cs, o ≠ .cells cs 30 (0, 0) := by
    intro b hb
    simp at hb
    rcases hb with rfl | rfl
    · exact ⟨_, hR.hw, by simp⟩
    · exact ⟨_, hR.hn, by simp⟩
  have HTY := hid hty
  have hSB : ∀ b ∈ [gw, gn], B ≤ b := by intro b hb; simp at hb; rcases hb with rfl | rfl <;> assumption
  have HSB := hid hSB
  have hne : gw ≠ gn := by
    intro e'
    have h1 := hR.hw
    rw [e', hR.hn] at h1
    simp at h1
  have hne2 : ¬ gw = gn := hne
  have hne3 : ¬ gn = gw := fun e => hne e.symm
  clear hX ho hR hM hty hSB hne
  go_enter Try.func18, Try.ntmps18
  go_wp2_with fail
  go_loopw [11, 12] (fun h i wr => ∃ m : Nat, m ≤ n ∧ i = .int .i64 m ∧ h = .int .i64 ((HL k (L.take m)).length : Int) ∧ Hid (Rw wr gw gn (Li (wakeE k rev) L m)) ∧ Hid (Kept [gw, gn] w wr)) (fun _ i _ => n - (intOf i).toNat)
  case atStart => exact ⟨0, Nat.zero_le _, rfl, by simp [HL], hid (by rw [Li_zero]; exact HR.out), Kept.refl _ _⟩
  case round =>
    obtain ⟨m, hm, rfl, rfl, hRi, hKi⟩ := hrel
    by_cases hlt : m < n
    · have hlt' : m < L.length := by omega
      obtain ⟨e, he⟩ : ∃ e, L[m]? = some e := ⟨_, List.getElem?_eq_getElem hlt'⟩
      obtain ⟨g, rfl, ⟨b1, o1, a1⟩, hp1, hc1⟩ := ins_row (own_keptS HO.out hKi.out HTY.out) m hlt
      simp only [tptr] at hc1
      have hXr := HX.out.below (hKi.out.below HSB.out)
      obtain ⟨l1, r1, hn1⟩ := hXr.node _ (List.mem_of_getElem? hp1)
      have cw := hRi.out.cw (Li_get he)
      have cn := hRi.out.cn (Li_get he)
      have fw := frozen_of_row _ _ m _ _ hRi.out.hw
      have fn := frozen_of_row _ _ m _ _ hRi.out.hn
      have i1 : (m : Int) < (n : Int) := by omega
      have hcnt : (HL k (L.take m)).length ≤ 20000 := Nat.le_trans (List.length_filter_le _ _) (by simp; omega)
      have hhold : holdsW k e.a = holdsW k (toWt a1) := by
        have h1 : (L.map (fun e => (e.a.frm, e.a.to)))[m]? = some (e.a.frm, e.a.to) := by rw [List.getElem?_map, he]; rfl
        rw [HM.out, List.getElem?_map, hp1] at h1
        simp at h1
        exact holds_eq k h1.1.symm h1.2.symm
      have C21 := hid (f21_any B b1 o1 a1 l1 r1 k wr hn1)
      rw [← hhold] at C21
      have HE := hid he
      have HT := hid (HL_take k he)
      clear hXr hn1 hp1 hhold he hlt'
      have i2 : IntKind.i64.wrap (((HL k (L.take m)).length : Int) + 1) = ((HL k (L.take m)).length : Int) + 1 := by
        have := wrap_small ((HL k (L.take m)).length + 1) (by omega)
        simpa using this
      cases hwt : e.wt
      · have HW : Hid (wakeE k rev e = e) := by show _ = _; simp [wakeE, hwt]
        have HC : Hid ((HL k (L.take (m + 1))).length = (HL k (L.take m)).length) := by show _ = _; rw [HT.out]; simp [hwt]
        rw [hwt] at cw
        clear hwt
        go_wp2_with fail
        go_roundw
        case rel => exact ⟨m + 1, by omega, by go_num, by rw [HC.out], hid (by rw [Li_same HE.out HW.out]; exact hRi.out), hKi⟩
        case measure => simp [intOf]; omega
      · rw [hwt] at cw
        cases hh : holdsW k e.a
        · have HW : Hid (wakeE k rev e = e) := by show _ = _; simp [wakeE, hh]
          have HC : Hid ((HL k (L.take (m + 1))).length = (HL k (L.take m)).length) := by show _ = _; rw [HT.out]; simp [hh]
          rw [hh] at C21
          clear hwt hh
          go_wp2_with (go_at_call 21; refine C21.out.mono ?_; rintro e0 w' ⟨rfl, rfl⟩)
          go_roundw
          case rel => exact ⟨m + 1, by omega, by go_num, by rw [HC.out], hid (by rw [Li_same HE.out HW.out]; exact hRi.out), hKi⟩
          case measure => simp [intOf]; omega
        · have HC : Hid ((HL k (L.take (m + 1))).length = (HL k (L.take m)).length + 1) := by show _ = _; rw [HT.out]; simp [hwt, hh]
          rw [hh] at C21
          by_cases hnx : e.a.nxt ≤ rev
          · have HW : Hid (wakeE k rev e = ⟨e.b, { e.a with nxt := rev }, false⟩) := by show _ = _; simp [wakeE, hh, hwt, wk, hnx]
            clear hwt hh
            go_wp2_with (first | (go_at_call 21; refine C21.out.mono ?_; rintro e0 w' ⟨rfl, rfl⟩) | fail)
            go_roundw
            case rel =>
              refine ⟨m + 1, by omega, by go_num, by rw [HC.out]; go_num, hid ?_, hid ?_⟩
              · rw [Li_succ HE.out, HW.out]
                exact hRi.out.set m ⟨e.b, { e.a with nxt := rev }, false⟩
              · exact (hKi.out.setCell (by simp) _).setCell (by simp) _
            case measure => simp [intOf]; omega
          · have HW : Hid (wakeE k rev e = e) := by show _ = _; simp [wakeE, hh, hwt, wk, hnx]
            clear hwt hh
            go_wp2_with (first | (go_at_call 21; refine C21.out.mono ?_; rintro e0 w' ⟨rfl, rfl⟩) | fail)
            go_roundw
            case rel => exact ⟨m + 1, by omega, by go_num, by rw [HC.out]; go_num, hid (by rw [Li_same HE.out HW.out]; exact hRi.out), hKi⟩
            case measure => simp [intOf]; omega
    · have HF : Hid (HL k (L.take m) = HL k L) := by show _ = _; rw [List.take_of_length_le (by omega)]
      have HF2 : Hid (Li (wakeE k rev) L m = L.map (wakeE k rev)) := Li_full _ _ _ (by omega)
      have i1 : ¬ (m : Int) < (n : Int) := by omega
      go_wp2_with fail
      go_ret
      exact ⟨by rw [← HF.out]; rfl, by rw [← HF2.out]; exact hRi.out, hKi.out⟩
end Go.Proofs.Qxb6614547a
