import Derived.Test.Qxb6614547aX2
namespace Go.Proofs.Qxb6614547a
open Go.RowKit
open Go.Deep (BT)
set_option linter.unusedVariables false

def enX : BT TW → ByteArray
  | .nil => ⟨#[]⟩
  | .node _ _ a _ _ => a.en
def orX (e : ByteArray) : BT TW → ByteArray → ByteArray
  | .nil, _ => e
  | .node _ _ _ _ _, f => laterB e f
def wantX (a : TW) (l r : BT TW) : ByteArray := orX (orX a.to l (enX l)) r (enX r)
def endsOKB : BT TW → Bool
  | .nil => true
  | .node _ _ a l r => (a.en.toList == (wantX a l r).toList) && (endsOKB l && endsOKB r)
def EndsOK (X : BT TW) : Prop := ∀ (B : Nat) (w : World), XIn w B X → Calls Try.prog 27 #[X.ptr] w fun e w' => e = .returned (.bool (endsOKB X)) ∧ w' = w

set_option maxHeartbeats 1000000 in
theorem ends_nil : EndsOK .nil := by
  intro B w _
  show Calls Try.prog 27 #[.pointer none] w _
  go_enter Try.func27, Try.ntmps27
  go_wp2_with fail
  go_ret
  exact ⟨rfl, rfl⟩

theorem ret_b {a b : Bool} (h : a = b) : Ending.returned (.bool a) = .returned (.bool b) := by rw [h]
/-! the walk, the two children's pointers and ends given -/
set_option maxHeartbeats 2000000 in
set_option maxRecDepth 100000 in
theorem ends_00 (b o : Nat) (a : TW) (w : World) (bl' br' : Bool) (c1 : w.cell? ⟨b, o + 1, none⟩ = some (.string a.to)) (c5 : w.cell? ⟨b, o + 5, none⟩ = some (.string a.en)) (c6 : w.cell? ⟨b, o + 6, none⟩ = some (.pointer none)) (c7 : w.cell? ⟨b, o + 7, none⟩ = some (.pointer none))
    (C1 : Hid (Calls Try.prog 27 #[.pointer none] w fun e w' => e = .returned (.bool bl') ∧ w' = w)) (C2 : Hid (Calls Try.prog 27 #[.pointer none] w fun e w' => e = .returned (.bool br') ∧ w' = w)) :
    Calls Try.prog 27 #[.pointer (some ⟨b, o, none⟩)] w fun e w' => e = .returned (.bool ((a.en.toList == (a.to).toList) && (bl' && br'))) ∧ w' = w := by
  cases hE : (a.en.toList == (a.to).toList)
  · go_enter Try.func27, Try.ntmps27
    go_wp2_with (go_at_call 39; refine (f39_any _ _ _).mono ?_; rintro e w' ⟨rfl, rfl⟩)
    go_ret
    exact ⟨rfl, rfl⟩
  · go_enter Try.func27, Try.ntmps27
    go_wp2_with (first | (go_at_call 39; refine (f39_any _ _ _).mono ?_; rintro e w' ⟨rfl, rfl⟩) | fail)
    refine C1.out.mono ?_
    rintro e w1 ⟨rfl, rfl⟩
    cases bl'
    · go_wp2_with fail
      go_ret
      exact ⟨rfl, rfl⟩
    · go_wp2_with fail
      refine C2.out.mono ?_
      rintro e w2 ⟨rfl, rfl⟩
      go_wp2_with fail
      go_ret
      exact ⟨ret_b (by simp), rfl⟩

set_option maxHeartbeats 2000000 in
set_option maxRecDepth 100000 in
theorem ends_10 (b o : Nat) (a : TW) (w : World) (lb lo : Nat) (e1 : ByteArray) (bl' br' : Bool) (c1 : w.cell? ⟨b, o + 1, none⟩ = some (.string a.to)) (c5 : w.cell? ⟨b, o + 5, none⟩ = some (.string a.en)) (c6 : w.cell? ⟨b, o + 6, none⟩ = some (.pointer (some ⟨lb, lo, none⟩))) (c7 : w.cell? ⟨b, o + 7, none⟩ = some (.pointer none)) (hl5 : w.cell? ⟨lb, lo + 5, none⟩ = some (.string e1))
    (C1 : Hid (Calls Try.prog 27 #[.pointer (some ⟨lb, lo, none⟩)] w fun e w' => e = .returned (.bool bl') ∧ w' = w)) (C2 : Hid (Calls Try.prog 27 #[.pointer none] w fun e w' => e = .returned (.bool br') ∧ w' = w)) :
    Calls Try.prog 27 #[.pointer (some ⟨b, o, none⟩)] w fun e w' => e = .returned (.bool ((a.en.toList == ((laterB a.to e1)).toList) && (bl' && br'))) ∧ w' = w := by
  cases hE : (a.en.toList == ((laterB a.to e1)).toList)
  · go_enter Try.func27, Try.ntmps27
    go_wp2_with (go_at_call 39; refine (f39_any _ _ _).mono ?_; rintro e w' ⟨rfl, rfl⟩)
    go_ret
    exact ⟨rfl, rfl⟩
  · go_enter Try.func27, Try.ntmps27
    go_wp2_with (first | (go_at_call 39; refine (f39_any _ _ _).mono ?_; rintro e w' ⟨rfl, rfl⟩) | fail)
    refine C1.out.mono ?_
    rintro e w1 ⟨rfl, rfl⟩
    cases bl'
    · go_wp2_with fail
      go_ret
      exact ⟨rfl, rfl⟩
    · go_wp2_with fail
      refine C2.out.mono ?_
      rintro e w2 ⟨rfl, rfl⟩
      go_wp2_with fail
      go_ret
      exact ⟨ret_b (by simp), rfl⟩

set_option maxHeartbeats 2000000 in
set_option maxRecDepth 100000 in
theorem ends_01 (b o : Nat) (a : TW) (w : World) (rb ro : Nat) (e2 : ByteArray) (bl' br' : Bool) (c1 : w.cell? ⟨b, o + 1, none⟩ = some (.string a.to)) (c5 : w.cell? ⟨b, o + 5, none⟩ = some (.string a.en)) (c6 : w.cell? ⟨b, o + 6, none⟩ = some (.pointer none)) (c7 : w.cell? ⟨b, o + 7, none⟩ = some (.pointer (some ⟨rb, ro, none⟩))) (hr5 : w.cell? ⟨rb, ro + 5, none⟩ = some (.string e2))
    (C1 : Hid (Calls Try.prog 27 #[.pointer none] w fun e w' => e = .returned (.bool bl') ∧ w' = w)) (C2 : Hid (Calls Try.prog 27 #[.pointer (some ⟨rb, ro, none⟩)] w fun e w' => e = .returned (.bool br') ∧ w' = w)) :
    Calls Try.prog 27 #[.pointer (some ⟨b, o, none⟩)] w fun e w' => e = .returned (.bool ((a.en.toList == ((laterB a.to e2)).toList) && (bl' && br'))) ∧ w' = w := by
  cases hE : (a.en.toList == ((laterB a.to e2)).toList)
  · go_enter Try.func27, Try.ntmps27
    go_wp2_with (go_at_call 39; refine (f39_any _ _ _).mono ?_; rintro e w' ⟨rfl, rfl⟩)
    go_ret
    exact ⟨rfl, rfl⟩
  · go_enter Try.func27, Try.ntmps27
    go_wp2_with (first | (go_at_call 39; refine (f39_any _ _ _).mono ?_; rintro e w' ⟨rfl, rfl⟩) | fail)
    refine C1.out.mono ?_
    rintro e w1 ⟨rfl, rfl⟩
    cases bl'
    · go_wp2_with fail
      go_ret
      exact ⟨rfl, rfl⟩
    · go_wp2_with fail
      refine C2.out.mono ?_
      rintro e w2 ⟨rfl, rfl⟩
      go_wp2_with fail
      go_ret
      exact ⟨ret_b (by simp), rfl⟩

set_option maxHeartbeats 2000000 in
set_option maxRecDepth 100000 in
theorem ends_11 (b o : Nat) (a : TW) (w : World) (lb lo : Nat) (e1 : ByteArray) (rb ro : Nat) (e2 : ByteArray) (bl' br' : Bool) (c1 : w.cell? ⟨b, o + 1, none⟩ = some (.string a.to)) (c5 : w.cell? ⟨b, o + 5, none⟩ = some (.string a.en)) (c6 : w.cell? ⟨b, o + 6, none⟩ = some (.pointer (some ⟨lb, lo, none⟩))) (c7 : w.cell? ⟨b, o + 7, none⟩ = some (.pointer (some ⟨rb, ro, none⟩))) (hl5 : w.cell? ⟨lb, lo + 5, none⟩ = some (.string e1)) (hr5 : w.cell? ⟨rb, ro + 5, none⟩ = some (.string e2))
    (C1 : Hid (Calls Try.prog 27 #[.pointer (some ⟨lb, lo, none⟩)] w fun e w' => e = .returned (.bool bl') ∧ w' = w)) (C2 : Hid (Calls Try.prog 27 #[.pointer (some ⟨rb, ro, none⟩)] w fun e w' => e = .returned (.bool br') ∧ w' = w)) :
    Calls Try.prog 27 #[.pointer (some ⟨b, o, none⟩)] w fun e w' => e = .returned (.bool ((a.en.toList == ((laterB (laterB a.to e1) e2)).toList) && (bl' && br'))) ∧ w' = w := by
  cases hE : (a.en.toList == ((laterB (laterB a.to e1) e2)).toList)
  · go_enter Try.func27, Try.ntmps27
    go_wp2_with (go_at_call 39; refine (f39_any _ _ _).mono ?_; rintro e w' ⟨rfl, rfl⟩)
    go_ret
    exact ⟨rfl, rfl⟩
  · go_enter Try.func27, Try.ntmps27
    go_wp2_with (first | (go_at_call 39; refine (f39_any _ _ _).mono ?_; rintro e w' ⟨rfl, rfl⟩) | fail)
    refine C1.out.mono ?_
    rintro e w1 ⟨rfl, rfl⟩
    cases bl'
    · go_wp2_with fail
      go_ret
      exact ⟨rfl, rfl⟩
    · go_wp2_with fail
      refine C2.out.mono ?_
      rintro e w2 ⟨rfl, rfl⟩
      go_wp2_with fail
      go_ret
      exact ⟨ret_b (by simp), rfl⟩

theorem ends_node (b o : Nat) (a : TW) (l r : BT TW) (ihl : EndsOK l) (ihr : EndsOK r) : EndsOK (.node b o a l r) := by
  intro B w hX
  obtain ⟨hN, hl, hr⟩ := hX
  have i1 := ihl B w hl
  have i2 := ihr B w hr
  cases l with
  | nil =>
    cases r with
    | nil => exact ends_00 b o a w true true hN.c1 hN.c5 hN.c6 hN.c7 i1 i2
    | node rb ro ra rl rr => exact ends_01 b o a w rb ro ra.en true _ hN.c1 hN.c5 hN.c6 hN.c7 hr.1.c5 i1 i2
  | node lb lo la ll lr =>
    cases r with
    | nil => exact ends_10 b o a w lb lo la.en _ true hN.c1 hN.c5 hN.c6 hN.c7 hl.1.c5 i1 i2
    | node rb ro ra rl rr => exact ends_11 b o a w lb lo la.en rb ro ra.en _ _ hN.c1 hN.c5 hN.c6 hN.c7 hl.1.c5 hr.1.c5 i1 i2
theorem f27_any (X : BT TW) : EndsOK X := by
  induction X with
  | nil => exact ends_nil
  | node b o a l r hl hr => exact ends_node b o a l r hl hr

/-! ### the premise -/
theorem XIn.node {W : World} {B : Nat} : ∀ {X : BT TW}, XIn W B X → ∀ p ∈ tino X, ∃ l r, NodeAt W B p.1 p.2.1 p.2.2 l r
  | .nil, _, p, hp => by cases hp
  | .node b o a l r, ⟨h, hl, hr⟩, p, hp => by
    simp only [tino, List.mem_append, List.mem_cons] at hp
    rcases hp with h1 | rfl | h1
    · exact hl.node p h1
    · exact ⟨_, _, h⟩
    · exact hr.node p h1
theorem NodeAt.drewN {W : World} {B b o : Nat} {a : TW} {l r : Value} (h : NodeAt W B b o a l r) (n : Nat) : NodeAt (W.drewN n) B b o a l r := h.below ⟨rfl, rfl, rfl, Nat.le_refl _, fun _ _ => rfl⟩
theorem XIn.drewN {W : World} {B : Nat} {X : BT TW} (h : XIn W B X) (n : Nat) : XIn (W.drewN n) B X := XIn.below (W := W) (W' := W.drewN n) ⟨rfl, rfl, rfl, Nat.le_refl _, fun _ _ => rfl⟩ h
theorem wrap_small (m : Nat) (h : m ≤ 1000000) : IntKind.i64.wrap (m : Int) = (m : Int) := by
  simp [IntKind.wrap, IntKind.bits, IntKind.signed]; omega
/-- neighbours in order -/
def Adj (L : List (Nat × Nat × TW)) (k : Nat) : Prop := ∀ i, i + 1 < k → ∀ p q, L[i]? = some p → L[i + 1]? = some q → prec (toWt p.2.2) (toWt q.2.2) = true

set_option maxHeartbeats 4000000 in
set_option maxRecDepth 100000 in
theorem f13_any (X : BT TW) (B : Nat) (w : World) (hX : XIn w B X) (hB : B ≤ w.heap.size) (hn : sizeX X ≤ 20000) :
    Calls Try.prog 13 #[X.ptr] w fun e w' => ∃ b : Bool, e = .returned (.bool b) ∧ (b = true → Adj (tino X) (sizeX X) ∧ endsOKB X = true) ∧ Below B w w' := by
  have C := hid (f14_any X B (.slice none 0 0) 0 [] w hX ⟨rfl, .inl ⟨rfl, rfl⟩⟩ (fun k h => by cases h) hB (by omega))
  have HX := hid hX
  obtain ⟨px, hpx⟩ := xptr_form X
  have HPX := hid hpx
  rw [hpx] at C ⊢
  clear hX hpx
  go_enter Try.func13, Try.ntmps13
  go_wp2_with fail
  refine C.out.mono ?_
  rintro e w1 ⟨v1, rfl, ho1, hx1⟩
  rw [Nat.zero_add, List.nil_append] at ho1
  have hb1 := hx1.below (fun k h => by cases h) hB
  have HX1 := hid (HX.out.below hb1)
  have HB1 := hid hb1
  have HLT := hid (len_tino X)
  have hvf : ∃ ao cap, v1 = .slice ao (sizeX X) cap := by
    rcases ho1.2 with ⟨h, h2⟩ | ⟨g, cap, cur, h, _⟩
    · exact ⟨none, 0, by rw [h, h2]⟩
    · exact ⟨_, cap, h⟩
  obtain ⟨ao, cap, rfl⟩ := hvf
  have hrow : ∀ i, i < sizeX X → ∃ g, ao = some ⟨g, 0, none⟩ ∧ ∃ p, (tino X)[i]? = some p ∧ w1.cell? ⟨g, i, none⟩ = some (tptr p) := by
    intro i hi
    rcases ho1.2 with ⟨h, h2⟩ | ⟨g, cap', cur, h, _⟩
    · omega
    · cases h
      have hl : i < (tino X).length := by rw [len_tino]; exact hi
      refine ⟨g, rfl, (tino X)[i], List.getElem?_eq_getElem hl, ?_⟩
      rw [ho1.cellAt i (by omega), List.getElem?_map, List.getElem?_eq_getElem hl]
      rfl
  have HROW := hid hrow
  clear ho1 hx1 hb1 hrow C
  go_wp2_with fail
  go_loopw [4] (fun i wr => ∃ m : Nat, (m + 1 ≤ sizeX X ∨ m = 0) ∧ i = .int .i64 ((m : Int) + 1) ∧ Hid (Adj (tino X) (m + 1)) ∧ ∃ q, wr = w1.drewN q) (fun i _ => sizeX X + 1 - (intOf i).toNat)
  case atStart => exact ⟨0, .inr rfl, rfl, fun i hi => by omega, 0, rfl⟩
  case round =>
    obtain ⟨m, hm, rfl, hadj, q, rfl⟩ := hrel
    by_cases hlt : m + 1 < sizeX X
    · obtain ⟨g, rfl, ⟨b1, o1, a1⟩, hp1, hc1⟩ := HROW.out m (by omega)
      obtain ⟨g', hg', ⟨b2, o2, a2⟩, hp2, hc2⟩ := HROW.out (m + 1) hlt
      cases hg'
      obtain ⟨l1, r1, hn1⟩ := HX1.out.node _ (List.mem_of_getElem? hp1)
      obtain ⟨l2, r2, hn2⟩ := HX1.out.node _ (List.mem_of_getElem? hp2)
      simp only [tptr] at hc1 hc2
      have i1 : (m : Int) < (sizeX X : Int) := by omega
      have i2 : (m : Int) + 1 < (sizeX X : Int) := by omega
      have i3 : (0 : Int) ≤ (m : Int) + 1 := by omega
      have i4 : ((m : Int) + 1).toNat = m + 1 := by omega
      have i5 : IntKind.i64.wrap (m : Int) = (m : Int) := wrap_small m (by omega)
      have hc1' : (w1.drewN q).cell? ⟨g, m, none⟩ = some (.pointer (some ⟨b1, o1, none⟩)) := hc1
      have hc2' : (w1.drewN q).cell? ⟨g, m + 1, none⟩ = some (.pointer (some ⟨b2, o2, none⟩)) := hc2
      have HN1 := hid (hn1.drewN q)
      have HN2 := hid (hn2.drewN q)
      have HWQ : Hid (∃ q', w1.drewN q = w1.drewN q') := ⟨q, rfl⟩
      have HWB : Hid (Below B w1 (w1.drewN q)) := ⟨rfl, rfl, rfl, Nat.le_refl _, fun _ _ => rfl⟩
      clear hc1 hc2
      revert hc1' hc2' HN1 HN2 HWQ HWB
      generalize w1.drewN q = w2
      intro hc1 hc2 HN1 HN2 HWQ HWB
      have HP1 := hid hp1
      have HP2 := hid hp2
      clear hn1 hn2 hp1 hp2
      cases hpr : prec (toWt a1) (toWt a2)
      · have C26 := hid (fun n => f26_any B b1 o1 b2 o2 a1 a2 l1 r1 l2 r2 (w2.drewN n) (HN1.out.drewN n) (HN2.out.drewN n))
        rw [hpr] at C26
        clear hpr
        go_wp2_with fail
        go_quiet ((go_at_call 26; first | exact Calls.quiet_of_same (C26.out _) | exact Calls.quiet_of (C26.out _)))
        go_wp2_with fail
        go_ret
        exact ⟨false, rfl, (fun h => by cases h), HB1.out.trans (HWB.out.trans ⟨rfl, rfl, rfl, Nat.le_refl _, fun _ _ => rfl⟩)⟩
      · have HPREC := hid hpr
        have C26 := hid (fun n => f26_any B b1 o1 b2 o2 a1 a2 l1 r1 l2 r2 (w2.drewN n) (HN1.out.drewN n) (HN2.out.drewN n))
        rw [hpr] at C26
        clear hpr
        go_wp2_with fail
        go_quiet ((go_at_call 26; first | exact Calls.quiet_of_same (C26.out _) | exact Calls.quiet_of (C26.out _)))
        go_wp2_with fail
        go_roundw
        case rel =>
          obtain ⟨q2, hq2⟩ := HWQ.out
          refine ⟨m + 1, .inl (by omega), by go_num, ?_, q2 + nq, by rw [hq2, World.drewN_drewN]⟩
          intro i hi p q' h1 h2
          rcases Nat.lt_or_ge (i + 1) (m + 1) with h3 | h3
          · exact hadj.out i h3 p q' h1 h2
          · have him : i = m := by omega
            subst him
            rw [HP1.out] at h1
            rw [HP2.out] at h2
            cases h1
            cases h2
            exact HPREC.out
        case measure => simp [intOf]; omega
    · have HE := hid (f27_any X B (w1.drewN q) (HX1.out.drewN q))
      rw [HPX.out] at HE
      go_wp2_with fail
      refine HE.out.mono ?_
      rintro e w2 ⟨rfl, hw2⟩
      have HW2 := hid hw2
      clear hw2
      go_wp2_with fail
      go_ret
      refine ⟨endsOKB X, rfl, fun h => ⟨?_, h⟩, ?_⟩
      · intro i hi p q' h1 h2
        exact hadj.out i (by omega) p q' h1 h2
      · rw [HW2.out]; exact HB1.out.trans ⟨rfl, rfl, rfl, Nat.le_refl _, fun _ _ => rfl⟩
end Go.Proofs.Qxb6614547a
