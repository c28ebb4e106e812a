import Derived.Test.Qxb6614547aW2
namespace Go.Proofs.Qxb6614547a
open Go.RowKit
open Go.Deep (BT)
set_option linter.unusedVariables false

theorem set_right {w : World} {b : Nat} {a : Wt} {l r v : Value} {en : ByteArray} (h : w.heap[b]? = some (.cells (wcells a true l r en) 74)) : (w.setCell ⟨b, 11, none⟩ v).heap[b]? = some (.cells (wcells a true l v en) 74) := by
  rw [heap_setCell_same w b 11 _ 74 _ h]; rfl
theorem set_left {w : World} {b : Nat} {a : Wt} {l r v : Value} {en : ByteArray} (h : w.heap[b]? = some (.cells (wcells a true l r en) 74)) : (w.setCell ⟨b, 10, none⟩ v).heap[b]? = some (.cells (wcells a true v r en) 74) := by
  rw [heap_setCell_same w b 10 _ 74 _ h]; rfl
theorem ptr_form (T : BT Wt) (w : World) (h : TIn w T) : ∃ p, T.ptr = .pointer p := by cases T <;> exact ⟨_, rfl⟩

theorem TIn.drewN {w : World} {T : BT Wt} (h : TIn w T) (n : Nat) : TIn (w.drewN n) T := h.kept ((Kept.refl [] w).drewN n) (fun _ _ h => by cases h)
theorem blks_ino {T A B : BT Wt} (h : ino T = ino A ++ ino B) : blks T = blks A ++ blks B := by simp [blks, h]

/-- what merge leaves -/
def Merged (W W' : World) (e : Ending) (A B : BT Wt) : Prop := ∃ T : BT Wt, e = .returned T.ptr ∧ ino T = ino A ++ ino B ∧ TIn W' T ∧ Kept (blks A ++ blks B) W W'
/-- merge's contract at two trees, in whatever world they lie -/
def MergeOK (A B : BT Wt) : Prop := ∀ w, TIn w A → TIn w B → (blks A ++ blks B).Nodup → Calls Try.prog 46 #[A.ptr, B.ptr] w fun e w' => Merged w w' e A B

set_option maxHeartbeats 1000000 in
theorem merge_nil (B : BT Wt) : MergeOK .nil B := by
  intro w hA hB hd
  show Calls Try.prog 46 #[.pointer none, B.ptr] w _
  generalize hp : B.ptr = p
  go_enter Try.func46, Try.ntmps46
  go_wp2_with fail
  go_ret
  exact ⟨B, by rw [hp]; rfl, by simp [ino], hB, Kept.refl _ _⟩

set_option maxHeartbeats 1000000 in
theorem merge_nil_right (b o : Nat) (a : Wt) (l r : BT Wt) : MergeOK (.node b o a l r) .nil := by
  intro w hA hB hd
  show Calls Try.prog 46 #[.pointer (some ⟨b, o, none⟩), .pointer none] w _
  go_enter Try.func46, Try.ntmps46
  go_wp2_with fail
  go_ret
  exact ⟨.node b o a l r, rfl, by simp [ino], hA, Kept.refl _ _⟩

set_option maxHeartbeats 2000000 in
theorem merge_a (b : Nat) (a : Wt) (l r : BT Wt) (b2 : Nat) (a2 : Wt) (l2 r2 : BT Wt) (hp : a2.prio < a.prio) (ih : Hid (MergeOK r (.node b2 0 a2 l2 r2))) : MergeOK (.node b 0 a l r) (.node b2 0 a2 l2 r2) := by
  intro w hA hB hd
  have hA' := hA
  have hB' := hB
  obtain ⟨_, hb, hl, hr⟩ := hA
  obtain ⟨_, hb2, _, _⟩ := hB
  obtain ⟨c1, c2, c3, c4, c5, c8, c9, c10, c11, c12, cf⟩ := wcell hb
  obtain ⟨_, _, _, _, _, _, d9, _, _, _, _⟩ := wcell hb2
  show Calls Try.prog 46 #[.pointer (some ⟨b, 0, none⟩), .pointer (some ⟨b2, 0, none⟩)] w _
  have HBB := hid hb
  have HA := hid hA'
  have HB := hid hB'
  have HL := hid hl
  have HR := hid hr
  have HD := hid hd
  clear hb hb2 hA' hB' hl hr hd
  obtain ⟨pr, hpr⟩ := ptr_form r w HR.out
  rw [hpr] at c11
  have HPR := hid hpr
  clear hpr
  go_enter Try.func46, Try.ntmps46
  go_wp2_with fail
  go_quiet (fail)
  go_wp2_with fail
  rw [← HPR.out]
  have hnd := HD.out
  rw [blks_node, List.append_assoc, List.nodup_append] at hnd
  obtain ⟨hndl, hnd2, hndx⟩ := hnd
  rw [List.cons_append, List.nodup_cons] at hnd2
  refine (ih.out (w.drewN nq) (HR.out.drewN nq) (HB.out.drewN nq) hnd2.2).mono ?_
  rintro e w1 ⟨T1, rfl, hino, hT1, hk1⟩
  have hbT : b ∉ blks T1 := by rw [blks_ino hino]; exact hnd2.1
  have hb1 : w1.heap[b]? = some (.cells (wcells a true l.ptr r.ptr (endT (.node b 0 a l r))) 74) := (hk1.block b hnd2.1).trans HBB.out
  have hbl : b ∉ blks l := fun h => hndx b h b (by simp) rfl
  have hl1 : TIn w1 l := (HL.out.drewN nq).kept hk1 (fun k h1 h2 => hndx k h1 k (by simp only [List.cons_append, List.mem_cons]; exact .inr h2) rfl)
  obtain ⟨pt, hpt⟩ := ptr_form T1 w1 hT1
  have hb2 := set_right (v := T1.ptr) hb1
  have hks : Kept [b] w1 (w1.setCell ⟨b, 11, none⟩ T1.ptr) := upd_kept w1 _
  have hl2 := hl1.kept hks (fun k h1 h2 => by simp at h2; exact hbl (h2 ▸ h1))
  have hT2 := hT1.kept hks (fun k h1 h2 => by simp at h2; exact hbT (h2 ▸ h1))
  have CC := hid (f48_any b a _ l T1 _ hb2 hl2 hT2 hbl hbT)
  obtain ⟨_, _, _, _, _, _, _, _, x11, _, xf⟩ := wcell hb1
  have HK1 := hid hk1
  have HKS := hid hks
  have HINO := hid hino
  rw [hpt] at CC HKS ⊢
  have HPT := hid hpt
  clear c1 c2 c3 c4 c5 c8 c9 c10 c11 c12 cf hnd2 hndl hndx hbT hb1 hbl hl1 hb2 hks hl2 hT2 hpt hk1 hT1 hino
  rw [HPR.out] at x11
  go_wp2_with fail
  refine CC.out.mono ?_
  rintro e w2 ⟨rfl, hk2, hT3⟩
  go_wp2_with fail
  go_ret
  refine ⟨.node b 0 a l T1, rfl, ?_, hT3, ?_⟩
  · simp only [ino, HINO.out]; simp
  · refine (Kept.drewN (Kept.refl _ _) nq).trans ((HK1.out.mono ?_).trans ((HKS.out.mono ?_).trans (hk2.mono ?_)))
    · intro k hk; rw [blks_node b]; simp only [List.mem_append, List.mem_cons] at hk ⊢; rcases hk with h | h; exact .inl (.inr (.inr h)); exact .inr h
    · intro k hk; rw [blks_node b]; simp at hk ⊢; exact .inr (.inl hk)
    · intro k hk; rw [blks_node b]; simp at hk ⊢; exact .inr (.inl hk)

set_option maxHeartbeats 2000000 in
theorem merge_b (b : Nat) (a : Wt) (l r : BT Wt) (b2 : Nat) (a2 : Wt) (l2 r2 : BT Wt) (hp : ¬ a2.prio < a.prio) (ih : Hid (MergeOK (.node b 0 a l r) l2)) : MergeOK (.node b 0 a l r) (.node b2 0 a2 l2 r2) := by
  intro w hA hB hd
  have hA' := hA
  have hB' := hB
  obtain ⟨_, hb, _, _⟩ := hA
  obtain ⟨_, hb2, hl, hr⟩ := hB
  have c9 := (wcell hb).2.2.2.2.2.2.1
  obtain ⟨_, _, _, _, _, _, d9, c10, _, _, _⟩ := wcell hb2
  show Calls Try.prog 46 #[.pointer (some ⟨b, 0, none⟩), .pointer (some ⟨b2, 0, none⟩)] w _
  have HBB := hid hb2
  have HA := hid hA'
  have HB := hid hB'
  have HL := hid hl
  have HR := hid hr
  have HD := hid hd
  clear hb hb2 hA' hB' hl hr hd
  obtain ⟨pl, hpl⟩ := ptr_form l2 w HL.out
  rw [hpl] at c10
  have HPL := hid hpl
  clear hpl
  go_enter Try.func46, Try.ntmps46
  go_wp2_with fail
  go_quiet (fail)
  go_wp2_with fail
  rw [← HPL.out]
  have hnd := HD.out
  rw [blks_node b2, ← List.append_assoc, List.nodup_append] at hnd
  obtain ⟨hnd1, hnd2, hndx⟩ := hnd
  rw [List.nodup_cons] at hnd2
  have hb2A : b2 ∉ blks (.node b 0 a l r) ++ blks l2 := fun h => hndx b2 h b2 (by simp) rfl
  refine (ih.out (w.drewN nq) (HA.out.drewN nq) (HL.out.drewN nq) hnd1).mono ?_
  rintro e w1 ⟨T1, rfl, hino, hT1, hk1⟩
  have hbT : b2 ∉ blks T1 := by rw [blks_ino hino]; exact hb2A
  have hb1 : w1.heap[b2]? = some (.cells (wcells a2 true l2.ptr r2.ptr (endT (.node b2 0 a2 l2 r2))) 74) := (hk1.block b2 hb2A).trans HBB.out
  have hbr : b2 ∉ blks r2 := hnd2.1
  have hr1 : TIn w1 r2 := (HR.out.drewN nq).kept hk1 (fun k h1 h2 => hndx k h2 k (by simp [h1]) rfl)
  obtain ⟨pt, hpt⟩ := ptr_form T1 w1 hT1
  have hb3 := set_left (v := T1.ptr) hb1
  have hks : Kept [b2] w1 (w1.setCell ⟨b2, 10, none⟩ T1.ptr) := upd_kept w1 _
  have hr2 := hr1.kept hks (fun k h1 h2 => by simp at h2; exact hbr (h2 ▸ h1))
  have hT2 := hT1.kept hks (fun k h1 h2 => by simp at h2; exact hbT (h2 ▸ h1))
  have CC := hid (f48_any b2 a2 _ T1 r2 _ hb3 hT2 hr2 hbT hbr)
  obtain ⟨_, _, _, _, _, _, _, x10, _, _, xf⟩ := wcell hb1
  have HK1 := hid hk1
  have HKS := hid hks
  have HINO := hid hino
  rw [hpt] at CC HKS ⊢
  clear c9 d9 c10 hnd1 hnd2 hndx hb2A hbT hb1 hbr hr1 hb3 hks hr2 hT2 hpt hk1 hT1 hino
  rw [HPL.out] at x10
  go_wp2_with fail
  refine CC.out.mono ?_
  rintro e w2 ⟨rfl, hk2, hT3⟩
  go_wp2_with fail
  go_ret
  refine ⟨.node b2 0 a2 T1 r2, rfl, ?_, hT3, ?_⟩
  · simp only [ino, HINO.out]; simp
  · refine (Kept.drewN (Kept.refl _ _) nq).trans ((HK1.out.mono ?_).trans ((HKS.out.mono ?_).trans (hk2.mono ?_)))
    · intro k hk; rw [blks_node b2]; simp only [List.mem_append, List.mem_cons] at hk ⊢; rcases hk with h | h; exact .inl h; exact .inr (.inl h)
    · intro k hk; rw [blks_node b2]; simp at hk ⊢; exact .inr (.inr (.inl hk))
    · intro k hk; rw [blks_node b2]; simp at hk ⊢; exact .inr (.inr (.inl hk))

theorem merge_ok (n : Nat) : ∀ A B : BT Wt, sizeT A + sizeT B ≤ n → MergeOK A B := by
  induction n with
  | zero =>
    intro A B hn
    cases A with
    | nil => exact merge_nil B
    | node b o a l r => simp [sizeT] at hn
  | succ n ih =>
    intro A B hn
    cases A with
    | nil => exact merge_nil B
    | node b o a l r =>
      cases B with
      | nil => exact merge_nil_right b o a l r
      | node b2 o2 a2 l2 r2 =>
        simp only [sizeT] at hn
        intro w hA hB hd
        have ho : o = 0 := hA.1
        have ho2 : o2 = 0 := hB.1
        subst ho ho2
        by_cases hp : a2.prio < a.prio
        · exact merge_a b a l r b2 a2 l2 r2 hp (ih r (.node b2 0 a2 l2 r2) (by simp only [sizeT]; omega)) w hA hB hd
        · exact merge_b b a l r b2 a2 l2 r2 hp (ih (.node b 0 a l r) l2 (by simp only [sizeT]; omega)) w hA hB hd
theorem f46_any (A B : BT Wt) : MergeOK A B := merge_ok _ A B (Nat.le_refl _)

/-! ### without -/
/-- what without leaves -/
def Gone (W W' : World) (e : Ending) (R : BT Wt) (bw : Nat) : Prop := ∃ T : BT Wt, e = .returned T.ptr ∧ ino T = (ino R).filter (fun p => p.1 != bw) ∧ TIn W' T ∧ Kept (blks T) W W'
def WithoutOK (R : BT Wt) : Prop := ∀ (bw : Nat) (aw : Wt) w, TIn w R → (blks R).Nodup → Srt (ino R) → (bw, aw) ∈ ino R → Calls Try.prog 45 #[R.ptr, .pointer (some ⟨bw, 0, none⟩)] w fun e w' => Gone w w' e R bw

theorem ptr_same (w : World) (a : Addr) : (binOp .eql 36 (.pointer (some a)) (.pointer (some a))).run Try.prog w = .ok (.bool true) w := by
  have h : ∃ j, Try.prog.info? 74 = some j := Option.isSome_iff_exists.1 (by kernel_rfl)
  obtain ⟨j, hj⟩ := h
  exact run_eql_ptr_same w a Try.underlying36 hj
theorem ptr_other (W : World) (a b : Nat) (ca cb : Array Value) (ta tb : TypeId) (hne : a ≠ b) (ha : W.heap[a]? = some (.cells ca ta (0, 0))) (hb : W.heap[b]? = some (.cells cb tb (0, 0))) :
    (binOp .eql 36 (.pointer (some ⟨a, 0, none⟩)) (.pointer (some ⟨b, 0, none⟩))).run Try.prog W = .ok (.bool false) W := by
  have h : (Try.prog.info? 74).map (·.size) = some 13 := by kernel_rfl
  cases hj : Try.prog.info? 74 with
  | none => simp [hj] at h
  | some j =>
    have hs : j.size = 13 := by simpa [hj] using h
    exact run_eql_ptr_other W (ca := ca) (cb := cb) (ta := ta) (tb := tb) Try.underlying36 hj (by omega) (by simp only [ne_eq, Addr.mk.injEq, and_self, and_true]; exact hne) ha hb
/-- every node of a tree in memory is a waiter that waits -/
theorem TIn.mem {W : World} : ∀ {T : BT Wt}, TIn W T → ∀ p ∈ ino T, ∃ l r en, W.heap[p.1]? = some (.cells (wcells p.2 true l r en) 74)
  | .nil, _, p, hp => by cases hp
  | .node b o a l r, ⟨_, hb, hl, hr⟩, p, hp => by
    simp only [ino, List.mem_append, List.mem_cons] at hp
    rcases hp with h | rfl | h
    · exact hl.mem p h
    · exact ⟨_, _, _, hb⟩
    · exact hr.mem p h
end Go.Proofs.Qxb6614547a
