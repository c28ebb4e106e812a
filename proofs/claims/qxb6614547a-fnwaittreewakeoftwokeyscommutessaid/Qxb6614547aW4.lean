import Derived.Test.Qxb6614547aW3
namespace Go.Proofs.Qxb6614547a
open Go.RowKit
open Go.Deep (BT)
set_option linter.unusedVariables false

theorem not_mem_filter {L : List (Nat × Wt)} {b : Nat} (h : b ∉ L.map (·.1)) : L.filter (fun p => p.1 != b) = L := by
  rw [List.filter_eq_self]
  intro p hp
  simp only [bne_iff_ne]
  intro e
  exact h (by rw [← e]; exact List.mem_map_of_mem hp)

set_option maxHeartbeats 2000000 in
theorem without_found (bw : Nat) (aw : Wt) (l r : BT Wt) (w : World) (hR : TIn w (.node bw 0 aw l r)) (hd : (blks (.node bw 0 aw l r)).Nodup) :
    Calls Try.prog 45 #[.pointer (some ⟨bw, 0, none⟩), .pointer (some ⟨bw, 0, none⟩)] w fun e w' => Gone w w' e (.node bw 0 aw l r) bw := by
  obtain ⟨_, hb, hl, hr⟩ := hR
  obtain ⟨_, _, _, _, _, _, _, c10, c11, _, _⟩ := wcell hb
  obtain ⟨pl, hpl⟩ := ptr_form l w hl
  obtain ⟨pr, hpr⟩ := ptr_form r w hr
  have hM := f46_any l r w.drew (hl.kept (Kept.refl [] w).drew (fun _ _ h => by cases h)) (hr.kept (Kept.refl [] w).drew (fun _ _ h => by cases h))
    (by rw [blks_node] at hd; rw [List.nodup_append] at hd ⊢; obtain ⟨h1, h2, h3⟩ := hd; exact ⟨h1, (List.nodup_cons.1 h2).2, fun a ha b hb => h3 a ha b (by simp [hb])⟩)
  rw [hpl, hpr] at hM
  rw [hpl] at c10
  rw [hpr] at c11
  have HM := hid hM
  have HD := hid hd
  clear hM hd hb hpl hpr
  have es := fun (w : World) => ptr_same w ⟨bw, 0, none⟩
  go_enter Try.func45, Try.ntmps45
  go_wp2_with fail
  go_region_with (go_at_call 46; refine HM.out.mono ?_; rintro e w1 ⟨T1, rfl, hino, hT1, hk1⟩)
  all_goals go_wp2_with fail
  all_goals go_ret
  all_goals
    have hdd := HD.out
    rw [blks_node, List.nodup_append, List.nodup_cons] at hdd
    refine ⟨T1, rfl, ?_, hT1, ?_⟩
    · rw [hino]
      simp only [ino, List.filter_append, List.filter_cons, bne_self_eq_false, Bool.false_eq_true, if_false]
      rw [not_mem_filter (fun h => hdd.2.2 bw h bw (by simp) rfl), not_mem_filter hdd.2.1.1]
    · rw [blks_ino hino]
      exact ⟨hk1.os, hk1.tape, hk1.output, hk1.size, hk1.block⟩

set_option maxHeartbeats 2000000 in
theorem without_left (b : Nat) (a : Wt) (l r : BT Wt) (bw : Nat) (aw : Wt) (w : World) (ih : Hid (WithoutOK l)) (hR : TIn w (.node b 0 a l r)) (hd : (blks (.node b 0 a l r)).Nodup) (hs : Srt (ino (.node b 0 a l r)))
    (hm : (bw, aw) ∈ ino l) (hp : prec aw a = true) :
    Calls Try.prog 45 #[.pointer (some ⟨b, 0, none⟩), .pointer (some ⟨bw, 0, none⟩)] w fun e w' => Gone w w' e (.node b 0 a l r) bw := by
  obtain ⟨_, hb, hl, hr⟩ := hR
  have hdd := hd
  rw [blks_node, List.nodup_append, List.nodup_cons] at hdd
  obtain ⟨hdl, ⟨hbr, hdr⟩, hdx⟩ := hdd
  have hbl : b ∉ blks l := fun h => hdx b h b (by simp) rfl
  have hss := hs
  unfold Srt at hss
  simp only [ino, List.pairwise_append, List.pairwise_cons] at hss
  obtain ⟨hsl, ⟨_, hsr⟩, _⟩ := hss
  have hbw : bw ∈ blks l := List.mem_map_of_mem hm
  have hne : b ≠ bw := fun e => hbl (e ▸ hbw)
  have hbwo : bw ∉ blks r := fun h => hdx bw hbw bw (by simp [h]) rfl
  obtain ⟨wl, wr, we, hw⟩ := hl.mem _ hm
  have he := ptr_other w b bw _ _ _ _ hne hb hw
  have HP := hid (f47_any bw b aw a true true wl wr l.ptr r.ptr we _ w hw hb)
  obtain ⟨p0, hp0⟩ := ptr_form l w hl
  have HP0 := hid hp0
  have HB := hid hb
  have HO := hid hr
  have HS := hid hl
  have HF := hid (And.intro hdl (And.intro hbr (And.intro hdr (And.intro hdx (And.intro hbl (And.intro hsl (And.intro hsr (And.intro hbw (And.intro hne (And.intro hbwo hm))))))))))
  obtain ⟨_, _, _, _, _, _, _, c10, c11, _, cf⟩ := wcell hb
  have cc : w.cell? ⟨b, 10, none⟩ = some l.ptr := c10
  rw [hp0] at cc
  clear hb hl hr hdl hbr hdr hdx hbl hsl hsr hbw hne hbwo hm hw c10 c11 hp0 hd hs
  go_enter Try.func45, Try.ntmps45
  go_wp2_with fail
  refine HP.out.mono ?_
  rintro e w0 ⟨rfl, q, hq⟩
  have HQ : Hid (w0 = w.drewN q) := hq
  rw [hp, hq]
  clear hq
  go_wp2_with fail
  rw [← HP0.out]
  obtain ⟨hdl, hbr, hdr, hdx, hbl, hsl, hsr, hbw, hne, hbwo, hm⟩ := HF.out
  refine (ih.out bw aw (w.drewN q) (HS.out.drewN q) hdl hsl hm).mono ?_
  rintro e w1 ⟨T1, rfl, hino, hT1, hk1⟩
  have hsub : ∀ k ∈ blks T1, k ∈ blks l := by
    intro k hk
    unfold blks at hk ⊢
    rw [hino] at hk
    obtain ⟨p, hp', rfl⟩ := List.mem_map.1 hk
    exact List.mem_map_of_mem (List.mem_filter.1 hp').1
  have hbT : b ∉ blks T1 := fun h => hbl (hsub b h)
  have hbo : b ∉ blks r := hbr
  have hb1 : w1.heap[b]? = some (.cells (wcells a true l.ptr r.ptr (endT (.node b 0 a l r))) 74) := (hk1.block b hbT).trans HB.out
  have ho1 : TIn w1 r := (HO.out.drewN q).kept hk1 (fun k h1 h2 => hdx k (hsub k h2) k (by simp [h1]) rfl)
  obtain ⟨pt, hpt⟩ := ptr_form T1 w1 hT1
  have hb3 := set_left (v := T1.ptr) hb1
  have hks : Kept [b] w1 (w1.setCell ⟨b, 10, none⟩ T1.ptr) := upd_kept w1 _
  have ho2 := ho1.kept hks (fun k h1 h2 => by simp at h2; exact hbo (h2 ▸ h1))
  have hT2 := hT1.kept hks (fun k h1 h2 => by simp at h2; exact hbT (h2 ▸ h1))
  have CC := hid (f48_any b a _ T1 r _ hb3 hT2 ho2 hbT hbo)
  obtain ⟨_, _, _, _, _, _, _, x10, x11, _, xf⟩ := wcell hb1
  have xc : w1.cell? ⟨b, 10, none⟩ = some l.ptr := x10
  rw [HP0.out] at xc
  have HK1 := hid hk1
  have HKS := hid hks
  have HINO := hid hino
  have HFB := hid (And.intro hbo (And.intro hbwo hne))
  rw [hpt] at CC HKS ⊢
  clear cc cf x10 x11 hdl hbr hdr hdx hbl hsl hsr hbw hne hbwo hm hsub hbT hbo hb1 ho1 hb3 hks ho2 hT2 hpt hk1 hT1 hino
  go_wp2_with fail
  refine CC.out.mono ?_
  rintro e w2 ⟨rfl, hk2, hT3⟩
  go_wp2_with fail
  go_ret
  obtain ⟨hbo, hbwo, hne⟩ := HFB.out
  have hbq : (b != bw) = true := by rw [bne_iff_ne]; exact hne
  refine ⟨.node b 0 a T1 r, rfl, ?_, hT3, ?_⟩
  · simp only [ino, HINO.out, List.filter_append, List.filter_cons, hbq, if_true]
    rw [not_mem_filter hbwo]
  · refine (Kept.drewN (Kept.refl _ _) q).trans ((HK1.out.mono ?_).trans ((HKS.out.mono ?_).trans (hk2.mono ?_)))
    · intro k hk; rw [blks_node b]; simp [hk]
    · intro k hk; rw [blks_node b]; simp at hk ⊢; simp [hk]
    · intro k hk; rw [blks_node b]; simp at hk ⊢; simp [hk]

set_option maxHeartbeats 2000000 in
theorem without_right (b : Nat) (a : Wt) (l r : BT Wt) (bw : Nat) (aw : Wt) (w : World) (ih : Hid (WithoutOK r)) (hR : TIn w (.node b 0 a l r)) (hd : (blks (.node b 0 a l r)).Nodup) (hs : Srt (ino (.node b 0 a l r)))
    (hm : (bw, aw) ∈ ino r) (hp : prec aw a = false) :
    Calls Try.prog 45 #[.pointer (some ⟨b, 0, none⟩), .pointer (some ⟨bw, 0, none⟩)] w fun e w' => Gone w w' e (.node b 0 a l r) bw := by
  obtain ⟨_, hb, hl, hr⟩ := hR
  have hdd := hd
  rw [blks_node, List.nodup_append, List.nodup_cons] at hdd
  obtain ⟨hdl, ⟨hbr, hdr⟩, hdx⟩ := hdd
  have hbl : b ∉ blks l := fun h => hdx b h b (by simp) rfl
  have hss := hs
  unfold Srt at hss
  simp only [ino, List.pairwise_append, List.pairwise_cons] at hss
  obtain ⟨hsl, ⟨_, hsr⟩, _⟩ := hss
  have hbw : bw ∈ blks r := List.mem_map_of_mem hm
  have hne : b ≠ bw := fun e => hbr (e ▸ hbw)
  have hbwo : bw ∉ blks l := fun h => hdx bw h bw (by simp [hbw]) rfl
  obtain ⟨wl, wr, we, hw⟩ := hr.mem _ hm
  have he := ptr_other w b bw _ _ _ _ hne hb hw
  have HP := hid (f47_any bw b aw a true true wl wr l.ptr r.ptr we _ w hw hb)
  obtain ⟨p0, hp0⟩ := ptr_form r w hr
  have HP0 := hid hp0
  have HB := hid hb
  have HO := hid hl
  have HS := hid hr
  have HF := hid (And.intro hdl (And.intro hbr (And.intro hdr (And.intro hdx (And.intro hbl (And.intro hsl (And.intro hsr (And.intro hbw (And.intro hne (And.intro hbwo hm))))))))))
  obtain ⟨_, _, _, _, _, _, _, c10, c11, _, cf⟩ := wcell hb
  have cc : w.cell? ⟨b, 11, none⟩ = some r.ptr := c11
  rw [hp0] at cc
  clear hb hl hr hdl hbr hdr hdx hbl hsl hsr hbw hne hbwo hm hw c10 c11 hp0 hd hs
  go_enter Try.func45, Try.ntmps45
  go_wp2_with fail
  refine HP.out.mono ?_
  rintro e w0 ⟨rfl, q, hq⟩
  have HQ : Hid (w0 = w.drewN q) := hq
  rw [hp, hq]
  clear hq
  go_wp2_with fail
  rw [← HP0.out]
  obtain ⟨hdl, hbr, hdr, hdx, hbl, hsl, hsr, hbw, hne, hbwo, hm⟩ := HF.out
  refine (ih.out bw aw (w.drewN q) (HS.out.drewN q) hdr hsr hm).mono ?_
  rintro e w1 ⟨T1, rfl, hino, hT1, hk1⟩
  have hsub : ∀ k ∈ blks T1, k ∈ blks r := by
    intro k hk
    unfold blks at hk ⊢
    rw [hino] at hk
    obtain ⟨p, hp', rfl⟩ := List.mem_map.1 hk
    exact List.mem_map_of_mem (List.mem_filter.1 hp').1
  have hbT : b ∉ blks T1 := fun h => hbr (hsub b h)
  have hbo : b ∉ blks l := hbl
  have hb1 : w1.heap[b]? = some (.cells (wcells a true l.ptr r.ptr (endT (.node b 0 a l r))) 74) := (hk1.block b hbT).trans HB.out
  have ho1 : TIn w1 l := (HO.out.drewN q).kept hk1 (fun k h1 h2 => hdx k h1 k (by simp [hsub k h2]) rfl)
  obtain ⟨pt, hpt⟩ := ptr_form T1 w1 hT1
  have hb3 := set_right (v := T1.ptr) hb1
  have hks : Kept [b] w1 (w1.setCell ⟨b, 11, none⟩ T1.ptr) := upd_kept w1 _
  have ho2 := ho1.kept hks (fun k h1 h2 => by simp at h2; exact hbo (h2 ▸ h1))
  have hT2 := hT1.kept hks (fun k h1 h2 => by simp at h2; exact hbT (h2 ▸ h1))
  have CC := hid (f48_any b a _ l T1 _ hb3 ho2 hT2 hbo hbT)
  obtain ⟨_, _, _, _, _, _, _, x10, x11, _, xf⟩ := wcell hb1
  have xc : w1.cell? ⟨b, 11, none⟩ = some r.ptr := x11
  rw [HP0.out] at xc
  have HK1 := hid hk1
  have HKS := hid hks
  have HINO := hid hino
  have HFB := hid (And.intro hbo (And.intro hbwo hne))
  rw [hpt] at CC HKS ⊢
  clear cc cf x10 x11 hdl hbr hdr hdx hbl hsl hsr hbw hne hbwo hm hsub hbT hbo hb1 ho1 hb3 hks ho2 hT2 hpt hk1 hT1 hino
  go_wp2_with fail
  refine CC.out.mono ?_
  rintro e w2 ⟨rfl, hk2, hT3⟩
  go_wp2_with fail
  go_ret
  obtain ⟨hbo, hbwo, hne⟩ := HFB.out
  have hbq : (b != bw) = true := by rw [bne_iff_ne]; exact hne
  refine ⟨.node b 0 a l T1, rfl, ?_, hT3, ?_⟩
  · simp only [ino, HINO.out, List.filter_append, List.filter_cons, hbq, if_true]
    rw [not_mem_filter hbwo]
  · refine (Kept.drewN (Kept.refl _ _) q).trans ((HK1.out.mono ?_).trans ((HKS.out.mono ?_).trans (hk2.mono ?_)))
    · intro k hk; rw [blks_node b]; simp [hk]
    · intro k hk; rw [blks_node b]; simp at hk ⊢; simp [hk]
    · intro k hk; rw [blks_node b]; simp at hk ⊢; simp [hk]

theorem f45_any : ∀ R : BT Wt, WithoutOK R := by
  intro R
  induction R with
  | nil => intro bw aw w _ _ _ hm; cases hm
  | node b o a l r ihl ihr =>
    intro bw aw w hR hd hs hm
    have ho : o = 0 := hR.1
    subst ho
    simp only [ino, List.mem_append, List.mem_cons, Prod.mk.injEq] at hm
    have hss := hs
    unfold Srt at hss
    simp only [ino, List.pairwise_append, List.pairwise_cons] at hss
    obtain ⟨_, ⟨h1, _⟩, h2⟩ := hss
    rcases hm with h | ⟨rfl, rfl⟩ | h
    · exact without_left b a l r bw aw w ihl hR hd hs h (h2 _ h (b, a) (by simp))
    · exact without_found bw aw l r w hR hd
    · exact without_right b a l r bw aw w ihr hR hd hs h (prec_asymm (h1 _ h))

/-! ### remove -/
set_option maxHeartbeats 2000000 in
theorem f43_any (tb bw : Nat) (aw : Wt) (R : BT Wt) (added : Int) (v : Value) (w : World) (ht : w.heap[tb]? = some (.cells #[R.ptr, .int .u64 added, v] 60)) (hR : TIn w R) (hd : (blks R).Nodup) (hs : Srt (ino R)) (hm : (bw, aw) ∈ ino R) :
    Calls Try.prog 43 #[.pointer (some ⟨tb, 0, none⟩), .pointer (some ⟨bw, 0, none⟩)] w fun e w' => e = .returned (.tuple #[]) ∧ ∃ (T : BT Wt) (en : ByteArray), ino T = (ino R).filter (fun p => p.1 != bw) ∧ TIn w' T ∧
      w'.heap[tb]? = some (.cells #[T.ptr, .int .u64 added, v] 60) ∧ w'.heap[bw]? = some (.cells (wcells aw false (.pointer none) (.pointer none) en) 74) ∧ Kept (tb :: blks R) w w' := by
  have C := hid (f45_any R bw aw w hR hd hs hm)
  obtain ⟨wl, wr, we, hw⟩ := hR.mem _ hm
  obtain ⟨p0, hp0⟩ := ptr_form R w hR
  have c0 : w.cell? ⟨tb, 0, none⟩ = some R.ptr := cell_of_row _ _ 0 _ _ _ ht
  rw [hp0] at c0
  have HP0 := hid hp0
  have HT := hid ht
  have HW := hid hw
  have HM := hid hm
  have hbw : bw ∈ blks R := List.mem_map_of_mem hm
  have HBW := hid hbw
  have HMEM := hid (hR.mem)
  clear hR hd hs hm hw ht hp0 hbw
  go_enter Try.func43, Try.ntmps43
  go_wp2_with fail
  rw [← HP0.out]
  refine C.out.mono ?_
  rintro e w1 ⟨T1, rfl, hino, hT1, hk1⟩
  have hsub : ∀ k ∈ blks T1, k ∈ blks R ∧ k ≠ bw := by
    intro k hk
    unfold blks at hk ⊢
    rw [hino] at hk
    obtain ⟨p, hp', rfl⟩ := List.mem_map.1 hk
    have hpf := List.mem_filter.1 hp'
    exact ⟨List.mem_map_of_mem hpf.1, by simpa using hpf.2⟩
  have htb : tb ∉ blks R := by
    intro h
    obtain ⟨p, hp', e⟩ := List.mem_map.1 h
    obtain ⟨l', r', en', h3⟩ := HMEM.out p hp'
    rw [e, HT.out] at h3
    simp at h3
  have ht1 : w1.heap[tb]? = some (.cells #[R.ptr, .int .u64 added, v] 60) := (hk1.block tb (fun h => htb (hsub tb h).1)).trans HT.out
  have hw1 : w1.heap[bw]? = some (.cells (wcells aw true wl wr we) 74) := (hk1.block bw (fun h => (hsub bw h).2 rfl)).trans HW.out
  have hne : tb ≠ bw := fun e => htb (e ▸ HBW.out)
  obtain ⟨pt, hpt⟩ := ptr_form T1 w1 hT1
  have t0 : w1.cell? ⟨tb, 0, none⟩ = some (.pointer p0) := (cell_of_row _ _ 0 _ _ _ ht1).trans (by simp [HP0.out])
  have tf : w1.frozen? ⟨tb, 0, none⟩ = false := frozen_of_row _ _ 0 _ _ ht1
  obtain ⟨_, _, _, _, x5, _, _, x10, x11, _, xf⟩ := wcell hw1
  have HF := hid (And.intro hino (And.intro hT1 (And.intro hk1 (And.intro hsub (And.intro htb (And.intro ht1 (And.intro hw1 hne)))))))
  have HPT := hid hpt
  rw [hpt]
  clear c0 hino hT1 hk1 hsub htb ht1 hw1 hpt
  go_wp2_with fail
  go_end0
  obtain ⟨hino, hT1, hk1, hsub, htb, ht1, hw1, hne'⟩ := HF.out
  have k1 : Kept [tb, bw] w1 ((((w1.setCell ⟨tb, 0, none⟩ (.pointer pt)).setCell ⟨bw, 5, none⟩ (.bool false)).setCell ⟨bw, 10, none⟩ (.pointer none)).setCell ⟨bw, 11, none⟩ (.pointer none)) :=
    ((((Kept.refl _ _).setCell (by simp) _).setCell (by simp) _).setCell (by simp) _).setCell (by simp) _
  refine ⟨rfl, T1, we, hino, hT1.kept k1 ?_, ?_, ?_, ?_⟩
  · intro k h1 h2
    simp at h2
    rcases h2 with rfl | rfl
    · exact htb (hsub _ h1).1
    · exact (hsub _ h1).2 rfl
  · rw [heap_setCell_other _ _ _ _ hne', heap_setCell_other _ _ _ _ hne', heap_setCell_other _ _ _ _ hne', heap_setCell_same w1 tb 0 _ 60 _ ht1, HPT.out]
    rfl
  · have h0 : (w1.setCell ⟨tb, 0, none⟩ (.pointer pt)).heap[bw]? = some (.cells (wcells aw true wl wr we) 74) := by
      rw [heap_setCell_other _ _ _ _ (fun e => hne' e.symm)]; exact hw1
    rw [heap_setCell_same _ bw 11 _ 74 _ (heap_setCell_same _ bw 10 _ 74 _ (heap_setCell_same _ bw 5 _ 74 _ h0))]
    rfl
  · refine (hk1.mono ?_).trans (k1.mono ?_)
    · intro k hk; simp [(hsub k hk).1]
    · intro k hk
      simp at hk
      rcases hk with rfl | rfl
      · simp
      · simp [HBW.out]
end Go.Proofs.Qxb6614547a
