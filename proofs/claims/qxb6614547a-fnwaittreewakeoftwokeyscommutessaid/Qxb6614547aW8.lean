import Derived.Test.Qxb6614547aW7
namespace Go.Proofs.Qxb6614547a
open Go.RowKit
open Go.Deep (BT)
set_option linter.unusedVariables false

def foot (tb : Nat) (L : List En) (v : Value) : List Nat := tb :: (L.map (·.b) ++ L.map (·.a.ch) ++ v.ownBlock.toList)

theorem own_form {w w1 : World} {u v1 : Value} {n : Nat} {xs : List Value} (ho : w1.ownsRow 0 36 1 v1 n xs) (hx : Ext w w1 u v1) (hu : u.ownBlock ≠ none) : ∃ g1 cap1, v1 = .slice (some ⟨g1, 0, none⟩) n cap1 := by
  rcases ho.2 with ⟨rfl, _⟩ | ⟨g, cap, cur, rfl, _⟩
  · rcases hx.own with e | ⟨k, e, _⟩
    · exact absurd e.symm hu
    · cases e
  · exact ⟨g, cap, rfl⟩

/-- what a wake leaves -/
structure Woke (W W' : World) (tb : Nat) (added : Int) (L : List En) (v : Value) (k : ByteArray) (rev : Int) : Prop where
  ex : ∃ v' T', Inv W' tb added (L.map (wakeE k rev)) v' (List.replicate (HL k L).length (.pointer none)) T' ∧ (v'.ownBlock = v.ownBlock ∨ ∃ g, v'.ownBlock = some g ∧ W.heap.size ≤ g)
  fr : Fr (foot tb L v) W W'

/-- the row alone has turned -/
theorem Inv.rowset {W W' : World} {tb : Nat} {added : Int} {L : List En} {g n cap : Nat} {xs xs' : List Value} {T : BT Wt} (h : Inv W tb added L (.slice (some ⟨g, 0, none⟩) n cap) xs T) (hk : Kept [g] W W') (hr : W'.ownsRow 0 36 1 (.slice (some ⟨g, 0, none⟩) n cap) xs'.length xs') :
    Inv W' tb added L (.slice (some ⟨g, 0, none⟩) n cap) xs' T := by
  have hg : ∃ cur, W.heap[g]? = some (.cells cur 36 (0, 0)) := by
    rcases h.row.2 with ⟨e, _⟩ | ⟨g', cap', cur, e, _, hh, _⟩
    · cases e
    · cases e; exact ⟨cur, hh⟩
  obtain ⟨cur, hg⟩ := hg
  have ne : ∀ {b : Nat} {ob : Obj}, W.heap[b]? = some ob → (∀ c, ob ≠ .cells c 36 (0, 0)) → W'.heap[b]? = some ob := by
    intro b ob hb hne
    refine (hk.block b ?_).trans hb
    intro hm
    simp at hm
    rw [hm, hg] at hb
    simp only [Option.some.injEq] at hb
    exact hne _ hb.symm
  refine ⟨ne h.tree (by simp), ?_, h.inot, fun e he => ⟨ne (h.en e he).1 (by simp), fun hf => ?_⟩, hr⟩
  · refine h.tin.kept hk ?_
    intro k hk' hm
    simp at hm
    obtain ⟨p, hp, e⟩ := List.mem_map.1 hk'
    obtain ⟨l, r, en, h'⟩ := h.tin.mem p hp
    rw [e, hm, hg] at h'
    simp at h'
  · obtain ⟨en, h'⟩ := (h.en e he).2 hf
    exact ⟨en, ne h' (by simp)⟩

/-- one waiter taken out, its next and its channel turned -/
theorem wake_one {W W3 : World} {tb : Nat} {added : Int} {L : List En} {v : Value} {xs : List Value} {T T1 : BT Wt} (h : Inv W tb added L v xs T) (hs : SL L) {e : En} (he : e ∈ L) (hw : e.wt = true) {rev : Int} (hn : e.a.nxt ≤ rev) {en : ByteArray}
    (hk : Kept (tb :: blks T) W W3) (hino : ino T1 = (ino T).filter (fun p => p.1 != e.b)) (hT : TIn W3 T1) (ht : W3.heap[tb]? = some (.cells #[T1.ptr, .int .u64 added, v] 60))
    (hb : W3.heap[e.b]? = some (.cells (wcells e.a false (.pointer none) (.pointer none) en) 74)) :
    (W3.setCell ⟨e.b, 4, none⟩ (.int .u64 rev)).heap[e.a.ch]? = some (.chan 0 #[] false 0 0 false) ∧
    Inv { (W3.setCell ⟨e.b, 4, none⟩ (.int .u64 rev)) with heap := (W3.setCell ⟨e.b, 4, none⟩ (.int .u64 rev)).heap.setIfInBounds e.a.ch (.chan 0 #[] true 0 0 false) } tb added (upd L e.b rev) v xs T1 ∧
    Kept (tb :: e.a.ch :: blks T) W { (W3.setCell ⟨e.b, 4, none⟩ (.int .u64 rev)) with heap := (W3.setCell ⟨e.b, 4, none⟩ (.int .u64 rev)).heap.setIfInBounds e.a.ch (.chan 0 #[] true 0 0 false) } := by
  have hch : W.heap[e.a.ch]? = some (.chan 0 #[] false 0 0 false) := by have := (h.en e he).1; rw [hw] at this; exact this
  have hbT : e.b ∈ blks T := List.mem_map.2 ⟨(e.b, e.a), h.mem_ino.2 ⟨e, he, hw, rfl⟩, rfl⟩
  have hcT : e.a.ch ∉ tb :: blks T := by
    intro hm
    rcases List.mem_cons.1 hm with e1 | hm
    · rw [e1, h.tree] at hch; simp at hch
    · obtain ⟨p, hp, hpb⟩ := List.mem_map.1 hm
      obtain ⟨l, r, en', h'⟩ := h.tin.mem p hp
      rw [hpb, hch] at h'; simp at h'
  have hc3 : W3.heap[e.a.ch]? = some (.chan 0 #[] false 0 0 false) := (hk.block _ hcT).trans hch
  have hcb : e.a.ch ≠ e.b := fun e1 => hcT (by rw [e1]; simp [hbT])
  have hcX : (W3.setCell ⟨e.b, 4, none⟩ (.int .u64 rev)).heap[e.a.ch]? = some (.chan 0 #[] false 0 0 false) := by rw [heap_setCell_other _ _ _ _ hcb]; exact hc3
  have hlt : e.a.ch < (W3.setCell ⟨e.b, 4, none⟩ (.int .u64 rev)).heap.size := (Array.getElem?_eq_some_iff.1 hcX).1
  have hkX : Kept [e.b] W3 (W3.setCell ⟨e.b, 4, none⟩ (.int .u64 rev)) := upd_kept W3 _
  have hbX : (W3.setCell ⟨e.b, 4, none⟩ (.int .u64 rev)).heap[e.b]? = some (.cells (wcells { e.a with nxt := rev } false (.pointer none) (.pointer none) en) 74) := by
    rw [heap_setCell_same W3 e.b 4 _ 74 _ hb]; rfl
  have hT1b : ∀ k ∈ blks T1, k ∈ blks T ∧ k ≠ e.b := by
    intro k hk'
    unfold blks at hk' ⊢
    rw [hino] at hk'
    obtain ⟨p, hp', rfl⟩ := List.mem_map.1 hk'
    have hpf := List.mem_filter.1 hp'
    exact ⟨List.mem_map_of_mem hpf.1, by simpa using hpf.2⟩
  have htb : tb ≠ e.b := by
    intro e1
    rw [← e1, ht] at hb
    simp at hb
  generalize W3.setCell ⟨e.b, 4, none⟩ (.int .u64 rev) = X at hcX hlt hkX hbX ⊢
  have hkY : Kept [e.a.ch] X { X with heap := X.heap.setIfInBounds e.a.ch (.chan 0 #[] true 0 0 false) } :=
    ⟨rfl, rfl, rfl, by simp, fun k hk' => by simp only; rw [Array.getElem?_setIfInBounds_ne (by intro e1; exact hk' (by simp [e1]))]⟩
  have hall : Kept (tb :: e.a.ch :: blks T) W { X with heap := X.heap.setIfInBounds e.a.ch (.chan 0 #[] true 0 0 false) } := by
    refine (hk.mono ?_).trans ((hkX.mono ?_).trans (hkY.mono ?_))
    · intro k hk'; rcases List.mem_cons.1 hk' with rfl | hk'; simp; simp [hk']
    · intro k hk'; simp at hk'; simp [hk', hbT]
    · intro k hk'; simp at hk'; simp [hk']
  refine ⟨hcX, ?_, hall⟩
  refine h.step hs he hw hn hall hino ?_ ?_ (en := en) ?_ ?_
  · refine (hT.kept hkX ?_).kept hkY ?_
    · intro k h1 h2; simp at h2; exact (hT1b k h1).2 h2
    · intro k h1 h2; simp at h2; exact hcT (by rw [← h2]; simp [(hT1b k h1).1])
  · rw [hkY.block tb (by intro hm; simp at hm; exact hcT (by simp [← hm])), hkX.block tb (by intro hm; simp at hm; exact htb hm)]
    exact ht
  · rw [hkY.block e.b (by intro hm; simp at hm; exact hcb hm.symm)]; exact hbX
  · simp only
    rw [Array.getElem?_setIfInBounds_self_of_lt hlt]

set_option maxHeartbeats 4000000 in
set_option maxRecDepth 100000 in
theorem f30_any (tb : Nat) (added rev : Int) (L : List En) (v : Value) (xs : List Value) (T : BT Wt) (k : ByteArray) (w : World) (h : Inv w tb added L v xs T) (hs : SL L) (hv : v.ownBlock ≠ none) :
    Calls Try.prog 30 #[.pointer (some ⟨tb, 0, none⟩), .string k, .int .u64 rev] w fun e w' => e = .returned (.tuple #[]) ∧ Woke w w' tb added L v k rev := by
  rcases h.row.2 with ⟨rfl, _⟩ | ⟨g, cap, cur, rfl, hg, hh, hnc, hcm, hcs, htk⟩
  · exact absurd rfl hv
  obtain ⟨p0, hp0⟩ := ptr_form T w h.tin
  have c0 : w.cell? ⟨tb, 0, none⟩ = some (.pointer p0) := (cell_of_row _ _ 0 _ _ _ h.tree).trans (by simp [hp0])
  have c2 : w.cell? ⟨tb, 2, none⟩ = some (.slice (some ⟨g, 0, none⟩) xs.length cap) := cell_of_row _ _ 2 _ _ _ h.tree
  have ho0 : w.ownsRow 0 36 1 (.slice (some ⟨g, 0, none⟩) 0 cap) 0 [] := ⟨rfl, .inr ⟨g, cap, cur, rfl, hg, hh, Nat.zero_le _, hcm, hcs, by simp⟩⟩
  have hlenL : sizeT T ≤ 20000 := by
    rw [← len_ino, h.inot, List.length_map]; exact Nat.le_trans (List.length_filter_le _ _) hs.len
  have hC := f42_any T k (.slice (some ⟨g, 0, none⟩) 0 cap) 0 [] w.drew (h.tin.kept (Kept.refl [] w).drew (fun _ _ h => by cases h)) (h.srt hs) ho0 (by omega)
  rw [held_HL h k, hp0, List.map_map, List.length_map, Nat.zero_add, List.nil_append] at hC
  have hC2 : Calls Try.prog 42 #[.slice (some ⟨g, 0, none⟩) 0 cap, .pointer p0, .string k] w.drew fun e w1 => ∃ g1 cap1, e = .returned (.slice (some ⟨g1, 0, none⟩) (HL k L).length cap1) ∧
      w1.ownsRow 0 36 1 (.slice (some ⟨g1, 0, none⟩) (HL k L).length cap1) (HL k L).length ((HL k L).map (fun e => Value.pointer (some ⟨e.b, 0, none⟩))) ∧ Ext w w1 (.slice (some ⟨g, 0, none⟩) 0 cap) (.slice (some ⟨g1, 0, none⟩) (HL k L).length cap1) ∧
      w1.cell? ⟨tb, 2, none⟩ = some (.slice (some ⟨g, 0, none⟩) xs.length cap) ∧ w1.frozen? ⟨tb, 2, none⟩ = false := by
    refine hC.mono ?_
    rintro e w1 ⟨v1, rfl, ho1, hx1⟩
    obtain ⟨g1, cap1, rfl⟩ := own_form ho1 hx1 (by simp [Value.ownBlock])
    have hx2 : Ext w w1 (.slice (some ⟨g, 0, none⟩) 0 cap) (.slice (some ⟨g1, 0, none⟩) (HL k L).length cap1) := ⟨hx1.os, hx1.tape, hx1.output, hx1.size, hx1.block, hx1.own⟩
    have hb := ext_block ho0 hx2 h.tree (by simp)
    exact ⟨g1, cap1, rfl, ho1, hx2, cell_of_row _ _ 2 _ _ _ hb, frozen_of_row _ _ 2 _ _ hb⟩
  have HC := hid hC2
  have hHL : (HL k L).length ≤ 20000 := Nat.le_trans (List.length_filter_le _ _) hs.len
  have HI := hid h
  have HS := hid hs
  have HO0 := hid ho0
  have hmx : cap ≤ 9223372036854775807 := hcm
  have HF : Hid (w.heap[tb]? = some (.cells #[T.ptr, .int .u64 added, .slice (some ⟨g, 0, none⟩) xs.length cap] 60)) := h.tree
  clear hC hC2 h hs ho0 hlenL hh hcs htk hp0 hv hg hcm
  go_enter Try.func30, Try.ntmps30
  go_wp2_with fail
  go_region_with (go_at_call 42; refine HC.out.mono ?_; rintro e w1 ⟨g1, cap1, rfl, ho1, hx1, t2, tf⟩)
  all_goals
    have hI1 : Inv (w1.setCell ⟨tb, 2, none⟩ (.slice (some ⟨g1, 0, none⟩) (HL k L).length cap1)) tb added L (.slice (some ⟨g1, 0, none⟩) (HL k L).length cap1) ((HL k L).map (fun e => Value.pointer (some ⟨e.b, 0, none⟩))) T :=
      HI.out.grow HO0.out hx1 (by simpa using ho1)
    have hfr : Fr (foot tb L (.slice (some ⟨g, 0, none⟩) xs.length cap)) w (w1.setCell ⟨tb, 2, none⟩ (.slice (some ⟨g1, 0, none⟩) (HL k L).length cap1)) := by
      refine Fr.trans (S := foot tb L (.slice (some ⟨g, 0, none⟩) xs.length cap)) ⟨hx1.os, hx1.tape, hx1.output, hx1.size, fun i hi hn => hx1.block i hi ?_⟩ (upd_kept w1 _).fr ?_
      · intro e; exact hn (by simp [foot, Value.ownBlock] at e ⊢; simp [e])
      · intro i hi _; simp at hi; simp [foot, hi]
    have HOWN := hid hx1.own
    have HSZ := hid hx1.size
    clear t2 tf ho1 hx1
    generalize w1.setCell ⟨tb, 2, none⟩ (.slice (some ⟨g1, 0, none⟩) (HL k L).length cap1) = W1 at hI1 hfr ⊢
    have c2 : W1.cell? ⟨tb, 2, none⟩ = some (.slice (some ⟨g1, 0, none⟩) (HL k L).length cap1) := cell_of_row _ _ 2 _ _ _ hI1.tree
    have HI1 := hid hI1
    have HFR := hid hfr
    clear hI1 hfr c0
    go_wp2_with fail
    go_loopw [27] (fun i wr => ∃ j : Nat, j ≤ (HL k L).length ∧ i = .int .i64 j ∧ ∃ Tj, Hid (Inv wr tb added (Lj k rev L j) (.slice (some ⟨g1, 0, none⟩) (HL k L).length cap1) ((HL k L).map (fun e => Value.pointer (some ⟨e.b, 0, none⟩))) Tj) ∧ Hid (Fr (foot tb L (.slice (some ⟨g, 0, none⟩) xs.length cap)) w wr)) (fun i _ => (HL k L).length - (intOf i).toNat)
    case atStart => exact ⟨0, Nat.zero_le _, rfl, T, hid (by rw [Lj_zero]; exact HI1.out), HFR⟩
    case round =>
      obtain ⟨j, hj, rfl, Tj, hIj, hFj⟩ := hrel
      clear HFR HI1 c2
      by_cases hlt : j < (HL k L).length
      · obtain ⟨hm, hw, hL, hst⟩ := Lj_step k rev HS.out j hlt
        have hrc : wr.cell? ⟨g1, j, none⟩ = some (.pointer (some ⟨(HL k L)[j].b, 0, none⟩)) := by
          have := hIj.out.row
          rw [List.length_map] at this
          rw [this.cellAt j (by omega), List.getElem?_map, List.getElem?_eq_getElem hlt]
          rfl
        have HLL : Hid ((HL k L)[j] ∈ L) := hL
        generalize (HL k L)[j] = e at hm hw hst hrc HLL
        obtain ⟨wl, wrr, we, hbe⟩ := hIj.out.tin.mem (e.b, e.a) (hIj.out.mem_ino.2 ⟨e, hm, hw, rfl⟩)
        have x4 := (wcell hbe).2.2.2.1
        have HM := hid hm
        have HW := hid hw
        have HST := hid hst
        clear hm hw hL hst hbe
        by_cases hn : e.a.nxt ≤ rev
        · have HN := hid hn
          have C43 := hid (f43_any tb e.b e.a Tj added (.slice (some ⟨g1, 0, none⟩) (HL k L).length cap1) wr hIj.out.tree hIj.out.tin (hIj.out.nodup (HS.out.lj k rev j)) (hIj.out.srt (HS.out.lj k rev j)) (hIj.out.mem_ino.2 ⟨e, HM.out, HW.out, rfl⟩))
          go_wp2_with fail
          refine C43.out.mono ?_
          rintro e0 w3 ⟨rfl, T1, en, hino, hT1, ht3, hb3, hk3⟩
          obtain ⟨hcc, hI3, hkk⟩ := wake_one hIj.out (HS.out.lj k rev j) HM.out HW.out HN.out hk3 hino hT1 ht3 hb3
          have hcl := fun ats ty => run_close_open (P := Try.prog) (w := w3.setCell ⟨e.b, 4, none⟩ (.int .u64 rev)) ats ty hcc
          obtain ⟨_, _, y3, y4, _, _, _, _, _, _, yf⟩ := wcell hb3
          have HI3 := hid hI3
          have HKK := hid hkk
          clear x4 hrc hino hT1 ht3 hb3 hk3 hcc hI3 hkk C43
          go_wp2_with fail
          go_roundw
          case rel =>
            refine ⟨j + 1, by omega, by go_num, T1, hid (by rw [HST.out]; exact HI3.out), hid (hFj.out.trans HKK.out.fr ?_)⟩
            intro i hi _
            rcases List.mem_cons.1 hi with rfl | hi
            · simp [foot]
            · rcases List.mem_cons.1 hi with rfl | hi
              · have : e.a.ch ∈ L.map (·.a.ch) := List.mem_map_of_mem (f := fun e : En => e.a.ch) HLL.out
                simp only [foot, List.mem_cons, List.mem_append]; exact .inr (.inl (.inr this))
              · obtain ⟨p, hp, hpb⟩ := List.mem_map.1 hi
                obtain ⟨f, hf1, _, hf3⟩ := hIj.out.mem_ino.1 hp
                obtain ⟨f0, hf0, hf0e⟩ := List.mem_map.1 hf1
                have : i ∈ L.map (·.b) := by
                  refine List.mem_map.2 ⟨f0, hf0, ?_⟩
                  rw [← hpb, ← hf3, ← hf0e]
                  show _ = (if _ then _ else _ : En).b
                  split
                  · exact (wk_b _ _).symm
                  · rfl
                simp only [foot, List.mem_cons, List.mem_append]; exact .inr (.inl (.inl this))
          case measure => simp [intOf]; omega
        · go_wp2_with fail
          go_roundw
          case rel =>
            refine ⟨j + 1, by omega, by go_num, Tj, hid ?_, hFj⟩
            rw [HST.out]
            have : upd (Lj k rev L j) e.b rev = Lj k rev L j := by
              unfold upd
              conv => rhs; rw [← List.map_id (Lj k rev L j)]
              apply List.map_congr_left
              intro f hf
              by_cases hfe : f.b = e.b
              · rw [if_pos hfe, nodup_eq (HS.out.lj k rev j).blk hf HM.out hfe]
                unfold wk
                rw [if_neg hn]; rfl
              · rw [if_neg hfe]; rfl
            rw [this]
            exact hIj.out
          case measure => simp [intOf]; omega
      · have hjj : j = (HL k L).length := by omega
        subst hjj
        obtain ⟨w9, hcl, ho9, hk9⟩ := clear_row (by simpa using hIj.out.row)
        have c2 : wr.cell? ⟨tb, 2, none⟩ = some (.slice (some ⟨g1, 0, none⟩) (HL k L).length cap1) := cell_of_row _ _ 2 _ _ _ hIj.out.tree
        have HO9 := hid ho9
        have HK9 := hid hk9
        clear ho9 hk9
        go_wp2_with fail
        go_end0
        refine ⟨rfl, ⟨⟨.slice (some ⟨g1, 0, none⟩) (HL k L).length cap1, Tj, ?_, HOWN.out⟩, ?_⟩⟩
        · rw [← Lj_full k rev HS.out]
          exact hIj.out.rowset HK9.out (by simpa using HO9.out)
        · refine hFj.out.trans HK9.out.fr ?_
          intro i hi hlt
          simp at hi
          rcases HOWN.out with e | ⟨q, e, hq⟩
          · simp [Value.ownBlock] at e; simp [foot, Value.ownBlock, hi, e]
          · simp [Value.ownBlock] at e; omega
end Go.Proofs.Qxb6614547a
