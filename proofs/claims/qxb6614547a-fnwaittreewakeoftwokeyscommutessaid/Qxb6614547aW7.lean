import Derived.Test.Qxb6614547aW6
namespace Go.Proofs.Qxb6614547a
open Go.RowKit
open Go.Deep (BT)
set_option linter.unusedVariables false
theorem zero36 (w : World) : (zeroValue 36).run Try.prog w = .ok (.pointer none) w := by kernel_rfl

theorem clear_row {w : World} {g n cap : Nat} {xs : List Value} (ho : w.ownsRow 0 36 1 (.slice (some ⟨g, 0, none⟩) n cap) n xs) :
    ∃ w', (∀ ty, (Builtin.clear_ #[35] ty #[.slice (some ⟨g, 0, none⟩) n cap]).run Try.prog w = .ok (.tuple #[]) w') ∧ w'.ownsRow 0 36 1 (.slice (some ⟨g, 0, none⟩) n cap) n (List.replicate n (.pointer none)) ∧ Kept [g] w w' := by
  rcases ho.2 with ⟨h, _⟩ | ⟨g', cap', cur, hv, hg, hh, hnc, hcm, hcs, htk⟩
  · cases h
  · cases hv
    by_cases h0 : n = 0
    · subst h0
      refine ⟨w, fun ty => ?_, ⟨rfl, .inr ⟨g, cap, cur, rfl, hg, hh, hnc, hcm, hcs, by simp⟩⟩, Kept.refl _ _⟩
      simp [Builtin.clear_, run_underlying Try.underlying35]
    · have hst := run_storeCells_at (P := Try.prog) g 0 36 (List.replicate n (Value.pointer none)) 0 cur w hh (by simp; omega) (by intro v hv; rw [List.eq_of_mem_replicate hv]; rfl)
      have hzc : (Builtin.zeroCells (Value.pointer none).cells n).toList = List.replicate n (Value.pointer none) := by
        rw [show (Value.pointer none).cells = #[Value.pointer none] from rfl]
        simp [Builtin.zeroCells]
        apply List.ext_getElem
        · simp
        · intro i h1 h2
          simp [Nat.mod_one]
      refine ⟨w.setRow g (List.replicate n (Value.pointer none) ++ cur.toList.drop n).toArray, fun ty => ?_, ⟨by simp, .inr ⟨g, cap, (List.replicate n (Value.pointer none) ++ cur.toList.drop n).toArray, rfl, hg, setRow_heap w g cur _ 36 (0, 0) hh, hnc, hcm, by simp; omega, by simp⟩⟩, ?_⟩
      · simp only [Nat.add_zero, List.take_zero, List.nil_append, List.length_replicate, Nat.zero_add] at hst
        obtain ⟨m, rfl⟩ : ∃ m, n = m + 1 := ⟨n - 1, by omega⟩
        simp [Builtin.clear_, run_underlying Try.underlying35, hzc, hst]
      · exact ⟨rfl, rfl, rfl, by simp, fun k hk => setRow_other w g k _ (by simpa using hk)⟩

/-- all but the listed blocks that were there are as they were -/
structure Fr (S : List Nat) (W W' : World) : Prop where
  os : W'.os = W.os
  tape : W'.tape = W.tape
  output : W'.output = W.output
  size : W.heap.size ≤ W'.heap.size
  block : ∀ k, k < W.heap.size → k ∉ S → W'.heap[k]? = W.heap[k]?
theorem Fr.refl (S : List Nat) (W : World) : Fr S W W := ⟨rfl, rfl, rfl, Nat.le_refl _, fun _ _ _ => rfl⟩
theorem Kept.fr {S : List Nat} {W W' : World} (h : Kept S W W') : Fr S W W' := ⟨h.os, h.tape, h.output, Nat.le_of_eq h.size.symm, fun k _ hk => h.block k hk⟩
theorem Fr.trans {S S2 : List Nat} {A B C : World} (h : Fr S A B) (k : Fr S2 B C) (hs : ∀ i ∈ S2, i < A.heap.size → i ∈ S) : Fr S A C :=
  ⟨k.os.trans h.os, k.tape.trans h.tape, k.output.trans h.output, Nat.le_trans h.size k.size, fun i hi hn => (k.block i (Nat.lt_of_lt_of_le hi h.size) (fun hm => hn (hs i hm hi))).trans (h.block i hi hn)⟩
theorem Ext.fr {W W' : World} {v v' : Value} (h : Ext W W' v v') : Fr v.ownBlock.toList W W' := ⟨h.os, h.tape, h.output, h.size, fun k hk hn => h.block k hk (fun e => hn (by rw [← e]; simp))⟩

/-- the row has grown and stands in the tree's third field -/
theorem Inv.grow {W W1 : World} {tb : Nat} {added : Int} {L : List En} {v v' u : Value} {xs xs' : List Value} {T : BT Wt} {n0 : Nat} {ys : List Value} (h : Inv W tb added L v xs T) (hu : W.ownsRow 0 36 1 u n0 ys) (hx : Ext W W1 u v') (hr : W1.ownsRow 0 36 1 v' xs'.length xs') :
    Inv (W1.setCell ⟨tb, 2, none⟩ v') tb added L v' xs' T := by
  have htb : W1.heap[tb]? = some (.cells #[T.ptr, .int .u64 added, v] 60) := ext_block hu hx h.tree (by simp)
  have hk : Kept [tb] W1 (W1.setCell ⟨tb, 2, none⟩ v') := upd_kept W1 _
  have htT : ∀ k ∈ blks T, k ∉ [tb] := by
    intro k hk' hm
    simp at hm
    subst hm
    obtain ⟨p, hp, e⟩ := List.mem_map.1 hk'
    obtain ⟨l, r, en, h'⟩ := h.tin.mem p hp
    rw [e, h.tree] at h'
    simp at h'
  refine ⟨?_, (TIn.ext hu hx h.tin).kept hk htT, h.inot, ?_, ?_⟩
  · rw [heap_setCell_same W1 tb 2 _ 60 _ htb]; rfl
  · intro e he
    obtain ⟨h1, h2⟩ := h.en e he
    refine ⟨(hk.block _ ?_).trans (ext_block hu hx h1 (by simp)), fun hf => ?_⟩
    · intro hm; simp at hm; rw [hm, h.tree] at h1; simp at h1
    · obtain ⟨en, h3⟩ := h2 hf
      refine ⟨en, (hk.block _ ?_).trans (ext_block hu hx h3 (by simp))⟩
      intro hm; simp at hm; rw [hm, h.tree] at h3; simp at h3
  · refine ⟨hr.1, ?_⟩
    rcases hr.2 with h2 | ⟨g, cap, cur, hv, hg, hh, r⟩
    · exact .inl h2
    · refine .inr ⟨g, cap, cur, hv, hg, (hk.block g ?_).trans hh, r⟩
      intro hm; simp at hm; rw [hm, htb] at hh; simp at hh

def wakeE (k : ByteArray) (rev : Int) (e : En) : En := if (e.wt && holdsW k e.a) = true then wk rev e else e
def HL (k : ByteArray) (L : List En) : List En := L.filter (fun e => e.wt && holdsW k e.a)
def Lj (k : ByteArray) (rev : Int) (L : List En) (j : Nat) : List En := L.map (fun e => if e.b ∈ ((HL k L).take j).map (·.b) then wk rev e else e)
theorem Lj_zero (k : ByteArray) (rev : Int) (L : List En) : Lj k rev L 0 = L := by simp [Lj]
theorem HL_nodup {L : List En} (k : ByteArray) (h : SL L) : ((HL k L).map (·.b)).Nodup := h.blk.sublist (List.filter_sublist.map _)
theorem held_HL {W : World} {tb : Nat} {added : Int} {L : List En} {v : Value} {xs : List Value} {T : BT Wt} (h : Inv W tb added L v xs T) (k : ByteArray) : held k T = (HL k L).map (fun e => (e.b, e.a)) := by
  unfold held HL
  rw [h.inot]
  clear h
  induction L with
  | nil => rfl
  | cons e L ih =>
    simp only [List.filter_cons]
    cases hw : e.wt
    · simpa using ih
    · simp only [if_true, List.map_cons, List.filter_cons, Bool.true_and]
      cases holdsW k e.a
      · simpa using ih
      · simp only [if_true, List.map_cons]; rw [← ih]
theorem Lj_full {L : List En} (k : ByteArray) (rev : Int) (h : SL L) : Lj k rev L (HL k L).length = L.map (wakeE k rev) := by
  unfold Lj
  apply List.map_congr_left
  intro e he
  rw [List.take_length]
  unfold wakeE
  by_cases hm : (e.wt && holdsW k e.a) = true
  · have hmm : e ∈ HL k L := List.mem_filter.2 ⟨he, hm⟩
    rw [if_pos hm, if_pos (List.mem_map_of_mem hmm)]
  · rw [if_neg hm, if_neg]
    intro hmm
    obtain ⟨f, hf, hb⟩ := List.mem_map.1 hmm
    have hff := List.mem_filter.1 hf
    rw [nodup_eq h.blk hff.1 he hb] at hff
    exact hm hff.2
theorem SL.lj {L : List En} (h : SL L) (k : ByteArray) (rev : Int) (j : Nat) : SL (Lj k rev L j) := by
  refine h.map _ ?_ ?_ ?_ ?_ <;> intro e
  · show (if _ then _ else _ : En).b = _
    split
    · exact wk_b _ _
    · rfl
  · show (if _ then _ else _ : En).a.ch = _
    split
    · exact wk_ch _ _
    · rfl
  · show (if _ then _ else _ : En).a.frm = _
    split
    · exact wk_frm _ _
    · rfl
  · show (if _ then _ else _ : En).a.seq = _
    split
    · exact wk_seq _ _
    · rfl
/-- the j-th holder, still as it was; and what its turn makes of the list -/
theorem Lj_step {L : List En} (k : ByteArray) (rev : Int) (h : SL L) (j : Nat) (hj : j < (HL k L).length) :
    (HL k L)[j] ∈ Lj k rev L j ∧ (HL k L)[j].wt = true ∧ (HL k L)[j] ∈ L ∧ Lj k rev L (j + 1) = upd (Lj k rev L j) (HL k L)[j].b rev := by
  have hnd := HL_nodup k h
  have hmem : (HL k L)[j] ∈ HL k L := List.getElem_mem hj
  have hff := List.mem_filter.1 hmem
  have hnot : (HL k L)[j].b ∉ ((HL k L).take j).map (·.b) := by
    intro hm
    have hx := hnd
    rw [← List.take_append_drop j (HL k L), List.map_append, List.nodup_append] at hx
    refine hx.2.2 _ hm _ ?_ rfl
    have hd : (HL k L)[j] ∈ (HL k L).drop j := by rw [List.drop_eq_getElem_cons hj]; exact List.mem_cons_self
    exact List.mem_map_of_mem (f := fun x : En => x.b) hd
  refine ⟨?_, by have := hff.2; simp at this; exact this.1, hff.1, ?_⟩
  · unfold Lj
    refine List.mem_map.2 ⟨(HL k L)[j], hff.1, ?_⟩
    rw [if_neg hnot]
  · unfold Lj upd
    rw [List.map_map]
    apply List.map_congr_left
    intro e he
    have ht : ((HL k L).take (j + 1)).map (·.b) = ((HL k L).take j).map (·.b) ++ [(HL k L)[j].b] := by
      rw [List.take_succ_eq_append_getElem hj, List.map_append]; rfl
    rw [ht]
    simp only [Function.comp_apply, List.mem_append, List.mem_singleton]
    by_cases h1 : e.b ∈ ((HL k L).take j).map (·.b)
    · have hne : ¬ e.b = (HL k L)[j].b := fun e' => hnot (e' ▸ h1)
      rw [if_pos (.inl h1), if_pos h1, wk_b, if_neg hne]
    · by_cases h2 : e.b = (HL k L)[j].b
      · rw [if_pos (.inr h2), if_neg h1, if_pos h2]
      · rw [if_neg (fun h3 => h3.elim h1 h2), if_neg h1, if_neg h2]
end Go.Proofs.Qxb6614547a
