import Derived.Test.Qxb6614547aX12
namespace Go.Proofs.Qxb6614547a
open Go.RowKit
open Go.Deep (BT)
set_option linter.unusedVariables false

theorem Fr.heap {S : List Nat} {w w' : World} (h : Fr S w w') {b : Nat} {o : Obj} (hb : w.heap[b]? = some o) (hn : b ∉ S) : w'.heap[b]? = some o := (h.block b (Array.getElem?_eq_some_iff.1 hb).1 hn).trans hb
theorem Fr.own {S : List Nat} {w w' : World} (h : Fr S w w') {e : TypeId} {v : Value} {n : Nat} {xs : List Value} (ho : w.ownsRow 0 e 1 v n xs) (hn : ∀ g, v.ownBlock = some g → g ∉ S) : w'.ownsRow 0 e 1 v n xs := by
  refine ⟨ho.1, ?_⟩
  rcases ho.2 with h2 | ⟨g, cap, cur, hv, hg, hh, r'⟩
  · exact .inl h2
  · exact .inr ⟨g, cap, cur, hv, hg, h.heap hh (hn g (by rw [hv]; rfl)), r'⟩
theorem Fr.tin {S : List Nat} {w w' : World} (h : Fr S w w') : ∀ {T : BT Wt}, TIn w T → (∀ b ∈ blks T, b ∉ S) → TIn w' T
  | .nil, _, _ => trivial
  | .node b o a l r, ⟨h0, hb, hl, hr⟩, hd => by
    have hm : ∀ k, k ∈ blks l ∨ k = b ∨ k ∈ blks r → k ∉ S := fun k hk' => hd k (by rw [blks_node]; simpa using hk')
    exact ⟨h0, h.heap hb (hm b (.inr (.inl rfl))), h.tin hl (fun k hk => hm k (.inl hk)), h.tin hr (fun k hk => hm k (.inr (.inr hk)))⟩
theorem Fr.below {S : List Nat} {w w' : World} (h : Fr S w w') {B : Nat} (hB : B ≤ w.heap.size) (hS : ∀ b ∈ S, B ≤ b) : Below B w w' := ⟨h.os, h.tape, h.output, h.size, fun k hk => h.block k (by omega) (fun hm => by have := hS k hm; omega)⟩
theorem Rw.fr {S : List Nat} {w w' : World} (h : Fr S w w') {gw gn : Nat} {L : List En} (hR : Rw w gw gn L) (h1 : gw ∉ S) (h2 : gn ∉ S) : Rw w' gw gn L := ⟨h.heap hR.hw h1, h.heap hR.hn h2⟩

theorem mem_foot {tb : Nat} {L : List En} {v : Value} {b : Nat} : b ∈ foot tb L v ↔ b = tb ∨ (∃ e ∈ L, e.b = b) ∨ (∃ e ∈ L, e.a.ch = b) ∨ v.ownBlock = some b := by
  unfold foot
  simp only [List.mem_cons, List.mem_append, List.mem_map, Option.mem_toList]
  constructor
  · rintro (h | (h | h) | h)
    · exact .inl h
    · exact .inr (.inl h)
    · exact .inr (.inr (.inl h))
    · exact .inr (.inr (.inr h))
  · rintro (h | h | h | h)
    · exact .inl h
    · exact .inr (.inl (.inl h))
    · exact .inr (.inl (.inr h))
    · exact .inr (.inr h)
/-- every waiter's block is a struct of 13 cells -/
theorem Inv.cells {w : World} {tb : Nat} {added : Int} {L : List En} {v : Value} {xs : List Value} {T : BT Wt} (h : Inv w tb added L v xs T) {e : En} (he : e ∈ L) : ∃ cs, w.heap[e.b]? = some (.cells cs 74) := by
  cases hw : e.wt
  · obtain ⟨en, h1⟩ := (h.en e he).2 hw; exact ⟨_, h1⟩
  · obtain ⟨l, r, en, h1⟩ := h.tin.mem (e.b, e.a) (h.mem_ino.2 ⟨e, he, hw, rfl⟩); exact ⟨_, h1⟩
theorem Inv.far {S : List Nat} {w w' : World} {tb : Nat} {added : Int} {L : List En} {v : Value} {xs : List Value} {T : BT Wt} (h : Inv w tb added L v xs T) (hf : Fr S w w') (hd : ∀ b ∈ foot tb L v, b ∉ S) : Inv w' tb added L v xs T := by
  refine ⟨hf.heap h.tree (hd tb (mem_foot.2 (.inl rfl))), hf.tin h.tin ?_, h.inot, ?_, hf.own h.row ?_⟩
  · intro b hb
    obtain ⟨p, hp, rfl⟩ := List.mem_map.1 hb
    obtain ⟨e, he, _, hep⟩ := h.mem_ino.1 hp
    exact hd _ (mem_foot.2 (.inr (.inl ⟨e, he, by rw [← hep]⟩)))
  · intro e he
    obtain ⟨h1, h2⟩ := h.en e he
    refine ⟨hf.heap h1 (hd _ (mem_foot.2 (.inr (.inr (.inl ⟨e, he, rfl⟩))))), fun hw => ?_⟩
    obtain ⟨en, h3⟩ := h2 hw
    exact ⟨en, hf.heap h3 (hd _ (mem_foot.2 (.inr (.inl ⟨e, he, rfl⟩))))⟩
  · intro g hg
    exact hd g (mem_foot.2 (.inr (.inr (.inr hg))))

/-- all that one tree of a law owns: the tree, its waiters, the row of waiters, the model's rows -/
structure S5 (w : World) (B n : Nat) (X : BT TW) (ao : Option Addr) (cap gw gn tb ob : Nat) (added : Int) (L LR : List En) (vs v : Value) (xs : List Value) (T : BT Wt) : Prop where
  xin : XIn w B X
  hB : B ≤ w.heap.size
  ins : w.ownsRow 0 30 1 (.slice ao n cap) n ((tino X).map tptr)
  rw : Rw w gw gn LR
  inv : Inv w tb added L v xs T
  out : w.heap[ob]? = some (.cells #[vs] 35)
  ws : w.ownsRow 0 36 1 vs n (L.map eptr)
  vo : v.ownBlock ≠ none
  sep : ∀ g, vs.ownBlock = some g → v.ownBlock ≠ some g
  ge : ∀ b, b = gw ∨ b = gn ∨ b = ob ∨ b ∈ foot tb L v ∨ vs.ownBlock = some b → B ≤ b
  sl : SL L
  mt : LR.map (fun e => (e.a.frm, e.a.to)) = (tino X).map (fun p => (p.2.2.frm, p.2.2.to))
  len : LR.length = n

/-- the blocks that are a tree's own -/
def ownB (gw gn tb ob : Nat) (L : List En) (vs v : Value) (b : Nat) : Prop := b = gw ∨ b = gn ∨ b = ob ∨ b ∈ foot tb L v ∨ vs.ownBlock = some b

section
variable {w w' : World} {B n : Nat} {X : BT TW} {ao : Option Addr} {cap gw gn tb ob : Nat} {added : Int} {L LR : List En} {vs v : Value} {xs : List Value} {T : BT Wt}

theorem row_cells {e : TypeId} {v : Value} {n : Nat} {xs : List Value} (ho : w.ownsRow 0 e 1 v n xs) {g : Nat} (hg : v.ownBlock = some g) : ∃ cs, w.heap[g]? = some (.cells cs e) := by
  rcases ho.2 with ⟨rfl, _⟩ | ⟨g', cap, cur, rfl, _, hh, _⟩
  · cases hg
  · simp only [Value.ownBlock, Option.some.injEq] at hg
    subst hg
    exact ⟨_, hh⟩
theorem S5.foot_ty (h : S5 w B n X ao cap gw gn tb ob added L LR vs v xs T) {b : Nat} (hb : b ∈ foot tb L v) : ∃ o, w.heap[b]? = some o ∧ (∀ cs, o ≠ .cells cs 4 (0, 0)) ∧ (∀ cs, o ≠ .cells cs 22 (0, 0)) ∧ (∀ cs, o ≠ .cells cs 30 (0, 0)) ∧ (∀ cs, o ≠ .cells cs 35 (0, 0)) := by
  rcases mem_foot.1 hb with rfl | ⟨e, he, rfl⟩ | ⟨e, he, rfl⟩ | hv
  · exact ⟨_, h.inv.tree, by simp, by simp, by simp, by simp⟩
  · obtain ⟨cs, hc⟩ := h.inv.cells he
    exact ⟨_, hc, by simp, by simp, by simp, by simp⟩
  · exact ⟨_, (h.inv.en e he).1, by simp, by simp, by simp, by simp⟩
  · obtain ⟨cs, hc⟩ := row_cells h.inv.row hv
    exact ⟨_, hc, by simp, by simp, by simp, by simp⟩
theorem S5.lt (h : S5 w B n X ao cap gw gn tb ob added L LR vs v xs T) {b : Nat} (hb : ownB gw gn tb ob L vs v b) : b < w.heap.size := by
  rcases hb with rfl | rfl | rfl | hb | hb
  · exact (Array.getElem?_eq_some_iff.1 h.rw.hw).1
  · exact (Array.getElem?_eq_some_iff.1 h.rw.hn).1
  · exact (Array.getElem?_eq_some_iff.1 h.out).1
  · obtain ⟨o, ho, _⟩ := h.foot_ty hb; exact (Array.getElem?_eq_some_iff.1 ho).1
  · obtain ⟨cs, ho⟩ := row_cells h.ws hb; exact (Array.getElem?_eq_some_iff.1 ho).1
/-- another's turn: the blocks that turn are none of this tree's -/
theorem S5.far {S : List Nat} (h : S5 w B n X ao cap gw gn tb ob added L LR vs v xs T) (hf : Fr S w w') (hd : ∀ b, ownB gw gn tb ob L vs v b → b ∉ S) (hi : ∀ g, (Value.slice ao n cap).ownBlock = some g → g ∉ S) (hS : ∀ b ∈ S, B ≤ b) : S5 w' B n X ao cap gw gn tb ob added L LR vs v xs T :=
  ⟨h.xin.below (hf.below h.hB hS), Nat.le_trans h.hB hf.size, hf.own h.ins hi, h.rw.fr hf (hd _ (.inl rfl)) (hd _ (.inr (.inl rfl))), h.inv.far hf (fun b hb => hd b (.inr (.inr (.inr (.inl hb))))), hf.heap h.out (hd _ (.inr (.inr (.inl rfl)))),
    hf.own h.ws (fun g hg => hd g (.inr (.inr (.inr (.inr hg))))), h.vo, h.sep, h.ge, h.sl, h.mt, h.len⟩
theorem S5.up (h : S5 w B n X ao cap gw gn tb ob added L LR vs v xs T) (hf : Below w.heap.size w w') : S5 w' B n X ao cap gw gn tb ob added L LR vs v xs T :=
  h.far (S := []) ⟨hf.os, hf.tape, hf.output, hf.size, fun k hk _ => hf.block k hk⟩ (fun _ _ h => by cases h) (fun _ _ h => by cases h) (fun _ h => by cases h)
/-- the input's row is none of a tree's blocks -/
theorem S5.ins_far (h : S5 w B n X ao cap gw gn tb ob added L LR vs v xs T) {g : Nat} (hg : (Value.slice ao n cap).ownBlock = some g) : ¬ ownB gw gn tb ob L vs v g := by
  obtain ⟨cs, hc⟩ := row_cells h.ins hg
  rintro (rfl | rfl | rfl | hb | hb)
  · have := h.rw.hw; rw [hc] at this; simp at this
  · have := h.rw.hn; rw [hc] at this; simp at this
  · have := h.out; rw [hc] at this; simp at this
  · obtain ⟨o, ho, _, _, h3, _⟩ := h.foot_ty hb; rw [hc] at ho; cases ho; exact h3 _ rfl
  · obtain ⟨cs', ho⟩ := row_cells h.ws hb; rw [hc] at ho; simp at ho
theorem S5.ne_rows (h : S5 w B n X ao cap gw gn tb ob added L LR vs v xs T) : (gw ∉ foot tb L v ∧ gn ∉ foot tb L v ∧ ob ∉ foot tb L v) ∧ (∀ g, vs.ownBlock = some g → g ∉ foot tb L v) ∧ (ob ∉ [gw, gn] ∧ (∀ g, vs.ownBlock = some g → g ∉ [gw, gn])) ∧ (∀ b ∈ foot tb L v, b ∉ [gw, gn]) := by
  have h1 : gw ∉ foot tb L v := fun hb => by obtain ⟨o, ho, h1, _⟩ := h.foot_ty hb; rw [h.rw.hw] at ho; cases ho; exact h1 _ rfl
  have h2 : gn ∉ foot tb L v := fun hb => by obtain ⟨o, ho, _, h1, _⟩ := h.foot_ty hb; rw [h.rw.hn] at ho; cases ho; exact h1 _ rfl
  have h3 : ob ∉ foot tb L v := fun hb => by obtain ⟨o, ho, _, _, _, h1⟩ := h.foot_ty hb; rw [h.out] at ho; cases ho; exact h1 _ rfl
  refine ⟨⟨h1, h2, h3⟩, ?_, ⟨?_, ?_⟩, ?_⟩
  · intro g hg hm
    obtain ⟨cs, hc⟩ := row_cells h.ws hg
    rcases mem_foot.1 hm with rfl | ⟨e, he, rfl⟩ | ⟨e, he, rfl⟩ | hv
    · have := h.inv.tree; rw [hc] at this; simp at this
    · obtain ⟨cs', hc'⟩ := h.inv.cells he; rw [hc] at hc'; simp at hc'
    · have := (h.inv.en e he).1; rw [hc] at this; simp at this
    · exact h.sep g hg hv
  · intro hm
    simp at hm
    rcases hm with rfl | rfl
    · have := h.out; rw [h.rw.hw] at this; simp at this
    · have := h.out; rw [h.rw.hn] at this; simp at this
  · intro g hg hm
    obtain ⟨cs, hc⟩ := row_cells h.ws hg
    simp at hm
    rcases hm with rfl | rfl
    · have := h.rw.hw; rw [hc] at this; simp at this
    · have := h.rw.hn; rw [hc] at this; simp at this
  · intro b hb hm
    simp at hm
    rcases hm with rfl | rfl
    · exact h1 hb
    · exact h2 hb
theorem wakeE_b (k : ByteArray) (rev : Int) (e : En) : (wakeE k rev e).b = e.b := by unfold wakeE; split; exact wk_b _ _; rfl
theorem wakeE_ch (k : ByteArray) (rev : Int) (e : En) : (wakeE k rev e).a.ch = e.a.ch := by unfold wakeE; split; exact wk_ch _ _; rfl
theorem wakeE_frm (k : ByteArray) (rev : Int) (e : En) : (wakeE k rev e).a.frm = e.a.frm := by unfold wakeE; split; exact wk_frm _ _; rfl
theorem wakeE_seq (k : ByteArray) (rev : Int) (e : En) : (wakeE k rev e).a.seq = e.a.seq := by unfold wakeE; split; exact wk_seq _ _; rfl
theorem wk_to (rev : Int) (e : En) : (wk rev e).a.to = e.a.to := by unfold wk; split <;> rfl
theorem wakeE_to (k : ByteArray) (rev : Int) (e : En) : (wakeE k rev e).a.to = e.a.to := by unfold wakeE; split; exact wk_to _ _; rfl
/-- the model's step -/
theorem S5.step (h : S5 w B n X ao cap gw gn tb ob added L LR vs v xs T) (k : ByteArray) (rev : Int) (hR : Rw w' gw gn (LR.map (wakeE k rev))) (hk : Kept [gw, gn] w w') : S5 w' B n X ao cap gw gn tb ob added L (LR.map (wakeE k rev)) vs v xs T := by
  obtain ⟨_, _, ⟨n1, n2⟩, n3⟩ := h.ne_rows
  have hf := hk.fr
  have hS : ∀ b ∈ [gw, gn], B ≤ b := by intro b hb; simp at hb; exact h.ge b (by rcases hb with rfl | rfl <;> simp)
  refine ⟨h.xin.below (hf.below h.hB hS), Nat.le_trans h.hB hf.size, hf.own h.ins ?_, hR, h.inv.far hf n3, hf.heap h.out n1, hf.own h.ws n2, h.vo, h.sep, h.ge, h.sl, ?_, by simpa using h.len⟩
  · intro g hg hm
    simp at hm
    exact h.ins_far hg (by rcases hm with rfl | rfl <;> simp [ownB])
  · rw [← h.mt, List.map_map]
    apply List.map_congr_left
    intro e _
    simp [wakeE_frm, wakeE_to]
theorem map_wakeE_b (k : ByteArray) (rev : Int) (L : List En) : (L.map (wakeE k rev)).map (·.b) = L.map (·.b) := by
  rw [List.map_map]; apply List.map_congr_left; intro e _; exact wakeE_b _ _ _
theorem map_wakeE_ch (k : ByteArray) (rev : Int) (L : List En) : (L.map (wakeE k rev)).map (·.a.ch) = L.map (·.a.ch) := by
  rw [List.map_map]; apply List.map_congr_left; intro e _; exact wakeE_ch _ _ _
theorem mem_foot_wake {k : ByteArray} {rev : Int} {v' : Value} {b : Nat} (hb : b ∈ foot tb (L.map (wakeE k rev)) v') : b ∈ foot tb L v ∨ v'.ownBlock = some b := by
  unfold foot at hb ⊢
  rw [map_wakeE_b, map_wakeE_ch] at hb
  simp only [List.mem_cons, List.mem_append, Option.mem_toList] at hb ⊢
  rcases hb with h | (h | h) | h
  · exact .inl (.inl h)
  · exact .inl (.inr (.inl (.inl h)))
  · exact .inl (.inr (.inl (.inr h)))
  · exact .inr h
/-- the tree's wake -/
theorem S5.wake (h : S5 w B n X ao cap gw gn tb ob added L LR vs v xs T) (k : ByteArray) (rev : Int) (hw : Woke w w' tb added L v k rev) :
    ∃ v' T', S5 w' B n X ao cap gw gn tb ob added (L.map (wakeE k rev)) LR vs v' (List.replicate (HL k L).length (.pointer none)) T' ∧ (v'.ownBlock = v.ownBlock ∨ ∃ g, v'.ownBlock = some g ∧ w.heap.size ≤ g) ∧ Fr (foot tb L v) w w' := by
  obtain ⟨⟨v', T', hI, hown⟩, hf⟩ := hw
  obtain ⟨⟨n1, n2, n3⟩, n4, _, _⟩ := h.ne_rows
  have hS : ∀ b ∈ foot tb L v, B ≤ b := fun b hb => h.ge b (.inr (.inr (.inr (.inl hb))))
  refine ⟨v', T', ⟨h.xin.below (hf.below h.hB hS), Nat.le_trans h.hB hf.size, hf.own h.ins ?_, h.rw.fr hf n1 n2, hI, hf.heap h.out n3, ?_, ?_, ?_, ?_, ?_, h.mt, h.len⟩, hown, hf⟩
  · intro g hg hm
    exact h.ins_far hg (.inr (.inr (.inr (.inl hm))))
  · have : (L.map (wakeE k rev)).map eptr = L.map eptr := by
      rw [List.map_map]; apply List.map_congr_left; intro e _; simp [eptr, wakeE_b]
    rw [this]
    exact hf.own h.ws n4
  · rcases hown with e | ⟨g, e, _⟩
    · rw [e]; exact h.vo
    · rw [e]; simp
  · intro g hg
    rcases hown with e | ⟨g', e, hg'⟩
    · rw [e]; exact h.sep g hg
    · rw [e]
      intro e2
      cases e2
      have := h.lt (b := g) (.inr (.inr (.inr (.inr hg))))
      omega
  · rintro b (rfl | rfl | rfl | hb | hb)
    · exact h.ge _ (.inl rfl)
    · exact h.ge _ (.inr (.inl rfl))
    · exact h.ge _ (.inr (.inr (.inl rfl)))
    · rcases mem_foot_wake (v := v) hb with h1 | h1
      · exact h.ge _ (.inr (.inr (.inr (.inl h1))))
      · rcases hown with e | ⟨g', e, hg'⟩
        · exact h.ge _ (.inr (.inr (.inr (.inl (mem_foot.2 (.inr (.inr (.inr (e ▸ h1)))))))))
        · rw [e] at h1; cases h1; exact Nat.le_trans h.hB hg'
    · exact h.ge _ (.inr (.inr (.inr (.inr hb))))
  · exact h.sl.map _ (wakeE_b k rev) (wakeE_ch k rev) (wakeE_frm k rev) (wakeE_seq k rev)
end
end Go.Proofs.Qxb6614547a
