import Derived.Test.Qxb6614547aW5
import Derived.Laws.CopyRow
import Derived.Conc.EventLaws
namespace Go.Proofs.Qxb6614547a
open Go.RowKit
open Go.Deep (BT)
set_option linter.unusedVariables false

/-- one waiter of the law: its block, what it holds, whether it still waits -/
structure En where
  b : Nat
  a : Wt
  wt : Bool

def EnOK (W : World) (e : En) : Prop :=
  W.heap[e.a.ch]? = some (.chan 0 #[] (!e.wt) 0 0 false) ∧ (e.wt = false → ∃ en, W.heap[e.b]? = some (.cells (wcells e.a false (.pointer none) (.pointer none) en) 74))

/-- the tree of the law in memory: its waiters L, the row v that holds xs -/
structure Inv (W : World) (tb : Nat) (added : Int) (L : List En) (v : Value) (xs : List Value) (T : BT Wt) : Prop where
  tree : W.heap[tb]? = some (.cells #[T.ptr, .int .u64 added, v] 60)
  tin : TIn W T
  inot : ino T = (L.filter (·.wt)).map (fun e => (e.b, e.a))
  en : ∀ e ∈ L, EnOK W e
  row : W.ownsRow 0 36 1 v xs.length xs

structure SL (L : List En) : Prop where
  blk : (L.map (·.b)).Nodup
  chn : (L.map (·.a.ch)).Nodup
  srt : L.Pairwise (fun p q => prec p.a q.a = true)
  len : L.length ≤ 20000

def wk (rev : Int) (e : En) : En := if e.a.nxt ≤ rev then ⟨e.b, { e.a with nxt := rev }, false⟩ else e
def upd (L : List En) (b : Nat) (rev : Int) : List En := L.map (fun e => if e.b = b then wk rev e else e)

theorem wk_b (rev : Int) (e : En) : (wk rev e).b = e.b := by unfold wk; split <;> rfl
theorem wk_ch (rev : Int) (e : En) : (wk rev e).a.ch = e.a.ch := by unfold wk; split <;> rfl
theorem wk_frm (rev : Int) (e : En) : (wk rev e).a.frm = e.a.frm := by unfold wk; split <;> rfl
theorem wk_seq (rev : Int) (e : En) : (wk rev e).a.seq = e.a.seq := by unfold wk; split <;> rfl
theorem prec_congr {a b a' b' : Wt} (h1 : a'.frm = a.frm) (h2 : a'.seq = a.seq) (h3 : b'.frm = b.frm) (h4 : b'.seq = b.seq) : prec a' b' = prec a b := by unfold prec; rw [h1, h2, h3, h4]
/-- a list in which only 'next' and 'waits' have turned -/
theorem SL.map {L : List En} (h : SL L) (f : En → En) (hb : ∀ e, (f e).b = e.b) (hc : ∀ e, (f e).a.ch = e.a.ch) (hf : ∀ e, (f e).a.frm = e.a.frm) (hs : ∀ e, (f e).a.seq = e.a.seq) : SL (L.map f) := by
  refine ⟨?_, ?_, ?_, by simpa using h.len⟩
  · rw [List.map_map]; have : ((fun e : En => e.b) ∘ f) = (fun e : En => e.b) := by funext e; exact hb e
    rw [this]; exact h.blk
  · rw [List.map_map]; have : ((fun e : En => e.a.ch) ∘ f) = (fun e : En => e.a.ch) := by funext e; exact hc e
    rw [this]; exact h.chn
  · rw [List.pairwise_map]
    have hpf : (fun p q => prec (f p).a (f q).a = true) = (fun p q : En => prec p.a q.a = true) := by
      funext p q
      rw [prec_congr (hf p) (hs p) (hf q) (hs q)]
    rw [hpf]
    exact h.srt
theorem SL.upd {L : List En} (h : SL L) (b : Nat) (rev : Int) : SL (upd L b rev) := by
  refine h.map _ ?_ ?_ ?_ ?_ <;> intro e <;> by_cases hb : e.b = b <;> simp [hb, wk_b, wk_ch, wk_frm, wk_seq]

theorem upd_filter (L : List En) (b : Nat) (rev : Int) (h : ∀ e ∈ L, e.b = b → e.a.nxt ≤ rev) :
    ((upd L b rev).filter (·.wt)).map (fun e => (e.b, e.a)) = ((L.filter (·.wt)).map (fun e => (e.b, e.a))).filter (fun p => p.1 != b) := by
  induction L with
  | nil => rfl
  | cons e L ih =>
    have ih' := ih (fun x hx => h x (by simp [hx]))
    simp only [upd, List.map_cons] at ih' ⊢
    by_cases hb : e.b = b
    · have hn := h e (by simp) hb
      have hw : (wk rev e).wt = false := by unfold wk; rw [if_pos hn]
      rw [if_pos hb, List.filter_cons, hw]
      simp only [Bool.false_eq_true, if_false]
      rw [ih', List.filter_cons]
      cases e.wt
      · rfl
      · simp [hb]
    · rw [if_neg hb, List.filter_cons, List.filter_cons]
      cases e.wt
      · exact ih'
      · simp [hb, ih']

theorem nodup_eq {L : List En} (h : (L.map (·.b)).Nodup) {e f : En} (he : e ∈ L) (hf : f ∈ L) (hb : e.b = f.b) : e = f := by
  induction L with
  | nil => cases he
  | cons x L ih =>
    simp only [List.map_cons, List.nodup_cons] at h
    rcases List.mem_cons.1 he with rfl | he'
    · rcases List.mem_cons.1 hf with rfl | hf'
      · rfl
      · exact absurd (by rw [hb]; exact List.mem_map_of_mem hf') h.1
    · rcases List.mem_cons.1 hf with rfl | hf'
      · exact absurd (by rw [← hb]; exact List.mem_map_of_mem he') h.1
      · exact ih h.2 he' hf'
theorem nodup_ch {L : List En} (h : (L.map (·.a.ch)).Nodup) {e f : En} (he : e ∈ L) (hf : f ∈ L) (hb : e.a.ch = f.a.ch) : e = f := by
  induction L with
  | nil => cases he
  | cons x L ih =>
    simp only [List.map_cons, List.nodup_cons] at h
    rcases List.mem_cons.1 he with rfl | he'
    · rcases List.mem_cons.1 hf with rfl | hf'
      · rfl
      · exact absurd (by rw [hb]; exact List.mem_map_of_mem hf') h.1
    · rcases List.mem_cons.1 hf with rfl | hf'
      · exact absurd (by rw [← hb]; exact List.mem_map_of_mem he') h.1
      · exact ih h.2 he' hf'

/-- the waiters that the tree holds -/
theorem Inv.mem_ino {W : World} {tb : Nat} {added : Int} {L : List En} {v : Value} {xs : List Value} {T : BT Wt} (h : Inv W tb added L v xs T) {p : Nat × Wt} : p ∈ ino T ↔ ∃ e ∈ L, e.wt = true ∧ (e.b, e.a) = p := by
  rw [h.inot]
  simp only [List.mem_map, List.mem_filter]
  constructor
  · rintro ⟨e, ⟨h1, h2⟩, h3⟩; exact ⟨e, h1, h2, h3⟩
  · rintro ⟨e, h1, h2, h3⟩; exact ⟨e, ⟨h1, h2⟩, h3⟩
theorem Inv.srt {W : World} {tb : Nat} {added : Int} {L : List En} {v : Value} {xs : List Value} {T : BT Wt} (h : Inv W tb added L v xs T) (hs : SL L) : Srt (ino T) := by
  rw [h.inot]
  unfold Srt
  rw [List.pairwise_map]
  exact hs.srt.sublist List.filter_sublist
theorem Inv.nodup {W : World} {tb : Nat} {added : Int} {L : List En} {v : Value} {xs : List Value} {T : BT Wt} (h : Inv W tb added L v xs T) (hs : SL L) : (blks T).Nodup := by
  unfold blks
  rw [h.inot, List.map_map]
  exact hs.blk.sublist (List.filter_sublist.map _)

/-- ONE WAITER IS WOKEN: what the tree's memory comes to -/
theorem Inv.step {W W' : World} {tb : Nat} {added : Int} {L : List En} {v : Value} {xs : List Value} {T T1 : BT Wt} (h : Inv W tb added L v xs T) (hs : SL L) {e : En} (he : e ∈ L) (hw : e.wt = true) {rev : Int} (hn : e.a.nxt ≤ rev) {en : ByteArray}
    (hk : Kept (tb :: e.a.ch :: blks T) W W') (hino : ino T1 = (ino T).filter (fun p => p.1 != e.b)) (hT : TIn W' T1) (ht : W'.heap[tb]? = some (.cells #[T1.ptr, .int .u64 added, v] 60))
    (hb : W'.heap[e.b]? = some (.cells (wcells { e.a with nxt := rev } false (.pointer none) (.pointer none) en) 74)) (hc : W'.heap[e.a.ch]? = some (.chan 0 #[] true 0 0 false)) : Inv W' tb added (upd L e.b rev) v xs T1 := by
  have hcells : ∀ k ∈ tb :: blks T, ∃ cs t, W.heap[k]? = some (.cells cs t (0, 0)) ∧ t ≠ 36 := by
    intro k hk'
    rcases List.mem_cons.1 hk' with rfl | hk'
    · exact ⟨_, _, h.tree, by decide⟩
    · obtain ⟨p, hp, rfl⟩ := List.mem_map.1 hk'
      obtain ⟨l, r, e', h'⟩ := h.tin.mem p hp
      exact ⟨_, _, h', by decide⟩
  have heq : ∀ f ∈ L, f.b = e.b → f = e := fun f hf hfe => nodup_eq hs.blk hf he hfe
  refine ⟨ht, hT, ?_, ?_, ?_⟩
  · rw [hino, h.inot, upd_filter]
    intro f hf hfe
    rw [heq f hf hfe]; exact hn
  · intro f hf
    obtain ⟨g, hg, rfl⟩ := List.mem_map.1 hf
    by_cases hgb : g.b = e.b
    · have hge := heq g hg hgb
      subst hge
      rw [if_pos rfl]
      unfold wk
      rw [if_pos hn]
      exact ⟨hc, fun _ => ⟨en, hb⟩⟩
    · rw [if_neg hgb]
      obtain ⟨g1, g2⟩ := h.en g hg
      have hgc : g.a.ch ≠ e.a.ch := fun e' => hgb (congrArg En.b (nodup_ch hs.chn hg he e'))
      refine ⟨(hk.block g.a.ch ?_).trans g1, fun hf' => ?_⟩
      · intro hm
        rcases List.mem_cons.1 hm with e1 | hm
        · rw [e1, h.tree] at g1; simp at g1
        · rcases List.mem_cons.1 hm with e1 | hm
          · exact hgc e1
          · obtain ⟨cs, t, h1, _⟩ := hcells g.a.ch (by simp [hm])
            rw [h1] at g1; simp at g1
      · obtain ⟨en', h'⟩ := g2 hf'
        refine ⟨en', (hk.block g.b ?_).trans h'⟩
        intro hm
        rcases List.mem_cons.1 hm with e1 | hm
        · rw [e1, h.tree] at h'; simp at h'
        · rcases List.mem_cons.1 hm with e1 | hm
          · have hch := (h.en e he).1
            rw [← e1, h'] at hch; simp at hch
          · obtain ⟨p, hp, hpb⟩ := List.mem_map.1 hm
            obtain ⟨f', hf1, hf2, hf3⟩ := h.mem_ino.1 hp
            have : f' = g := nodup_eq hs.blk hf1 hg (by rw [← hpb, ← hf3])
            rw [this, hf'] at hf2
            cases hf2
  · refine ⟨h.row.1, ?_⟩
    rcases h.row.2 with h2 | ⟨g, cap, cur, hv, hg, hh, r⟩
    · exact .inl h2
    · refine .inr ⟨g, cap, cur, hv, hg, (hk.block g ?_).trans hh, r⟩
      intro hm
      rcases List.mem_cons.1 hm with e1 | hm
      · rw [e1, h.tree] at hh; simp at hh
      · rcases List.mem_cons.1 hm with e1 | hm
        · have hch := (h.en e he).1
          rw [← e1, hh] at hch; simp at hch
        · obtain ⟨cs, t, h1, ht'⟩ := hcells g (by simp [hm])
          rw [h1] at hh
          simp at hh
          exact ht' hh.2
end Go.Proofs.Qxb6614547a
