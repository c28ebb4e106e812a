import Derived.Test.Qxb6614547aX10
namespace Go.Proofs.Qxb6614547a
open Go.RowKit
open Go.Deep (BT)
set_option linter.unusedVariables false

theorem up_heap {w wr : World} (hb : Below w.heap.size w wr) {b : Nat} {o : Obj} (h : w.heap[b]? = some o) : wr.heap[b]? = some o := (hb.block b (Array.getElem?_eq_some_iff.1 h).1).trans h
theorem up_own {w wr : World} (hb : Below w.heap.size w wr) {e : TypeId} {v : Value} {n : Nat} {xs : List Value} (ho : w.ownsRow 0 e 1 v n xs) : wr.ownsRow 0 e 1 v n xs := by
  refine ⟨ho.1, ?_⟩
  rcases ho.2 with h2 | ⟨g, cap, cur, hv, hg, hh, r'⟩
  · exact .inl h2
  · exact .inr ⟨g, cap, cur, hv, hg, up_heap hb hh, r'⟩
theorem up_tin {w wr : World} (hb : Below w.heap.size w wr) : ∀ {T : BT Wt}, TIn w T → TIn wr T
  | .nil, _ => trivial
  | .node b o a l r, ⟨h0, h, hl, hr⟩ => ⟨h0, up_heap hb h, up_tin hb hl, up_tin hb hr⟩
theorem up_trans {w w1 w2 : World} (h : Below w.heap.size w w1) (k : Below w1.heap.size w1 w2) : Below w.heap.size w w2 :=
  h.trans ⟨k.os, k.tape, k.output, k.size, fun i hi => k.block i (Nat.lt_of_lt_of_le hi h.size)⟩
theorem up_drewN {w w1 : World} (h : Below w.heap.size w w1) (n : Nat) : Below w.heap.size w (w1.drewN n) := ⟨h.os, h.tape, h.output, h.size, h.block⟩

theorem TIn.mem2 {W : World} : ∀ {T : BT Wt}, TIn W T → ∀ p ∈ ino T, ∃ l r : BT Wt, W.heap[p.1]? = some (.cells (wcells p.2 true l.ptr r.ptr (orLater (orLater p.2.to l (endT l)) r (endT r))) 74) ∧ TIn W l ∧ TIn W r
  | .nil, _, p, hp => by cases hp
  | .node b o a l r, ⟨_, hb, hl, hr⟩, p, hp => by
    simp only [ino, List.mem_append, List.mem_cons] at hp
    rcases hp with h | rfl | h
    · exact hl.mem2 p h
    · exact ⟨l, r, hb, hl, hr⟩
    · exact hr.mem2 p h

def eptr (e : En) : Value := .pointer (some ⟨e.b, 0, none⟩)
theorem ck_facts {w wr : World} {tb gw gn n cap : Nat} {added : Int} {L : List En} {v : Value} {xs : List Value} {T : BT Wt} {ao : Option Addr} (hk : Below w.heap.size w wr) (h : Inv w tb added L v xs T) (hR : Rw w gw gn L) (hS : w.ownsRow 0 36 1 (.slice ao n cap) n (L.map eptr)) {m : Nat} {e : En} (he : L[m]? = some e) :
    ∃ (gs : Nat) (pl pr : Option Addr), ao = some ⟨gs, 0, none⟩ ∧ wr.cell? ⟨gs, m, none⟩ = some (.pointer (some ⟨e.b, 0, none⟩)) ∧ wr.cell? ⟨e.b, 5, none⟩ = some (.bool e.wt) ∧ wr.cell? ⟨e.b, 4, none⟩ = some (.int .u64 e.a.nxt) ∧
      wr.cell? ⟨e.b, 10, none⟩ = some (.pointer pl) ∧ wr.cell? ⟨e.b, 11, none⟩ = some (.pointer pr) ∧ (e.wt = false → pl = none ∧ pr = none) ∧ wr.cell? ⟨e.b, 3, none⟩ = some (.chan (some e.a.ch)) ∧ wr.heap[e.a.ch]? = some (.chan 0 #[] (!e.wt) 0 0 false) ∧
      wr.cell? ⟨gw, m, none⟩ = some (.bool e.wt) ∧ wr.cell? ⟨gn, m, none⟩ = some (.int .u64 e.a.nxt) := by
  have hm := List.mem_of_getElem? he
  obtain ⟨hc, hf⟩ := h.en e hm
  have hlen : L.length = n := by have := hS.1; simpa using this
  have hml := (List.getElem?_eq_some_iff.1 he).1
  have hrow : ∃ gs, ao = some ⟨gs, 0, none⟩ ∧ w.cell? ⟨gs, m, none⟩ = some (.pointer (some ⟨e.b, 0, none⟩)) ∧ gs < w.heap.size := by
    rcases hS.2 with ⟨h1, h2⟩ | ⟨g, cap', cur, h1, _, hh, _⟩
    · omega
    · cases h1
      refine ⟨g, rfl, ?_, (Array.getElem?_eq_some_iff.1 hh).1⟩
      rw [hS.cellAt m (by omega), List.getElem?_map, he]
      rfl
  obtain ⟨gs, hao, hgs, hgl⟩ := hrow
  have hcells : ∃ (pl pr : Option Addr) (en : ByteArray), wr.heap[e.b]? = some (.cells (wcells e.a e.wt (.pointer pl) (.pointer pr) en) 74) ∧ (e.wt = false → pl = none ∧ pr = none) := by
    cases hw : e.wt
    · obtain ⟨en, h1⟩ := hf hw
      exact ⟨none, none, en, up_heap hk h1, fun _ => ⟨rfl, rfl⟩⟩
    · obtain ⟨l, r, h1, hl, hr⟩ := h.tin.mem2 (e.b, e.a) (h.mem_ino.2 ⟨e, hm, hw, rfl⟩)
      obtain ⟨pl, hpl⟩ := ptr_form l w hl
      obtain ⟨pr, hpr⟩ := ptr_form r w hr
      rw [hpl, hpr] at h1
      exact ⟨pl, pr, _, up_heap hk h1, fun h => by cases h⟩
  obtain ⟨pl, pr, en, hbb, hnil⟩ := hcells
  obtain ⟨_, _, d3, d4, d5, _, _, d10, d11, _, _⟩ := wcell hbb
  exact ⟨gs, pl, pr, hao, (hk.cell (p := ⟨gs, m, none⟩) hgl).trans hgs, d5, d4, d10, d11, hnil, d3, up_heap hk hc,
    (hk.cell (p := ⟨gw, m, none⟩) (Array.getElem?_eq_some_iff.1 hR.hw).1).trans (hR.cw he), (hk.cell (p := ⟨gn, m, none⟩) (Array.getElem?_eq_some_iff.1 hR.hn).1).trans (hR.cn he)⟩
theorem closed_any (b c : Nat) (x : Bool) (w : World) (hp : w.cell? ⟨b, 3, none⟩ = some (.chan (some c))) (hc : w.heap[c]? = some (.chan 0 #[] x 0 0 false)) : Calls Try.prog 32 #[.pointer (some ⟨b, 0, none⟩)] w fun e w' => e = .returned (.bool x) ∧ w' = w := by
  cases x
  · exact f32_open b c 0 0 0 w hp hc
  · exact f32_closed b c 0 0 0 w hp hc
theorem filt_len {L : List En} {m : Nat} {e : En} (h : L[m]? = some e) : ((L.take (m + 1)).filter (·.wt)).length = ((L.take m).filter (·.wt)).length + (if e.wt = true then 1 else 0) := by
  rw [take_cons h, List.filter_append, List.length_append]
  cases hh : e.wt <;> simp [hh]
theorem filt_get {L : List En} {m : Nat} {e : En} (h : L[m]? = some e) (hw : e.wt = true) : (L.filter (·.wt))[((L.take m).filter (·.wt)).length]? = some e := by
  have hs : L = L.take m ++ e :: L.drop (m + 1) := by rw [← drop_cons h, List.take_append_drop]
  have hf : L.filter (·.wt) = (L.take m).filter (·.wt) ++ e :: (L.drop (m + 1)).filter (·.wt) := by
    conv => { lhs; rw [hs] }
    rw [List.filter_append, List.filter_cons, if_pos hw]
  rw [hf, List.getElem?_append_right (Nat.le_refl _), Nat.sub_self]
  rfl
end Go.Proofs.Qxb6614547a
