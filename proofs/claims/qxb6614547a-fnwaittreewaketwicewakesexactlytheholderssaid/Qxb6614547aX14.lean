import Derived.Test.Qxb6614547aX13
namespace Go.Proofs.Qxb6614547a
open Go.RowKit
open Go.Deep (BT)
set_option linter.unusedVariables false

theorem adj_pairwise {L : List (Nat × Nat × TW)} (h : Adj L L.length) : L.Pairwise (fun p q => prec (toWt p.2.2) (toWt q.2.2) = true) := by
  have key : ∀ d i p q, L[i]? = some p → L[i + d + 1]? = some q → prec (toWt p.2.2) (toWt q.2.2) = true := by
    intro d
    induction d with
    | zero =>
      intro i p q hp hq
      exact h i (List.getElem?_eq_some_iff.1 hq).1 p q hp hq
    | succ d ih =>
      intro i p q hp hq
      have hlt := (List.getElem?_eq_some_iff.1 hq).1
      have hr : L[i + d + 1]? = some L[i + d + 1] := List.getElem?_eq_getElem (by omega)
      exact prec_trans (ih i p _ hp hr) (h (i + d + 1) (by omega) _ q hr (by rw [← hq]; congr 1))
  rw [List.pairwise_iff_getElem]
  intro i j hi hj hij
  obtain ⟨d, rfl⟩ : ∃ d, j = i + d + 1 := ⟨j - i - 1, by omega⟩
  exact key d i _ _ (List.getElem?_eq_getElem hi) (List.getElem?_eq_getElem hj)

def L0 (K : BT Wt) : List En := (ino K).map (fun p => ⟨p.1, p.2, true⟩)

/-- a tree of a law, the model's rows apart -/
structure Side (w : World) (B n : Nat) (X : BT TW) (tb ob : Nat) (added : Int) (L : List En) (vs v : Value) (xs : List Value) (T : BT Wt) : Prop where
  inv : Inv w tb added L v xs T
  out : w.heap[ob]? = some (.cells #[vs] 35)
  ws : w.ownsRow 0 36 1 vs n (L.map eptr)
  vo : v.ownBlock ≠ none
  sep : ∀ g, vs.ownBlock = some g → v.ownBlock ≠ some g
  ge : ∀ b, b = ob ∨ b ∈ foot tb L v ∨ vs.ownBlock = some b → B ≤ b
  sl : SL L
  mt : L.map (fun e => (e.a.frm, e.a.to)) = (tino X).map (fun p => (p.2.2.frm, p.2.2.to))
  mn : L.map (fun e => e.a.nxt) = (tino X).map (fun p => p.2.2.nxt)
  wt : ∀ e ∈ L, e.wt = true
  len : L.length = n

theorem Side.far {S : List Nat} {w w' : World} {B n : Nat} {X : BT TW} {tb ob : Nat} {added : Int} {L : List En} {vs v : Value} {xs : List Value} {T : BT Wt} (h : Side w B n X tb ob added L vs v xs T) (hf : Fr S w w') (hd : ∀ b, b = ob ∨ b ∈ foot tb L v ∨ vs.ownBlock = some b → b ∉ S) : Side w' B n X tb ob added L vs v xs T :=
  ⟨h.inv.far hf (fun b hb => hd b (.inr (.inl hb))), hf.heap h.out (hd _ (.inl rfl)), hf.own h.ws (fun g hg => hd g (.inr (.inr hg))), h.vo, h.sep, h.ge, h.sl, h.mt, h.mn, h.wt, h.len⟩
theorem Side.up {w w' : World} {B n : Nat} {X : BT TW} {tb ob : Nat} {added : Int} {L : List En} {vs v : Value} {xs : List Value} {T : BT Wt} (h : Side w B n X tb ob added L vs v xs T) (hf : Below w.heap.size w w') : Side w' B n X tb ob added L vs v xs T :=
  h.far (S := []) ⟨hf.os, hf.tape, hf.output, hf.size, fun k hk _ => hf.block k hk⟩ (fun _ _ h => by cases h)

theorem side_start {w3 w4 : World} {B ob wl : Nat} {X : BT TW} {K : BT Wt} {vs : Value} {added : Int} (b : Built ob w3 w4 (.slice none 0 0) vs 0 [] X K) (hadj : Adj (tino X) (sizeX X)) (hB : B ≤ w3.heap.size) (hob : B ≤ ob) (hn : sizeX X ≤ 20000) (hwl : wl ≤ 65536) (hol : ob < w3.heap.size) :
    Side ((w4.alloc (.cells (List.replicate wl (.pointer none)).toArray 36)).alloc (.cells #[K.ptr, .int .u64 added, .slice (some ⟨w4.heap.size, 0, none⟩) wl wl] 60)) B (sizeX X) X (w4.heap.size + 1) ob added (L0 K) vs (.slice (some ⟨w4.heap.size, 0, none⟩) wl wl) (List.replicate wl (.pointer none)) K ∧
      (∀ k, k ∈ foot (w4.heap.size + 1) (L0 K) (.slice (some ⟨w4.heap.size, 0, none⟩) wl wl) ∨ vs.ownBlock = some k → w3.heap.size ≤ k) := by
  obtain ⟨w5, hw5⟩ : ∃ w5, w5 = (w4.alloc (.cells (List.replicate wl (.pointer none)).toArray 36)).alloc (.cells #[K.ptr, .int .u64 added, .slice (some ⟨w4.heap.size, 0, none⟩) wl wl] 60) := ⟨_, rfl⟩
  rw [← hw5]
  have hup : Below w4.heap.size w4 w5 := by
    rw [hw5]; exact ⟨rfl, rfl, rfl, by simp; omega, fun k hk => (Below.heap_alloc _ _ _ (by simp; omega)).trans (Below.heap_alloc _ _ _ hk)⟩
  have ht : w5.heap[w4.heap.size + 1]? = some (.cells #[K.ptr, .int .u64 added, .slice (some ⟨w4.heap.size, 0, none⟩) wl wl] 60) := by rw [hw5]; exact heap_top _ _ _ (by simp)
  have hr : w5.heap[w4.heap.size]? = some (.cells (List.replicate wl (.pointer none)).toArray 36) := by rw [hw5]; exact (Below.heap_alloc _ _ _ (by simp)).trans (heap_top _ _ _ rfl)
  have hsz := b.bx.size
  have hvs : ∀ k, vs.ownBlock = some k → w3.heap.size ≤ k := by
    intro k hk
    rcases b.bx.own with e | ⟨j, e, hj⟩
    · rw [e] at hk; cases hk
    · rw [e] at hk; cases hk; exact hj
  have hvs4 : ∀ k, vs.ownBlock = some k → k < w4.heap.size := by
    intro k hk
    obtain ⟨cs, hc⟩ := row_cells b.row hk
    exact (Array.getElem?_eq_some_iff.1 hc).1
  have hfr : ∀ k, k ∈ foot (w4.heap.size + 1) (L0 K) (.slice (some ⟨w4.heap.size, 0, none⟩) wl wl) ∨ vs.ownBlock = some k → w3.heap.size ≤ k := by
    rintro k (hk | hk)
    · rcases mem_foot.1 hk with rfl | ⟨e, he, rfl⟩ | ⟨e, he, rfl⟩ | hv
      · omega
      · obtain ⟨p, hp, rfl⟩ := List.mem_map.1 he; exact (b.fresh p hp).1
      · obtain ⟨p, hp, rfl⟩ := List.mem_map.1 he; exact (b.fresh p hp).2
      · simp [Value.ownBlock] at hv; omega
    · exact hvs k hk
  have hpay := b.pay
  refine ⟨⟨⟨ht, up_tin hup b.tin, ?_, ?_, ?_⟩, up_heap hup b.cell, ?_, by simp [Value.ownBlock], ?_, ?_, ⟨?_, ?_, ?_, ?_⟩, ?_, ?_, ?_, ?_⟩, hfr⟩
  · have : (L0 K).filter (·.wt) = L0 K := by
      rw [List.filter_eq_self]; intro e he; obtain ⟨p, hp, rfl⟩ := List.mem_map.1 he; rfl
    rw [this, L0, List.map_map]
    exact (List.map_id _).symm
  · intro e he
    obtain ⟨p, hp, rfl⟩ := List.mem_map.1 he
    exact ⟨up_heap hup (b.chn p hp), fun h => by cases h⟩
  · refine ⟨by simp, .inr ⟨w4.heap.size, wl, (List.replicate wl (.pointer none)).toArray, by simp, Nat.zero_le _, hr, by simp, by unfold maxLen; omega, by simp, by simp⟩⟩
  · have := up_own hup b.row
    rw [Nat.zero_add, List.nil_append] at this
    have he : (L0 K).map eptr = (ino K).map ptrOf := by simp [L0, eptr, ptrOf]
    rw [he]; exact this
  · intro g hg e
    simp [Value.ownBlock] at e
    have := hvs4 g hg
    omega
  · rintro k (rfl | hk | hk)
    · exact hob
    · exact Nat.le_trans hB (hfr k (.inl hk))
    · exact Nat.le_trans hB (hfr k (.inr hk))
  · have : (L0 K).map (·.b) = (ino K).map (·.1) := by simp [L0]
    rw [this]; exact b.nb
  · have : (L0 K).map (·.a.ch) = (ino K).map (·.2.ch) := by simp [L0]
    rw [this]; exact b.nc
  · rw [← len_tino] at hadj
    have hp := adj_pairwise hadj
    have h2 : ((tino X).map (fun q => toWt q.2.2)).Pairwise (fun a c => prec a c = true) := by rw [List.pairwise_map]; exact hp
    rw [← hpay, List.pairwise_map] at h2
    unfold L0
    rw [List.pairwise_map]
    exact h2
  · have := congrArg List.length hpay
    simp only [List.length_map] at this
    simp [L0, this, len_tino]; exact hn
  · have := congrArg (List.map (fun a : Wt => (a.frm, a.to))) hpay
    rw [List.map_map, List.map_map] at this
    simpa [L0, Function.comp_def, toWt] using this
  · have := congrArg (List.map (fun a : Wt => a.nxt)) hpay
    rw [List.map_map, List.map_map] at this
    simpa [L0, Function.comp_def, toWt] using this
  · intro e he; obtain ⟨p, hp, rfl⟩ := List.mem_map.1 he; rfl
  · have := congrArg List.length hpay
    simp only [List.length_map] at this
    simp [L0, this, len_tino]

/-- the model's rows, fresh -/
theorem rw_start {w w' : World} {B n : Nat} {X : BT TW} {tb ob gw gn : Nat} {added : Int} {L : List En} {vs v : Value} {xs : List Value} {T : BT Wt} (h : Side w B n X tb ob added L vs v xs T)
    (h1 : w'.heap[gw]? = some (.cells ((tino X).map (fun p => Value.bool true)).toArray 4)) (h2 : w'.heap[gn]? = some (.cells ((tino X).map (fun p => Value.int .u64 p.2.2.nxt)).toArray 22)) : Rw w' gw gn L := by
  have hl : L.length = (tino X).length := by have := congrArg List.length h.mn; simpa using this
  refine ⟨h1.trans ?_, h2.trans ?_⟩
  · have : L.map (fun e => Value.bool e.wt) = L.map (fun e => Value.bool true) := List.map_congr_left (fun e he => by rw [h.wt e he])
    rw [this, List.map_const', List.map_const', hl]
  · have := congrArg (List.map (fun x : Int => Value.int .u64 x)) h.mn
    rw [List.map_map, List.map_map] at this
    simp only [Function.comp_def] at this
    rw [this]
theorem S5.of {w : World} {B n : Nat} {X : BT TW} {ao : Option Addr} {cap gw gn tb ob : Nat} {added : Int} {L : List En} {vs v : Value} {xs : List Value} {T : BT Wt} (hx : XIn w B X) (hB : B ≤ w.heap.size) (hi : w.ownsRow 0 30 1 (.slice ao n cap) n ((tino X).map tptr)) (h : Side w B n X tb ob added L vs v xs T) (hR : Rw w gw gn L) (h1 : B ≤ gw) (h2 : B ≤ gn) : S5 w B n X ao cap gw gn tb ob added L L vs v xs T :=
  ⟨hx, hB, hi, hR, h.inv, h.out, h.ws, h.vo, h.sep, (by
    rintro b (rfl | rfl | rfl | hb | hb)
    · exact h1
    · exact h2
    · exact h.ge _ (.inl rfl)
    · exact h.ge _ (.inr (.inl hb))
    · exact h.ge _ (.inr (.inr hb))), h.sl, h.mt, h.len⟩
end Go.Proofs.Qxb6614547a
