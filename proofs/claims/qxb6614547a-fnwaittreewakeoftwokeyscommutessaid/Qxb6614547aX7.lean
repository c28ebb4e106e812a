import Derived.Test.Qxb6614547aX6
namespace Go.Proofs.Qxb6614547a
open Go.RowKit
open Go.Deep (BT)
set_option linter.unusedVariables false

def Li (f : En → En) (L : List En) (m : Nat) : List En := (L.take m).map f ++ L.drop m
theorem drop_cons {L : List En} {m : Nat} {e : En} (h : L[m]? = some e) : L.drop m = e :: L.drop (m + 1) := by
  obtain ⟨hm, rfl⟩ := List.getElem?_eq_some_iff.1 h
  exact List.drop_eq_getElem_cons hm
theorem take_cons {L : List En} {m : Nat} {e : En} (h : L[m]? = some e) : L.take (m + 1) = L.take m ++ [e] := by
  obtain ⟨hm, rfl⟩ := List.getElem?_eq_some_iff.1 h
  exact List.take_succ_eq_append_getElem hm
theorem Li_zero (f : En → En) (L : List En) : Li f L 0 = L := by simp [Li]
theorem Li_full (f : En → En) (L : List En) (m : Nat) (h : L.length ≤ m) : Li f L m = L.map f := by
  simp [Li, List.take_of_length_le h, List.drop_eq_nil_of_le h]
theorem Li_get {f : En → En} {L : List En} {m : Nat} {e : En} (h : L[m]? = some e) : (Li f L m)[m]? = some e := by
  obtain ⟨hm, _⟩ := List.getElem?_eq_some_iff.1 h
  have hl : ((L.take m).map f).length = m := by simp; omega
  unfold Li
  rw [List.getElem?_append_right (by omega), hl, Nat.sub_self, drop_cons h]
  rfl
theorem Li_succ {f : En → En} {L : List En} {m : Nat} {e : En} (h : L[m]? = some e) : Li f L (m + 1) = (Li f L m).set m (f e) := by
  obtain ⟨hm, _⟩ := List.getElem?_eq_some_iff.1 h
  have hl : ((L.take m).map f).length = m := by simp; omega
  unfold Li
  rw [List.set_append_right _ _ (by omega), hl, Nat.sub_self, drop_cons h, take_cons h]
  simp
theorem Li_same {f : En → En} {L : List En} {m : Nat} {e : En} (h : L[m]? = some e) (hf : f e = e) : Li f L (m + 1) = Li f L m := by
  unfold Li
  rw [drop_cons h, take_cons h]
  simp [hf]
theorem HL_take {L : List En} {m : Nat} {e : En} (k : ByteArray) (h : L[m]? = some e) : (HL k (L.take (m + 1))).length = (HL k (L.take m)).length + (if (e.wt && holdsW k e.a) = true then 1 else 0) := by
  rw [take_cons h]
  unfold HL
  rw [List.filter_append, List.length_append]
  cases hh : (e.wt && holdsW k e.a) <;> simp [hh]
theorem holds_eq (k : ByteArray) {a b : Wt} (h1 : a.frm = b.frm) (h2 : a.to = b.to) : holdsW k a = holdsW k b := by unfold holdsW; rw [h1, h2]

/-- the input's row -/
theorem ins_row {w : World} {X : BT TW} {ao : Option Addr} {n cap : Nat} (ho : w.ownsRow 0 30 1 (.slice ao n cap) n ((tino X).map tptr)) : ∀ i, i < n → ∃ g, ao = some ⟨g, 0, none⟩ ∧ ∃ p, (tino X)[i]? = some p ∧ w.cell? ⟨g, i, none⟩ = some (tptr p) := by
  intro i hi
  have hlen := ho.1
  rw [Nat.mul_one, List.length_map] at hlen
  rcases ho.2 with ⟨h, h2⟩ | ⟨g, cap', cur, h, _⟩
  · omega
  · cases h
    have hl : i < (tino X).length := by omega
    refine ⟨g, rfl, (tino X)[i], List.getElem?_eq_getElem hl, ?_⟩
    rw [ho.cellAt i (by omega), List.getElem?_map, List.getElem?_eq_getElem hl]
    rfl
theorem own_keptS {S : List Nat} {w w' : World} {e : TypeId} {v : Value} {n : Nat} {xs : List Value} (ho : w.ownsRow 0 e 1 v n xs) (hk : Kept S w w') (hS : ∀ b ∈ S, ∃ o, w.heap[b]? = some o ∧ ∀ cs, o ≠ .cells cs e (0, 0)) : w'.ownsRow 0 e 1 v n xs := by
  refine ⟨ho.1, ?_⟩
  rcases ho.2 with h2 | ⟨g, cap, cur, hv, hg, hh, r'⟩
  · exact .inl h2
  · refine .inr ⟨g, cap, cur, hv, hg, (hk.block g ?_).trans hh, r'⟩
    intro hm
    obtain ⟨o, h1, h2⟩ := hS g hm
    rw [h1] at hh
    cases hh
    exact h2 _ rfl
theorem Kept.below {S : List Nat} {w w' : World} {B : Nat} (h : Kept S w w') (hS : ∀ b ∈ S, B ≤ b) : Below B w w' := ⟨h.os, h.tape, h.output, Nat.le_of_eq h.size.symm, fun k hk => h.block k (fun hm => by have := hS k hm; omega)⟩
theorem Rw.set {W : World} {gw gn : Nat} {L : List En} (h : Rw W gw gn L) (m : Nat) (e : En) : Rw ((W.setCell ⟨gw, m, none⟩ (.bool e.wt)).setCell ⟨gn, m, none⟩ (.int .u64 e.a.nxt)) gw gn (L.set m e) := by
  have hne : gw ≠ gn := by
    intro e'
    have h1 := h.hw
    rw [e', h.hn] at h1
    simp at h1
  have h1 := heap_setCell_same W gw m _ 4 (.bool e.wt) h.hw
  have h2 : (W.setCell ⟨gw, m, none⟩ (.bool e.wt)).heap[gn]? = _ := (Below.heap_setCell _ _ _ _ (fun e => hne e.symm)).trans h.hn
  refine ⟨((Below.heap_setCell _ _ _ _ hne).trans h1).trans ?_, (heap_setCell_same _ gn m _ 22 (.int .u64 e.a.nxt) h2).trans ?_⟩
  · simp [List.map_set]
  · simp [List.map_set]

end Go.Proofs.Qxb6614547a
