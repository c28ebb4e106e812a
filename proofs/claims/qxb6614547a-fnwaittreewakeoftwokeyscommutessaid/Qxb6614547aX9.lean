import Derived.Test.Qxb6614547aX8
namespace Go.Proofs.Qxb6614547a
open Go.RowKit
open Go.Deep (BT)
set_option linter.unusedVariables false

/-- rows in the making -/
def Lm (z : Value) (xs : List Value) (m : Nat) : List Value := xs.take m ++ List.replicate (xs.length - m) z
theorem Lm_set (z : Value) (xs : List Value) (m : Nat) (x : Value) (h : xs[m]? = some x) : (Lm z xs m).set m x = Lm z xs (m + 1) := by
  obtain ⟨hm, rfl⟩ := List.getElem?_eq_some_iff.1 h
  have hl : (xs.take m).length = m := by simp; omega
  unfold Lm
  rw [List.set_append_right _ _ (by omega), hl, Nat.sub_self, List.take_succ_eq_append_getElem hm]
  rw [show xs.length - m = (xs.length - (m + 1)) + 1 from by omega, List.replicate_succ]
  simp only [List.set_cons_zero, List.append_assoc, List.cons_append, List.nil_append]
theorem Lm_full (z : Value) (xs : List Value) : Lm z xs xs.length = xs := by simp [Lm]
theorem Lm_get (z : Value) (xs : List Value) (m : Nat) (h : m < xs.length) : ∃ y, (Lm z xs m)[m]? = some y := by
  refine ⟨_, List.getElem?_eq_getElem ?_⟩
  simp [Lm]; omega

set_option maxHeartbeats 4000000 in
set_option maxRecDepth 100000 in
theorem f17_any (X : BT TW) (B : Nat) (ao : Option Addr) (n cap : Nat) (w : World) (hX : XIn w B X) (hB : B ≤ w.heap.size) (ho : w.ownsRow 0 30 1 (.slice ao n cap) n ((tino X).map tptr)) (hn : n ≤ 20000) :
    Calls Try.prog 17 #[.slice ao n cap] w fun e w' => e = .returned (.tuple #[.slice (some ⟨w.heap.size, 0, none⟩) n n, .slice (some ⟨w.heap.size + 1, 0, none⟩) n n]) ∧
      w'.heap[w.heap.size]? = some (.cells ((tino X).map (fun p => Value.bool true)).toArray 4) ∧ w'.heap[w.heap.size + 1]? = some (.cells ((tino X).map (fun p => Value.int .u64 p.2.2.nxt)).toArray 22) ∧ Below w.heap.size w w' := by
  have hlen : (tino X).length = n := by have := ho.1; simpa using this
  have hm1 := mk_row w 41 4 (.bool false) 1 Try.underlying41 Try.info4 rfl n (by omega) (by omega)
  have hm2 := mk_row (w.alloc (.cells (List.replicate n (.bool false)).toArray 4)) 42 22 (.int .u64 0) 8 Try.underlying42 Try.info22 rfl n (by omega) (by omega)
  simp only [List.toArray_replicate] at hm1 hm2
  have HX := hid hX
  have HO := hid ho
  have HB := hid hB
  clear hX ho hB
  go_enter Try.func17, Try.ntmps17
  go_wp2_with fail
  have hw1 : ((w.alloc (.cells (Array.replicate n (.bool false)) 4)).alloc (.cells (Array.replicate n (.int .u64 0)) 22)).heap[w.heap.size]? = some (.cells (Array.replicate n (.bool false)) 4) := (Below.heap_alloc _ _ _ (by simp)).trans (heap_top _ _ _ rfl)
  have hw2 : ((w.alloc (.cells (Array.replicate n (.bool false)) 4)).alloc (.cells (Array.replicate n (.int .u64 0)) 22)).heap[w.heap.size + 1]? = some (.cells (Array.replicate n (.int .u64 0)) 22) := heap_top _ _ _ (by simp)
  have hbl : Below w.heap.size w ((w.alloc (.cells (Array.replicate n (.bool false)) 4)).alloc (.cells (Array.replicate n (.int .u64 0)) 22)) := ⟨rfl, rfl, rfl, by simp; omega, fun k hk => (Below.heap_alloc _ _ _ (by simp; omega)).trans (Below.heap_alloc _ _ _ hk)⟩
  have HWS : Hid (((w.alloc (.cells (Array.replicate n (.bool false)) 4)).alloc (.cells (Array.replicate n (.int .u64 0)) 22)).heap.size = w.heap.size + 2) := by show _ = _; simp
  clear hm1 hm2
  generalize ((w.alloc (.cells (Array.replicate n (.bool false)) 4)).alloc (.cells (Array.replicate n (.int .u64 0)) 22)) = w1 at hw1 hw2 hbl HWS ⊢
  have HW1 := hid hw1
  have HW2 := hid hw2
  have HBL := hid hbl
  have hg0 : ¬ w.heap.size = w.heap.size + 1 := by omega
  have hg1 : ¬ w.heap.size + 1 = w.heap.size := by omega
  clear hw1 hw2 hbl
  go_wp2_with fail
  go_loopw [6] (fun i wr => ∃ m : Nat, m ≤ n ∧ i = .int .i64 m ∧ Hid (wr.heap[w.heap.size]? = some (.cells (Lm (.bool false) ((tino X).map (fun p => Value.bool true)) m).toArray 4)) ∧ Hid (wr.heap[w.heap.size + 1]? = some (.cells (Lm (.int .u64 0) ((tino X).map (fun p => Value.int .u64 p.2.2.nxt)) m).toArray 22)) ∧ Hid (Kept [w.heap.size, w.heap.size + 1] w1 wr)) (fun i _ => n - (intOf i).toNat)
  case atStart => exact ⟨0, Nat.zero_le _, rfl, hid (by rw [HW1.out]; simp [Lm, hlen]), hid (by rw [HW2.out]; simp [Lm, hlen]), Kept.refl _ _⟩
  case round =>
    obtain ⟨m, hm, rfl, h1, h2, hk⟩ := hrel
    by_cases hlt : m < n
    · have hbr := HBL.out.trans (hk.out.below (B := w.heap.size) (by intro b hb; simp at hb; omega))
      have hor : wr.ownsRow 0 30 1 (.slice ao n cap) n ((tino X).map tptr) := by
        refine ⟨HO.out.1, ?_⟩
        rcases HO.out.2 with h | ⟨g, cap', cur, hv, hg, hh, r⟩
        · exact .inl h
        · exact .inr ⟨g, cap', cur, hv, hg, (hbr.block g (Array.getElem?_eq_some_iff.1 hh).1).trans hh, r⟩
      obtain ⟨g, rfl, ⟨b1, o1, a1⟩, hp1, hc1⟩ := ins_row hor m hlt
      simp only [tptr] at hc1
      obtain ⟨l1, r1, hn1⟩ := HX.out.node _ (List.mem_of_getElem? hp1)
      have c2 := (hn1.below ⟨hbr.os, hbr.tape, hbr.output, hbr.size, fun k hk => hbr.block k (Nat.lt_of_lt_of_le hk HB.out)⟩).c2
      simp only at c2
      obtain ⟨y1, hy1⟩ := Lm_get (.bool false) ((tino X).map (fun p => Value.bool true)) m (by simp; omega)
      obtain ⟨y2, hy2⟩ := Lm_get (.int .u64 0) ((tino X).map (fun p => Value.int .u64 p.2.2.nxt)) m (by simp; omega)
      have cw : wr.cell? ⟨w.heap.size, m, none⟩ = some y1 := (cell_of_row _ _ m _ _ _ h1.out).trans (by simpa using hy1)
      have cn : wr.cell? ⟨w.heap.size + 1, m, none⟩ = some y2 := (cell_of_row _ _ m _ _ _ h2.out).trans (by simpa using hy2)
      have fw := frozen_of_row _ _ m _ _ h1.out
      have fn := frozen_of_row _ _ m _ _ h2.out
      have i1 : (m : Int) < (n : Int) := by omega
      have hgi : g < w.heap.size := by
        rcases HO.out.2 with ⟨h, _⟩ | ⟨g', cap', cur, hv, hg, hh, r⟩
        · cases h
        · cases hv; exact (Array.getElem?_eq_some_iff.1 hh).1
      have hq1 : ¬ g = w.heap.size := by omega
      have hq2 : ¬ w.heap.size = g := by omega
      have hbi : b1 < w.heap.size := Nat.lt_of_lt_of_le hn1.lt HB.out
      have hq3 : ¬ b1 = w.heap.size := by omega
      have hq4 : ¬ w.heap.size = b1 := by omega
      have HP := hid hp1
      clear hbr hor hn1 hp1 hy1 hy2
      go_wp2_with fail
      go_roundw
      case rel =>
        refine ⟨m + 1, by omega, by go_num, hid ?_, hid ?_, hid ((hk.out.setCell (by simp) _).setCell (by simp) _)⟩
        · refine ((Below.heap_setCell _ _ _ _ hg0).trans (heap_setCell_same _ _ m _ 4 _ h1.out)).trans ?_
          rw [List.setIfInBounds_toArray, Lm_set]
          rw [List.getElem?_map, HP.out]; rfl
        · refine (heap_setCell_same _ _ m _ 22 _ ((Below.heap_setCell _ _ _ _ hg1).trans h2.out)).trans ?_
          rw [List.setIfInBounds_toArray, Lm_set]
          rw [List.getElem?_map, HP.out]; rfl
      case measure => simp [intOf]; omega
    · have i1 : ¬ (m : Int) < (n : Int) := by omega
      have HMN : Hid (m = n) := by show m = n; omega
      go_wp2_with fail
      refine bodyPost_ret (v := .tuple #[.slice (some ⟨w.heap.size, 0, none⟩) n n, .slice (some ⟨w.heap.size + 1, 0, none⟩) n n]) (by simp [results, Try.results17, go_sem]) rfl ⟨rfl, ?_, ?_, ?_⟩
      · have := h1.out
        rw [HMN.out] at this
        rw [this]
        have h3 : n = ((tino X).map (fun p => Value.bool true)).length := by simp [hlen]
        conv => { lhs; rw [h3] }
        rw [Lm_full]
      · have := h2.out
        rw [HMN.out] at this
        rw [this]
        have h3 : n = ((tino X).map (fun p => Value.int .u64 p.2.2.nxt)).length := by simp [hlen]
        conv => { lhs; rw [h3] }
        rw [Lm_full]
      · exact HBL.out.trans (hk.out.below (B := w.heap.size) (by intro b hb; simp at hb; omega))
end Go.Proofs.Qxb6614547a
