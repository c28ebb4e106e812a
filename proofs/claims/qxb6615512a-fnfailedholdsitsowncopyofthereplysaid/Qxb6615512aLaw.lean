import Derived.Test.Qxb6615512aParts
namespace Go.Proofs.Qxb6615512a
open Go.RowKit

theorem zst_new (W : World) (g : Nat) (hg : g = W.heap.size) : (storeCells ⟨g, 0, none⟩ zmsg.toList 0).run Try.prog (W.alloc (.cells zmsg 42)) = .ok () (W.alloc (.cells zmsg 42)) := by
  subst hg
  exact run_storeCells_new W 42 _ _ zinfo rfl (by simp [zmsg, Value.oneCell'])

theorem ptr_other (W : World) (a b : Nat) (ca cb : Array Value) (ta tb : TypeId) (hne : a ≠ b) (ha : W.heap[a]? = some (.cells ca ta (0, 0))) (hb : W.heap[b]? = some (.cells cb tb (0, 0))) (o : Obj) :
    (binOp .eql 44 (.pointer (some ⟨a, 0, none⟩)) (.pointer (some ⟨b, 0, none⟩))).run Try.prog (W.alloc o) = .ok (.bool false) (W.alloc o) := by
  have h : (Try.prog.info? 30).map (·.size) = some 5 := by kernel_rfl
  cases hj : Try.prog.info? 30 with
  | none => simp [hj] at h
  | some j =>
    have hs : j.size = 5 := by simpa [hj] using h
    refine run_eql_ptr_other (W.alloc o) (ca := ca) (cb := cb) (ta := ta) (tb := tb) Try.underlying44 hj (by omega) (by simp only [ne_eq, Addr.mk.injEq, and_self, and_true]; exact hne) ?_ ?_
    · show (W.alloc o).heap[a]? = _
      rw [heap_alloc_old _ _ (Array.getElem?_eq_some_iff.1 ha).1]; exact ha
    · show (W.alloc o).heap[b]? = _
      rw [heap_alloc_old _ _ (Array.getElem?_eq_some_iff.1 hb).1]; exact hb

theorem hid {p : Prop} (h : p) : Hid p := h
theorem kept {W W' : World} (h : Below W.heap.size W W') {g : Nat} {o : Obj} (hg : W.heap[g]? = some o) : W'.heap[g]? = some o :=
  (h.block g (Array.getElem?_eq_some_iff.1 hg).1).trans hg
theorem grew (W : World) (o : Obj) : Below W.heap.size W (W.alloc o) := (Below.refl _ _).alloc (Nat.le_refl _) o
theorem f8_lit (w : World) :
    Calls Try.prog 8 #[.agg #[.string ⟨#[]⟩, .string ⟨#[]⟩, .string ⟨#[]⟩, .string ⟨#[]⟩, .slice none 0 0, .string ⟨#[]⟩, .pointer none, .int .i64 0, .int .i64 0, .int .i64 0, .int .i64 0, .int .i64 0, .int .i64 0, .int .i64 0, .string ⟨#[]⟩]] w fun e w' => e = .returned (.bool true) ∧ w' = w.alloc (.cells zmsg 42) := f8_any w

set_option maxHeartbeats 1000000 in
set_option maxRecDepth 100000 in
theorem law_big (a0 a5 : Int) (a : Option Addr) (len cap : Nat) (a2 a3 : ByteArray) (a4 : Bool) (w : World) (h1 : len ≤ 9223372036854775807) (h2 : a2.size ≤ 9223372036854775807) (h3 : a3.size ≤ 9223372036854775807) (h : ¬ len + a2.size + a3.size ≤ 1048576) :
    Calls Try.prog 3 #[.int .i64 a0, .slice a len cap, .string a2, .string a3, .bool a4, .int .i64 a5] w fun e w' => e = .returned (.bool true) ∧ Below w.heap.size w w' := by
  go_enter Try.func3, Try.ntmps3
  go_wp2_with fail
  refine (f4_false _ _ _ _ _ _ _ _ _ h1 h2 h3 h).mono ?_
  rintro e w0 ⟨rfl, rfl⟩
  go_wp2
  go_ret
  exact ⟨rfl, Below.refl _ _⟩

set_option maxHeartbeats 4000000 in
set_option maxRecDepth 100000 in
theorem law_false (a0 a5 : Int) (a : Option Addr) (len cap : Nat) (zs : List Int) (a2 a3 : ByteArray) (w : World) (h : len + a2.size + a3.size ≤ 1048576)
    (hr : (a = none ∧ len = 0 ∧ cap = 0 ∧ zs = []) ∨ ∃ x, a = some x ∧ len ≤ cap ∧ cap ≤ maxLen ∧ zs.length = cap ∧ (∀ i, i < zs.length → w.cell? (x.add i) = some (.int .u8 (zs.getD i 0))) ∧ ∀ n ∈ zs, (Lit.int .u8 n).wf = true) :
    Calls Try.prog 3 #[.int .i64 a0, .slice a len cap, .string a2, .string a3, .bool false, .int .i64 a5] w fun e w' => e = .returned (.bool true) ∧ Below w.heap.size w w' := by
  have hz2 := zzero
  have hzm := zst_new
  have hzs := zmsg_size
  have hr' := hr
  obtain ⟨B, hB⟩ : ∃ B, B = w.heap.size := ⟨_, rfl⟩
  have HB : Hid (B = w.heap.size) := hB
  have HR : Hid ((a = none ∧ len = 0 ∧ cap = 0 ∧ zs = []) ∨ ∃ x, a = some x ∧ len ≤ cap ∧ cap ≤ maxLen ∧ zs.length = cap ∧ (∀ i, i < zs.length → w.cell? (x.add i) = some (.int .u8 (zs.getD i 0))) ∧ ∀ n ∈ zs, (Lit.int .u8 n).wf = true) := hr
  clear hr hr' hB
  go_enter Try.func3, Try.ntmps3
  go_wp2_with fail
  refine (f4_true _ _ _ _ _ _ _ _ _ h).mono ?_
  rintro e w0 ⟨rfl, hw0⟩
  have HW0 : Hid (w0 = w) := hw0
  clear hw0
  go_wp2_with fail
  rw [HW0.out]
  refine (clone_any a len cap zs w (by omega) HR.out).mono ?_
  rintro e w1 ⟨x, rfl, hbody, hb1⟩
  rw [← HB.out] at hb1
  have HN1 : Hid (B ≤ w1.heap.size) := by have h1 := hb1.size; have h2 := HB.out; show B ≤ _; omega
  go_wp2_with fail
  have hbel := (hb1.alloc HN1.out (.cells #[.int .i64 a0, .slice x len len, .string a2, .string a3, .pointer none] 30))
  have hbo := hbody.below (grew w1 (.cells #[.int .i64 a0, .slice x len len, .string a2, .string a3, .pointer none] 30))
  have hhR := heap_alloc_new w1 (.cells #[.int .i64 a0, .slice x len len, .string a2, .string a3, .pointer none] 30)
  have hsz : (w1.alloc (.cells #[.int .i64 a0, .slice x len len, .string a2, .string a3, .pointer none] 30)).heap.size = w1.heap.size + 1 := by simp
  have HBN : Hid (B ≤ w1.heap.size) := HN1
  generalize w1.alloc (.cells #[.int .i64 a0, .slice x len len, .string a2, .string a3, .pointer none] 30) = W3 at hbel hbo hhR hsz ⊢
  generalize w1.heap.size = N at hhR hsz HBN ⊢
  refine (f6_any _ _ _ _ _ _ _ W3).mono ?_
  rintro e w2 ⟨rfl, hb2, hs2, hh2⟩
  have hN2 := kept hb2 hhR
  have hbo2 := hbo.below hb2
  have hbel2 := hbel.trans (hb2.mono (by have := HBN.out; omega))
  rw [hsz] at hs2 hh2 ⊢
  have c0 := cell_of_row w2 N 0 _ _ _ hN2
  have c1 := cell_of_row w2 N 1 _ _ _ hN2
  have c2 := cell_of_row w2 N 2 _ _ _ hN2
  have c3 := cell_of_row w2 N 3 _ _ _ hN2
  have c4 := cell_of_row w2 N 4 _ _ _ hN2
  simp at c0 c1 c2 c3 c4
  have HS2 : Hid (w2.heap.size = N + 1 + 5) := hs2
  have hlt2 : N < w2.heap.size := by omega
  have HH2 := hid hh2
  have HN2 := hid hN2
  clear hb2 hs2 hh2 hN2 hbel hbo hhR hsz
  go_wp2_with fail
  have hN4 := kept (grew w2 (.cells zmsg 42)) HN2.out
  have hF4 := kept (grew w2 (.cells zmsg 42)) HH2.out
  have hM4 := heap_alloc_new w2 (.cells zmsg 42)
  have hbo4 := hbo2.below (grew w2 (.cells zmsg 42))
  have hbel4 := hbel2.alloc (by have h1 := HS2.out; have h2 := HBN.out; omega) (.cells zmsg 42)
  have hsz4 : (w2.alloc (.cells zmsg 42)).heap.size = w2.heap.size + 1 := by simp
  rw [HS2.out] at hM4 hsz4 ⊢
  clear hlt2 c0 c1 c2 c3 c4 hbo2 hbel2 HN2 HH2
  generalize w2.alloc (.cells zmsg 42) = W4 at hN4 hF4 hM4 hbo4 hbel4 hsz4 ⊢
  refine (f6_any _ _ _ _ _ _ _ W4).mono ?_
  rintro e w5 ⟨rfl, hb5, hs5, hh5⟩
  have hN5 := kept hb5 hN4
  have hF5 := kept hb5 hF4
  have hM5 := kept hb5 hM4
  have hbo5 := hbo4.below hb5
  have hbel5 := hbel4.trans (hb5.mono (by have := HBN.out; omega))
  rw [hsz4] at hs5 hh5 ⊢
  have hpo := ptr_other w5 _ _ _ _ _ _ (show N + 1 + 1 + 1 ≠ N + 1 + 5 + 1 + 1 + 1 by omega) hF5 hh5
  have HS5 : Hid (w5.heap.size = N + 1 + 5 + 1 + 5) := hs5
  have HH5 := hid hh5
  have HN5 := hid hN5
  have HF5 := hid hF5
  have HM5 := hid hM5
  clear hb5 hs5 hh5 hN5 hF5 hM5 hN4 hF4 hM4 hbo4 hbel4 hsz4
  go_wp2_with fail
  have hN6 := kept (grew w5 (.cells zmsg 42)) HN5.out
  have hF6 := kept (grew w5 (.cells zmsg 42)) HF5.out
  have hG6 := kept (grew w5 (.cells zmsg 42)) HH5.out
  have hM6 := kept (grew w5 (.cells zmsg 42)) HM5.out
  have hL6 := heap_alloc_new w5 (.cells zmsg 42)
  have hbo6 := hbo5.below (grew w5 (.cells zmsg 42))
  have hbel6 := hbel5.alloc (by have h1 := HS5.out; have h2 := HBN.out; omega) (.cells zmsg 42)
  have hsz6 : (w5.alloc (.cells zmsg 42)).heap.size = w5.heap.size + 1 := by simp
  rw [HS5.out] at hL6 hsz6 ⊢
  clear hpo hbo5 hbel5 HN5 HF5 HH5 HM5 hz2 hzm hzs
  generalize w5.alloc (.cells zmsg 42) = W6 at hN6 hF6 hG6 hM6 hL6 hbo6 hbel6 hsz6 ⊢
  have HN6 := hid hN6
  have HF6 := hid hF6
  have HG6 := hid hG6
  have HM6 := hid hM6
  have HL6 := hid hL6
  have HS6 := hid hsz6
  have HBO := hid hbo6
  have HBE := hid hbel6
  clear hN6 hF6 hG6 hM6 hL6 hsz6 hbo6 hbel6
  refine (f7_any _ _ _ _ _ _ _ W6 HBO.out HF6.out).mono ?_
  rintro e w7 ⟨rfl, q1, rfl⟩
  go_wp2_with fail
  refine (f7_any _ _ _ _ _ _ _ (W6.drewN q1) HBO.out HG6.out).mono ?_
  rintro e w8 ⟨rfl, q2, rfl⟩
  have hM6 := HM6.out
  have hL6 := HL6.out
  have x0 : W6.cell? ⟨N + 1 + 5, 0, none⟩ = some (.string ⟨#[]⟩) := cell_of_row _ _ 0 _ _ _ hM6
  have x1 : W6.cell? ⟨N + 1 + 5, 1, none⟩ = some (.string ⟨#[]⟩) := cell_of_row _ _ 1 _ _ _ hM6
  have x2 : W6.cell? ⟨N + 1 + 5, 2, none⟩ = some (.string ⟨#[]⟩) := cell_of_row _ _ 2 _ _ _ hM6
  have x3 : W6.cell? ⟨N + 1 + 5, 3, none⟩ = some (.string ⟨#[]⟩) := cell_of_row _ _ 3 _ _ _ hM6
  have x4 : W6.cell? ⟨N + 1 + 5, 4, none⟩ = some (.slice none 0 0) := cell_of_row _ _ 4 _ _ _ hM6
  have x5 : W6.cell? ⟨N + 1 + 5, 5, none⟩ = some (.string ⟨#[]⟩) := cell_of_row _ _ 5 _ _ _ hM6
  have x6 : W6.cell? ⟨N + 1 + 5, 6, none⟩ = some (.pointer none) := cell_of_row _ _ 6 _ _ _ hM6
  have x7 : W6.cell? ⟨N + 1 + 5, 7, none⟩ = some (.int .i64 0) := cell_of_row _ _ 7 _ _ _ hM6
  have x8 : W6.cell? ⟨N + 1 + 5, 8, none⟩ = some (.int .i64 0) := cell_of_row _ _ 8 _ _ _ hM6
  have x9 : W6.cell? ⟨N + 1 + 5, 9, none⟩ = some (.int .i64 0) := cell_of_row _ _ 9 _ _ _ hM6
  have x10 : W6.cell? ⟨N + 1 + 5, 10, none⟩ = some (.int .i64 0) := cell_of_row _ _ 10 _ _ _ hM6
  have x11 : W6.cell? ⟨N + 1 + 5, 11, none⟩ = some (.int .i64 0) := cell_of_row _ _ 11 _ _ _ hM6
  have x12 : W6.cell? ⟨N + 1 + 5, 12, none⟩ = some (.int .i64 0) := cell_of_row _ _ 12 _ _ _ hM6
  have x13 : W6.cell? ⟨N + 1 + 5, 13, none⟩ = some (.int .i64 0) := cell_of_row _ _ 13 _ _ _ hM6
  have x14 : W6.cell? ⟨N + 1 + 5, 14, none⟩ = some (.string ⟨#[]⟩) := cell_of_row _ _ 14 _ _ _ hM6
  have y0 : W6.cell? ⟨N + 1 + 5 + 1 + 5, 0, none⟩ = some (.string ⟨#[]⟩) := cell_of_row _ _ 0 _ _ _ hL6
  have y1 : W6.cell? ⟨N + 1 + 5 + 1 + 5, 1, none⟩ = some (.string ⟨#[]⟩) := cell_of_row _ _ 1 _ _ _ hL6
  have y2 : W6.cell? ⟨N + 1 + 5 + 1 + 5, 2, none⟩ = some (.string ⟨#[]⟩) := cell_of_row _ _ 2 _ _ _ hL6
  have y3 : W6.cell? ⟨N + 1 + 5 + 1 + 5, 3, none⟩ = some (.string ⟨#[]⟩) := cell_of_row _ _ 3 _ _ _ hL6
  have y4 : W6.cell? ⟨N + 1 + 5 + 1 + 5, 4, none⟩ = some (.slice none 0 0) := cell_of_row _ _ 4 _ _ _ hL6
  have y5 : W6.cell? ⟨N + 1 + 5 + 1 + 5, 5, none⟩ = some (.string ⟨#[]⟩) := cell_of_row _ _ 5 _ _ _ hL6
  have y6 : W6.cell? ⟨N + 1 + 5 + 1 + 5, 6, none⟩ = some (.pointer none) := cell_of_row _ _ 6 _ _ _ hL6
  have y7 : W6.cell? ⟨N + 1 + 5 + 1 + 5, 7, none⟩ = some (.int .i64 0) := cell_of_row _ _ 7 _ _ _ hL6
  have y8 : W6.cell? ⟨N + 1 + 5 + 1 + 5, 8, none⟩ = some (.int .i64 0) := cell_of_row _ _ 8 _ _ _ hL6
  have y9 : W6.cell? ⟨N + 1 + 5 + 1 + 5, 9, none⟩ = some (.int .i64 0) := cell_of_row _ _ 9 _ _ _ hL6
  have y10 : W6.cell? ⟨N + 1 + 5 + 1 + 5, 10, none⟩ = some (.int .i64 0) := cell_of_row _ _ 10 _ _ _ hL6
  have y11 : W6.cell? ⟨N + 1 + 5 + 1 + 5, 11, none⟩ = some (.int .i64 0) := cell_of_row _ _ 11 _ _ _ hL6
  have y12 : W6.cell? ⟨N + 1 + 5 + 1 + 5, 12, none⟩ = some (.int .i64 0) := cell_of_row _ _ 12 _ _ _ hL6
  have y13 : W6.cell? ⟨N + 1 + 5 + 1 + 5, 13, none⟩ = some (.int .i64 0) := cell_of_row _ _ 13 _ _ _ hL6
  have y14 : W6.cell? ⟨N + 1 + 5 + 1 + 5, 14, none⟩ = some (.string ⟨#[]⟩) := cell_of_row _ _ 14 _ _ _ hL6
  clear hM6 hL6
  go_wp2_with fail
  refine (f8_lit (W6.drewN (q1 + q2))).mono ?_
  rintro e w9 ⟨rfl, hw9⟩
  have hg9 := grew (W6.drewN (q1 + q2)) (.cells zmsg 42)
  rw [← hw9] at hg9
  have HN8 := hid (kept hg9 HN6.out)
  have HF8 := hid (kept hg9 HF6.out)
  have HG8 := hid (kept hg9 HG6.out)
  have hL8 := kept hg9 HL6.out
  have HBE8 := hid (Below.trans HBE.out (Below.mono ⟨hg9.os, hg9.tape, hg9.output, hg9.size, hg9.block⟩ (by have h1 := HS6.out; have h2 := HBN.out; simp; omega)))
  have HS8 : Hid (N + 1 + 5 + 1 + 5 + 1 ≤ w9.heap.size) := by have h1 := HS6.out; have h2 := hg9.size; simp at h2; show _ ≤ _; omega
  clear x0 x1 x2 x3 x4 x5 x6 x7 x8 x9 x10 x11 x12 x13 x14 y0 y1 y2 y3 y4 y5 y6 y7 y8 y9 y10 y11 y12 y13 y14 hw9 hg9 HN6 HF6 HG6 HM6 HL6 HBO HBE
  generalize w9 = W8 at *
  have z0 : W8.cell? ⟨N + 1 + 5 + 1 + 5, 0, none⟩ = some (.string ⟨#[]⟩) := cell_of_row _ _ 0 _ _ _ hL8
  have z1 : W8.cell? ⟨N + 1 + 5 + 1 + 5, 1, none⟩ = some (.string ⟨#[]⟩) := cell_of_row _ _ 1 _ _ _ hL8
  have z2 : W8.cell? ⟨N + 1 + 5 + 1 + 5, 2, none⟩ = some (.string ⟨#[]⟩) := cell_of_row _ _ 2 _ _ _ hL8
  have z3 : W8.cell? ⟨N + 1 + 5 + 1 + 5, 3, none⟩ = some (.string ⟨#[]⟩) := cell_of_row _ _ 3 _ _ _ hL8
  have z4 : W8.cell? ⟨N + 1 + 5 + 1 + 5, 4, none⟩ = some (.slice none 0 0) := cell_of_row _ _ 4 _ _ _ hL8
  have z5 : W8.cell? ⟨N + 1 + 5 + 1 + 5, 5, none⟩ = some (.string ⟨#[]⟩) := cell_of_row _ _ 5 _ _ _ hL8
  have z6 : W8.cell? ⟨N + 1 + 5 + 1 + 5, 6, none⟩ = some (.pointer none) := cell_of_row _ _ 6 _ _ _ hL8
  have z7 : W8.cell? ⟨N + 1 + 5 + 1 + 5, 7, none⟩ = some (.int .i64 0) := cell_of_row _ _ 7 _ _ _ hL8
  have z8 : W8.cell? ⟨N + 1 + 5 + 1 + 5, 8, none⟩ = some (.int .i64 0) := cell_of_row _ _ 8 _ _ _ hL8
  have z9 : W8.cell? ⟨N + 1 + 5 + 1 + 5, 9, none⟩ = some (.int .i64 0) := cell_of_row _ _ 9 _ _ _ hL8
  have z10 : W8.cell? ⟨N + 1 + 5 + 1 + 5, 10, none⟩ = some (.int .i64 0) := cell_of_row _ _ 10 _ _ _ hL8
  have z11 : W8.cell? ⟨N + 1 + 5 + 1 + 5, 11, none⟩ = some (.int .i64 0) := cell_of_row _ _ 11 _ _ _ hL8
  have z12 : W8.cell? ⟨N + 1 + 5 + 1 + 5, 12, none⟩ = some (.int .i64 0) := cell_of_row _ _ 12 _ _ _ hL8
  have z13 : W8.cell? ⟨N + 1 + 5 + 1 + 5, 13, none⟩ = some (.int .i64 0) := cell_of_row _ _ 13 _ _ _ hL8
  have z14 : W8.cell? ⟨N + 1 + 5 + 1 + 5, 14, none⟩ = some (.string ⟨#[]⟩) := cell_of_row _ _ 14 _ _ _ hL8
  clear hL8
  go_wp2_with fail
  refine (f8_lit W8).mono ?_
  rintro e wa ⟨rfl, hwa⟩
  have hga := grew W8 (.cells zmsg 42)
  rw [← hwa] at hga
  have n0 := cell_of_row _ _ 0 _ _ _ (kept hga HN8.out)
  have f0 := cell_of_row _ _ 0 _ _ _ (kept hga HF8.out)
  have g0 := cell_of_row _ _ 0 _ _ _ (kept hga HG8.out)
  have fz := frozen_of_row _ _ 0 _ _ (kept hga HF8.out)
  simp at n0 f0 g0
  have HBEa := hid (Below.trans HBE8.out (hga.mono (by have h1 := HS8.out; have h2 := HBN.out; omega)))
  clear z0 z1 z2 z3 z4 z5 z6 z7 z8 z9 z10 z11 z12 z13 z14 hwa hga HN8 HF8 HG8 HBE8
  go_wp2
  go_ret
  refine ⟨rfl, ?_⟩
  rw [← HB.out]
  exact HBEa.out.setCell (by have := HBN.out; show B ≤ N + 1 + 1 + 1; omega) _

set_option maxHeartbeats 4000000 in
set_option maxRecDepth 100000 in
theorem law_true (a0 a5 : Int) (a : Option Addr) (len cap : Nat) (zs : List Int) (a2 a3 : ByteArray) (w : World) (h : len + a2.size + a3.size ≤ 1048576)
    (hr : (a = none ∧ len = 0 ∧ cap = 0 ∧ zs = []) ∨ ∃ x, a = some x ∧ len ≤ cap ∧ cap ≤ maxLen ∧ zs.length = cap ∧ (∀ i, i < zs.length → w.cell? (x.add i) = some (.int .u8 (zs.getD i 0))) ∧ ∀ n ∈ zs, (Lit.int .u8 n).wf = true) :
    Calls Try.prog 3 #[.int .i64 a0, .slice a len cap, .string a2, .string a3, .bool true, .int .i64 a5] w fun e w' => e = .returned (.bool true) ∧ Below w.heap.size w w' := by
  have hz2 := zzero
  have hzm := zst_new
  have hzs := zmsg_size
  have hr' := hr
  obtain ⟨B, hB⟩ : ∃ B, B = w.heap.size := ⟨_, rfl⟩
  have HB : Hid (B = w.heap.size) := hB
  have HR : Hid ((a = none ∧ len = 0 ∧ cap = 0 ∧ zs = []) ∨ ∃ x, a = some x ∧ len ≤ cap ∧ cap ≤ maxLen ∧ zs.length = cap ∧ (∀ i, i < zs.length → w.cell? (x.add i) = some (.int .u8 (zs.getD i 0))) ∧ ∀ n ∈ zs, (Lit.int .u8 n).wf = true) := hr
  clear hr hr' hB
  go_enter Try.func3, Try.ntmps3
  go_wp2_with fail
  refine (f4_true _ _ _ _ _ _ _ _ _ h).mono ?_
  rintro e w0 ⟨rfl, hw0⟩
  have HW0 : Hid (w0 = w) := hw0
  clear hw0
  go_wp2_with fail
  rw [HW0.out]
  refine (clone_any a len cap zs w (by omega) HR.out).mono ?_
  rintro e w1 ⟨x, rfl, hbody, hb1⟩
  rw [← HB.out] at hb1
  have HN1 : Hid (B ≤ w1.heap.size) := by have h1 := hb1.size; have h2 := HB.out; show B ≤ _; omega
  go_wp2_with fail
  have hbel := ((hb1.alloc HN1.out (.cells #[.int .i64 a5] 27)).alloc (by have := HN1.out; simp; omega) (.cells #[.int .i64 a0, .slice x len len, .string a2, .string a3, .pointer (some ⟨w1.heap.size, 0, none⟩)] 30))
  have hbo := (hbody.below (grew w1 (.cells #[.int .i64 a5] 27))).below (grew _ (.cells #[.int .i64 a0, .slice x len len, .string a2, .string a3, .pointer (some ⟨w1.heap.size, 0, none⟩)] 30))
  have hhR := heap_alloc2_new w1 (.cells #[.int .i64 a5] 27) (.cells #[.int .i64 a0, .slice x len len, .string a2, .string a3, .pointer (some ⟨w1.heap.size, 0, none⟩)] 30)
  have hsz : ((w1.alloc (.cells #[.int .i64 a5] 27)).alloc (.cells #[.int .i64 a0, .slice x len len, .string a2, .string a3, .pointer (some ⟨w1.heap.size, 0, none⟩)] 30)).heap.size = w1.heap.size + 1 + 1 := by simp
  have HBN : Hid (B ≤ w1.heap.size + 1) := by have := HN1.out; show _ ≤ _; omega
  generalize (w1.alloc (.cells #[.int .i64 a5] 27)).alloc (.cells #[.int .i64 a0, .slice x len len, .string a2, .string a3, .pointer (some ⟨w1.heap.size, 0, none⟩)] 30) = W3 at hbel hbo hhR hsz ⊢
  generalize (some ⟨w1.heap.size, 0, none⟩ : Option Addr) = fp at hhR ⊢
  generalize w1.heap.size + 1 = N at hhR hsz HBN ⊢
  refine (f6_any _ _ _ _ _ _ _ W3).mono ?_
  rintro e w2 ⟨rfl, hb2, hs2, hh2⟩
  have hN2 := kept hb2 hhR
  have hbo2 := hbo.below hb2
  have hbel2 := hbel.trans (hb2.mono (by have := HBN.out; omega))
  rw [hsz] at hs2 hh2 ⊢
  have c0 := cell_of_row w2 N 0 _ _ _ hN2
  have c1 := cell_of_row w2 N 1 _ _ _ hN2
  have c2 := cell_of_row w2 N 2 _ _ _ hN2
  have c3 := cell_of_row w2 N 3 _ _ _ hN2
  have c4 := cell_of_row w2 N 4 _ _ _ hN2
  simp at c0 c1 c2 c3 c4
  have HS2 : Hid (w2.heap.size = N + 1 + 5) := hs2
  have hlt2 : N < w2.heap.size := by omega
  have HH2 := hid hh2
  have HN2 := hid hN2
  clear hb2 hs2 hh2 hN2 hbel hbo hhR hsz
  go_wp2_with fail
  have hN4 := kept (grew w2 (.cells zmsg 42)) HN2.out
  have hF4 := kept (grew w2 (.cells zmsg 42)) HH2.out
  have hM4 := heap_alloc_new w2 (.cells zmsg 42)
  have hbo4 := hbo2.below (grew w2 (.cells zmsg 42))
  have hbel4 := hbel2.alloc (by have h1 := HS2.out; have h2 := HBN.out; omega) (.cells zmsg 42)
  have hsz4 : (w2.alloc (.cells zmsg 42)).heap.size = w2.heap.size + 1 := by simp
  rw [HS2.out] at hM4 hsz4 ⊢
  clear hlt2 c0 c1 c2 c3 c4 hbo2 hbel2 HN2 HH2
  generalize w2.alloc (.cells zmsg 42) = W4 at hN4 hF4 hM4 hbo4 hbel4 hsz4 ⊢
  refine (f6_any _ _ _ _ _ _ _ W4).mono ?_
  rintro e w5 ⟨rfl, hb5, hs5, hh5⟩
  have hN5 := kept hb5 hN4
  have hF5 := kept hb5 hF4
  have hM5 := kept hb5 hM4
  have hbo5 := hbo4.below hb5
  have hbel5 := hbel4.trans (hb5.mono (by have := HBN.out; omega))
  rw [hsz4] at hs5 hh5 ⊢
  have hpo := ptr_other w5 _ _ _ _ _ _ (show N + 1 + 1 + 1 ≠ N + 1 + 5 + 1 + 1 + 1 by omega) hF5 hh5
  have HS5 : Hid (w5.heap.size = N + 1 + 5 + 1 + 5) := hs5
  have HH5 := hid hh5
  have HN5 := hid hN5
  have HF5 := hid hF5
  have HM5 := hid hM5
  clear hb5 hs5 hh5 hN5 hF5 hM5 hN4 hF4 hM4 hbo4 hbel4 hsz4
  go_wp2_with fail
  have hN6 := kept (grew w5 (.cells zmsg 42)) HN5.out
  have hF6 := kept (grew w5 (.cells zmsg 42)) HF5.out
  have hG6 := kept (grew w5 (.cells zmsg 42)) HH5.out
  have hM6 := kept (grew w5 (.cells zmsg 42)) HM5.out
  have hL6 := heap_alloc_new w5 (.cells zmsg 42)
  have hbo6 := hbo5.below (grew w5 (.cells zmsg 42))
  have hbel6 := hbel5.alloc (by have h1 := HS5.out; have h2 := HBN.out; omega) (.cells zmsg 42)
  have hsz6 : (w5.alloc (.cells zmsg 42)).heap.size = w5.heap.size + 1 := by simp
  rw [HS5.out] at hL6 hsz6 ⊢
  clear hpo hbo5 hbel5 HN5 HF5 HH5 HM5 hz2 hzm hzs
  generalize w5.alloc (.cells zmsg 42) = W6 at hN6 hF6 hG6 hM6 hL6 hbo6 hbel6 hsz6 ⊢
  have HN6 := hid hN6
  have HF6 := hid hF6
  have HG6 := hid hG6
  have HM6 := hid hM6
  have HL6 := hid hL6
  have HS6 := hid hsz6
  have HBO := hid hbo6
  have HBE := hid hbel6
  clear hN6 hF6 hG6 hM6 hL6 hsz6 hbo6 hbel6
  refine (f7_any _ _ _ _ _ _ _ W6 HBO.out HF6.out).mono ?_
  rintro e w7 ⟨rfl, q1, rfl⟩
  go_wp2_with fail
  refine (f7_any _ _ _ _ _ _ _ (W6.drewN q1) HBO.out HG6.out).mono ?_
  rintro e w8 ⟨rfl, q2, rfl⟩
  have hM6 := HM6.out
  have hL6 := HL6.out
  have x0 : W6.cell? ⟨N + 1 + 5, 0, none⟩ = some (.string ⟨#[]⟩) := cell_of_row _ _ 0 _ _ _ hM6
  have x1 : W6.cell? ⟨N + 1 + 5, 1, none⟩ = some (.string ⟨#[]⟩) := cell_of_row _ _ 1 _ _ _ hM6
  have x2 : W6.cell? ⟨N + 1 + 5, 2, none⟩ = some (.string ⟨#[]⟩) := cell_of_row _ _ 2 _ _ _ hM6
  have x3 : W6.cell? ⟨N + 1 + 5, 3, none⟩ = some (.string ⟨#[]⟩) := cell_of_row _ _ 3 _ _ _ hM6
  have x4 : W6.cell? ⟨N + 1 + 5, 4, none⟩ = some (.slice none 0 0) := cell_of_row _ _ 4 _ _ _ hM6
  have x5 : W6.cell? ⟨N + 1 + 5, 5, none⟩ = some (.string ⟨#[]⟩) := cell_of_row _ _ 5 _ _ _ hM6
  have x6 : W6.cell? ⟨N + 1 + 5, 6, none⟩ = some (.pointer none) := cell_of_row _ _ 6 _ _ _ hM6
  have x7 : W6.cell? ⟨N + 1 + 5, 7, none⟩ = some (.int .i64 0) := cell_of_row _ _ 7 _ _ _ hM6
  have x8 : W6.cell? ⟨N + 1 + 5, 8, none⟩ = some (.int .i64 0) := cell_of_row _ _ 8 _ _ _ hM6
  have x9 : W6.cell? ⟨N + 1 + 5, 9, none⟩ = some (.int .i64 0) := cell_of_row _ _ 9 _ _ _ hM6
  have x10 : W6.cell? ⟨N + 1 + 5, 10, none⟩ = some (.int .i64 0) := cell_of_row _ _ 10 _ _ _ hM6
  have x11 : W6.cell? ⟨N + 1 + 5, 11, none⟩ = some (.int .i64 0) := cell_of_row _ _ 11 _ _ _ hM6
  have x12 : W6.cell? ⟨N + 1 + 5, 12, none⟩ = some (.int .i64 0) := cell_of_row _ _ 12 _ _ _ hM6
  have x13 : W6.cell? ⟨N + 1 + 5, 13, none⟩ = some (.int .i64 0) := cell_of_row _ _ 13 _ _ _ hM6
  have x14 : W6.cell? ⟨N + 1 + 5, 14, none⟩ = some (.string ⟨#[]⟩) := cell_of_row _ _ 14 _ _ _ hM6
  have y0 : W6.cell? ⟨N + 1 + 5 + 1 + 5, 0, none⟩ = some (.string ⟨#[]⟩) := cell_of_row _ _ 0 _ _ _ hL6
  have y1 : W6.cell? ⟨N + 1 + 5 + 1 + 5, 1, none⟩ = some (.string ⟨#[]⟩) := cell_of_row _ _ 1 _ _ _ hL6
  have y2 : W6.cell? ⟨N + 1 + 5 + 1 + 5, 2, none⟩ = some (.string ⟨#[]⟩) := cell_of_row _ _ 2 _ _ _ hL6
  have y3 : W6.cell? ⟨N + 1 + 5 + 1 + 5, 3, none⟩ = some (.string ⟨#[]⟩) := cell_of_row _ _ 3 _ _ _ hL6
  have y4 : W6.cell? ⟨N + 1 + 5 + 1 + 5, 4, none⟩ = some (.slice none 0 0) := cell_of_row _ _ 4 _ _ _ hL6
  have y5 : W6.cell? ⟨N + 1 + 5 + 1 + 5, 5, none⟩ = some (.string ⟨#[]⟩) := cell_of_row _ _ 5 _ _ _ hL6
  have y6 : W6.cell? ⟨N + 1 + 5 + 1 + 5, 6, none⟩ = some (.pointer none) := cell_of_row _ _ 6 _ _ _ hL6
  have y7 : W6.cell? ⟨N + 1 + 5 + 1 + 5, 7, none⟩ = some (.int .i64 0) := cell_of_row _ _ 7 _ _ _ hL6
  have y8 : W6.cell? ⟨N + 1 + 5 + 1 + 5, 8, none⟩ = some (.int .i64 0) := cell_of_row _ _ 8 _ _ _ hL6
  have y9 : W6.cell? ⟨N + 1 + 5 + 1 + 5, 9, none⟩ = some (.int .i64 0) := cell_of_row _ _ 9 _ _ _ hL6
  have y10 : W6.cell? ⟨N + 1 + 5 + 1 + 5, 10, none⟩ = some (.int .i64 0) := cell_of_row _ _ 10 _ _ _ hL6
  have y11 : W6.cell? ⟨N + 1 + 5 + 1 + 5, 11, none⟩ = some (.int .i64 0) := cell_of_row _ _ 11 _ _ _ hL6
  have y12 : W6.cell? ⟨N + 1 + 5 + 1 + 5, 12, none⟩ = some (.int .i64 0) := cell_of_row _ _ 12 _ _ _ hL6
  have y13 : W6.cell? ⟨N + 1 + 5 + 1 + 5, 13, none⟩ = some (.int .i64 0) := cell_of_row _ _ 13 _ _ _ hL6
  have y14 : W6.cell? ⟨N + 1 + 5 + 1 + 5, 14, none⟩ = some (.string ⟨#[]⟩) := cell_of_row _ _ 14 _ _ _ hL6
  clear hM6 hL6
  go_wp2_with fail
  refine (f8_lit (W6.drewN (q1 + q2))).mono ?_
  rintro e w9 ⟨rfl, hw9⟩
  have hg9 := grew (W6.drewN (q1 + q2)) (.cells zmsg 42)
  rw [← hw9] at hg9
  have HN8 := hid (kept hg9 HN6.out)
  have HF8 := hid (kept hg9 HF6.out)
  have HG8 := hid (kept hg9 HG6.out)
  have hL8 := kept hg9 HL6.out
  have HBE8 := hid (Below.trans HBE.out (Below.mono ⟨hg9.os, hg9.tape, hg9.output, hg9.size, hg9.block⟩ (by have h1 := HS6.out; have h2 := HBN.out; simp; omega)))
  have HS8 : Hid (N + 1 + 5 + 1 + 5 + 1 ≤ w9.heap.size) := by have h1 := HS6.out; have h2 := hg9.size; simp at h2; show _ ≤ _; omega
  clear x0 x1 x2 x3 x4 x5 x6 x7 x8 x9 x10 x11 x12 x13 x14 y0 y1 y2 y3 y4 y5 y6 y7 y8 y9 y10 y11 y12 y13 y14 hw9 hg9 HN6 HF6 HG6 HM6 HL6 HBO HBE
  generalize w9 = W8 at *
  have z0 : W8.cell? ⟨N + 1 + 5 + 1 + 5, 0, none⟩ = some (.string ⟨#[]⟩) := cell_of_row _ _ 0 _ _ _ hL8
  have z1 : W8.cell? ⟨N + 1 + 5 + 1 + 5, 1, none⟩ = some (.string ⟨#[]⟩) := cell_of_row _ _ 1 _ _ _ hL8
  have z2 : W8.cell? ⟨N + 1 + 5 + 1 + 5, 2, none⟩ = some (.string ⟨#[]⟩) := cell_of_row _ _ 2 _ _ _ hL8
  have z3 : W8.cell? ⟨N + 1 + 5 + 1 + 5, 3, none⟩ = some (.string ⟨#[]⟩) := cell_of_row _ _ 3 _ _ _ hL8
  have z4 : W8.cell? ⟨N + 1 + 5 + 1 + 5, 4, none⟩ = some (.slice none 0 0) := cell_of_row _ _ 4 _ _ _ hL8
  have z5 : W8.cell? ⟨N + 1 + 5 + 1 + 5, 5, none⟩ = some (.string ⟨#[]⟩) := cell_of_row _ _ 5 _ _ _ hL8
  have z6 : W8.cell? ⟨N + 1 + 5 + 1 + 5, 6, none⟩ = some (.pointer none) := cell_of_row _ _ 6 _ _ _ hL8
  have z7 : W8.cell? ⟨N + 1 + 5 + 1 + 5, 7, none⟩ = some (.int .i64 0) := cell_of_row _ _ 7 _ _ _ hL8
  have z8 : W8.cell? ⟨N + 1 + 5 + 1 + 5, 8, none⟩ = some (.int .i64 0) := cell_of_row _ _ 8 _ _ _ hL8
  have z9 : W8.cell? ⟨N + 1 + 5 + 1 + 5, 9, none⟩ = some (.int .i64 0) := cell_of_row _ _ 9 _ _ _ hL8
  have z10 : W8.cell? ⟨N + 1 + 5 + 1 + 5, 10, none⟩ = some (.int .i64 0) := cell_of_row _ _ 10 _ _ _ hL8
  have z11 : W8.cell? ⟨N + 1 + 5 + 1 + 5, 11, none⟩ = some (.int .i64 0) := cell_of_row _ _ 11 _ _ _ hL8
  have z12 : W8.cell? ⟨N + 1 + 5 + 1 + 5, 12, none⟩ = some (.int .i64 0) := cell_of_row _ _ 12 _ _ _ hL8
  have z13 : W8.cell? ⟨N + 1 + 5 + 1 + 5, 13, none⟩ = some (.int .i64 0) := cell_of_row _ _ 13 _ _ _ hL8
  have z14 : W8.cell? ⟨N + 1 + 5 + 1 + 5, 14, none⟩ = some (.string ⟨#[]⟩) := cell_of_row _ _ 14 _ _ _ hL8
  clear hL8
  go_wp2_with fail
  refine (f8_lit W8).mono ?_
  rintro e wa ⟨rfl, hwa⟩
  have hga := grew W8 (.cells zmsg 42)
  rw [← hwa] at hga
  have n0 := cell_of_row _ _ 0 _ _ _ (kept hga HN8.out)
  have f0 := cell_of_row _ _ 0 _ _ _ (kept hga HF8.out)
  have g0 := cell_of_row _ _ 0 _ _ _ (kept hga HG8.out)
  have fz := frozen_of_row _ _ 0 _ _ (kept hga HF8.out)
  simp at n0 f0 g0
  have HBEa := hid (Below.trans HBE8.out (hga.mono (by have h1 := HS8.out; have h2 := HBN.out; omega)))
  clear z0 z1 z2 z3 z4 z5 z6 z7 z8 z9 z10 z11 z12 z13 z14 hwa hga HN8 HF8 HG8 HBE8
  go_wp2
  go_ret
  refine ⟨rfl, ?_⟩
  rw [← HB.out]
  exact HBEa.out.setCell (by have := HBN.out; show B ≤ N + 1 + 1 + 1; omega) _
end Go.Proofs.Qxb6615512a
