import Derived.Test.Qxb6613757aWalks
namespace Go.Proofs.Qxb6613757a
open Go.RowKit
set_option linter.unusedVariables false

theorem kept {W W' : World} (h : Below W.heap.size W W') {g : Nat} {o : Obj} (hg : W.heap[g]? = some o) : W'.heap[g]? = some o :=
  (h.block g (Array.getElem?_eq_some_iff.1 hg).1).trans hg
theorem hid {p : Prop} (h : p) : Hid p := h
theorem five (w : World) (a b c d e : Obj) : Below w.heap.size w (((((w.alloc a).alloc b).alloc c).alloc d).alloc e) ∧
    ((((((w.alloc a).alloc b).alloc c).alloc d).alloc e).heap[w.heap.size + 1 + 1]? = some c) ∧ ((((((w.alloc a).alloc b).alloc c).alloc d).alloc e).heap[w.heap.size + 1 + 1 + 1 + 1]? = some e) := by
  refine ⟨(((((Below.refl _ _).alloc (Nat.le_refl _) _).alloc (by simp) _).alloc (by simp; omega) _).alloc (by simp; omega) _).alloc (by simp; omega) _, ?_, ?_⟩ <;> (show (((((w.heap.push a).push b).push c).push d).push e)[_]? = _; simp only [Array.getElem?_push, Array.size_push])
  · rw [if_neg (by omega), if_neg (by omega), if_pos trivial]
  · rw [if_pos trivial]
theorem lt_of {W : World} {g : Nat} {o : Obj} (hg : W.heap[g]? = some o) : g < W.heap.size := (Array.getElem?_eq_some_iff.1 hg).1

set_option maxHeartbeats 4000000 in
set_option maxRecDepth 100000 in
theorem law (r0 r1 r2 r3 tie share per j s x : Int) (w : World) (a0 : 0 ≤ share) (a1 : share ≤ 18446744073709551615) (s0 : 0 ≤ s) (s1 : s ≤ 4294967295) (x0 : 0 ≤ x) (x1 : x ≤ 4294967295) :
    Calls Try.prog 5 #[.agg #[.int .u64 r0, .int .u64 r1, .int .u64 r2, .int .u64 r3], .int .u64 tie, .int .u64 share, .int .u64 per, .int .u32 j, .int .u32 s, .int .u32 x] w fun e w' =>
      e = .returned (.bool true) ∧ Below w.heap.size w w' := by
  obtain ⟨B, hB⟩ : ∃ B, B = w.heap.size := ⟨_, rfl⟩
  have HB : Hid (B = w.heap.size) := hB
  clear hB
  have HX : Hid (bits .xor .u64 (bits .xor .u64 share x) (bits .xor .u32 s x) = bits .xor .u64 share s) := xor_cancel share s x a0 a1 s0 s1 x0 x1
  go_enter Try.func5, Try.ntmps5
  go_wp2_with fail
  refine (f9_any r0 r1 r2 r3 tie share per _).mono ?_
  rintro e w1 ⟨rfl, hw1⟩
  subst hw1
  go_wp2_with fail
  refine (f9_any r0 r1 r2 r3 tie (bits .xor .u64 share x) per _).mono ?_
  rintro e w2 ⟨rfl, hw2⟩
  subst hw2
  go_wp2_with fail
  have hfive := five w (.cells #[.int .u64 r0, .int .u64 r1, .int .u64 r2, .int .u64 r3] 27) (.cells #[.int .u64 r0, .int .u64 r1, .int .u64 r2, .int .u64 r3] 27) (.cells #[.int .u64 r0, .int .u64 r1, .int .u64 r2, .int .u64 r3, .int .u64 tie, .int .u64 share, .int .u64 per] 54) (.cells #[.int .u64 r0, .int .u64 r1, .int .u64 r2, .int .u64 r3] 27) (.cells #[.int .u64 r0, .int .u64 r1, .int .u64 r2, .int .u64 r3, .int .u64 tie, .int .u64 (bits .xor .u64 share x), .int .u64 per] 54)
  generalize World.alloc (World.alloc (World.alloc (World.alloc (World.alloc w _) _) _) _) _ = W at hfive ⊢
  rw [← HB.out] at hfive ⊢
  obtain ⟨hbel, hg1, hg2⟩ := hfive
  refine (f10_any _ share per j s W a0 a1 s0 s1 ((cell_of_row _ _ 5 _ _ _ hg1).trans rfl) ((cell_of_row _ _ 6 _ _ _ hg1).trans rfl) (lt_of hg1)).mono ?_
  rintro e w3 ⟨rfl, hb3⟩
  have HG3 := hid (kept hb3 hg2)
  have HBE3 := hid (hbel.trans (hb3.mono (by have := lt_of hg1; omega)))
  have HL3 : Hid (B ≤ w3.heap.size) := by have := hb3.size; have := lt_of hg1; show _ ≤ _; omega
  clear hg1 hg2 hb3 hbel
  go_wp2_with fail
  have hg4 := kept (grew' w3 (.cells #[.int .u32 j, .int .u32 (inv (fac (mix (bits .xor .u64 share s)))), .int .u64 (mix (bits .xor .u64 share s)), .int .u64 per] 31)) HG3.out
  have hc4 := heap_alloc_new w3 (.cells #[.int .u32 j, .int .u32 (inv (fac (mix (bits .xor .u64 share s)))), .int .u64 (mix (bits .xor .u64 share s)), .int .u64 per] 31)
  have hbel4 := HBE3.out.alloc HL3.out (.cells #[.int .u32 j, .int .u32 (inv (fac (mix (bits .xor .u64 share s)))), .int .u64 (mix (bits .xor .u64 share s)), .int .u64 per] 31)
  have hl4 : B ≤ (w3.alloc (.cells #[.int .u32 j, .int .u32 (inv (fac (mix (bits .xor .u64 share s)))), .int .u64 (mix (bits .xor .u64 share s)), .int .u64 per] 31)).heap.size := by have := HL3.out; simp; omega
  clear HG3 HBE3 HL3
  generalize w3.alloc (.cells #[.int .u32 j, .int .u32 (inv (fac (mix (bits .xor .u64 share s)))), .int .u64 (mix (bits .xor .u64 share s)), .int .u64 per] 31) = W4 at hg4 hc4 hbel4 hl4 ⊢
  have hb := bits_u64 .xor share x
  have hb' := bits_u32 .xor s x
  refine (f10_any _ (bits .xor .u64 share x) per j (bits .xor .u32 s x) W4 hb.1 hb.2 hb'.1 hb'.2 ((cell_of_row _ _ 5 _ _ _ hg4).trans rfl) ((cell_of_row _ _ 6 _ _ _ hg4).trans rfl) (lt_of hg4)).mono ?_
  rw [HX.out]
  rintro e w5 ⟨rfl, hb5⟩
  have hc5 := kept hb5 hc4
  have HC5 := hid hc5
  have HBE5 := hid (hbel4.trans (hb5.mono hl4))
  have HL5 : Hid (B ≤ w5.heap.size) := by have := hb5.size; show _ ≤ _; omega
  have hlt5 := lt_of hc5
  have p0 := cell_of_row w5 _ 0 _ _ _ hc5
  have p1 := cell_of_row w5 _ 1 _ _ _ hc5
  have p2 := cell_of_row w5 _ 2 _ _ _ hc5
  have p3 := cell_of_row w5 _ 3 _ _ _ hc5
  simp at p0 p1 p2 p3
  clear hb hb' hg4 hc4 hbel4 hl4 hb5 hc5
  generalize w3.heap.size = N3 at *
  go_wp2_with fail
  have hc6 := kept (grew' w5 (.cells #[.int .u32 j, .int .u32 (inv (fac (mix (bits .xor .u64 share s)))), .int .u64 (mix (bits .xor .u64 share s)), .int .u64 per] 31)) HC5.out
  have hd6 := heap_alloc_new w5 (.cells #[.int .u32 j, .int .u32 (inv (fac (mix (bits .xor .u64 share s)))), .int .u64 (mix (bits .xor .u64 share s)), .int .u64 per] 31)
  have hbel6 := HBE5.out.alloc HL5.out (.cells #[.int .u32 j, .int .u32 (inv (fac (mix (bits .xor .u64 share s)))), .int .u64 (mix (bits .xor .u64 share s)), .int .u64 per] 31)
  have hl6 : B ≤ (w5.alloc (.cells #[.int .u32 j, .int .u32 (inv (fac (mix (bits .xor .u64 share s)))), .int .u64 (mix (bits .xor .u64 share s)), .int .u64 per] 31)).heap.size := by have := HL5.out; simp; omega
  clear HC5 HBE5 HL5 hlt5 p0 p1 p2 p3
  generalize w5.alloc (.cells #[.int .u32 j, .int .u32 (inv (fac (mix (bits .xor .u64 share s)))), .int .u64 (mix (bits .xor .u64 share s)), .int .u64 per] 31) = W6 at hc6 hd6 hbel6 hl6 ⊢
  generalize w5.heap.size = N5 at *
  refine (f11_any _ _ _ _ W6).mono ?_
  rintro e w7 ⟨rfl, hb7⟩
  have hc7 := kept hb7 hc6
  have hd7 := kept hb7 hd6
  have HBE7 := hid (hbel6.trans (hb7.mono hl6))
  have HL7 : Hid (B ≤ w7.heap.size) := by have := hb7.size; show _ ≤ _; omega
  have HC7 := hid hc7
  have HD7 := hid hd7
  have p0 := cell_of_row w7 _ 0 _ _ _ hd7
  have p1 := cell_of_row w7 _ 1 _ _ _ hd7
  have p2 := cell_of_row w7 _ 2 _ _ _ hd7
  have p3 := cell_of_row w7 _ 3 _ _ _ hd7
  simp at p0 p1 p2 p3
  clear hc6 hd6 hbel6 hl6 hb7 hc7 hd7
  go_wp2_with fail
  refine (f11_any _ _ _ _ w7).mono ?_
  rintro e w8 ⟨rfl, hb8⟩
  have hc8 := kept hb8 HC7.out
  have HBE8 := hid (HBE7.out.trans (hb8.mono HL7.out))
  have HL8 : Hid (B ≤ w8.heap.size) := by have := hb8.size; have := HL7.out; show _ ≤ _; omega
  clear p0 p1 p2 p3
  have p0 := cell_of_row w8 _ 0 _ _ _ hc8
  have p1 := cell_of_row w8 _ 1 _ _ _ hc8
  have p2 := cell_of_row w8 _ 2 _ _ _ hc8
  have p3 := cell_of_row w8 _ 3 _ _ _ hc8
  simp at p0 p1 p2 p3
  clear hb8 hc8
  go_wp2_with fail
  have hm := mix_bd (bits .xor .u64 share s)
  refine (f12_any _ _ _ _ w8 hm.1 hm.2).mono ?_
  rintro e w9 ⟨rfl, hb9⟩
  have HBE9 := hid (HBE8.out.trans (hb9.mono HL8.out))
  clear p0 p1 p2 p3 hb9 hm
  have hfi := inv_fac _ (fac_odd (mix (bits .xor .u64 share s)))
  have hib := inv_bd (fac (mix (bits .xor .u64 share s)))
  have hfb := fac_bd (mix (bits .xor .u64 share s))
  have h31 := and31 (inv (fac (mix (bits .xor .u64 share s))) * fac (mix (bits .xor .u64 share s)) % 4294967296) (by omega) (by omega)
  rw [hfi] at h31
  clear hfi
  go_wp2
  go_ret
  exact ⟨rfl, by rw [← HB.out]; exact HBE9.out⟩
end Go.Proofs.Qxb6613757a
