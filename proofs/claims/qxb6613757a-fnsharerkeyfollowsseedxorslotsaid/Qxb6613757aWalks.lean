import Derived.Test.Qxb6613757aPlain
import Derived.Deep.WholeRow
namespace Go.Proofs.Qxb6613757a
open Go.RowKit
set_option linter.unusedVariables false

theorem grew' (W : World) (o : Obj) : Below W.heap.size W (W.alloc o) := (Below.refl _ _).alloc (Nat.le_refl _) o
theorem below_drew' (B : Nat) (W : World) (n : Nat) : Below B W (W.drewN n) := ⟨rfl, rfl, rfl, Nat.le_refl _, fun _ _ => rfl⟩
set_option maxHeartbeats 1000000 in
theorem f34_any (share per j s : Int) (w : World) (a0 : 0 ≤ share) (a1 : share ≤ 18446744073709551615) (s0 : 0 ≤ s) (s1 : s ≤ 4294967295) :
    Calls Try.prog 34 #[.int .u64 share, .int .u64 per, .int .u32 j, .int .u32 s] w fun e w' => e = .returned (.agg #[.int .u32 j, .int .u32 (inv (fac (mix (bits .xor .u64 share s)))), .int .u64 (mix (bits .xor .u64 share s)), .int .u64 per]) ∧ Below w.heap.size w w' := by
  have hm := mix_bd (bits .xor .u64 share s)
  have hf := fac_bd (mix (bits .xor .u64 share s))
  have hx := bits_u64 .xor share s
  go_enter Try.func34, Try.ntmps34
  go_wp2_with fail
  refine (f39_any _ _ hx.1 hx.2).mono ?_
  rintro e w1 ⟨rfl, rfl⟩
  go_wp2_with fail
  refine (f28_any _ _ _ _ _ hm.1 hm.2).mono ?_
  rintro e w2 ⟨rfl, rfl⟩
  go_wp2_with fail
  refine (f40_any _ _ hf.1 hf.2).mono ?_
  rintro e w3 ⟨rfl, hw3⟩
  subst hw3
  go_wp2
  exact bodyPost_ret (v := .agg #[.int .u32 j, .int .u32 (inv (fac (mix (bits .xor .u64 share s)))), .int .u64 (mix (bits .xor .u64 share s)), .int .u64 per]) (by simp [results, Try.results34, go_sem]) rfl ⟨rfl, (((Below.refl _ _).alloc (Nat.le_refl _) _).alloc (by simp) _).alloc (by simp; omega) _⟩

theorem own4 {W w1 : World} {g : Nat} {v0 v1 v2 v3 : Value} {t : TypeId} (hb : Below W.heap.size W w1) (hg : W.heap[g]? = some (.cells #[v0, v1, v2, v3] t)) :
    (w1.cell? ⟨g, 0, none⟩ = some v0 ∧ w1.cell? ⟨g, 1, none⟩ = some v1 ∧ w1.cell? ⟨g, 2, none⟩ = some v2 ∧ w1.cell? ⟨g, 3, none⟩ = some v3) ∧ (∀ j, w1.frozen? ⟨g, j, none⟩ = false) ∧ w1.heap[g]? = some (.cells #[v0, v1, v2, v3] t) := by
  have h : w1.heap[g]? = some (.cells #[v0, v1, v2, v3] t) := (hb.block g (Array.getElem?_eq_some_iff.1 hg).1).trans hg
  exact ⟨⟨cell_of_row _ _ 0 _ _ _ h, cell_of_row _ _ 1 _ _ _ h, cell_of_row _ _ 2 _ _ _ h, cell_of_row _ _ 3 _ _ _ h⟩, fun j => frozen_of_row _ _ j _ _ h, h⟩
set_option maxHeartbeats 1000000 in
theorem f27_any (g : Nat) (share per j s : Int) (w : World) (a0 : 0 ≤ share) (a1 : share ≤ 18446744073709551615) (s0 : 0 ≤ s) (s1 : s ≤ 4294967295)
    (c5 : w.cell? ⟨g, 5, none⟩ = some (.int .u64 share)) (c6 : w.cell? ⟨g, 6, none⟩ = some (.int .u64 per)) (hg : g < w.heap.size) :
    Calls Try.prog 27 #[.pointer (some ⟨g, 0, none⟩), .int .u32 j, .int .u32 s] w fun e w' => e = .returned (.agg #[.int .u32 j, .int .u32 (inv (fac (mix (bits .xor .u64 share s)))), .int .u64 (mix (bits .xor .u64 share s)), .int .u64 per]) ∧ Below w.heap.size w w' := by
  go_enter Try.func27, Try.ntmps27
  go_wp2
  go_region_with (go_at_call 34; refine (f34_any _ _ _ _ _ a0 a1 s0 s1).mono ?_; rintro e w1 ⟨rfl, hb⟩; obtain ⟨⟨q0, q1, q2, q3⟩, fz, _⟩ := own4 hb (heap_alloc_new w _))
  all_goals go_wp2
  all_goals
    have hbel : Below w.heap.size w w1 := (grew' w _).drew.trans (hb.mono (by simp))
    exact bodyPost_ret (v := .agg #[.int .u32 j, .int .u32 (inv (fac (mix (bits .xor .u64 share s)))), .int .u64 (mix (bits .xor .u64 share s)), .int .u64 per]) (by simp [results, Try.results27, go_sem, q0, q1, q2, q3]) rfl ⟨rfl, (((hbel.setCell (by simp) _).setCell (by simp) _).setCell (by simp) _).setCell (by simp) _⟩

set_option maxHeartbeats 1000000 in
theorem f10_any (g : Nat) (share per j s : Int) (w : World) (a0 : 0 ≤ share) (a1 : share ≤ 18446744073709551615) (s0 : 0 ≤ s) (s1 : s ≤ 4294967295)
    (c5 : w.cell? ⟨g, 5, none⟩ = some (.int .u64 share)) (c6 : w.cell? ⟨g, 6, none⟩ = some (.int .u64 per)) (hg : g < w.heap.size) :
    Calls Try.prog 10 #[.pointer (some ⟨g, 0, none⟩), .int .u32 j, .int .u32 s] w fun e w' => e = .returned (.agg #[.int .u32 j, .int .u32 (inv (fac (mix (bits .xor .u64 share s)))), .int .u64 (mix (bits .xor .u64 share s)), .int .u64 per]) ∧ Below w.heap.size w w' := by
  go_enter Try.func10, Try.ntmps10
  go_wp2_with fail
  refine (f27_any g share per j s _ a0 a1 s0 s1 (by rw [World.cell?_alloc_past _ _ _ hg]; exact c5) (by rw [World.cell?_alloc_past _ _ _ hg]; exact c6) (by simp; omega)).mono ?_
  rintro e w1 ⟨rfl, hb⟩
  obtain ⟨⟨q0, q1, q2, q3⟩, fz, _⟩ := own4 hb (heap_alloc_new w _)
  have hbel : Below w.heap.size w w1 := (grew' w _).trans (hb.mono (by simp))
  clear hb
  go_wp2
  exact bodyPost_ret (v := .agg #[.int .u32 j, .int .u32 (inv (fac (mix (bits .xor .u64 share s)))), .int .u64 (mix (bits .xor .u64 share s)), .int .u64 per]) (by simp [results, Try.results10, go_sem, q0, q1, q2, q3]) rfl ⟨rfl, (((hbel.setCell (by simp) _).setCell (by simp) _).setCell (by simp) _).setCell (by simp) _⟩

set_option maxHeartbeats 1000000 in
theorem f9_any (r0 r1 r2 r3 tie share per : Int) (w : World) :
    Calls Try.prog 9 #[.agg #[.int .u64 r0, .int .u64 r1, .int .u64 r2, .int .u64 r3], .int .u64 tie, .int .u64 share, .int .u64 per] w fun e w' =>
      e = .returned (.pointer (some ⟨w.heap.size + 1, 0, none⟩)) ∧ w' = (w.alloc (.cells #[.int .u64 r0, .int .u64 r1, .int .u64 r2, .int .u64 r3] 27)).alloc (.cells #[.int .u64 r0, .int .u64 r1, .int .u64 r2, .int .u64 r3, .int .u64 tie, .int .u64 share, .int .u64 per] 54) := by
  go_enter Try.func9, Try.ntmps9
  go_wp2
  go_ret
  exact ⟨rfl, rfl⟩
set_option maxHeartbeats 1000000 in
theorem f11_any (a b c d : Int) (w : World) :
    Calls Try.prog 11 #[.agg #[.int .u32 a, .int .u32 b, .int .u64 c, .int .u64 d]] w fun e w' => e = .returned (.tuple #[.int .u32 a, .int .u32 b, .int .u64 c, .int .u64 d]) ∧ Below w.heap.size w w' := by
  go_enter Try.func11, Try.ntmps11
  go_wp2
  go_quiet (fail)
  go_wp2
  exact bodyPost_ret (v := .tuple #[.int .u32 a, .int .u32 b, .int .u64 c, .int .u64 d]) (by simp [results, Try.results11, go_sem]) rfl ⟨rfl, (grew' w _).trans (below_drew' _ _ _)⟩
set_option maxHeartbeats 1000000 in
theorem f12_any (a b c d : Int) (w : World) (h0 : 0 ≤ c) (h1 : c ≤ 18446744073709551615) :
    Calls Try.prog 12 #[.agg #[.int .u32 a, .int .u32 b, .int .u64 c, .int .u64 d]] w fun e w' => e = .returned (.int .u32 (fac c)) ∧ Below w.heap.size w w' := by
  go_enter Try.func12, Try.ntmps12
  go_wp2_with fail
  refine (f28_any _ _ _ _ _ h0 h1).mono ?_
  rintro e w2 ⟨rfl, rfl⟩
  go_wp2
  go_ret
  exact ⟨rfl, ((Below.refl _ _).alloc (Nat.le_refl _) _).alloc (by simp) _⟩
end Go.Proofs.Qxb6613757a
