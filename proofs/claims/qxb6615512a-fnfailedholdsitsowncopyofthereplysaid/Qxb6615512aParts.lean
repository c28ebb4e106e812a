import Derived.Test.Qxb6615512aFailed
import Derived.LaidEqlPtr
namespace Go.Proofs.Qxb6615512a
open Go.RowKit

theorem eql40 (w : World) : (binOp .eql 40 (.agg #[.int .i64 0, .int .i64 0, .int .i64 0, .int .i64 0, .int .i64 0, .int .i64 0, .int .i64 0, .string ⟨#[]⟩]) (.agg #[.int .i64 0, .int .i64 0, .int .i64 0, .int .i64 0, .int .i64 0, .int .i64 0, .int .i64 0, .string ⟨#[]⟩])).run Try.prog w = .ok (.bool true) w := by kernel_rfl
theorem eql31 (w : World) : (binOp .eql 31 (.slice none 0 0) (.slice none 0 0)).run Try.prog w = .ok (.bool true) w := by kernel_rfl
theorem eql33 (w : World) : (binOp .eql 33 (.pointer none) (.pointer none)).run Try.prog w = .ok (.bool true) w := by kernel_rfl
theorem eql25 (w : World) (fp : Option Addr) : (binOp .eql 25 (.pointer fp) (.pointer fp)).run Try.prog w = .ok (.bool true) w := by
  cases fp with
  | none => kernel_rfl
  | some a =>
    have h : ∃ j, Try.prog.info? 27 = some j := Option.isSome_iff_exists.1 (by kernel_rfl)
    obtain ⟨j, hj⟩ := h
    exact run_eql_ptr_same w a Try.underlying25 hj

set_option maxHeartbeats 1000000 in
theorem f8_any (w : World) :
    Calls Try.prog 8 #[.agg zmsg] w fun e w' => e = .returned (.bool true) ∧ w' = w.alloc (.cells zmsg 42) := by
  have e1 := eql40
  have e2 := eql31
  have e3 := eql33
  unfold zmsg
  go_enter Try.func8, Try.ntmps8
  go_wp2
  go_ret
  exact ⟨rfl, rfl⟩

theorem addr_plus (b o j : Nat) : (⟨b, o, none⟩ : Addr).add j = ⟨b, o + j, none⟩ := by unfold Addr.add; split <;> simp_all
/-- the clone's value: nil, or a block of its own that can be read. -/
def BodyOK (x : Option Addr) (n : Nat) (W : World) : Prop :=
  (x = none ∧ n = 0) ∨ ∃ g zs, x = some ⟨g, 0, none⟩ ∧ g < W.heap.size ∧ n ≤ 1048576 ∧ ∀ i, i < n → W.cell? ⟨g, i, none⟩ = some (.int .u8 (List.getD zs i 0))

theorem BodyOK.below {x : Option Addr} {n : Nat} {W W' : World} (h : BodyOK x n W) (hb : Below W.heap.size W W') : BodyOK x n W' := by
  rcases h with h | ⟨g, zs, hx, hg, hn, hc⟩
  · exact .inl h
  · exact .inr ⟨g, zs, hx, Nat.lt_of_lt_of_le hg hb.size, hn, fun i hi => (hb.cell (p := ⟨g, i, none⟩) hg).trans (hc i hi)⟩

theorem same_any (x : Option Addr) (n : Nat) (w : World) (h : BodyOK x n w) :
    Calls Try.prog 10 #[.slice x n n, .slice x n n] w fun e w' => e = .returned (.bool true) ∧ ∃ q, w' = w.drewN q := by
  rcases h with ⟨rfl, rfl⟩ | ⟨g, zs, rfl, hg, hn, hc⟩
  · exact same_nil w
  · exact same_some g n zs w hn hc

theorem clone_any (a : Option Addr) (len cap : Nat) (zs : List Int) (w : World) (hn : len ≤ 1048576)
    (h : (a = none ∧ len = 0 ∧ cap = 0 ∧ zs = []) ∨ ∃ x, a = some x ∧ len ≤ cap ∧ cap ≤ maxLen ∧ zs.length = cap ∧ (∀ i, i < zs.length → w.cell? (x.add i) = some (.int .u8 (zs.getD i 0))) ∧ ∀ n ∈ zs, (Lit.int .u8 n).wf = true) :
    Calls Try.prog 5 #[.slice a len cap] w fun e w' => ∃ x, e = .returned (.slice x len len) ∧ BodyOK x len w' ∧ Below w.heap.size w w' := by
  rcases h with ⟨rfl, rfl, rfl, rfl⟩ | ⟨x, rfl, hl, hm, hz, hc, _⟩
  · refine (clone_nil w).mono ?_
    rintro e w' ⟨rfl, rfl⟩
    exact ⟨none, rfl, .inl ⟨rfl, rfl⟩, Below.refl _ _⟩
  · by_cases h0 : len = 0
    · subst h0
      refine (clone_empty x cap w).mono ?_
      rintro e w' ⟨rfl, hb, hs⟩
      exact ⟨_, rfl, .inr ⟨_, [], rfl, hs, by omega, fun i hi => by omega⟩, hb⟩
    · obtain ⟨b, off, spot⟩ := x
      have hspot : spot = none := by simpa [Addr.add] using World.cell?_spot (hc 0 (by omega))
      subst hspot
      have hc' : ∀ i, i < zs.length → w.cell? ⟨b, off + i, none⟩ = some (.int .u8 (zs.getD i 0)) := fun i hi => by rw [← addr_plus]; exact hc i hi
      have hb : b < w.heap.size := block_lt_of_cell (hc' 0 (by omega))
      refine (clone_some b off len cap zs w hn (fun _ => hb) (fun i hi => hc' i (by omega)) (by omega)).mono ?_
      rintro e w' ⟨rfl, ho, hbel⟩
      refine ⟨_, rfl, .inr ⟨_, zs, rfl, ?_, hn, fun i hi => ?_⟩, hbel⟩
      · exact block_lt_of_cell (a := ⟨w.heap.size, 0, none⟩) ((ho.cellAt 0 (by omega)).trans (List.getElem?_eq_getElem (by simp; omega)))
      · rw [ho.cellAt i (by omega), List.getElem?_map, List.getElem?_take, if_pos hi]
        have : i < zs.length := by omega
        simp [this]

set_option maxHeartbeats 1000000 in
theorem f7_any (g : Nat) (st : Int) (ra sr : ByteArray) (fp x : Option Addr) (n : Nat) (w : World) (hx : BodyOK x n w)
   (h : w.heap[g]? = some (.cells #[.int .i64 st, .slice x n n, .string ra, .string sr, .pointer fp] 30)) :
    Calls Try.prog 7 #[.pointer (some ⟨g, 0, none⟩), .int .i64 st, .slice x n n, .string ra, .string sr, .pointer fp] w fun e w' => e = .returned (.bool true) ∧ ∃ q, w' = w.drewN q := by
  have c0 := cell_of_row w g 0 _ _ _ h
  have c1 := cell_of_row w g 1 _ _ _ h
  have c2 := cell_of_row w g 2 _ _ _ h
  have c3 := cell_of_row w g 3 _ _ _ h
  have c4 := cell_of_row w g 4 _ _ _ h
  have e4 := eql25
  simp at c0 c1 c2 c3 c4
  clear h
  go_enter Try.func7, Try.ntmps7
  go_wp2_with (go_at_call 10; refine (same_any _ _ _ hx).mono ?_; rintro e w' ⟨rfl, q, rfl⟩)
  go_ret
  exact ⟨rfl, _, rfl⟩

set_option maxHeartbeats 1000000 in
theorem f4_true (a0 a5 : Int) (a : Option Addr) (len cap : Nat) (a2 a3 : ByteArray) (a4 : Bool) (w : World) (h : len + a2.size + a3.size ≤ 1048576) :
    Calls Try.prog 4 #[.int .i64 a0, .slice a len cap, .string a2, .string a3, .bool a4, .int .i64 a5] w fun e w' => e = .returned (.bool true) ∧ w' = w := by
  go_enter Try.func4, Try.ntmps4
  go_wp2
  go_ret
  exact ⟨rfl, rfl⟩

set_option maxHeartbeats 1000000 in
theorem f4_false (a0 a5 : Int) (a : Option Addr) (len cap : Nat) (a2 a3 : ByteArray) (a4 : Bool) (w : World) (h1 : len ≤ 9223372036854775807) (h2 : a2.size ≤ 9223372036854775807) (h3 : a3.size ≤ 9223372036854775807) (h : ¬ len + a2.size + a3.size ≤ 1048576) :
    Calls Try.prog 4 #[.int .i64 a0, .slice a len cap, .string a2, .string a3, .bool a4, .int .i64 a5] w fun e w' => e = .returned (.bool false) ∧ w' = w := by
  by_cases g1 : 1048576 < len
  · go_enter Try.func4, Try.ntmps4
    go_wp2
    go_ret
    exact ⟨rfl, rfl⟩
  · by_cases g2 : 1048576 < a2.size
    · go_enter Try.func4, Try.ntmps4
      go_wp2
      go_ret
      exact ⟨rfl, rfl⟩
    · by_cases g3 : 1048576 < len + a2.size
      · go_enter Try.func4, Try.ntmps4
        go_wp2
        go_ret
        exact ⟨rfl, rfl⟩
      · by_cases g4 : 1048576 < a3.size
        · go_enter Try.func4, Try.ntmps4
          go_wp2
          go_ret
          exact ⟨rfl, rfl⟩
        · go_enter Try.func4, Try.ntmps4
          go_wp2
          go_ret
          exact ⟨rfl, rfl⟩
end Go.Proofs.Qxb6615512a
