import Derived.Test.Qxb6614547aX5
import Derived.Test.Qxb6614547aW8
import Derived.Laws.MakeOwn
namespace Go.Proofs.Qxb6614547a
open Go.RowKit
open Go.Deep (BT)
set_option linter.unusedVariables false

theorem Try.info4 : (Try.prog.info? 4).map (fun i => (i.zero, i.size, i.bytes)) = some (some (.bool false), 1, 1) := by kernel_rfl
theorem Try.info22 : (Try.prog.info? 22).map (fun i => (i.zero, i.size, i.bytes)) = some (some (.int .u64 0), 1, 8) := by kernel_rfl
theorem made_one (z : Value) (hz : z.cells = #[z]) (n : Nat) : madeCells z.cells n = (List.replicate n z).toArray := by
  rw [hz]
  unfold madeCells
  apply Array.ext
  · simp
  · intro i h1 h2
    simp [Nat.mod_one]
theorem mk_row (w : World) (t e : TypeId) (z : Value) (b : Nat) (ht : Try.prog.underlying t = some (.slice e)) (hI : (Try.prog.info? e).map (fun i => (i.zero, i.size, i.bytes)) = some (some z, 1, b)) (hz : z.cells = #[z]) (n : Nat) (hn : n ≤ 100000) (hb : b ≤ 8) :
    (Instr.makeSlice t (.int .i64 n) (.int .i64 n)).run Try.prog w = .ok (.slice (some ⟨w.heap.size, 0, none⟩) n n) (w.alloc (.cells (List.replicate n z).toArray e)) := by
  obtain ⟨i0, hi, hz0, hz1, hz2⟩ := info_parts hI
  have h := run_make (P := Try.prog) w t e i0 z ht hi hz0 .i64 .i64 (n : Int) (n : Int) (by omega) (by omega) (by rw [hz2]; have : (b : Int) * (n : Int) ≤ 8 * 100000 := Int.mul_le_mul (by omega) (by omega) (by omega) (by omega); omega) (by omega)
  rw [h, hz1, Int.toNat_natCast, Nat.mul_one, made_one z hz]

set_option maxHeartbeats 2000000 in
theorem f16_any (p : Option Addr) (added : Int) (wl : Nat) (hwl : wl ≤ 65536) (w : World) :
    Calls Try.prog 16 #[.pointer p, .int .u64 added, .int .i64 wl] w fun e w' => e = .returned (.pointer (some ⟨w.heap.size + 1, 0, none⟩)) ∧
      w' = (w.alloc (.cells (List.replicate wl (.pointer none)).toArray 36)).alloc (.cells #[.pointer p, .int .u64 added, .slice (some ⟨w.heap.size, 0, none⟩) wl wl] 60) := by
  have hm := mk_row w 35 36 (.pointer none) 8 Try.underlying35 Try.info36 rfl wl (by omega) (by omega)
  go_enter Try.func16, Try.ntmps16
  go_wp2_with fail
  go_ret
  exact ⟨by simp, rfl⟩
set_option maxHeartbeats 2000000 in
theorem f19_any (tb : Nat) (added rev : Int) (L : List En) (v : Value) (xs : List Value) (T : BT Wt) (k : ByteArray) (w : World) (h : Inv w tb added L v xs T) (hs : SL L) (hv : v.ownBlock ≠ none) :
    Calls Try.prog 19 #[.pointer (some ⟨tb, 0, none⟩), .string k, .int .u64 rev] w fun e w' => e = .returned (.tuple #[]) ∧ Woke w w' tb added L v k rev := by
  have HC := hid (f30_any tb added rev L v xs T k w h hs hv)
  clear h hs hv
  go_enter Try.func19, Try.ntmps19
  go_wp2_with fail
  refine HC.out.mono ?_
  rintro e w1 ⟨rfl, hw⟩
  have HW := hid hw
  clear hw
  go_wp2_with fail
  go_end0
  exact ⟨rfl, HW.out⟩

/-! ### the model's rows -/
structure Rw (W : World) (gw gn : Nat) (L : List En) : Prop where
  hw : W.heap[gw]? = some (.cells (L.map (fun e => Value.bool e.wt)).toArray 4)
  hn : W.heap[gn]? = some (.cells (L.map (fun e => Value.int .u64 e.a.nxt)).toArray 22)
theorem Rw.cw {W : World} {gw gn : Nat} {L : List En} (h : Rw W gw gn L) {i : Nat} {e : En} (he : L[i]? = some e) : W.cell? ⟨gw, i, none⟩ = some (.bool e.wt) :=
  (cell_of_row _ _ i _ _ _ h.hw).trans (by simp [he])
theorem Rw.cn {W : World} {gw gn : Nat} {L : List En} (h : Rw W gw gn L) {i : Nat} {e : En} (he : L[i]? = some e) : W.cell? ⟨gn, i, none⟩ = some (.int .u64 e.a.nxt) :=
  (cell_of_row _ _ i _ _ _ h.hn).trans (by simp [he])
end Go.Proofs.Qxb6614547a
