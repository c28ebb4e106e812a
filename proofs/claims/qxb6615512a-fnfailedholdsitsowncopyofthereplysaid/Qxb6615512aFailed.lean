import Derived.Test.Qxb6615512aWalks
import Derived.Deep.WholeRow
import Derived.BigRegion
namespace Go.Proofs.Qxb6615512a
open Go.RowKit
def zresp (p : Value) : Array Value := #[.int .i64 0, .string ⟨#[]⟩, .string ⟨#[]⟩, .string ⟨#[]⟩, .string ⟨#[]⟩, .slice none 0 0, .string ⟨#[]⟩, .pointer none, .int .i64 0, .int .i64 0, .int .i64 0, .int .i64 0, .int .i64 0, .int .i64 0, .int .i64 0, .string ⟨#[]⟩, .bool false, .pointer none, p]
theorem zresp_set (p q : Value) : (zresp p).setIfInBounds 18 q = zresp q := rfl
theorem zresp_size (p : Value) : (zresp p).size = 19 := rfl
theorem hinfo : (Try.prog.info? 50).map (·.size) = some 19 := by kernel_rfl
theorem hzero (w : World) : (zeroValue 50).run Try.prog w = .ok (.agg (zresp (.pointer none))) w := by kernel_rfl
theorem hstore (W : World) (g : Nat) (p q : Option Addr) (hg : g = W.heap.size) : (storeCells ⟨g, 0, none⟩ (zresp (.pointer p)).toList 0).run Try.prog (W.alloc (.cells (zresp (.pointer q)) 50)) = .ok () (W.alloc (.cells (zresp (.pointer p)) 50)) := by
  subst hg
  exact run_storeCells_new W 50 _ _ hinfo rfl (by simp [zresp, Value.oneCell'])
theorem hload (W : World) (g : Nat) (p : Option Addr) (hg : g = W.heap.size) : (loadCellsFrom ⟨g, 0, none⟩ 0 19 #[]).run Try.prog (W.alloc (.cells (zresp (.pointer p)) 50)) = .ok (zresp (.pointer p)) (W.alloc (.cells (zresp (.pointer p)) 50)) := by
  subst hg
  exact run_loadCellsFrom_new W 50 _ 19 rfl
set_option maxHeartbeats 1000000 in
theorem f9_any (st : Int) (ra sr : ByteArray) (fp : Option Addr) (x : Option Addr) (n c : Nat) (w : World) :
    Calls Try.prog 9 #[.agg #[.int .i64 st, .slice x n c, .string ra, .string sr, .pointer fp]] w fun e w' => e = .returned (.agg (zresp (.pointer (some ⟨w.heap.size, 0, none⟩)))) ∧
      w' = (w.alloc (.cells #[.int .i64 st, .slice x n c, .string ra, .string sr, .pointer fp] 30)).alloc (.cells (zresp (.pointer (some ⟨w.heap.size, 0, none⟩))) 50) := by
  have hz := hzero
  have hs := zresp_set
  have hzs := zresp_size
  have hst := hstore
  have hld := hload
  go_enter Try.func9, Try.ntmps9
  go_wp2
  exact bodyPost_ret (v := .agg (zresp (.pointer (some ⟨w.heap.size, 0, none⟩)))) (results_cell_row Try.results9 _ _ (w.heap.size + 1) 50 _ (0, 0) _ rfl (heap_alloc2_new _ _ _) Try.underlying50 rfl hinfo) rfl ⟨rfl, rfl⟩

def zmsg : Array Value := #[.string ⟨#[]⟩, .string ⟨#[]⟩, .string ⟨#[]⟩, .string ⟨#[]⟩, .slice none 0 0, .string ⟨#[]⟩, .pointer none, .int .i64 0, .int .i64 0, .int .i64 0, .int .i64 0, .int .i64 0, .int .i64 0, .int .i64 0, .string ⟨#[]⟩]
theorem zmsg_size : zmsg.size = 15 := rfl
theorem zzero (w : World) : (zeroValue 42).run Try.prog w = .ok (.agg zmsg) w := by kernel_rfl
theorem zinfo : (Try.prog.info? 42).map (·.size) = some 15 := by kernel_rfl

theorem setRow_same (W : World) (g : Nat) (cs : Array Value) (t : TypeId) (hg : W.heap[g]? = some (.cells cs t (0, 0))) : W.setRow g cs = W := by
  have hlt : g < W.heap.size := (Array.getElem?_eq_some_iff.1 hg).1
  have hv : W.heap[g] = .cells cs t (0, 0) := (Array.getElem?_eq_some_iff.1 hg).2
  unfold World.setRow
  cases W with
  | mk heap tape drawn os output =>
    congr 1
    apply Array.ext
    · simp
    · intro k h1 h2
      simp only [Array.getElem_modify]
      split
      · rename_i hk; subst hk; simp at hv; simp [hv]
      · rfl
theorem set_same (W : World) (g j : Nat) (v : Value) (hc : W.cell? ⟨g, j, none⟩ = some v) : W.setCell ⟨g, j, none⟩ v = W := by
  cases hh : W.heap[g]? with
  | none => simp [World.cell?, hh] at hc
  | some o =>
    cases o with
    | cells cs t fr =>
      have hcs : cs[j]? = some v := by simpa [World.cell?, hh] using hc
      rw [setCell_eq_setRow W g j cs t fr v hh]
      have e : cs.setIfInBounds j v = cs := by
        apply Array.ext_getElem?
        intro i
        rw [Array.getElem?_setIfInBounds]
        by_cases hi : j = i
        · subst hi
          have hlt : j < cs.size := (Array.getElem?_eq_some_iff.1 hcs).1
          rw [if_pos rfl, if_pos hlt, hcs]
        · rw [if_neg hi]
      rw [e]
      have hlt : g < W.heap.size := (Array.getElem?_eq_some_iff.1 hh).1
      have hv : W.heap[g] = .cells cs t fr := (Array.getElem?_eq_some_iff.1 hh).2
      unfold World.setRow
      cases W with
      | mk heap tape drawn os output =>
        congr 1
        apply Array.ext
        · simp
        · intro k h1 h2
          simp only [Array.getElem_modify]
          split
          · rename_i hk; subst hk; simp at hv; simp [hv]
          · rfl
    | _ => simp [World.cell?, hh] at hc

theorem five (w : World) (a b c d e : Obj) : ((((((w.alloc a).alloc b).alloc c).alloc d).alloc e).heap.size = w.heap.size + 5) ∧ ((((((w.alloc a).alloc b).alloc c).alloc d).alloc e).heap[w.heap.size + 1]? = some b) ∧
    ((((((w.alloc a).alloc b).alloc c).alloc d).alloc e).heap[w.heap.size + 1 + 1]? = some c) ∧ ((((((w.alloc a).alloc b).alloc c).alloc d).alloc e).heap[w.heap.size + 1 + 1 + 1 + 1]? = some e) := by
  refine ⟨by simp, ?_, ?_, ?_⟩ <;> (show (((((w.heap.push a).push b).push c).push d).push e)[_]? = _; simp only [Array.getElem?_push, Array.size_push])
  · rw [if_neg (by omega), if_neg (by omega), if_neg (by omega), if_pos trivial]
  · rw [if_neg (by omega), if_neg (by omega), if_pos trivial]
  · rw [if_pos trivial]

set_option maxHeartbeats 1000000 in
theorem f6_any (st : Int) (ra sr : ByteArray) (fp : Option Addr) (x : Option Addr) (n c : Nat) (w : World) :
    Calls Try.prog 6 #[.agg #[.int .i64 st, .slice x n c, .string ra, .string sr, .pointer fp]] w fun e w' => 
      e = .returned (.tuple #[.int .i64 0, .agg zmsg, .bool false, .pointer none, .pointer (some ⟨w.heap.size + 1 + 1, 0, none⟩)]) ∧
      Below w.heap.size w w' ∧ w'.heap.size = w.heap.size + 5 ∧ w'.heap[w.heap.size + 1 + 1]? = some (.cells #[.int .i64 st, .slice x n c, .string ra, .string sr, .pointer fp] 30) := by
  have hz := hzero
  have hz2 := zzero
  have hzs := zresp_size
  have hst := hstore
  go_enter Try.func6, Try.ntmps6
  go_wp2_with (go_at_call 9; refine (f9_any _ _ _ _ _ _ _ _).mono ?_; rintro e w' ⟨rfl, rfl⟩)
  have hbel := ((((((Below.refl w.heap.size w).alloc (Nat.le_refl _) (.cells #[.int .i64 st, .slice x n c, .string ra, .string sr, .pointer fp] 30)).alloc (by simp) (.cells zmsg 42)).alloc (by simp; omega) (.cells #[.int .i64 st, .slice x n c, .string ra, .string sr, .pointer fp] 30)).alloc (by simp; omega) (.cells (zresp (.pointer (some ⟨w.heap.size + 1 + 1, 0, none⟩))) 50)).alloc (by simp; omega) (.cells (zresp (.pointer (some ⟨w.heap.size + 1 + 1, 0, none⟩))) 50))
  have hfive := five w (.cells #[.int .i64 st, .slice x n c, .string ra, .string sr, .pointer fp] 30) (.cells zmsg 42) (.cells #[.int .i64 st, .slice x n c, .string ra, .string sr, .pointer fp] 30) (.cells (zresp (.pointer (some ⟨w.heap.size + 1 + 1, 0, none⟩))) 50) (.cells (zresp (.pointer (some ⟨w.heap.size + 1 + 1, 0, none⟩))) 50)
  generalize World.alloc (World.alloc (World.alloc (World.alloc (World.alloc w _) _) _) _) _ = W at hbel hfive ⊢
  obtain ⟨hsz, hb1, hb2, hb4⟩ := hfive
  have c0 : W.cell? ⟨w.heap.size + 1 + 1 + 1 + 1, 0, none⟩ = some (.int .i64 0) := cell_of_row _ _ 0 _ _ _ hb4
  have x0 : W.cell? ⟨w.heap.size + 1 + 1 + 1 + 1, 1, none⟩ = some (.string ⟨#[]⟩) := cell_of_row _ _ 1 _ _ _ hb4
  have x1 : W.cell? ⟨w.heap.size + 1 + 1 + 1 + 1, 2, none⟩ = some (.string ⟨#[]⟩) := cell_of_row _ _ 2 _ _ _ hb4
  have x2 : W.cell? ⟨w.heap.size + 1 + 1 + 1 + 1, 3, none⟩ = some (.string ⟨#[]⟩) := cell_of_row _ _ 3 _ _ _ hb4
  have x3 : W.cell? ⟨w.heap.size + 1 + 1 + 1 + 1, 4, none⟩ = some (.string ⟨#[]⟩) := cell_of_row _ _ 4 _ _ _ hb4
  have x4 : W.cell? ⟨w.heap.size + 1 + 1 + 1 + 1, 5, none⟩ = some (.slice none 0 0) := cell_of_row _ _ 5 _ _ _ hb4
  have x5 : W.cell? ⟨w.heap.size + 1 + 1 + 1 + 1, 6, none⟩ = some (.string ⟨#[]⟩) := cell_of_row _ _ 6 _ _ _ hb4
  have x6 : W.cell? ⟨w.heap.size + 1 + 1 + 1 + 1, 7, none⟩ = some (.pointer none) := cell_of_row _ _ 7 _ _ _ hb4
  have x7 : W.cell? ⟨w.heap.size + 1 + 1 + 1 + 1, 8, none⟩ = some (.int .i64 0) := cell_of_row _ _ 8 _ _ _ hb4
  have x8 : W.cell? ⟨w.heap.size + 1 + 1 + 1 + 1, 9, none⟩ = some (.int .i64 0) := cell_of_row _ _ 9 _ _ _ hb4
  have x9 : W.cell? ⟨w.heap.size + 1 + 1 + 1 + 1, 10, none⟩ = some (.int .i64 0) := cell_of_row _ _ 10 _ _ _ hb4
  have x10 : W.cell? ⟨w.heap.size + 1 + 1 + 1 + 1, 11, none⟩ = some (.int .i64 0) := cell_of_row _ _ 11 _ _ _ hb4
  have x11 : W.cell? ⟨w.heap.size + 1 + 1 + 1 + 1, 12, none⟩ = some (.int .i64 0) := cell_of_row _ _ 12 _ _ _ hb4
  have x12 : W.cell? ⟨w.heap.size + 1 + 1 + 1 + 1, 13, none⟩ = some (.int .i64 0) := cell_of_row _ _ 13 _ _ _ hb4
  have x13 : W.cell? ⟨w.heap.size + 1 + 1 + 1 + 1, 14, none⟩ = some (.int .i64 0) := cell_of_row _ _ 14 _ _ _ hb4
  have x14 : W.cell? ⟨w.heap.size + 1 + 1 + 1 + 1, 15, none⟩ = some (.string ⟨#[]⟩) := cell_of_row _ _ 15 _ _ _ hb4
  have y0 : W.cell? ⟨w.heap.size + 1, 0, none⟩ = some (.string ⟨#[]⟩) := cell_of_row _ _ 0 _ _ _ hb1
  have y1 : W.cell? ⟨w.heap.size + 1, 1, none⟩ = some (.string ⟨#[]⟩) := cell_of_row _ _ 1 _ _ _ hb1
  have y2 : W.cell? ⟨w.heap.size + 1, 2, none⟩ = some (.string ⟨#[]⟩) := cell_of_row _ _ 2 _ _ _ hb1
  have y3 : W.cell? ⟨w.heap.size + 1, 3, none⟩ = some (.string ⟨#[]⟩) := cell_of_row _ _ 3 _ _ _ hb1
  have y4 : W.cell? ⟨w.heap.size + 1, 4, none⟩ = some (.slice none 0 0) := cell_of_row _ _ 4 _ _ _ hb1
  have y5 : W.cell? ⟨w.heap.size + 1, 5, none⟩ = some (.string ⟨#[]⟩) := cell_of_row _ _ 5 _ _ _ hb1
  have y6 : W.cell? ⟨w.heap.size + 1, 6, none⟩ = some (.pointer none) := cell_of_row _ _ 6 _ _ _ hb1
  have y7 : W.cell? ⟨w.heap.size + 1, 7, none⟩ = some (.int .i64 0) := cell_of_row _ _ 7 _ _ _ hb1
  have y8 : W.cell? ⟨w.heap.size + 1, 8, none⟩ = some (.int .i64 0) := cell_of_row _ _ 8 _ _ _ hb1
  have y9 : W.cell? ⟨w.heap.size + 1, 9, none⟩ = some (.int .i64 0) := cell_of_row _ _ 9 _ _ _ hb1
  have y10 : W.cell? ⟨w.heap.size + 1, 10, none⟩ = some (.int .i64 0) := cell_of_row _ _ 10 _ _ _ hb1
  have y11 : W.cell? ⟨w.heap.size + 1, 11, none⟩ = some (.int .i64 0) := cell_of_row _ _ 11 _ _ _ hb1
  have y12 : W.cell? ⟨w.heap.size + 1, 12, none⟩ = some (.int .i64 0) := cell_of_row _ _ 12 _ _ _ hb1
  have y13 : W.cell? ⟨w.heap.size + 1, 13, none⟩ = some (.int .i64 0) := cell_of_row _ _ 13 _ _ _ hb1
  have y14 : W.cell? ⟨w.heap.size + 1, 14, none⟩ = some (.string ⟨#[]⟩) := cell_of_row _ _ 14 _ _ _ hb1
  have c2 : W.cell? ⟨w.heap.size + 1 + 1 + 1 + 1, 16, none⟩ = some (.bool false) := cell_of_row _ _ 16 _ _ _ hb4
  have c3 : W.cell? ⟨w.heap.size + 1 + 1 + 1 + 1, 17, none⟩ = some (.pointer none) := cell_of_row _ _ 17 _ _ _ hb4
  have c4 : W.cell? ⟨w.heap.size + 1 + 1 + 1 + 1, 18, none⟩ = some (.pointer (some ⟨w.heap.size + 1 + 1, 0, none⟩)) := cell_of_row _ _ 18 _ _ _ hb4
  have hfr : ∀ j, W.frozen? ⟨w.heap.size + 1, j, none⟩ = false := fun j => frozen_of_row _ _ j _ _ hb1
  have hset := fun j v h => set_same W (w.heap.size + 1) j v h
  have Hsz : Hid (W.heap.size = w.heap.size + 5) := hsz
  have Hb1 : Hid (W.heap[w.heap.size + 1]? = some (.cells zmsg 42)) := hb1
  have Hb2 : Hid (W.heap[w.heap.size + 1 + 1]? = some (.cells #[.int .i64 st, .slice x n c, .string ra, .string sr, .pointer fp] 30)) := hb2
  clear hsz hb1 hb2 hb4 hz hz2 hzs hst
  go_region
  all_goals go_wp2
  exact bodyPost_ret (v := .tuple #[.int .i64 0, .agg zmsg, .bool false, .pointer none, .pointer (some ⟨w.heap.size + 1 + 1, 0, none⟩)]) (by simp [results, Try.results6, go_sem, y0, y1, y2, y3, y4, y5, y6, y7, y8, y9, y10, y11, y12, y13, y14, zmsg]) rfl ⟨rfl, hbel.drew, Hsz.out, Hb2.out⟩
end Go.Proofs.Qxb6615512a
