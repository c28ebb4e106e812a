import Derived.Test.Qxb6614547aX15
import Derived.Test.Qxb6614547aRows
import Derived.WalkKit
import Derived.ProofKit
import Derived.OpenShut
import Derived.ShutString
import Derived.ChangeOld
import Derived.Below
namespace Go.Proofs.Qxb6614547a
open Go.ChangeShapes Go.WideShapes Go.ChangeAt Go.RowKit
open Go.Deep (BT)
set_option linter.unusedVariables false

theorem laidOut : laidOutB Try.prog = true := by kernel_rfl
theorem ownK : ownKnob Try.prog.godebug = none := by kernel_rfl
theorem cells9 : Try.prog.cellsOf 9 = 1 := by kernel_rfl
theorem cells22 : Try.prog.cellsOf 22 = 1 := by kernel_rfl
theorem cells30 : Try.prog.cellsOf 30 = 1 := by kernel_rfl
theorem cells51 : Try.prog.cellsOf 51 = 8 := by kernel_rfl
theorem drop_one {cs : List Value} {i : Nat} {v : Value} (h : (cs.drop i).take 1 = [v]) : cs[i]? = some v := by
  have h1 : ((cs.drop i).take 1)[0]? = some v := by rw [h]; rfl
  rw [List.getElem?_take_of_lt (by omega), List.getElem?_drop] at h1
  simpa using h1

/-- the root's tree in memory -/
theorem open_root {H : Type} {enc : TypeId × Value → H} {w : World} {base : Nat} {sp : Nat → Bool} {hd : Bool} : ∀ (fuel : Nat) (cs : List Value) (x : DataW H × List MemPlace), DataW.trod enc Try.prog w base sp hd fuel 30 cs = some x →
    ∃ X : BT TW, cs = [X.ptr] ∧ XIn w w.heap.size X := by
  intro fuel
  induction fuel using Nat.strongRecOn with
  | _ fuel ih =>
    intro cs x h
    rcases DataW.trod_pointer Try.underlying30 h with ⟨rfl, rfl⟩ | ⟨a, cs', y, m, rfl, rfl, rfl, hcells, hy⟩
    · exact ⟨.nil, rfl, trivial⟩
    · obtain ⟨_, hlen, hcell⟩ := World.cells?_some hcells
      rw [cells51] at hcell hlen
      obtain ⟨xs, m', rfl, rfl, _, hxl, hf⟩ := DataW.trod_struct Try.underlying51 hy
      have hxl8 : xs.length = 8 := hxl
      have get : ∀ i, i < 8 → xs[i]? = some (xs.getD i ⟨.nil, []⟩) := fun i hi => by
        rw [List.getElem?_eq_getElem (by omega), List.getD_eq_getElem?_getD, List.getElem?_eq_getElem (by omega)]; rfl
      have f0 : DataW.trod enc Try.prog w base sp hd m' 9 ((cs'.drop 0).take (Try.prog.cellsOf 9)) = xs[0]? := hf 0 _ rfl
      rw [cells9, get 0 (by omega)] at f0
      have f1 : DataW.trod enc Try.prog w base sp hd m' 9 ((cs'.drop 1).take (Try.prog.cellsOf 9)) = xs[1]? := hf 1 _ rfl
      rw [cells9, get 1 (by omega)] at f1
      have f2 : DataW.trod enc Try.prog w base sp hd m' 22 ((cs'.drop 2).take (Try.prog.cellsOf 22)) = xs[2]? := hf 2 _ rfl
      rw [cells22, get 2 (by omega)] at f2
      have f3 : DataW.trod enc Try.prog w base sp hd m' 22 ((cs'.drop 3).take (Try.prog.cellsOf 22)) = xs[3]? := hf 3 _ rfl
      rw [cells22, get 3 (by omega)] at f3
      have f4 : DataW.trod enc Try.prog w base sp hd m' 22 ((cs'.drop 4).take (Try.prog.cellsOf 22)) = xs[4]? := hf 4 _ rfl
      rw [cells22, get 4 (by omega)] at f4
      have f5 : DataW.trod enc Try.prog w base sp hd m' 9 ((cs'.drop 5).take (Try.prog.cellsOf 9)) = xs[5]? := hf 5 _ rfl
      rw [cells9, get 5 (by omega)] at f5
      have f6 : DataW.trod enc Try.prog w base sp hd m' 30 ((cs'.drop 6).take (Try.prog.cellsOf 30)) = xs[6]? := hf 6 _ rfl
      rw [cells30, get 6 (by omega)] at f6
      have f7 : DataW.trod enc Try.prog w base sp hd m' 30 ((cs'.drop 7).take (Try.prog.cellsOf 30)) = xs[7]? := hf 7 _ rfl
      rw [cells30, get 7 (by omega)] at f7
      obtain ⟨s0, e0, _, z0⟩ := DataW.trod_string Try.underlying9 f0
      obtain ⟨s1, e1, _, z1⟩ := DataW.trod_string Try.underlying9 f1
      obtain ⟨n2, e2, _, _⟩ := DataW.trod_int Try.underlying22 f2
      obtain ⟨n3, e3, _, _⟩ := DataW.trod_int Try.underlying22 f3
      obtain ⟨n4, e4, _, _⟩ := DataW.trod_int Try.underlying22 f4
      obtain ⟨s5, e5, _, z5⟩ := DataW.trod_string Try.underlying9 f5
      obtain ⟨Xl, e6, hl⟩ := ih m' (by omega) _ _ f6
      obtain ⟨Xr, e7, hr⟩ := ih m' (by omega) _ _ f7
      obtain ⟨b, off, spot⟩ := a
      have h0 := (hcell 0 (by omega)).trans (drop_one e0)
      have hspot : spot = none := by simpa [Addr.add] using World.cell?_spot h0
      subst hspot
      have hadd : ∀ i, (⟨b, off, none⟩ : Addr).add i = ⟨b, off + i, none⟩ := fun i => by unfold Addr.add; split <;> simp_all
      have hc : ∀ i v, i < 8 → cs'[i]? = some v → w.cell? ⟨b, off + i, none⟩ = some v := fun i v hi hv => by
        have := hcell i hi
        rw [hadd] at this
        exact this.trans hv
      have c0 := hc 0 _ (by omega) (drop_one e0)
      exact ⟨.node b off ⟨s0, s1, n2, n3, n4, s5⟩ Xl Xr, rfl, ⟨World.block_lt_of_cell? _ _ c0, c0, hc 1 _ (by omega) (drop_one e1), hc 2 _ (by omega) (drop_one e2), hc 3 _ (by omega) (drop_one e3), hc 4 _ (by omega) (drop_one e4), hc 5 _ (by omega) (drop_one e5), hc 6 _ (by omega) (drop_one e6), hc 7 _ (by omega) (drop_one e7), z0, z1, z5⟩, hl, hr⟩
end Go.Proofs.Qxb6614547a
