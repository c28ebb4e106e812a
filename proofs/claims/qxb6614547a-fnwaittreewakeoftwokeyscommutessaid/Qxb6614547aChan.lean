import Derived.Test.Qxb6614547aRows
import Derived.WalkKit
import Derived.WalkSpells
import Derived.WalkLawsBesides
import Derived.Conc.LoneSelect
import Derived.KernelRfl
import Derived.Laws.Rows
namespace Go.Proofs.Qxb6614547a
open Go.Conc Go.RowKit
set_option linter.unusedVariables false

set_option maxRecDepth 100000 in
theorem f32_closed (g c cap s r : Nat) (w : World) (hp : w.cell? ⟨g, 3, none⟩ = some (.chan (some c))) (hc : w.heap[c]? = some (.chan cap #[] true s r false)) :
    Calls Try.prog 32 #[.pointer (some ⟨g, 0, none⟩)] w fun e w' => e = .returned (.bool true) ∧ w' = w := by
  refine calls_of_loneTo fun cs => ?_
  have e : Frame.enter Try.prog 32 #[.pointer (some ⟨g, 0, none⟩)] .normal = (base 32).at ⟨#[.pointer (some ⟨g, 0, none⟩), undef, undef, undef, undef, undef, undef, undef, undef, undef], []⟩ [.code (Try.f32.body.getD .skip)] := by
    simp [Frame.enter, Frame.at, Try.func32, base, Try.f32]
  rw [e]
  refine LoneTo.goes (n := 13) ?_
  simp only [Try.f32, Option.getD_some]
  s_c stepG_seq
  s_reg
  s_op
  s_c stepG_region_end
  s_c stepG_seq
  s_reg
  s_op
  s_op
  s_op
  s_op
  s_c stepG_region_end
  s_c stepG_seq
  s_reg
  s_stop
  refine LoneTo.step (step_lone_select_recv_shut (c := c) (z := .agg #[]) (cap := cap) (s := s) (r := r) (tm := false) (stepG_comm (cases := #[rcase c (.agg #[])]) (blocking := false) (shape := .select) (w' := w) rfl rfl (by decide) (by simp [go_sem, execOp, rcase, Act.eval])) hc) ?_
  rw [Frame.finish_at]
  walk_nrm
  refine LoneTo.goes (n := 10) ?_
  s_op
  s_op
  s_c stepG_region_end
  s_c stepG_block
  s_cond true
  s_c stepG_seq
  s_reg
  s_op
  s_c stepG_region_end
  s_c stepG_ret'
  s_stop
  refine LoneTo.done ⟨.returned (.bool true), _, rfl, ⟨rfl, rfl⟩, rfl, rfl, rfl, rfl, _, Try.func32, by simp [results, Try.f32, Frame.at]⟩

set_option maxRecDepth 100000 in
theorem f32_open (g c cap s r : Nat) (w : World) (hp : w.cell? ⟨g, 3, none⟩ = some (.chan (some c))) (hc : w.heap[c]? = some (.chan cap #[] false s r false)) :
    Calls Try.prog 32 #[.pointer (some ⟨g, 0, none⟩)] w fun e w' => e = .returned (.bool false) ∧ w' = w := by
  refine calls_of_loneTo fun cs => ?_
  have e : Frame.enter Try.prog 32 #[.pointer (some ⟨g, 0, none⟩)] .normal = (base 32).at ⟨#[.pointer (some ⟨g, 0, none⟩), undef, undef, undef, undef, undef, undef, undef, undef, undef], []⟩ [.code (Try.f32.body.getD .skip)] := by
    simp [Frame.enter, Frame.at, Try.func32, base, Try.f32]
  rw [e]
  refine LoneTo.goes (n := 13) ?_
  simp only [Try.f32, Option.getD_some]
  s_c stepG_seq
  s_reg
  s_op
  s_c stepG_region_end
  s_c stepG_seq
  s_reg
  s_op
  s_op
  s_op
  s_op
  s_c stepG_region_end
  s_c stepG_seq
  s_reg
  s_stop
  refine LoneTo.step (step_lone_select_default (c := c) (z := .agg #[]) (cap := cap) (s := s) (r := r) (tm := false) (stepG_comm (cases := #[rcase c (.agg #[])]) (blocking := false) (shape := .select) (w' := w) rfl rfl (by decide) (by simp [go_sem, execOp, rcase, Act.eval])) hc) ?_
  rw [Frame.finish_at]
  walk_nrm
  refine LoneTo.goes (n := 10) ?_
  s_op
  s_op
  s_c stepG_region_end
  s_c stepG_block
  s_cond false
  s_c stepG_seq
  s_reg
  s_op
  s_c stepG_region_end
  s_c stepG_ret'
  s_stop
  refine LoneTo.done ⟨.returned (.bool false), _, rfl, ⟨rfl, rfl⟩, rfl, rfl, rfl, rfl, _, Try.func32, by simp [results, Try.f32, Frame.at]⟩
end Go.Proofs.Qxb6614547a
