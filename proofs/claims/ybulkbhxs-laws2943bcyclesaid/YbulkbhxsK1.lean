/-
  zzs2943bopen (function 7): a select of one receive with a default, in one goroutine: true over an open, empty channel, false over a shut, empty one. The world is left as it was.
-/
import Derived.Test.YbulkbhxsRows
import Derived.Conc.LoneSelect
import Derived.KernelRfl
namespace Go.Proofs.Ybulkbhxs
open Go.Conc Go.RowKit

set_option maxRecDepth 100000 in
theorem open_open (c : Nat) (w : World) (hc : w.heap[c]? = some (.chan 0 #[] false 0 0 false)) :
    Calls Yba.prog 7 #[.chan (some c)] w fun e w' => e = .returned (.bool true) ∧ w' = w := by
  refine calls_of_loneTo fun cs => ?_
  have e : Frame.enter Yba.prog 7 #[.chan (some c)] .normal = (base 7).at ⟨#[.chan (some c), undef, undef, undef, undef, undef, undef], []⟩ [.code (Yba.f7.body.getD .skip)] := by
    simp [Frame.enter, Frame.at, Yba.func7, base, Yba.f7]
  rw [e]
  refine LoneTo.goes (n := 10) ?_
  simp only [Yba.f7, Option.getD_some]
  s_c stepG_seq
  s_reg
  s_op
  s_c stepG_region_end
  s_c stepG_seq
  s_reg
  s_op
  s_c stepG_region_end
  s_c stepG_seq
  s_reg
  s_stop
  refine LoneTo.step (step_lone_select_default (c := c) (z := .agg #[]) (stepG_comm (cases := #[rcase c (.agg #[])]) (blocking := false) (shape := .select) (w' := w) rfl rfl (by decide) (by simp [go_sem, execOp, rcase, Act.eval])) hc) ?_
  rw [Frame.finish_at]
  walk_nrm
  refine LoneTo.goes (n := 10) ?_
  s_op
  s_op
  s_c stepG_region_end
  s_c stepG_block
  s_cond false
  s_c stepG_seq
  s_reg
  s_op
  s_c stepG_region_end
  s_c stepG_ret'
  s_stop
  exact LoneTo.done ⟨.returned (.bool true), _, rfl, ⟨rfl, rfl⟩, rfl, rfl, rfl, rfl, _, Yba.func7, by simp [results, Yba.f7, Frame.at]⟩

set_option maxRecDepth 100000 in
theorem open_shut (c : Nat) (w : World) (hc : w.heap[c]? = some (.chan 0 #[] true 0 0 false)) :
    Calls Yba.prog 7 #[.chan (some c)] w fun e w' => e = .returned (.bool false) ∧ w' = w := by
  refine calls_of_loneTo fun cs => ?_
  have e : Frame.enter Yba.prog 7 #[.chan (some c)] .normal = (base 7).at ⟨#[.chan (some c), undef, undef, undef, undef, undef, undef], []⟩ [.code (Yba.f7.body.getD .skip)] := by
    simp [Frame.enter, Frame.at, Yba.func7, base, Yba.f7]
  rw [e]
  refine LoneTo.goes (n := 10) ?_
  simp only [Yba.f7, Option.getD_some]
  s_c stepG_seq
  s_reg
  s_op
  s_c stepG_region_end
  s_c stepG_seq
  s_reg
  s_op
  s_c stepG_region_end
  s_c stepG_seq
  s_reg
  s_stop
  refine LoneTo.step (step_lone_select_recv_shut (c := c) (z := .agg #[]) (stepG_comm (cases := #[rcase c (.agg #[])]) (blocking := false) (shape := .select) (w' := w) rfl rfl (by decide) (by simp [go_sem, execOp, rcase, Act.eval])) hc) ?_
  rw [Frame.finish_at]
  walk_nrm
  refine LoneTo.goes (n := 10) ?_
  s_op
  s_op
  s_c stepG_region_end
  s_c stepG_block
  s_cond true
  s_c stepG_seq
  s_reg
  s_op
  s_c stepG_region_end
  s_c stepG_ret'
  s_stop
  exact LoneTo.done ⟨.returned (.bool false), _, rfl, ⟨rfl, rfl⟩, rfl, rfl, rfl, rfl, _, Yba.func7, by simp [results, Yba.f7, Frame.at]⟩
end Go.Proofs.Ybulkbhxs
