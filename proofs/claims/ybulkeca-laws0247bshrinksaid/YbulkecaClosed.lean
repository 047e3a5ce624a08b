import Derived.Test.YbulkecaLock
import Derived.Conc.LoneSelect
set_option linter.unusedVariables false
namespace Go.Proofs.Ybulkeca
open Go.Conc Go.RowKit

set_option maxRecDepth 100000 in
/-- 'closed' over an open, empty channel: the default. -/
theorem closed_no (c cap s r : Nat) (tm : Bool) (w : World) (hc : w.heap[c]? = some (.chan cap #[] false s r tm)) :
    Calls Yba.prog 7 #[.chan (some c)] w fun e w' => e = .returned (.bool false) ∧ w = w' := by
  refine calls_of_loneTo fun cs => ?_
  have e : Frame.enter Yba.prog 7 #[.chan (some c)] .normal = (base 7).at ⟨#[.chan (some c), undef, undef, undef, undef, undef, undef, undef, undef, undef, undef, undef, undef], []⟩ [.code (Yba.f7.body.getD .skip)] := by
    simp [Frame.enter, Frame.at, Yba.func7, base, Yba.f7]
  rw [e]
  refine LoneTo.goes (n := 10) ?_
  simp only [Yba.f7, Option.getD_some]
  s_c stepG_seq
  s_reg
  s_op
  s_c stepG_region_end
  s_c stepG_seq
  s_reg
  s_op
  s_c stepG_region_end
  s_c stepG_seq
  s_reg
  s_stop
  refine LoneTo.step (step_lone_select_default (c := c) (z := .agg #[.int .i64 0, .bool false, .bool false]) (cap := cap) (s := s) (r := r) (tm := tm) (stepG_comm (cases := #[rcase c (.agg #[.int .i64 0, .bool false, .bool false])]) (blocking := false) (shape := .select) (w' := w) rfl rfl (by decide) (by simp [go_sem, execOp, rcase, Act.eval])) hc) ?_
  rw [Frame.finish_at]
  walk_nrm
  refine LoneTo.goes (n := 10) ?_
  s_op
  s_op
  s_c stepG_region_end
  s_c stepG_block
  s_cond false
  s_c stepG_seq
  s_reg
  s_op
  s_c stepG_region_end
  s_c stepG_ret'
  s_stop
  exact LoneTo.done ⟨.returned (.bool false), _, rfl, ⟨rfl, rfl⟩, rfl, rfl, rfl, rfl, _, Yba.func7, by simp [results, Yba.f7, Frame.at]⟩

set_option maxRecDepth 100000 in
/-- 'closed' over a closed, empty channel: the case is ready. -/
theorem closed_yes (c cap s r : Nat) (tm : Bool) (w : World) (hc : w.heap[c]? = some (.chan cap #[] true s r tm)) :
    Calls Yba.prog 7 #[.chan (some c)] w fun e w' => e = .returned (.bool true) ∧ Below w.heap.size w w' := by
  refine calls_of_loneTo fun cs => ?_
  have e : Frame.enter Yba.prog 7 #[.chan (some c)] .normal = (base 7).at ⟨#[.chan (some c), undef, undef, undef, undef, undef, undef, undef, undef, undef, undef, undef, undef], []⟩ [.code (Yba.f7.body.getD .skip)] := by
    simp [Frame.enter, Frame.at, Yba.func7, base, Yba.f7]
  rw [e]
  have hnot : ∀ (x : Bool) (w : World), (Op.unary .not (.bool x)).run Yba.prog w = .ok (.bool (!x)) w := fun _ _ => rfl
  refine LoneTo.goes (n := 10) ?_
  simp only [Yba.f7, Option.getD_some]
  s_c stepG_seq
  s_reg
  s_op
  s_c stepG_region_end
  s_c stepG_seq
  s_reg
  s_op
  s_c stepG_region_end
  s_c stepG_seq
  s_reg
  s_stop
  refine LoneTo.step (step_lone_select_recv_shut (c := c) (z := .agg #[.int .i64 0, .bool false, .bool false]) (cap := cap) (s := s) (r := r) (tm := tm) (stepG_comm (cases := #[rcase c (.agg #[.int .i64 0, .bool false, .bool false])]) (blocking := false) (shape := .select) (w' := w) rfl rfl (by decide) (by simp [go_sem, execOp, rcase, Act.eval])) hc) ?_
  rw [Frame.finish_at]
  walk_nrm
  refine LoneTo.goes (n := 20) ?_
  s_op
  s_op
  s_c stepG_region_end
  s_c stepG_block
  s_cond true
  s_c stepG_seq
  s_reg
  s_op
  s_op
  s_op
  s_op
  s_op
  s_c stepG_region_end
  s_c stepG_seq
  s_reg
  s_op
  s_op
  s_op
  s_c stepG_region_end
  s_c stepG_ret'
  s_stop
  refine LoneTo.done ⟨.returned (.bool true), _, rfl, ⟨rfl, ?_⟩, rfl, rfl, rfl, rfl, _, Yba.func7, by simp [results, Yba.f7, Frame.at]⟩
  exact (Below.refl _ _).alloc (Nat.le_refl _) _
end Go.Proofs.Ybulkeca
