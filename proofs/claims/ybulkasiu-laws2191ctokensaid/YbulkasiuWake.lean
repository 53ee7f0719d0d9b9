/-
  'LawS2191CToken': the real clock's 'wake' (a select of one send with a default) and 'newRealClock'. Our own work over the given program.
-/
import Derived.Test.YbulkasiuRows
import Derived.Conc.LoneSelect
import Derived.Conc.LoneSelectN
import Derived.Laws.Rows
import Derived.KernelRfl
import Derived.Below
namespace Go.Proofs.Ybulkasiu
open Go.Conc Go.RowKit

theorem build35 (w : World) : (Instr.build 35 #[]).run Yba.prog w = .ok (.agg #[]) w := by kernel_rfl

set_option maxRecDepth 100000 in
/-- There is room: the token goes in. -/
theorem wake_room (T c cap s r : Nat) (buf : Array Value) (w : World) (h0 : w.cell? ⟨T, 0, none⟩ = some (.chan (some c))) (hc : w.heap[c]? = some (.chan cap buf false s r false)) (hroom : buf.size < cap) :
    Calls Yba.prog 10 #[.pointer (some ⟨T, 0, none⟩), .pointer none] w fun e w' => e = .returned (.tuple #[]) ∧ w' = w.setChan c cap (buf.push (.agg #[])) false (s + 1) r false := by
  refine calls_of_loneTo fun cs => ?_
  have e : Frame.enter Yba.prog 10 #[.pointer (some ⟨T, 0, none⟩), .pointer none] .normal = (base 10).at ⟨#[.pointer (some ⟨T, 0, none⟩), .pointer none, undef, undef, undef, undef, undef, undef, undef, undef, undef, undef], []⟩ [.code (Yba.f10.body.getD .skip)] := by
    simp [Frame.enter, Frame.at, Yba.func10, base, Yba.f10]
    try rfl
  rw [e]
  have hb35 := build35
  refine LoneTo.goes (n := 13) ?_
  simp only [Yba.f10, Option.getD_some]
  s_c stepG_seq
  s_c stepG_seq
  s_reg
  s_op
  s_op
  s_op
  s_op
  s_c stepG_region_end
  s_reg
  s_op
  s_c stepG_region_end
  s_c stepG_seq
  s_reg
  s_stop
  refine LoneTo.step (step_lone_select_send_room (c := c) (cap := cap) (buf := buf) (s := s) (r := r) (tm := false) (stepG_comm (cases := #[scase c (.agg #[]) (.agg #[])]) (blocking := false) (shape := .select) (w' := w) rfl rfl (by decide) (by simp [go_sem, execOp, scase, Act.eval])) hc hroom) ?_
  rw [Frame.finish_at]
  walk_nrm
  refine LoneTo.goes (n := 10) ?_
  s_op
  s_op
  s_c stepG_region_end
  s_c stepG_block
  s_cond true
  s_c stepG_skip
  s_c stepG_inBlock
  s_c stepG_end
  s_stop
  refine LoneTo.done ⟨.returned (.tuple #[]), _, rfl, ⟨rfl, rfl⟩, rfl, rfl, rfl, rfl, _, Yba.func10, by simp [results, Yba.f10, Frame.at]⟩

set_option maxRecDepth 100000 in
/-- There is no room: nothing is done. -/
theorem wake_full (T c cap s r : Nat) (buf : Array Value) (w : World) (h0 : w.cell? ⟨T, 0, none⟩ = some (.chan (some c))) (hc : w.heap[c]? = some (.chan cap buf false s r false)) (hroom : cap ≤ buf.size) :
    Calls Yba.prog 10 #[.pointer (some ⟨T, 0, none⟩), .pointer none] w fun e w' => e = .returned (.tuple #[]) ∧ w' = w := by
  refine calls_of_loneTo fun cs => ?_
  have e : Frame.enter Yba.prog 10 #[.pointer (some ⟨T, 0, none⟩), .pointer none] .normal = (base 10).at ⟨#[.pointer (some ⟨T, 0, none⟩), .pointer none, undef, undef, undef, undef, undef, undef, undef, undef, undef, undef], []⟩ [.code (Yba.f10.body.getD .skip)] := by
    simp [Frame.enter, Frame.at, Yba.func10, base, Yba.f10]
    try rfl
  rw [e]
  have hb35 := build35
  refine LoneTo.goes (n := 13) ?_
  simp only [Yba.f10, Option.getD_some]
  s_c stepG_seq
  s_c stepG_seq
  s_reg
  s_op
  s_op
  s_op
  s_op
  s_c stepG_region_end
  s_reg
  s_op
  s_c stepG_region_end
  s_c stepG_seq
  s_reg
  s_stop
  refine LoneTo.step (step_lone_select_send_full (c := c) (cap := cap) (buf := buf) (s := s) (r := r) (tm := false) (stepG_comm (cases := #[scase c (.agg #[]) (.agg #[])]) (blocking := false) (shape := .select) (w' := w) rfl rfl (by decide) (by simp [go_sem, execOp, scase, Act.eval])) hc hroom) ?_
  rw [Frame.finish_at]
  walk_nrm
  refine LoneTo.goes (n := 10) ?_
  s_op
  s_op
  s_c stepG_region_end
  s_c stepG_block
  s_cond false
  s_c stepG_skip
  s_c stepG_inBlock
  s_c stepG_end
  s_stop
  refine LoneTo.done ⟨.returned (.tuple #[]), _, rfl, ⟨rfl, rfl⟩, rfl, rfl, rfl, rfl, _, Yba.func10, by simp [results, Yba.f10, Frame.at]⟩
end Go.Proofs.Ybulkasiu
