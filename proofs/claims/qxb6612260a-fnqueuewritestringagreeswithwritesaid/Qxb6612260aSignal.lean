/-
  The contracts of signal (a select of one send with a default, in one goroutine), ZZsignal, ZZnewIdleQueue and ZZwakeLen.
-/
import Derived.Test.Qxb6612260aRows
import Derived.Conc.LoneSelect
import Derived.Conc.LoneSelectN
import Derived.WalkKit
import Derived.KernelRfl
namespace Go.Proofs.Qxb6612260a
open Go.Conc Go.RowKit

theorem bytes42 : ∃ i, Try.prog.info? 42 = some i ∧ i.bytes = 0 := by
  have h : (Try.prog.info? 42).map (·.bytes) = some 0 := by kernel_rfl
  obtain ⟨i, hi, hb⟩ := Option.map_eq_some_iff.1 h
  exact ⟨i, hi, hb⟩
theorem mk1 (w : World) : (Instr.makeChan 39 (.int .i64 1)).run Try.prog w = .ok (.chan (some w.heap.size)) (w.alloc (.chan 1 #[] false 0 0 false)) := by
  obtain ⟨i, hi, hb⟩ := bytes42
  simpa using run_makeChan (P := Try.prog) (w := w) Try.underlying39 hi .i64 1 (by omega) (by rw [hb]; omega)
theorem mk0 (w : World) : (Instr.makeChan 39 (.int .i64 0)).run Try.prog w = .ok (.chan (some w.heap.size)) (w.alloc (.chan 0 #[] false 0 0 false)) := by
  obtain ⟨i, hi, hb⟩ := bytes42
  simpa using run_makeChan (P := Try.prog) (w := w) Try.underlying39 hi .i64 0 (by omega) (by rw [hb]; omega)
theorem bd (w : World) : (Instr.build 42 #[]).run Try.prog w = .ok (.agg #[]) w := run_build w 42 #[] #[] (by kernel_rfl)

set_option maxRecDepth 100000 in
/-- signal, the channel's buffer having room: the token goes in. -/
theorem signal_room (q o c s r : Nat) (w : World) (hq : w.cell? ⟨q, o + 1, none⟩ = some (.chan (some c))) (hc : w.heap[c]? = some (.chan 1 #[] false s r false)) :
    Calls Try.prog 21 #[.pointer (some ⟨q, o, none⟩)] w fun e w' => e = .returned (.tuple #[]) ∧ w' = w.setChan c 1 #[.agg #[]] false (s + 1) r false := by
  refine calls_of_loneTo fun cs => ?_
  have e : Frame.enter Try.prog 21 #[.pointer (some ⟨q, o, none⟩)] .normal = (base 21).at ⟨#[.pointer (some ⟨q, o, none⟩), undef, undef, undef, undef, undef, undef, undef, undef, undef], []⟩ [.code (Try.f21.body.getD .skip)] := by
    simp [Frame.enter, Frame.at, Try.func21, base, Try.f21]
  rw [e]
  have hbd := bd
  refine LoneTo.goes (n := 30) ?_
  simp only [Try.f21, Option.getD_some]
  s_c stepG_seq
  s_c stepG_seq
  s_reg
  s_op
  s_op
  s_op
  s_op
  s_c stepG_region_end
  s_reg
  s_op
  s_c stepG_region_end
  s_c stepG_seq
  s_reg
  s_stop
  refine LoneTo.step (step_lone_select_send_room (c := c) (cap := 1) (buf := #[]) (s := s) (r := r) (tm := false) (stepG_comm (cases := #[scase c (.agg #[]) (.agg #[])]) (blocking := false) (shape := .select) (w' := w) rfl rfl (by decide) (by simp [go_sem, execOp, scase, Act.eval])) hc (by simp)) ?_
  rw [Frame.finish_at]
  walk_nrm
  refine LoneTo.goes (n := 20) ?_
  s_op
  s_op
  s_c stepG_region_end
  s_c stepG_block
  s_cond true
  s_c stepG_skip
  s_c stepG_inBlock
  s_c stepG_end
  s_stop
  refine LoneTo.done ⟨.returned (.tuple #[]), _, rfl, ⟨rfl, rfl⟩, rfl, rfl, rfl, rfl, _, Try.func21, by simp [results, Try.f21, Frame.at]⟩

set_option maxRecDepth 100000 in
/-- signal, the channel's buffer being full: the default; nothing turns. -/
theorem signal_full (q o c s r : Nat) (w : World) (hq : w.cell? ⟨q, o + 1, none⟩ = some (.chan (some c))) (hc : w.heap[c]? = some (.chan 1 #[.agg #[]] false s r false)) :
    Calls Try.prog 21 #[.pointer (some ⟨q, o, none⟩)] w fun e w' => e = .returned (.tuple #[]) ∧ w' = w := by
  refine calls_of_loneTo fun cs => ?_
  have e : Frame.enter Try.prog 21 #[.pointer (some ⟨q, o, none⟩)] .normal = (base 21).at ⟨#[.pointer (some ⟨q, o, none⟩), undef, undef, undef, undef, undef, undef, undef, undef, undef], []⟩ [.code (Try.f21.body.getD .skip)] := by
    simp [Frame.enter, Frame.at, Try.func21, base, Try.f21]
  rw [e]
  have hbd := bd
  refine LoneTo.goes (n := 30) ?_
  simp only [Try.f21, Option.getD_some]
  s_c stepG_seq
  s_c stepG_seq
  s_reg
  s_op
  s_op
  s_op
  s_op
  s_c stepG_region_end
  s_reg
  s_op
  s_c stepG_region_end
  s_c stepG_seq
  s_reg
  s_stop
  refine LoneTo.step (step_lone_select_send_full (c := c) (cap := 1) (buf := #[.agg #[]]) (s := s) (r := r) (tm := false) (stepG_comm (cases := #[scase c (.agg #[]) (.agg #[])]) (blocking := false) (shape := .select) (w' := w) rfl rfl (by decide) (by simp [go_sem, execOp, scase, Act.eval])) hc (by simp)) ?_
  rw [Frame.finish_at]
  walk_nrm
  refine LoneTo.goes (n := 20) ?_
  s_op
  s_op
  s_c stepG_region_end
  s_c stepG_block
  s_cond false
  s_c stepG_skip
  s_c stepG_inBlock
  s_c stepG_end
  s_stop
  refine LoneTo.done ⟨.returned (.tuple #[]), _, rfl, ⟨rfl, rfl⟩, rfl, rfl, rfl, rfl, _, Try.func21, by simp [results, Try.f21, Frame.at]⟩

end Go.Proofs.Qxb6612260a
