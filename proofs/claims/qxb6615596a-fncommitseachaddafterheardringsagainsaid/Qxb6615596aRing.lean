/-
  THE BELL: ring (27), ZZcommitsTakeRing (20), ZZnewCommits (15) with its first ring: communication in one goroutine, each by one step of the machine. By an AI agent, Nov 2026.
-/
import Derived.Test.Qxb6615596aRows
import Derived.Conc.LoneCalls
import Derived.Conc.LoneSelect
import Derived.KernelRfl
import Derived.Laws.Rows
import Derived.WalkKit
namespace Go.Proofs.Qxb6615596a.Bell
open Go.Conc Go.RowKit
set_option linter.unusedVariables false

theorem unit_any (w : World) : (Instr.build 52 #[]).run Try.prog w = .ok (.agg #[]) w := by kernel_rfl

set_option maxRecDepth 100000 in
/-- The bell is quiet: it rings. -/
theorem ring_room (B C s r : Nat) (w : World) (hb : w.cell? ⟨B, 0, none⟩ = some (.chan (some C))) (hc : w.heap[C]? = some (.chan 1 #[] false s r false)) :
    Calls Try.prog 27 #[.pointer (some ⟨B, 0, none⟩)] w fun e w' => e = .returned (.tuple #[]) ∧ w' = w.setChan C 1 #[.agg #[]] false (s + 1) r false := by
  refine calls_of_loneTo fun cs => ?_
  have e : Frame.enter Try.prog 27 #[.pointer (some ⟨B, 0, none⟩)] .normal = (base 27).at ⟨#[.pointer (some ⟨B, 0, none⟩), undef, undef, undef, undef, undef, undef, undef, undef, undef], []⟩ [.code (Try.f27.body.getD .skip)] := by
    simp [Frame.enter, Frame.at, Try.func27, base, Try.f27]
  rw [e]
  have hun := unit_any
  refine LoneTo.goes (n := 13) ?_
  simp only [Try.f27, Option.getD_some]
  s_c stepG_seq
  s_c stepG_seq
  s_reg
  s_op
  s_op
  s_op
  s_op
  s_c stepG_region_end
  s_reg
  s_op
  s_c stepG_region_end
  s_c stepG_seq
  s_reg
  s_stop
  refine LoneTo.step (step_lone_select_send_room (c := C) (v := .agg #[]) (z' := .agg #[]) (cap := 1) (buf := #[]) (s := s) (r := r) (tm := false)
    (stepG_comm (cases := #[scase C (.agg #[]) (.agg #[])]) (blocking := false) (shape := .select) (w' := w) rfl rfl (by decide) (by simp [go_sem, execOp, scase, Act.eval])) hc (by simp)) ?_
  rw [Frame.finish_at]
  walk_nrm
  refine LoneTo.goes (n := 8) ?_
  s_op
  s_op
  s_c stepG_region_end
  s_c stepG_block
  s_cond true
  s_c stepG_skip
  s_c stepG_inBlock
  s_c stepG_end
  s_stop
  exact LoneTo.done ⟨.returned (.tuple #[]), _, rfl, ⟨rfl, rfl⟩, rfl, rfl, rfl, rfl, _, Try.func27, by simp [results, Try.f27, Frame.at]⟩

set_option maxRecDepth 100000 in
/-- The bell is ringing already: nothing turns. -/
theorem ring_full (B C s r : Nat) (w : World) (hb : w.cell? ⟨B, 0, none⟩ = some (.chan (some C))) (hc : w.heap[C]? = some (.chan 1 #[.agg #[]] false s r false)) :
    Calls Try.prog 27 #[.pointer (some ⟨B, 0, none⟩)] w fun e w' => e = .returned (.tuple #[]) ∧ w' = w := by
  refine calls_of_loneTo fun cs => ?_
  have e : Frame.enter Try.prog 27 #[.pointer (some ⟨B, 0, none⟩)] .normal = (base 27).at ⟨#[.pointer (some ⟨B, 0, none⟩), undef, undef, undef, undef, undef, undef, undef, undef, undef], []⟩ [.code (Try.f27.body.getD .skip)] := by
    simp [Frame.enter, Frame.at, Try.func27, base, Try.f27]
  rw [e]
  have hun := unit_any
  refine LoneTo.goes (n := 13) ?_
  simp only [Try.f27, Option.getD_some]
  s_c stepG_seq
  s_c stepG_seq
  s_reg
  s_op
  s_op
  s_op
  s_op
  s_c stepG_region_end
  s_reg
  s_op
  s_c stepG_region_end
  s_c stepG_seq
  s_reg
  s_stop
  refine LoneTo.step (step_lone_select_send_full (c := C) (v := .agg #[]) (z' := .agg #[]) (cap := 1) (buf := #[.agg #[]]) (s := s) (r := r) (tm := false)
    (stepG_comm (cases := #[scase C (.agg #[]) (.agg #[])]) (blocking := false) (shape := .select) (w' := w) rfl rfl (by decide) (by simp [go_sem, execOp, scase, Act.eval])) hc (by simp)) ?_
  rw [Frame.finish_at]
  walk_nrm
  refine LoneTo.goes (n := 8) ?_
  s_op
  s_op
  s_c stepG_region_end
  s_c stepG_block
  s_cond false
  s_c stepG_skip
  s_c stepG_inBlock
  s_c stepG_end
  s_stop
  exact LoneTo.done ⟨.returned (.tuple #[]), _, rfl, ⟨rfl, rfl⟩, rfl, rfl, rfl, rfl, _, Try.func27, by simp [results, Try.f27, Frame.at]⟩

set_option maxRecDepth 100000 in
/-- A ringing bell is heard, and is quiet behind it. -/
theorem take_some (B C s r : Nat) (w : World) (hb : w.cell? ⟨B, 0, none⟩ = some (.chan (some C))) (hc : w.heap[C]? = some (.chan 1 #[.agg #[]] false s r false)) :
    Calls Try.prog 20 #[.pointer (some ⟨B, 0, none⟩)] w fun e w' => e = .returned (.bool true) ∧ w' = w.setChan C 1 #[] false s (r + 1) false := by
  refine calls_of_loneTo fun cs => ?_
  have e : Frame.enter Try.prog 20 #[.pointer (some ⟨B, 0, none⟩)] .normal = (base 20).at ⟨#[.pointer (some ⟨B, 0, none⟩), undef, undef, undef, undef, undef, undef, undef, undef, undef], []⟩ [.code (Try.f20.body.getD .skip)] := by
    simp [Frame.enter, Frame.at, Try.func20, base, Try.f20]
  rw [e]
  refine LoneTo.goes (n := 13) ?_
  simp only [Try.f20, Option.getD_some]
  s_c stepG_seq
  s_reg
  s_op
  s_c stepG_region_end
  s_c stepG_seq
  s_reg
  s_op
  s_op
  s_op
  s_op
  s_c stepG_region_end
  s_c stepG_seq
  s_reg
  s_stop
  refine LoneTo.step (step_lone_select_recv_buf (c := C) (z := .agg #[]) (cap := 1) (buf := #[.agg #[]]) (closed := false) (s := s) (r := r) (tm := false)
    (stepG_comm (cases := #[rcase C (.agg #[])]) (blocking := false) (shape := .select) (w' := w) rfl rfl (by decide) (by simp [go_sem, execOp, rcase, Act.eval])) hc (by simp)) ?_
  rw [Frame.finish_at]
  walk_nrm
  refine LoneTo.goes (n := 10) ?_
  s_op
  s_op
  s_c stepG_region_end
  s_c stepG_block
  s_cond true
  s_c stepG_seq
  s_reg
  s_op
  s_c stepG_region_end
  s_c stepG_ret'
  s_stop
  exact LoneTo.done ⟨.returned (.bool true), _, rfl, ⟨rfl, by simp⟩, rfl, rfl, rfl, rfl, _, Try.func20, by simp [results, Try.f20, Frame.at]⟩

set_option maxRecDepth 100000 in
/-- A quiet bell: nothing is heard. -/
theorem take_none (B C s r : Nat) (w : World) (hb : w.cell? ⟨B, 0, none⟩ = some (.chan (some C))) (hc : w.heap[C]? = some (.chan 1 #[] false s r false)) :
    Calls Try.prog 20 #[.pointer (some ⟨B, 0, none⟩)] w fun e w' => e = .returned (.bool false) ∧ w' = w := by
  refine calls_of_loneTo fun cs => ?_
  have e : Frame.enter Try.prog 20 #[.pointer (some ⟨B, 0, none⟩)] .normal = (base 20).at ⟨#[.pointer (some ⟨B, 0, none⟩), undef, undef, undef, undef, undef, undef, undef, undef, undef], []⟩ [.code (Try.f20.body.getD .skip)] := by
    simp [Frame.enter, Frame.at, Try.func20, base, Try.f20]
  rw [e]
  refine LoneTo.goes (n := 13) ?_
  simp only [Try.f20, Option.getD_some]
  s_c stepG_seq
  s_reg
  s_op
  s_c stepG_region_end
  s_c stepG_seq
  s_reg
  s_op
  s_op
  s_op
  s_op
  s_c stepG_region_end
  s_c stepG_seq
  s_reg
  s_stop
  refine LoneTo.step (step_lone_select_default (c := C) (z := .agg #[]) (cap := 1) (s := s) (r := r) (tm := false)
    (stepG_comm (cases := #[rcase C (.agg #[])]) (blocking := false) (shape := .select) (w' := w) rfl rfl (by decide) (by simp [go_sem, execOp, rcase, Act.eval])) hc) ?_
  rw [Frame.finish_at]
  walk_nrm
  refine LoneTo.goes (n := 10) ?_
  s_op
  s_op
  s_c stepG_region_end
  s_c stepG_block
  s_cond false
  s_c stepG_seq
  s_reg
  s_op
  s_c stepG_region_end
  s_c stepG_ret'
  s_stop
  exact LoneTo.done ⟨.returned (.bool false), _, rfl, ⟨rfl, rfl⟩, rfl, rfl, rfl, rfl, _, Try.func20, by simp [results, Try.f20, Frame.at]⟩

theorem bytes52 : ∃ i, Try.prog.info? 52 = some i ∧ i.bytes = 0 := by
  have h : (Try.prog.info? 52).map (·.bytes) = some 0 := by kernel_rfl
  obtain ⟨i, hi, hb⟩ := Option.map_eq_some_iff.1 h
  exact ⟨i, hi, hb⟩
theorem mk1 (w : World) : (Instr.makeChan 51 (.int .i64 1)).run Try.prog w = .ok (.chan (some w.heap.size)) (w.alloc (.chan 1 #[] false 0 0 false)) := by
  obtain ⟨i, hi, hb⟩ := bytes52
  simpa using run_makeChan (P := Try.prog) (w := w) Try.underlying51 hi .i64 1 (by omega) (by rw [hb]; omega)

theorem build_any (C : Nat) (ao : Option Addr) (n c : Nat) (w : World) : (Instr.build 59 #[(0, .chan (some C)), (2, .slice ao n c)]).run Try.prog w = .ok (.agg #[.chan (some C), .int .i32 0, .int .u32 0, .slice ao n c]) w := by kernel_rfl

set_option maxRecDepth 100000 in
/-- A new one, rung at once. -/
theorem new_rung (ao : Option Addr) (n c : Nat) (w : World) :
    Calls Try.prog 15 #[.slice ao n c, .bool true] w fun e w' => e = .returned (.pointer (some ⟨w.heap.size + 1, 0, none⟩)) ∧
      w' = ((w.alloc (.chan 1 #[] false 0 0 false)).alloc (.cells #[.chan (some w.heap.size), .int .i32 0, .int .u32 0, .slice ao n c] 59)).setChan w.heap.size 1 #[.agg #[]] false 1 0 false := by
  refine calls_of_loneTo fun cs => ?_
  have e : Frame.enter Try.prog 15 #[.slice ao n c, .bool true] .normal = (base 15).at ⟨#[.slice ao n c, .bool true, undef, undef, undef, undef, undef, undef, undef, undef, undef, undef, undef, undef, undef, undef, undef], []⟩ [.code (Try.f15.body.getD .skip)] := by
    simp [Frame.enter, Frame.at, Try.func15, base, Try.f15]
  rw [e]
  have hun := unit_any
  have hmc := mk1
  have hbd := build_any
  refine LoneTo.goes (n := 24) ?_
  simp only [Try.f15, Option.getD_some]
  s_c stepG_seq
  s_reg
  s_op
  s_c stepG_region_end
  s_c stepG_seq
  s_reg
  s_op
  s_op
  s_op
  s_op
  s_op
  s_c stepG_region_end
  s_c stepG_seq
  s_c stepG_seq
  s_reg
  s_op
  s_c stepG_region_end
  s_cond true
  s_reg
  s_op
  s_op
  s_op
  s_op
  s_op
  s_stop
  refine LoneTo.step (step_lone_send_room (c := w.heap.size) (cap := 1) (buf := #[]) (s := 0) (r := 0) (tm := false)
    (stepG_comm (cases := #[scase w.heap.size (.agg #[]) (.tuple #[])]) (blocking := true) (shape := .send) (w' := (w.alloc (.chan 1 #[] false 0 0 false)).alloc (.cells #[.chan (some w.heap.size), .int .i32 0, .int .u32 0, .slice ao n c] 59)) rfl rfl (by decide) (by simp [execOp, scase, Act.eval]))
    (by rw [Below.heap_alloc _ _ _ (by simp)]; exact heap_alloc_new w _) (by simp)) ?_
  rw [Frame.finish_at]
  walk_nrm
  refine LoneTo.goes (n := 7) ?_
  s_c stepG_region_end
  s_c stepG_seq
  s_reg
  s_op
  s_op
  s_c stepG_region_end
  s_c stepG_ret'
  s_stop
  exact LoneTo.done ⟨.returned (.pointer (some ⟨w.heap.size + 1, 0, none⟩)), _, rfl, ⟨rfl, rfl⟩, rfl, rfl, rfl, rfl, _, Try.func15, by simp [results, Try.f15, Frame.at]⟩
end Go.Proofs.Qxb6615596a.Bell
