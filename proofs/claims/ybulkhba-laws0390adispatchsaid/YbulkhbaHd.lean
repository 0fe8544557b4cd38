import Derived.Test.YbulkhbaGv
import Derived.LaidEqlPtr
namespace Go.Proofs.Ybulkhba
open Go.Conc Go.RowKit
set_option linter.unusedVariables false
set_option linter.unusedSimpArgs false

/-- give, to one whose client has left. -/
theorem give_left (Wt c B : Nat) (t : Bool) (w : World) (rW : Row w Wt 80 (wtRow c true t)) :
    Calls Yba.prog 50 #[.pointer (some ⟨Wt, 0, none⟩), .pointer (some ⟨B, 0, none⟩)] w fun e w' => e = .returned (.tuple #[]) ∧ w' = w := by
  have c2 := rW.cell 2
  simp at c2
  go_enter Yba.func50, Yba.ntmps50
  go_wp2
  go_end0
  exact ⟨rfl, rfl⟩
theorem run_chanLen {w : World} {c cap : Nat} {buf : Array Value} {cl : Bool} {s r : Nat} (h : w.heap[c]? = some (.chan cap buf cl s r false)) (ty : TypeId) : (Builtin.len_ #[76] ty #[.chan (some c)]).run Yba.prog w = .ok (.int .i64 buf.size) w := by
  have hg : (getObj c).run Yba.prog w = .ok (.chan cap buf cl s r false) w := by simp [getObj, Sem.run, h]
  simp [Builtin.len_, run_underlying Yba.underlying76, goInt, Result.andThen, hg]
theorem eql_same33 (a : Addr) (w : World) : (binOp .eql 33 (.pointer (some a)) (.pointer (some a))).run Yba.prog w = .ok (.bool true) w := by
  have h : (Yba.prog.info? 39).isSome = true := by kernel_rfl
  obtain ⟨j, hj⟩ := Option.isSome_iff_exists.1 h
  exact run_eql_ptr_same w a Yba.underlying33 hj
/-- zzs0390aheld: nothing lies in the channel. -/
theorem held_none (Wt c B : Nat) (l t : Bool) (s r : Nat) (w : World) (rW : Row w Wt 80 (wtRow c l t)) (hc : w.heap[c]? = some (.chan 1 #[] false s r false)) :
    Calls Yba.prog 14 #[.pointer (some ⟨Wt, 0, none⟩), .pointer (some ⟨B, 0, none⟩)] w fun e w' => e = .returned (.bool false) ∧ w' = w := by
  have c0 := rW.cell 0
  simp at c0
  have hl := fun ty => run_chanLen hc ty
  simp at hl
  go_enter Yba.func14, Yba.ntmps14
  go_wp2
  go_ret
  exact ⟨rfl, rfl⟩
set_option maxRecDepth 100000 in
set_option maxHeartbeats 1600000 in
/-- zzs0390aheld: the backend lies in it. -/
theorem held_one (Wt c B : Nat) (l t : Bool) (w : World) (rW : Row w Wt 80 (wtRow c l t)) (hc : w.heap[c]? = some (.chan 1 #[.pointer (some ⟨B, 0, none⟩)] false 1 0 false)) :
    Calls Yba.prog 14 #[.pointer (some ⟨Wt, 0, none⟩), .pointer (some ⟨B, 0, none⟩)] w fun e w' => e = .returned (.bool true) ∧ w' = w.setChan c 1 #[] false 1 1 false := by
  have c0 := rW.cell 0
  simp at c0
  have hl := fun ty => run_chanLen hc ty
  simp at hl
  have hpe := eql_same33 ⟨B, 0, none⟩
  refine calls_of_loneTo fun cs => ?_
  have e : Frame.enter Yba.prog 14 #[.pointer (some ⟨Wt, 0, none⟩), .pointer (some ⟨B, 0, none⟩)] .normal = (base 14).at ⟨#[.pointer (some ⟨Wt, 0, none⟩), .pointer (some ⟨B, 0, none⟩), undef, undef, undef, undef, undef, undef, undef, undef, undef, undef, undef, undef, undef, undef, undef, undef], []⟩ [.code (Yba.f14.body.getD .skip)] := by
    simp [Frame.enter, Frame.at, Yba.func14, base, Yba.f14]
  rw [e]
  refine LoneTo.goes (n := 60) ?_
  simp only [Yba.f14, Option.getD_some]
  s_c stepG_seq
  s_reg
  s_op
  s_c stepG_region_end
  s_c stepG_seq
  s_c stepG_seq
  s_reg
  s_op
  s_op
  s_op
  s_op
  s_op
  s_op
  s_c stepG_region_end
  s_cond false
  s_c stepG_skip
  s_c stepG_seq
  s_reg
  s_op
  s_op
  s_op
  s_op
  s_stop
  refine LoneTo.step (step_lone_recv_buf false (c := c) (z := .pointer none) (stepG_comm (cases := #[rcase c (.pointer none)]) (blocking := true) (shape := .recv false) (w' := w) rfl rfl (by decide) (by simp [go_sem, rcase])) hc (by simp)) ?_
  rw [Frame.finish_at]
  simp only [got]
  walk_nrm
  refine LoneTo.goes (n := 5) ?_
  s_op
  s_op
  s_op
  s_c stepG_region_end
  s_c stepG_ret'
  s_stop
  refine LoneTo.done ⟨.returned (.bool true), _, rfl, ⟨rfl, ?_⟩, rfl, rfl, rfl, rfl, _, Yba.func14, by simp [results, Yba.f14, Frame.at]⟩
  simp
end Go.Proofs.Ybulkhba
