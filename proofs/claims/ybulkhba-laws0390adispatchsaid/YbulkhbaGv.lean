import Derived.Test.YbulkhbaSv
import Derived.Conc.LoneCalls
namespace Go.Proofs.Ybulkhba
open Go.Conc Go.RowKit
set_option linter.unusedVariables false
set_option linter.unusedSimpArgs false

abbrev wtRow (c : Nat) (left try_ : Bool) : Array Value := #[.chan (some c), .map none, .bool left, .bool try_]
set_option maxRecDepth 100000 in
set_option maxHeartbeats 1600000 in
/-- give, to one whose client has not left. -/
theorem give_sends (Wt c B : Nat) (sl inf try_ wl ex : Int) (wk : Bool) (w : World) (rW : Row w Wt 80 (wtRow c false false)) (rB : Row w B 39 (bkRow sl inf try_ wl ex wk 2)) (hc : w.heap[c]? = some (.chan 1 #[] false 0 0 false)) (hi0 : 0 ≤ inf) (hi1 : inf ≤ 100000) (ht0 : 0 ≤ try_) (ht1 : try_ ≤ 100000) :
    Calls Yba.prog 50 #[.pointer (some ⟨Wt, 0, none⟩), .pointer (some ⟨B, 0, none⟩)] w fun e w' => e = .returned (.tuple #[]) ∧
      w' = (((w.setCell ⟨B, 2, none⟩ (.int .i64 (inf + 1))).setCell ⟨B, 3, none⟩ (.int .i64 (try_ + 1))).setCell ⟨Wt, 3, none⟩ (.bool true)).setChan c 1 #[.pointer (some ⟨B, 0, none⟩)] false 1 0 false := by
  have c2 := rW.cell 2
  have c0 := rW.cell 0
  have c3 := rW.cell 3
  have f3 := rW.frozen 3
  have b2 := rB.cell 2
  have b3 := rB.cell 3
  have b8 := rB.cell 8
  have g2 := rB.frozen 2
  have g3 := rB.frozen 3
  have hne : ¬ Wt = B := rW.ne rB (by decide)
  have hne' : ¬ B = Wt := fun e => hne e.symm
  simp at c2 c0 c3 b2 b3 b8
  have hw1 : IntKind.i64.wrap (inf + 1) = inf + 1 := by rw [IntKind.wrap_i64]; omega
  have hw2 : IntKind.i64.wrap (try_ + 1) = try_ + 1 := by rw [IntKind.wrap_i64]; omega
  refine calls_of_loneTo fun cs => ?_
  have e : Frame.enter Yba.prog 50 #[.pointer (some ⟨Wt, 0, none⟩), .pointer (some ⟨B, 0, none⟩)] .normal = (base 50).at ⟨#[.pointer (some ⟨Wt, 0, none⟩), .pointer (some ⟨B, 0, none⟩), undef, undef, undef, undef, undef, undef, undef, undef, undef, undef, undef, undef, undef, undef, undef, undef, undef, undef, undef, undef, undef, undef, undef, undef, undef, undef, undef, undef, undef, undef, undef, undef, undef, undef], []⟩ [.code (Yba.f50.body.getD .skip)] := by
    simp [Frame.enter, Frame.at, Yba.func50, base, Yba.f50]
  rw [e]
  refine LoneTo.goes (n := 60) ?_
  simp only [Yba.f50, Option.getD_some]
  s_c stepG_seq
  s_reg
  s_op
  s_op
  s_op
  s_op
  s_op
  s_c stepG_region_end
  s_cond true
  s_c stepG_seq
  s_reg
  s_op
  s_op
  s_op
  s_op
  s_op
  s_op
  s_op
  s_op
  s_c stepG_region_end
  s_c stepG_seq
  s_c stepG_seq
  s_reg
  s_op
  s_op
  s_op
  s_op
  s_op
  s_c stepG_region_end
  s_cond true
  s_c stepG_seq
  s_reg
  s_op
  s_op
  s_op
  s_op
  s_op
  s_op
  s_op
  s_op
  s_c stepG_region_end
  s_reg
  s_op
  s_op
  s_op
  s_op
  s_c stepG_region_end
  s_reg
  s_op
  s_op
  s_op
  s_op
  s_op
  s_stop
  obtain ⟨W, hW⟩ : ∃ W, W = ((w.setCell ⟨B, 2, none⟩ (.int .i64 (inf + 1))).setCell ⟨B, 3, none⟩ (.int .i64 (try_ + 1))).setCell ⟨Wt, 3, none⟩ (.bool true) := ⟨_, rfl⟩
  rw [← hW]
  have hcW : W.heap[c]? = some (.chan 1 #[] false 0 0 false) := by
    rw [hW]
    have n1 : c ≠ B := by rintro rfl; rw [rB] at hc; cases hc
    have n2 : c ≠ Wt := by rintro rfl; rw [rW] at hc; cases hc
    rw [Below.heap_setCell _ _ _ _ n2, Below.heap_setCell _ _ _ _ n1, Below.heap_setCell _ _ _ _ n1]
    exact hc
  refine LoneTo.step (step_lone_send_room (c := c) (cap := 1) (buf := #[]) (s := 0) (r := 0) (tm := false) (stepG_comm (cases := #[scase c (.pointer (some ⟨B, 0, none⟩)) (.tuple #[])]) (blocking := true) (shape := .send) (w' := W) rfl rfl (by decide) (by simp [execOp, scase, Act.eval])) hcW (by simp)) ?_
  rw [Frame.finish_at]
  walk_nrm
  refine LoneTo.goes (n := 2) ?_
  s_c stepG_region_end
  s_c stepG_end
  s_stop
  exact LoneTo.done ⟨.returned (.tuple #[]), _, rfl, ⟨rfl, rfl⟩, rfl, rfl, rfl, rfl, _, Yba.func50, by simp [results, Yba.f50, Frame.at]⟩
end Go.Proofs.Ybulkhba
