import Derived.Test.YbulkhbaSv
namespace Go.Proofs.Ybulkhba
open Go.RowKit
open Go.MuLone
set_option linter.unusedVariables false
set_option linter.unusedSimpArgs false

set_option maxRecDepth 100000 in
set_option maxHeartbeats 800000 in
/-- (time.Time).Before, by the seconds. -/
theorem before_sec (wl ex ex2 : Int) (w : World) (h0 : 0 ≤ wl) (h1 : wl < 1000000000) (hlt : ex < ex2) :
    Calls Yba.prog 91 #[.agg (tmV wl ex), .agg (tmV wl ex2)] w fun e w' => e = .returned (.bool true) ∧ Below w.heap.size w w' := by
  have r1 : Row ((w.alloc (.cells (tmV wl ex) 29)).alloc (.cells (tmV wl ex2) 29)) w.heap.size 29 (tmV wl ex) := (row_new w 29 _ _ rfl).alloc _
  have r2 : Row ((w.alloc (.cells (tmV wl ex) 29)).alloc (.cells (tmV wl ex2) 29)) (w.heap.size + 1) 29 (tmV wl ex2) := row_new _ 29 _ _ (by simp)
  have hb := u64_self h0 (show wl < 1073741824 by omega)
  have ht := u64_top h0 (show wl < 1073741824 by omega)
  go_enter Yba.func91, Yba.ntmps91
  go_wp2_with fail
  refine (sec_any _ wl ex _ (r1.cell 0) (r1.cell 1) h0 h1).mono ?_
  rintro e w1 ⟨rfl, rfl⟩
  go_wp2_with fail
  refine (sec_any _ wl ex2 _ (r2.cell 0) (r2.cell 1) h0 h1).mono ?_
  rintro e w1 ⟨rfl, rfl⟩
  go_wp2
  go_ret
  exact ⟨rfl, ((Below.refl _ _).alloc (Nat.le_refl _) _).alloc (by simp) _⟩
set_option maxRecDepth 100000 in
set_option maxHeartbeats 800000 in
/-- (*backend).up, while it is down. -/
theorem up_down (B : Nat) (wl ex ex2 : Int) (sl inf try_ : Int) (wk : Bool) (tr : Int) (w : World) (rB : Row w B 39 (bkRow sl inf try_ wl ex2 wk tr)) (h0 : 0 ≤ wl) (h1 : wl < 1000000000) (hlt : ex < ex2) :
    Calls Yba.prog 69 #[.pointer (some ⟨B, 0, none⟩), .agg (tmV wl ex)] w fun e w' => e = .returned (.bool false) ∧ Below w.heap.size w w' := by
  have r1 := row_new w 29 (tmV wl ex) _ rfl
  have rB1 := rB.alloc (.cells (tmV wl ex) 29)
  have BF : Hid (∀ u : Ext (w.alloc (.cells (tmV wl ex) 29)), Calls Yba.prog 91 #[.agg (tmV wl ex), .agg (tmV wl ex2)] u.1 fun e w' => e = .returned (.bool true) ∧ Below u.1.heap.size u.1 w') := fun u => before_sec wl ex ex2 u.1 h0 h1 hlt
  have ne : Nonempty (Ext (w.alloc (.cells (tmV wl ex) 29))) := ⟨⟨_, Below.refl _ _⟩⟩
  have z0 := fun u : Ext (w.alloc (.cells (tmV wl ex) 29)) => (r1.ext u).cell 0
  have z1 := fun u : Ext (w.alloc (.cells (tmV wl ex) 29)) => (r1.ext u).cell 1
  have z2 := fun u : Ext (w.alloc (.cells (tmV wl ex) 29)) => (r1.ext u).cell 2
  have b4 := fun u : Ext (w.alloc (.cells (tmV wl ex) 29)) => (rB1.ext u).cell 4
  have b5 := fun u : Ext (w.alloc (.cells (tmV wl ex) 29)) => (rB1.ext u).cell 5
  have b6 := fun u : Ext (w.alloc (.cells (tmV wl ex) 29)) => (rB1.ext u).cell 6
  simp at z0 z1 z2 b4 b5 b6
  clear rB rB1 r1
  go_enter Yba.func69, Yba.ntmps69
  go_wp2_with fail
  refine wp_region_ext (by kernel_rfl) (by kernel_rfl) ?_
  unfold InExt
  repeat (go_big_quiet_step ((go_at_call 91; exact quietE _ (BF.out _))))
  refine wpQuiet_nil ?_
  rintro _ ⟨u, rfl⟩
  go_wp2
  go_ret
  exact ⟨rfl, ((Below.refl _ _).alloc (Nat.le_refl _) _).trans (u.2.mono (by simp))⟩
set_option maxRecDepth 100000 in
/-- refusals.has: none has refused. -/
theorem has_nil (B : Nat) (w : World) : Calls Yba.prog 74 #[.map none, .pointer (some ⟨B, 0, none⟩)] w fun e w' => e = .returned (.bool false) ∧ w' = w := by
  have hl : ∀ w, (Instr.lookup 78 (.map none) (.pointer (some ⟨B, 0, none⟩)) true).run Yba.prog w = .ok (.tuple #[.int .i64 0, .bool false]) w := fun w => by kernel_rfl
  go_enter Yba.func74, Yba.ntmps74
  go_wp2
  go_ret
  exact ⟨rfl, rfl⟩
set_option maxRecDepth 100000 in
/-- next$1: no one has refused. -/
theorem next1_nil (B P : Nat) (w : World) (r : Row w P 78 #[.map none]) : Calls Yba.prog 73 #[.pointer (some ⟨B, 0, none⟩), .pointer (some ⟨P, 0, none⟩)] w fun e w' => e = .returned (.bool true) ∧ w' = w := by
  have c0 := r.cell 0
  simp at c0
  go_enter Yba.func73, Yba.ntmps73
  go_wp2_with fail
  refine (has_nil B w).mono ?_
  rintro e w1 ⟨rfl, rfl⟩
  go_wp2
  go_ret
  exact ⟨rfl, rfl⟩
end Go.Proofs.Ybulkhba
