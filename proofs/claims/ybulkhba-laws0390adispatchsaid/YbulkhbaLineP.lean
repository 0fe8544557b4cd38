import Derived.Test.YbulkhbaTail
namespace Go.Proofs.Ybulkhba
open Go.RowKit
set_option linter.unusedVariables false
set_option linter.unusedSimpArgs false

set_option maxHeartbeats 800000 in
/-- (*line[*tenantLine]).len -/
theorem lenP_any (b o n cap hd : Nat) (a : Option Addr) (w : World) (hn : n ≤ maxLen) (hh : hd ≤ n)
    (c0 : w.cell? ⟨b, o, none⟩ = some (.slice a n cap)) (c1 : w.cell? ⟨b, o + 1, none⟩ = some (.int .i64 hd)) :
    Calls Yba.prog 37 #[.pointer (some ⟨b, o, none⟩)] w fun e w' => e = .returned (.int .i64 ((n : Int) - hd)) ∧ ∃ k, w' = w.drewN k := by
  unfold maxLen at hn
  go_enter Yba.func37, Yba.ntmps37
  go_wp2
  go_quiet (fail)
  go_wp2
  go_ret
  exact ⟨rfl, _, rfl⟩

set_option maxHeartbeats 800000 in
/-- (*line[*tenantLine]).front -/
theorem frontP_any (b o n cap hd g : Nat) (p : Option Addr) (w : World) (hn : n ≤ maxLen) (hh : hd < n)
    (c0 : w.cell? ⟨b, o, none⟩ = some (.slice (some ⟨g, 0, none⟩) n cap)) (c1 : w.cell? ⟨b, o + 1, none⟩ = some (.int .i64 hd)) (c2 : w.cell? ⟨g, hd, none⟩ = some (.pointer p)) :
    Calls Yba.prog 36 #[.pointer (some ⟨b, o, none⟩)] w fun e w' => e = .returned (.pointer p) ∧ ∃ k, w' = w.drewN k := by
  unfold maxLen at hn
  go_enter Yba.func36, Yba.ntmps36
  go_wp2
  go_quiet (fail)
  go_wp2
  go_ret
  exact ⟨rfl, _, rfl⟩

set_option maxHeartbeats 800000 in
/-- (*line[*tenantLine]).values -/
theorem valuesP_any (b o n cap hd g : Nat) (w : World) (hn : n ≤ cap) (hc : cap ≤ maxLen) (hh : hd < n)
    (c0 : w.cell? ⟨b, o, none⟩ = some (.slice (some ⟨g, 0, none⟩) n cap)) (c1 : w.cell? ⟨b, o + 1, none⟩ = some (.int .i64 hd)) :
    Calls Yba.prog 53 #[.pointer (some ⟨b, o, none⟩)] w fun e w' => e = .returned (.slice (some ⟨g, hd, none⟩) (n - hd) (cap - hd)) ∧ ∃ k, w' = w.drewN k := by
  unfold maxLen at hc
  go_enter Yba.func53, Yba.ntmps53
  go_wp2
  go_quiet (fail)
  go_wp2
  go_ret
  exact ⟨rfl, _, rfl⟩

set_option maxHeartbeats 1600000 in
/-- (*line[*tenantLine]).pop -/
theorem popP_any (R n cap hd g : Nat) (p : Option Addr) (c0 c3 c4 : Value) (cs : Array Value) (w : World) (hn : n ≤ cap) (hc : cap ≤ maxLen) (hh : hd < n)
    (r0 : Row w R 131 #[c0, .slice (some ⟨g, 0, none⟩) n cap, .int .i64 hd, c3, c4]) (r1 : Row w g 132 cs) (hcs : cs[hd]? = some (.pointer p)) (hne : ¬ R = g) :
    Calls Yba.prog 42 #[.pointer (some ⟨R, 1, none⟩)] w fun e w' => e = .returned (.tuple #[.pointer p, .bool true]) ∧ Only [R, g] w w' ∧ Row w' g 132 (cs.setIfInBounds hd (.pointer none)) ∧
      ∃ n' hd' : Nat, Row w' R 131 #[c0, .slice (some ⟨g, 0, none⟩) n' cap, .int .i64 hd', c3, c4] ∧ ((hd + 1 = n ∧ n' = 0 ∧ hd' = 0) ∨ (hd + 1 < n ∧ n' = n ∧ hd' = hd + 1)) := by
  unfold maxLen at hc
  have f0 := r0.frozen 1
  have f1 := r0.frozen 2
  have f2 := r1.frozen hd
  have k0 := r0.cell 1
  have k1 := r0.cell 2
  have k2 := (r1.cell hd).trans hcs
  simp at k0 k1
  have hlen := Hid.mk (lenP_any R 1 n cap hd (some ⟨g, 0, none⟩) w (by unfold maxLen; omega) (by omega) k0 k1)
  go_enter Yba.func42, Yba.ntmps42
  go_wp2_with fail
  refine hlen.out.mono ?_
  rintro e w1 ⟨rfl, m1, rfl⟩
  clear hlen
  have hz : (((n : Int) - hd) == 0) = false := by rw [beq_eq_false_iff_ne]; omega
  go_wp2
  go_quiet (fail)
  go_wp2
  refine wp_region_drawn_tail 10 (by kernel_rfl) (by kernel_rfl) ?_
  simp only [List.take_succ_cons, List.take_zero, List.drop_succ_cons, List.drop_zero]
  repeat (go_big_quiet_step (fail))
  refine wpQuiet_nil ?_
  rintro _ ⟨m2, rfl⟩
  go_wp2
  have HI : Hid (Only [R, g] w (((w.drewN (m1 + nq + m2)).setCell { block := g, off := hd } (Value.pointer none)).setCell { block := R, off := 2 } (Value.int IntKind.i64 (↑hd + 1))) ∧
      Row (((w.drewN (m1 + nq + m2)).setCell { block := g, off := hd } (Value.pointer none)).setCell { block := R, off := 2 } (Value.int IntKind.i64 (↑hd + 1))) g 132 (cs.setIfInBounds hd (.pointer none)) ∧
      Row (((w.drewN (m1 + nq + m2)).setCell { block := g, off := hd } (Value.pointer none)).setCell { block := R, off := 2 } (Value.int IntKind.i64 (↑hd + 1))) R 131 #[c0, .slice (some ⟨g, 0, none⟩) n cap, .int .i64 ((hd : Int) + 1), c3, c4]) :=
    ⟨((((Only.refl _ _).drewN _).setCell (by simp) _).setCell (by simp) _), ((r1.drewN _).set _ _).setOther (fun e => hne e.symm) _ _, by simpa using ((r0.drewN _).setOther hne _ _).set 2 (.int .i64 ((hd : Int) + 1))⟩
  clear f0 f1 f2 k0 k1 k2 r0 r1
  refine wp_world (fun W => Only [R, g] w W ∧ Row W g 132 (cs.setIfInBounds hd (.pointer none)) ∧ Row W R 131 #[c0, .slice (some ⟨g, 0, none⟩) n cap, .int .i64 ((hd : Int) + 1), c3, c4]) HI.out ?_
  clear HI
  rintro W ⟨ho, r1, r0⟩
  have k0 := r0.cell 1
  have k1 := r0.cell 2
  have f0 := r0.frozen 1
  have f1 := r0.frozen 2
  simp at k0 k1
  by_cases hl : hd + 1 = n
  · have hl' : (((hd : Int) + 1) == (n : Int)) = true := by rw [beq_iff_eq]; omega
    have HL := Hid.mk hl
    have HO := Hid.mk ho
    clear hl ho
    go_quiet (fail)
    go_wp2
    go_ret2
    exact ⟨rfl, ((HO.out.drewN _).setCell (by simp) _).setCell (by simp) _, (r1.setOther (fun e => hne e.symm) _ _).setOther (fun e => hne e.symm) _ _, 0, 0, by simpa using ((r0.drewN nq).set 1 (.slice (some ⟨g, 0, none⟩) 0 cap)).set 2 (.int .i64 0), .inl ⟨HL.out, rfl, rfl⟩⟩
  · have hl' : (((hd : Int) + 1) == (n : Int)) = false := by rw [beq_eq_false_iff_ne]; omega
    have HL := Hid.mk hl
    have HO := Hid.mk ho
    clear hl ho
    go_quiet (fail)
    go_wp2
    go_ret2
    exact ⟨rfl, HO.out.drewN _, r1, n, hd + 1, by simpa using r0.drewN nq, .inr ⟨by have := HL.out; omega, rfl, rfl⟩⟩
end Go.Proofs.Ybulkhba
