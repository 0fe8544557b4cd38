import Derived.Test.YbulkhbaOwn
import Derived.BigRegion
import Derived.RegionTactic
namespace Go.Proofs.Ybulkhba
open Go.RowKit
set_option linter.unusedVariables false
set_option linter.unusedSimpArgs false

/-- A request, and one that has arrived. -/
structure Req where
  id : Int
  tn : ByteArray
  tk : Int
  pr : Int
  dl : Int
  hd : Bool
structure Arr where
  r : Req
  sq : Int
abbrev Req.vs (r : Req) : Array Value := #[.int .i64 r.id, .string r.tn, .int .i64 r.tk, .int .i64 r.pr, .int .i64 r.dl, .bool r.hd]
abbrev Arr.vs (a : Arr) : Array Value := #[.int .i64 a.r.id, .string a.r.tn, .int .i64 a.r.tk, .int .i64 a.r.pr, .int .i64 a.r.dl, .bool a.r.hd, .int .u64 a.sq]
abbrev zeroArr : Array Value := #[.int .i64 0, .string ByteArray.empty, .int .i64 0, .int .i64 0, .int .i64 0, .bool false, .int .u64 0]

set_option maxHeartbeats 800000 in
/-- (*line[arrived]).len -/
theorem lenA_any (b o n cap hd : Nat) (a : Option Addr) (w : World) (hn : n ≤ maxLen) (hh : hd ≤ n)
    (c0 : w.cell? ⟨b, o, none⟩ = some (.slice a n cap)) (c1 : w.cell? ⟨b, o + 1, none⟩ = some (.int .i64 hd)) :
    Calls Yba.prog 58 #[.pointer (some ⟨b, o, none⟩)] w fun e w' => e = .returned (.int .i64 ((n : Int) - hd)) ∧ ∃ k, w' = w.drewN k := by
  unfold maxLen at hn
  go_enter Yba.func58, Yba.ntmps58
  go_wp2
  go_quiet (fail)
  go_wp2
  go_ret
  exact ⟨rfl, _, rfl⟩

set_option maxHeartbeats 800000 in
/-- (*line[arrived]).values -/
theorem valuesA_any (b o n cap hd g : Nat) (w : World) (hn : n ≤ cap) (hc : cap ≤ maxLen) (hh : hd < n)
    (c0 : w.cell? ⟨b, o, none⟩ = some (.slice (some ⟨g, 0, none⟩) n cap)) (c1 : w.cell? ⟨b, o + 1, none⟩ = some (.int .i64 hd)) :
    Calls Yba.prog 79 #[.pointer (some ⟨b, o, none⟩)] w fun e w' => e = .returned (.slice (some ⟨g, hd * 7, none⟩) (n - hd) (cap - hd)) ∧ ∃ k, w' = w.drewN k := by
  unfold maxLen at hc
  go_enter Yba.func79, Yba.ntmps79
  go_wp2
  go_quiet (fail)
  go_wp2
  go_ret
  exact ⟨rfl, _, rfl⟩

set_option maxHeartbeats 800000 in
/-- (*line[arrived]).front -/
theorem frontA_any (b o n cap hd g : Nat) (x : Arr) (w : World) (hn : n ≤ maxLen) (hh : hd < n) (hb : b < w.heap.size) (hg : g < w.heap.size)
    (c0 : w.cell? ⟨b, o, none⟩ = some (.slice (some ⟨g, 0, none⟩) n cap)) (c1 : w.cell? ⟨b, o + 1, none⟩ = some (.int .i64 hd))
    (d0 : w.cell? ⟨g, hd * 7, none⟩ = some (.int .i64 x.r.id)) (d1 : w.cell? ⟨g, hd * 7 + 1, none⟩ = some (.string x.r.tn)) (d2 : w.cell? ⟨g, hd * 7 + 2, none⟩ = some (.int .i64 x.r.tk)) (d3 : w.cell? ⟨g, hd * 7 + 3, none⟩ = some (.int .i64 x.r.pr))
    (d4 : w.cell? ⟨g, hd * 7 + 4, none⟩ = some (.int .i64 x.r.dl)) (d5 : w.cell? ⟨g, hd * 7 + 5, none⟩ = some (.bool x.r.hd)) (d6 : w.cell? ⟨g, hd * 7 + 6, none⟩ = some (.int .u64 x.sq)) :
    Calls Yba.prog 55 #[.pointer (some ⟨b, o, none⟩)] w fun e w' => e = .returned (.agg x.vs) ∧ Below w.heap.size w w' := by
  unfold maxLen at hn
  go_enter Yba.func55, Yba.ntmps55
  go_wp2
  refine wp_region_drawn_tail 10 (by kernel_rfl) (by kernel_rfl) ?_
  simp only [List.take_succ_cons, List.take_zero, List.drop_succ_cons, List.drop_zero]
  repeat (go_big_quiet_step (fail))
  refine wpQuiet_nil ?_
  rintro _ ⟨m2, rfl⟩
  go_wp2
  simp [bodyPost, results, Yba.results55, go_sem]
  refine Below.setCell (Below.setCell (Below.setCell (Below.setCell (Below.setCell (Below.setCell (Below.setCell (below_drewN ((Below.refl _ _).alloc (Nat.le_refl _) _) _) ?_ _) ?_ _) ?_ _) ?_ _) ?_ _) ?_ _) ?_ _ <;> exact Nat.le_refl _

set_option maxRecDepth 100000 in
set_option maxHeartbeats 1600000 in
/-- (*line[arrived]).pop -/
theorem popA_any (T n cap hd g : Nat) (x : Arr) (c0 c3 c4 c5 c6 : Value) (cs : Array Value) (w : World) (hn : n ≤ cap) (hc : cap ≤ maxLen) (hh : hd < n)
    (r0 : Row w T 140 #[c0, .slice (some ⟨g, 0, none⟩) n cap, .int .i64 hd, c3, c4, c5, c6]) (r1 : Row w g 117 cs) (hcs : ∀ j, j < 7 → cs[hd * 7 + j]? = x.vs[j]?) (hne : ¬ T = g) :
    Calls Yba.prog 56 #[.pointer (some ⟨T, 1, none⟩)] w fun e w' => e = .returned (.tuple #[.agg x.vs, .bool true]) ∧ Only [T, g] w w' ∧ (∃ cs', Row w' g 117 cs' ∧ cs'.size = cs.size ∧ ∀ k, (hd + 1) * 7 ≤ k → cs'[k]? = cs[k]?) ∧
      ∃ n' hd' : Nat, Row w' T 140 #[c0, .slice (some ⟨g, 0, none⟩) n' cap, .int .i64 hd', c3, c4, c5, c6] ∧ ((hd + 1 = n ∧ n' = 0 ∧ hd' = 0) ∨ (hd + 1 < n ∧ n' = n ∧ hd' = hd + 1)) := by
  unfold maxLen at hc
  have hltT := r0.lt
  have hltg := r1.lt
  have hlen := Hid.mk (fun w' hw1 hw2 => lenA_any T 1 n cap hd (some ⟨g, 0, none⟩) w' (by unfold maxLen; omega) (by omega) hw1 hw2)
  go_enter Yba.func56, Yba.ntmps56
  go_wp2_with fail
  refine (hlen.out _ (by simpa using ((r0.alloc _).alloc _).cell 1) (by simpa using ((r0.alloc _).alloc _).cell 2)).mono ?_
  rintro e w1 ⟨rfl, m1, rfl⟩
  clear hlen
  have hz : (((n : Int) - hd) == 0) = false := by rw [beq_eq_false_iff_ne]; omega
  go_wp2
  refine wp_world (fun W => Only [] w W ∧ w.heap.size + 1 + 1 = W.heap.size ∧ Row W T 140 #[c0, .slice (some ⟨g, 0, none⟩) n cap, .int .i64 hd, c3, c4, c5, c6] ∧ Row W g 117 cs ∧ Row W w.heap.size 117 zeroArr ∧ Row W (w.heap.size + 1) 117 zeroArr)
    ⟨(((Only.refl _ _).alloc _).alloc _).drewN _, by simp, ((r0.alloc _).alloc _).drewN _, ((r1.alloc _).alloc _).drewN _, ((row_new _ _ _ _ rfl).alloc _).drewN _, (row_new _ _ _ _ (by simp)).drewN _⟩ ?_
  clear r0 r1
  rintro W ⟨ho, hsz, r0, r1, r2, r3⟩
  generalize hB : w.heap.size = B at *
  have HW := Hid.mk ho
  have HB := Hid.mk hB
  have HS := Hid.mk hsz
  have hT1 : T < W.heap.size := by omega
  have hg1 : g < W.heap.size := by omega
  clear ho hB hsz
  have k0 := r0.cell 1
  have k1 := r0.cell 2
  have f0 := r0.frozen 1
  have f1 := r0.frozen 2
  simp at k0 k1
  have d0 := (r1.cell (hd * 7 + 0)).trans (hcs 0 (by omega))
  have d1 := (r1.cell (hd * 7 + 1)).trans (hcs 1 (by omega))
  have d2 := (r1.cell (hd * 7 + 2)).trans (hcs 2 (by omega))
  have d3 := (r1.cell (hd * 7 + 3)).trans (hcs 3 (by omega))
  have d4 := (r1.cell (hd * 7 + 4)).trans (hcs 4 (by omega))
  have d5 := (r1.cell (hd * 7 + 5)).trans (hcs 5 (by omega))
  have d6 := (r1.cell (hd * 7 + 6)).trans (hcs 6 (by omega))
  simp at d0 d1 d2 d3 d4 d5 d6
  go_region
  go_wp2
  refine wp_world (fun W' => Only [] w W' ∧ Row W' T 140 #[c0, .slice (some ⟨g, 0, none⟩) n cap, .int .i64 hd, c3, c4, c5, c6] ∧ Row W' g 117 cs ∧ Row W' B 117 zeroArr ∧ Row W' (B + 1) 117 zeroArr ∧ Row W' W.heap.size 117 x.vs)
    ⟨(HW.out.alloc _).drew, (r0.alloc _).drew, (r1.alloc _).drew, (r2.alloc _).drew, (r3.alloc _).drew, (row_new _ _ _ _ rfl).drew⟩ ?_
  generalize hB2 : W.heap.size = C at *
  clear r0 r1 r2 r3 k0 k1 f0 f1 d0 d1 d2 d3 d4 d5 d6
  rintro V ⟨ho, r0, r1, r2, r3, r4⟩
  have HV := Hid.mk ho
  have HB2 := Hid.mk hB2
  have hBC : B + 1 < C := by have := HS.out; omega
  clear ho hB2
  have k0 := r0.cell 1
  have k1 := r0.cell 2
  simp at k0 k1
  have d0 := (r1.cell (hd * 7 + 0)).trans (hcs 0 (by omega))
  have d1 := (r1.cell (hd * 7 + 1)).trans (hcs 1 (by omega))
  have d2 := (r1.cell (hd * 7 + 2)).trans (hcs 2 (by omega))
  have d3 := (r1.cell (hd * 7 + 3)).trans (hcs 3 (by omega))
  have d4 := (r1.cell (hd * 7 + 4)).trans (hcs 4 (by omega))
  have d5 := (r1.cell (hd * 7 + 5)).trans (hcs 5 (by omega))
  have d6 := (r1.cell (hd * 7 + 6)).trans (hcs 6 (by omega))
  simp at d0 d1 d2 d3 d4 d5 d6
  have g0 := r1.frozen (hd * 7)
  have g1 := r1.frozen (hd * 7 + 1)
  have g2 := r1.frozen (hd * 7 + 2)
  have g3 := r1.frozen (hd * 7 + 3)
  have g4 := r1.frozen (hd * 7 + 4)
  have g5 := r1.frozen (hd * 7 + 5)
  have g6 := r1.frozen (hd * 7 + 6)
  have z := fun i => r3.cell i
  have f0 := r0.frozen 1
  have f1 := r0.frozen 2
  refine wp_region_drawn_tail 10 (by kernel_rfl) (by kernel_rfl) ?_
  simp only [List.take_succ_cons, List.take_zero, List.drop_succ_cons, List.drop_zero]
  repeat (go_big_quiet_step (fail))
  refine wpQuiet_nil ?_
  rintro _ ⟨m2, rfl⟩
  go_wp2
  have ngT : g ≠ T := fun e => hne e.symm
  have hBT : T ≠ B ∧ g ≠ B ∧ T ≠ B + 1 ∧ g ≠ B + 1 ∧ T ≠ C ∧ g ≠ C ∧ B ≠ C := by omega
  have Hcs' : ∃ cs' : Array Value, ((((((((cs.setIfInBounds (hd * 7) (.int .i64 0)).setIfInBounds (hd * 7 + 1) (.string ByteArray.empty)).setIfInBounds (hd * 7 + 2) (.int .i64 0)).setIfInBounds (hd * 7 + 3) (.int .i64 0)).setIfInBounds (hd * 7 + 4) (.int .i64 0)).setIfInBounds (hd * 7 + 5) (.bool false)).setIfInBounds (hd * 7 + 6) (.int .u64 0))) = cs' := ⟨_, rfl⟩
  obtain ⟨cs', hcs'⟩ := Hcs'
  have hk : cs'.size = cs.size ∧ ∀ k, (hd + 1) * 7 ≤ k → cs'[k]? = cs[k]? := by
    subst hcs'
    refine ⟨by simp, fun k hk => ?_⟩
    rw [Array.getElem?_setIfInBounds_ne (by omega), Array.getElem?_setIfInBounds_ne (by omega), Array.getElem?_setIfInBounds_ne (by omega), Array.getElem?_setIfInBounds_ne (by omega), Array.getElem?_setIfInBounds_ne (by omega), Array.getElem?_setIfInBounds_ne (by omega), Array.getElem?_setIfInBounds_ne (by omega)]
  refine wp_world (fun X => Only [T, g] w X ∧ Row X T 140 #[c0, .slice (some ⟨g, 0, none⟩) n cap, .int .i64 ((hd : Int) + 1), c3, c4, c5, c6] ∧ Row X g 117 cs' ∧ Row X B 117 zeroArr ∧ Row X C 117 x.vs) ?_ ?_
  · refine ⟨?_, ?_, ?_, ?_, ?_⟩
    · exact (((((((((HV.out.mono (T := [T, g]) (by simp)).drewN m2).setCell (.inl (by simp)) _).setCell (.inl (by simp)) _).setCell (.inl (by simp)) _).setCell (.inl (by simp)) _).setCell (.inl (by simp)) _).setCell (.inl (by simp)) _).setCell (.inl (by simp)) _).setCell (.inl (by simp)) _
    · have := ((((((((r0.drewN m2).setOther hne (hd * 7) (.int .i64 0)).setOther hne (hd * 7 + 1) (.string ByteArray.empty)).setOther hne (hd * 7 + 2) (.int .i64 0)).setOther hne (hd * 7 + 3) (.int .i64 0)).setOther hne (hd * 7 + 4) (.int .i64 0)).setOther hne (hd * 7 + 5) (.bool false)).setOther hne (hd * 7 + 6) (.int .u64 0)).set 2 (.int .i64 ((hd : Int) + 1))
      simpa using this
    · have := ((((((((r1.drewN m2).set (hd * 7) (.int .i64 0)).set (hd * 7 + 1) (.string ByteArray.empty)).set (hd * 7 + 2) (.int .i64 0)).set (hd * 7 + 3) (.int .i64 0)).set (hd * 7 + 4) (.int .i64 0)).set (hd * 7 + 5) (.bool false)).set (hd * 7 + 6) (.int .u64 0)).setOther ngT 2 (.int .i64 ((hd : Int) + 1))
      rw [hcs'] at this
      exact this
    · have e1 : B ≠ g := by omega
      have e2 : B ≠ T := by omega
      exact ((((((((r2.drewN m2).setOther e1 _ _).setOther e1 _ _).setOther e1 _ _).setOther e1 _ _).setOther e1 _ _).setOther e1 _ _).setOther e1 _ _).setOther e2 _ _
    · have e1 : C ≠ g := by omega
      have e2 : C ≠ T := by omega
      exact ((((((((r4.drewN m2).setOther e1 _ _).setOther e1 _ _).setOther e1 _ _).setOther e1 _ _).setOther e1 _ _).setOther e1 _ _).setOther e1 _ _).setOther e2 _ _
  clear r0 r1 r2 r3 r4 k0 k1 f0 f1 d0 d1 d2 d3 d4 d5 d6 g0 g1 g2 g3 g4 g5 g6 z hcs'
  rintro X ⟨ho, r0, r1, r2, r4⟩
  have HX := Hid.mk ho
  have HK := Hid.mk hk
  clear ho hk
  have k0 := r0.cell 1
  have k1 := r0.cell 2
  have f0 := r0.frozen 1
  have f1 := r0.frozen 2
  simp at k0 k1
  have z2 := fun i => r2.cell i
  have z4 := fun i => r4.cell i
  have zf := fun i => r2.frozen i
  have hB := Hid.mk (show w.heap.size ≤ B by have := HB.out; omega)
  by_cases hl : hd + 1 = n
  · have hl' : (((hd : Int) + 1) == (n : Int)) = true := by rw [beq_iff_eq]; omega
    have HL := Hid.mk hl
    clear hl
    go_quiet (fail)
    go_wp2
    refine bodyPost_ret (v := .tuple #[.agg x.vs, .bool true]) (by simp [results, Yba.results56, go_sem, z2]) rfl ⟨rfl, ?_, ⟨cs', ?_, HK.out⟩, 0, 0, ?_, .inl ⟨HL.out, rfl, rfl⟩⟩
    · exact (((((((((HX.out.drewN nq).setCell (.inl (by simp)) _).setCell (.inl (by simp)) _).setCell (.inr hB.out) _).setCell (.inr hB.out) _).setCell (.inr hB.out) _).setCell (.inr hB.out) _).setCell (.inr hB.out) _).setCell (.inr hB.out) _).setCell (.inr hB.out) _
    · exact (((((((((r1.drewN nq).setOther ngT _ _).setOther ngT _ _).setOther hBT.2.1 _ _).setOther hBT.2.1 _ _).setOther hBT.2.1 _ _).setOther hBT.2.1 _ _).setOther hBT.2.1 _ _).setOther hBT.2.1 _ _).setOther hBT.2.1 _ _
    · have := (((((((((r0.drewN nq).set 1 (.slice (some ⟨g, 0, none⟩) 0 cap)).set 2 (.int .i64 0)).setOther hBT.1 0 (.int .i64 x.r.id)).setOther hBT.1 1 (.string x.r.tn)).setOther hBT.1 2 (.int .i64 x.r.tk)).setOther hBT.1 3 (.int .i64 x.r.pr)).setOther hBT.1 4 (.int .i64 x.r.dl)).setOther hBT.1 5 (.bool x.r.hd)).setOther hBT.1 6 (.int .u64 x.sq)
      simpa using this
  · have hl' : (((hd : Int) + 1) == (n : Int)) = false := by rw [beq_eq_false_iff_ne]; omega
    have HL := Hid.mk hl
    clear hl
    go_quiet (fail)
    go_wp2
    refine bodyPost_ret (v := .tuple #[.agg x.vs, .bool true]) (by simp [results, Yba.results56, go_sem, z2]) rfl ⟨rfl, ?_, ⟨cs', ?_, HK.out⟩, n, hd + 1, ?_, .inr ⟨by have := HL.out; omega, rfl, rfl⟩⟩
    · exact (((((((HX.out.drewN nq).setCell (.inr hB.out) _).setCell (.inr hB.out) _).setCell (.inr hB.out) _).setCell (.inr hB.out) _).setCell (.inr hB.out) _).setCell (.inr hB.out) _).setCell (.inr hB.out) _
    · exact (((((((r1.drewN nq).setOther hBT.2.1 _ _).setOther hBT.2.1 _ _).setOther hBT.2.1 _ _).setOther hBT.2.1 _ _).setOther hBT.2.1 _ _).setOther hBT.2.1 _ _).setOther hBT.2.1 _ _
    · have := (((((((r0.drewN nq).setOther hBT.1 0 (.int .i64 x.r.id)).setOther hBT.1 1 (.string x.r.tn)).setOther hBT.1 2 (.int .i64 x.r.tk)).setOther hBT.1 3 (.int .i64 x.r.pr)).setOther hBT.1 4 (.int .i64 x.r.dl)).setOther hBT.1 5 (.bool x.r.hd)).setOther hBT.1 6 (.int .u64 x.sq)
      simpa using this
end Go.Proofs.Ybulkhba
