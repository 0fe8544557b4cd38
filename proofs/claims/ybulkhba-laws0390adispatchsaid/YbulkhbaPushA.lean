import Derived.Test.YbulkhbaLineA
import Derived.Deep.RegionLaw
namespace Go.Proofs.Ybulkhba
open Go.RowKit
set_option linter.unusedVariables false
set_option linter.unusedSimpArgs false

theorem Yba.info117 : (Yba.prog.info? 117).map (fun i => (i.zero, i.size, i.bytes)) = some (some (.agg zeroArr), 7, 64) := by kernel_rfl

theorem addr_add0 (g j : Nat) : (⟨g, 0, none⟩ : Addr).add j = ⟨g, j, none⟩ := by unfold Addr.add; split <;> simp_all
theorem whole_row (cur : Array Value) : (cur.toList.take 0 ++ cur.toList ++ cur.toList.drop (0 + cur.toList.length)).toArray = cur := by
  rw [Nat.zero_add, List.drop_length, List.take_zero, List.nil_append, List.append_nil]
theorem seven_new {w : World} {n : Nat} {x : Arr} {t : TypeId} (hw : n = w.heap.size) : ∀ (j : Nat) (u : Value), x.vs.toList[j]? = some u → (w.alloc (.cells x.vs t)).cell? (({ block := n, off := 0 } : Addr).add j) = some u := by
  intro j u hj
  have ha : (⟨n, 0, none⟩ : Addr).add j = ⟨n, j, none⟩ := by unfold Addr.add; split <;> simp_all
  rw [ha, (row_new w t x.vs n hw).cell, ← Array.getElem?_toList]
  exact hj
theorem seven_one {x : Arr} : ∀ (u : Value), u ∈ x.vs.toList → u.oneCell' = true := by
  intro u hu
  simp [Arr.vs] at hu
  rcases hu with rfl | rfl | rfl | rfl | rfl | rfl | rfl <;> rfl

set_option maxRecDepth 100000 in
set_option maxHeartbeats 1600000 in
theorem pushA_nil (T : Nat) (c0 c3 c4 c5 c6 : Value) (x : Arr) (w : World)
    (r0 : Row w T 140 #[c0, .slice none 0 0, .int .i64 0, c3, c4, c5, c6]) :
    Calls Yba.prog 81 #[.pointer (some ⟨T, 1, none⟩), .agg x.vs] w fun e w' => e = .returned (.tuple #[]) ∧ Only [T] w w' ∧
      ∃ iv', Row w' T 140 #[c0, iv', .int .i64 0, c3, c4, c5, c6] ∧ w'.ownsRow 0 117 7 iv' 1 x.vs.toList ∧ (∀ k, iv'.ownBlock = some k → w.heap.size ≤ k) := by
  obtain ⟨i0, hi, hz0, hz1, hz2⟩ := info_parts Yba.info117
  have hlt := r0.lt
  have hcp : ∀ W, (Builtin.copy_ #[134, 134] 3 #[.slice none 0 0, .slice none 0 0]).run Yba.prog W = .ok (.int .i64 0) W := fun W => by kernel_rfl
  have hcl : ∀ W, (Builtin.clear_ #[134] 0 #[.slice none 0 0]).run Yba.prog W = .ok (.tuple #[]) W := fun W => by kernel_rfl
  go_enter Yba.func81, Yba.ntmps81
  go_wp2
  refine wp_world (fun W => Only [] w W ∧ w.heap.size + 1 = W.heap.size ∧ Row W T 140 #[c0, .slice none 0 0, .int .i64 0, c3, c4, c5, c6] ∧ Row W w.heap.size 117 x.vs)
    ⟨(Only.refl _ _).alloc _, by simp, r0.alloc _, row_new _ _ _ _ rfl⟩ ?_
  rintro W ⟨ho, hsz, r1, r2⟩
  generalize hB : w.heap.size = B at *
  have HO := Hid.mk ho
  have HB := Hid.mk hB
  have HS := Hid.mk hsz
  clear ho hB hsz r0
  have f0 := r1.frozen 1
  have f1 := r1.frozen 2
  have k0 := r1.cell 1
  have k1 := r1.cell 2
  simp at k0 k1
  go_quiet (fail)
  go_wp2
  refine wp_region_drawn_tail 13 (by kernel_rfl) (by kernel_rfl) ?_
  simp only [List.take_succ_cons, List.take_zero, List.drop_succ_cons, List.drop_zero]
  repeat (go_big_quiet_step (fail))
  refine wpQuiet_nil ?_
  rintro _ ⟨m2, rfl⟩
  go_wp2
  refine wp_world (fun V => Only [T] w V ∧ B + 1 = V.heap.size ∧ Row V T 140 #[c0, .slice none 0 0, .int .i64 0, c3, c4, c5, c6] ∧ Row V B 117 x.vs) ?_ ?_
  · have hTB : B ≠ T := by omega
    exact ⟨(((HO.out.mono (by simp)).drewN _).setCell (.inl (by simp)) _).setCell (.inl (by simp)) _, by simpa using HS.out, by simpa using ((r1.drewN (nq + m2)).set 1 (.slice none 0 0)).set 2 (.int .i64 0), ((r2.drewN _).setOther hTB _ _).setOther hTB _ _⟩
  clear k0 k1 f0 f1 r1 r2 hcp hcl HO HS
  rintro V ⟨ho, hsz, r1, r2⟩
  have HO := Hid.mk ho
  have HS := Hid.mk hsz
  clear ho hsz
  have hTV : T < V.heap.size := r1.lt
  have hBV : B < V.heap.size := r2.lt
  have k0 := r1.cell 1
  simp at k0
  have z2 := fun i => r2.cell i
  have fin : Hid (∀ (w' : World) (v' : Value), w'.ownsRow 0 117 7 v' 1 x.vs.toList → ((V.alloc (.cells x.vs 117)).drew).grownBy w' none → (v'.ownBlock = none ∨ v'.ownBlock = some (V.heap.size + 1)) →
      ∃ g' cap', v' = .slice (some ⟨g', 0, none⟩) 1 cap' ∧ w'.cell? ⟨T, 1, none⟩ = some (.slice none 0 0) ∧ w'.frozen? ⟨T, 1, none⟩ = false ∧
      Only [T] w (w'.setCell ⟨T, 1, none⟩ (.slice (some ⟨g', 0, none⟩) 1 cap')) ∧
      ∃ iv', Row (w'.setCell ⟨T, 1, none⟩ (.slice (some ⟨g', 0, none⟩) 1 cap')) T 140 #[c0, iv', .int .i64 0, c3, c4, c5, c6] ∧ (w'.setCell ⟨T, 1, none⟩ (.slice (some ⟨g', 0, none⟩) 1 cap')).ownsRow 0 117 7 iv' 1 x.vs.toList ∧ (∀ k, iv'.ownBlock = some k → B ≤ k)) := by
    intro w' v' hown' hgr hnew
    obtain ⟨g', cap', hv⟩ := owns_shape hown' (by omega)
    subst hv
    have ho' : Only [T] w w' := ((HO.out.alloc _).drew).then (Only.ofGrown (S := []) hgr (by simp)) (by simp)
    have hr' : Row w' T 140 #[c0, .slice none 0 0, .int .i64 0, c3, c4, c5, c6] := Row.only (S := []) ((r1.alloc _).drew) (Only.ofGrown hgr (by simp)) (by simp)
    have hg' : V.heap.size + 1 = g' := by
      rcases hnew with h | h
      · simp [Value.ownBlock] at h
      · simp [Value.ownBlock] at h; omega
    have hne : ¬ g' = T := by omega
    refine ⟨g', cap', rfl, by simpa using hr'.cell 1, hr'.frozen 1, ho'.setCell (by simp) _, .slice (some ⟨g', 0, none⟩) 1 cap', by simpa using hr'.set 1 (.slice (some ⟨g', 0, none⟩) 1 cap'), ?_, ?_⟩
    · exact owns_only hown' ((Only.refl [T] _).setCell (p := ⟨T, 1, none⟩) (by simp) (.slice (some ⟨g', 0, none⟩) 1 cap')) (by simp [Value.ownBlock]; exact hne)
    · have := HS.out; simp [Value.ownBlock]; omega
  clear r1 r2
  go_region_law (
    refine step_append_own2 rfl (.tmp 65) (.tmp 67) 134 rfl 117 i0 (.agg zeroArr) 7 64 Yba.underlying134 hi hz0 hz1 hz2 rfl (by decide) (.slice none 0 0) 0 [] (by simp [Act.eval, Act.put]) (World.ownsRow_nil _ _ _ _) ⟨V.heap.size, 0, none⟩ 1 1 x.vs.toList (by simp [Act.eval, Act.put]) rfl (seven_new rfl) seven_one (by decide) (by decide) (.inr (by decide)) ?_; intro v' w' hown' hgr hnew; obtain ⟨g', cap', hv, q0, q1, res⟩ := fin.out w' v' hown' hgr (by simpa [Value.ownBlock] using hnew); rw [hv]; have RES := Hid.mk res; clear hown' hgr hnew hv res)
  all_goals go_wp2
  all_goals go_end0
  all_goals exact ⟨rfl, by rw [HB.out]; exact RES.out⟩

set_option maxRecDepth 100000 in
set_option maxHeartbeats 3200000 in
theorem pushA_room (T g N cap : Nat) (xs : List Value) (c0 c3 c4 c5 c6 : Value) (x : Arr) (w : World)
    (r0 : Row w T 140 #[c0, .slice (some ⟨g, 0, none⟩) N cap, .int .i64 0, c3, c4, c5, c6]) (hown : w.ownsRow 0 117 7 (.slice (some ⟨g, 0, none⟩) N cap) N xs)
    (hgT : ¬ T = g) (hN : N ≤ 1000000) (hcap : cap ≤ maxLen) (hc : N < cap) :
    Calls Yba.prog 81 #[.pointer (some ⟨T, 1, none⟩), .agg x.vs] w fun e w' => e = .returned (.tuple #[]) ∧ Only [T, g] w w' ∧
      ∃ iv', Row w' T 140 #[c0, iv', .int .i64 0, c3, c4, c5, c6] ∧ w'.ownsRow 0 117 7 iv' (N + 1) (xs ++ x.vs.toList) ∧ (∀ k, iv'.ownBlock = some k → k = g ∨ w.heap.size ≤ k) := by
  obtain ⟨i0, hi, hz0, hz1, hz2⟩ := info_parts Yba.info117
  have hlt := r0.lt
  have hltg : g < w.heap.size := (hown.lt g rfl).2
  have hNc := owns_cap hown
  unfold maxLen at hcap
  have H63 : Hid (N + 1 ≤ maxLen) := by unfold maxLen; show N + 1 ≤ _; omega
  have HBY : Hid ((N + 1) * 64 ≤ 140737488355328) := by show _ ≤ _; omega
  have e1 : (((N : Nat) : Int) == ((cap : Nat) : Int)) = false := by rw [beq_eq_false_iff_ne]; omega
  go_enter Yba.func81, Yba.ntmps81
  go_wp2
  refine wp_world (fun W => Only [T, g] w W ∧ w.heap.size + 1 = W.heap.size ∧ Row W T 140 #[c0, .slice (some ⟨g, 0, none⟩) N cap, .int .i64 0, c3, c4, c5, c6] ∧ Row W w.heap.size 117 x.vs ∧ W.ownsRow 0 117 7 (.slice (some ⟨g, 0, none⟩) N cap) N xs)
    ⟨(Only.refl _ _).alloc _, by simp, r0.alloc _, row_new _ _ _ _ rfl, hown.alloc _⟩ ?_
  rintro W ⟨ho, hsz, r1, r2, hown⟩
  generalize hB : w.heap.size = B at *
  have HB := Hid.mk hB
  have AL := Hid.mk (And.intro ho (And.intro hsz (And.intro r1 (And.intro r2 hown))))
  have f0 := r1.frozen 1
  have f1 := r1.frozen 2
  have k0 := r1.cell 1
  have k1 := r1.cell 2
  simp at k0 k1
  clear ho hB hsz r0 hown r1 r2
  go_quiet (fail)
  go_wp2
  refine wp_world (fun V => Only [T, g] w V ∧ B + 1 = V.heap.size ∧ Row V T 140 #[c0, .slice (some ⟨g, 0, none⟩) N cap, .int .i64 0, c3, c4, c5, c6] ∧ Row V B 117 x.vs ∧ V.ownsRow 0 117 7 (.slice (some ⟨g, 0, none⟩) N cap) N xs) ?_ ?_
  · obtain ⟨ho, hsz, r1, r2, hown⟩ := AL.out
    exact ⟨ho.drewN _, by simpa using hsz, r1.drewN _, r2.drewN _, owns_only hown ((Only.refl [] _).drewN _) (by simp)⟩
  clear k0 k1 f0 f1 AL
  rintro V ⟨ho, hsz, r1, r2, hown⟩
  have HO := Hid.mk ho
  have HS := Hid.mk hsz
  have OWN := Hid.mk hown
  have hTV : T < V.heap.size := r1.lt
  have hBV : B < V.heap.size := r2.lt
  have hgV : g < V.heap.size := (hown.lt g rfl).2
  clear ho hsz hown
  have k0 := r1.cell 1
  have k1 := r1.cell 2
  simp at k0 k1
  have z2 := fun i => r2.cell i
  have fin : Hid (∀ (w' : World) (v' : Value), w'.ownsRow 0 117 7 v' (N + 1) (xs ++ x.vs.toList) → ((V.alloc (.cells x.vs 117)).drew).grownBy w' (some g) → (v'.ownBlock = some g ∨ v'.ownBlock = some (V.heap.size + 1)) →
      ∃ g' cap', v' = .slice (some ⟨g', 0, none⟩) (N + 1) cap' ∧ w'.cell? ⟨T, 1, none⟩ = some (.slice (some ⟨g, 0, none⟩) N cap) ∧ w'.frozen? ⟨T, 1, none⟩ = false ∧
      Only [T, g] w (w'.setCell ⟨T, 1, none⟩ (.slice (some ⟨g', 0, none⟩) (N + 1) cap')) ∧
      ∃ iv', Row (w'.setCell ⟨T, 1, none⟩ (.slice (some ⟨g', 0, none⟩) (N + 1) cap')) T 140 #[c0, iv', .int .i64 0, c3, c4, c5, c6] ∧ (w'.setCell ⟨T, 1, none⟩ (.slice (some ⟨g', 0, none⟩) (N + 1) cap')).ownsRow 0 117 7 iv' (N + 1) (xs ++ x.vs.toList) ∧ (∀ k, iv'.ownBlock = some k → k = g ∨ B ≤ k)) := by
    intro w' v' hown' hgr hnew
    obtain ⟨g', cap', hv⟩ := owns_shape hown' (by omega)
    subst hv
    have ho' : Only [T, g] w w' := ((HO.out.alloc _).drew).then (Only.ofGrown (S := [g]) hgr (by simp)) (by simp)
    have hr' : Row w' T 140 #[c0, .slice (some ⟨g, 0, none⟩) N cap, .int .i64 0, c3, c4, c5, c6] := Row.only (S := [g]) ((r1.alloc _).drew) (Only.ofGrown hgr (by simp)) (by simpa using hgT)
    have hg' : g' = g ∨ V.heap.size + 1 = g' := by
      rcases hnew with h | h
      · simp [Value.ownBlock] at h; exact .inl h
      · simp [Value.ownBlock] at h; omega
    have hne : ¬ g' = T := by omega
    refine ⟨g', cap', rfl, by simpa using hr'.cell 1, hr'.frozen 1, ho'.setCell (by simp) _, .slice (some ⟨g', 0, none⟩) (N + 1) cap', by simpa using hr'.set 1 (.slice (some ⟨g', 0, none⟩) (N + 1) cap'), ?_, ?_⟩
    · exact owns_only hown' ((Only.refl [T] _).setCell (p := ⟨T, 1, none⟩) (by simp) (.slice (some ⟨g', 0, none⟩) (N + 1) cap')) (by simp [Value.ownBlock]; exact hne)
    · have := HS.out; simp [Value.ownBlock]; omega
  clear r1 r2
  go_region_law (
    refine step_append_own2 rfl (.tmp 65) (.tmp 67) 134 rfl 117 i0 (.agg zeroArr) 7 64 Yba.underlying134 hi hz0 hz1 hz2 rfl (by decide) (.slice (some ⟨g, 0, none⟩) N cap) N xs (by simp [Act.eval, Act.put]) (World.ownsRow.alloc (w := V) OWN.out _) ⟨V.heap.size, 0, none⟩ 1 1 x.vs.toList (by simp [Act.eval, Act.put]) rfl (seven_new rfl) seven_one (by decide) H63.out (.inr HBY.out) ?_; intro v' w' hown' hgr hnew; obtain ⟨g', cap', hv, q0, q1, res⟩ := fin.out w' v' hown' hgr (by simpa [Value.ownBlock] using hnew); rw [hv]; have RES := Hid.mk res; clear hown' hgr hnew hv res)
  all_goals go_wp2
  all_goals go_end0
  all_goals exact ⟨rfl, by rw [HB.out]; exact RES.out⟩

set_option maxRecDepth 100000 in
set_option maxHeartbeats 3200000 in
theorem pushA_full (T g N cap : Nat) (xs : List Value) (c0 c3 c4 c5 c6 : Value) (x : Arr) (w : World)
    (r0 : Row w T 140 #[c0, .slice (some ⟨g, 0, none⟩) N cap, .int .i64 0, c3, c4, c5, c6]) (hown : w.ownsRow 0 117 7 (.slice (some ⟨g, 0, none⟩) N cap) N xs)
    (hgT : ¬ T = g) (hN : N ≤ 1000000) (hcap : cap ≤ maxLen) (hc : 2 ≤ cap) (hNcap : N = cap) :
    Calls Yba.prog 81 #[.pointer (some ⟨T, 1, none⟩), .agg x.vs] w fun e w' => e = .returned (.tuple #[]) ∧ Only [T, g] w w' ∧
      ∃ iv', Row w' T 140 #[c0, iv', .int .i64 0, c3, c4, c5, c6] ∧ w'.ownsRow 0 117 7 iv' (N + 1) (xs ++ x.vs.toList) ∧ (∀ k, iv'.ownBlock = some k → k = g ∨ w.heap.size ≤ k) := by
  subst hNcap
  obtain ⟨i0, hi, hz0, hz1, hz2⟩ := info_parts Yba.info117
  have hlt := r0.lt
  have hltg : g < w.heap.size := (hown.lt g rfl).2
  have hNc := owns_cap hown
  unfold maxLen at hcap
  have H63 : Hid (N + 1 ≤ maxLen) := by unfold maxLen; show N + 1 ≤ _; omega
  have HBY : Hid ((N + 1) * 64 ≤ 140737488355328) := by show _ ≤ _; omega
  have e1 : (((N : Nat) : Int) == ((N : Nat) : Int)) = true := by simp
  have e2 : ¬ ((N : Int) / 2 ≤ 0) := by omega
  go_enter Yba.func81, Yba.ntmps81
  go_wp2
  refine wp_world (fun W => Only [T, g] w W ∧ w.heap.size + 1 = W.heap.size ∧ Row W T 140 #[c0, .slice (some ⟨g, 0, none⟩) N N, .int .i64 0, c3, c4, c5, c6] ∧ Row W w.heap.size 117 x.vs ∧ W.ownsRow 0 117 7 (.slice (some ⟨g, 0, none⟩) N N) N xs)
    ⟨(Only.refl _ _).alloc _, by simp, r0.alloc _, row_new _ _ _ _ rfl, hown.alloc _⟩ ?_
  rintro W ⟨ho, hsz, r1, r2, hown⟩
  generalize hB : w.heap.size = B at *
  have HB := Hid.mk hB
  have AL := Hid.mk (And.intro ho (And.intro hsz (And.intro r1 (And.intro r2 hown))))
  have f0 := r1.frozen 1
  have f1 := r1.frozen 2
  have k0 := r1.cell 1
  have k1 := r1.cell 2
  simp at k0 k1
  clear ho hB hsz r0 hown r1 r2
  go_quiet (fail)
  go_wp2
  refine wp_world (fun V => Only [T, g] w V ∧ B + 1 = V.heap.size ∧ Row V T 140 #[c0, .slice (some ⟨g, 0, none⟩) N N, .int .i64 0, c3, c4, c5, c6] ∧ Row V B 117 x.vs ∧ V.ownsRow 0 117 7 (.slice (some ⟨g, 0, none⟩) N N) N xs) ?_ ?_
  · obtain ⟨ho, hsz, r1, r2, hown⟩ := AL.out
    exact ⟨ho.drewN _, by simpa using hsz, r1.drewN _, r2.drewN _, owns_only hown ((Only.refl [] _).drewN _) (by simp)⟩
  clear k0 k1 f0 f1 AL
  rintro V ⟨ho, hsz, r1, r2, hown⟩
  have HO := Hid.mk ho
  have HS := Hid.mk hsz
  have OWN := Hid.mk hown
  have hTV : T < V.heap.size := r1.lt
  have hBV : B < V.heap.size := r2.lt
  have hgV : g < V.heap.size := (hown.lt g rfl).2
  clear ho hsz hown
  have k0 := r1.cell 1
  have k1 := r1.cell 2
  simp at k0 k1
  have z2 := fun i => r2.cell i
  have fin : Hid (∀ (w' : World) (v' : Value), w'.ownsRow 0 117 7 v' (N + 1) (xs ++ x.vs.toList) → ((V.alloc (.cells x.vs 117)).drew).grownBy w' (some g) → (v'.ownBlock = some g ∨ v'.ownBlock = some (V.heap.size + 1)) →
      ∃ g' cap', v' = .slice (some ⟨g', 0, none⟩) (N + 1) cap' ∧ w'.cell? ⟨T, 1, none⟩ = some (.slice (some ⟨g, 0, none⟩) N N) ∧ w'.frozen? ⟨T, 1, none⟩ = false ∧
      Only [T, g] w (w'.setCell ⟨T, 1, none⟩ (.slice (some ⟨g', 0, none⟩) (N + 1) cap')) ∧
      ∃ iv', Row (w'.setCell ⟨T, 1, none⟩ (.slice (some ⟨g', 0, none⟩) (N + 1) cap')) T 140 #[c0, iv', .int .i64 0, c3, c4, c5, c6] ∧ (w'.setCell ⟨T, 1, none⟩ (.slice (some ⟨g', 0, none⟩) (N + 1) cap')).ownsRow 0 117 7 iv' (N + 1) (xs ++ x.vs.toList) ∧ (∀ k, iv'.ownBlock = some k → k = g ∨ B ≤ k)) := by
    intro w' v' hown' hgr hnew
    obtain ⟨g', cap', hv⟩ := owns_shape hown' (by omega)
    subst hv
    have ho' : Only [T, g] w w' := ((HO.out.alloc _).drew).then (Only.ofGrown (S := [g]) hgr (by simp)) (by simp)
    have hr' : Row w' T 140 #[c0, .slice (some ⟨g, 0, none⟩) N N, .int .i64 0, c3, c4, c5, c6] := Row.only (S := [g]) ((r1.alloc _).drew) (Only.ofGrown hgr (by simp)) (by simpa using hgT)
    have hg' : g' = g ∨ V.heap.size + 1 = g' := by
      rcases hnew with h | h
      · simp [Value.ownBlock] at h; exact .inl h
      · simp [Value.ownBlock] at h; omega
    have hne : ¬ g' = T := by omega
    refine ⟨g', cap', rfl, by simpa using hr'.cell 1, hr'.frozen 1, ho'.setCell (by simp) _, .slice (some ⟨g', 0, none⟩) (N + 1) cap', by simpa using hr'.set 1 (.slice (some ⟨g', 0, none⟩) (N + 1) cap'), ?_, ?_⟩
    · exact owns_only hown' ((Only.refl [T] _).setCell (p := ⟨T, 1, none⟩) (by simp) (.slice (some ⟨g', 0, none⟩) (N + 1) cap')) (by simp [Value.ownBlock]; exact hne)
    · have := HS.out; simp [Value.ownBlock]; omega
  clear r1 r2
  go_region_law (
    refine step_append_own2 rfl (.tmp 65) (.tmp 67) 134 rfl 117 i0 (.agg zeroArr) 7 64 Yba.underlying134 hi hz0 hz1 hz2 rfl (by decide) (.slice (some ⟨g, 0, none⟩) N N) N xs (by simp [Act.eval, Act.put]) (World.ownsRow.alloc (w := V) OWN.out _) ⟨V.heap.size, 0, none⟩ 1 1 x.vs.toList (by simp [Act.eval, Act.put]) rfl (seven_new rfl) seven_one (by decide) H63.out (.inr HBY.out) ?_; intro v' w' hown' hgr hnew; obtain ⟨g', cap', hv, q0, q1, res⟩ := fin.out w' v' hown' hgr (by simpa [Value.ownBlock] using hnew); rw [hv]; have RES := Hid.mk res; clear hown' hgr hnew hv res)
  all_goals go_wp2
  all_goals go_end0
  all_goals exact ⟨rfl, by rw [HB.out]; exact RES.out⟩

set_option maxRecDepth 100000 in
set_option maxHeartbeats 3200000 in
theorem pushA_one (T g N cap : Nat) (xs : List Value) (c0 c3 c4 c5 c6 : Value) (x : Arr) (w : World)
    (r0 : Row w T 140 #[c0, .slice (some ⟨g, 0, none⟩) N cap, .int .i64 0, c3, c4, c5, c6]) (hown : w.ownsRow 0 117 7 (.slice (some ⟨g, 0, none⟩) N cap) N xs)
    (hgT : ¬ T = g) (h1c : ∀ u ∈ xs, u.oneCell' = true) (hN : N ≤ 1000000) (hcap : cap ≤ maxLen) (hc : cap = 1) (hN1 : N = 1) :
    Calls Yba.prog 81 #[.pointer (some ⟨T, 1, none⟩), .agg x.vs] w fun e w' => e = .returned (.tuple #[]) ∧ Only [T, g] w w' ∧
      ∃ iv', Row w' T 140 #[c0, iv', .int .i64 0, c3, c4, c5, c6] ∧ w'.ownsRow 0 117 7 iv' (N + 1) (xs ++ x.vs.toList) ∧ (∀ k, iv'.ownBlock = some k → k = g ∨ w.heap.size ≤ k) := by
  subst hc hN1
  obtain ⟨i0, hi, hz0, hz1, hz2⟩ := info_parts Yba.info117
  have hlt := r0.lt
  have hltg : g < w.heap.size := (hown.lt g rfl).2
  have hNc := owns_cap hown
  unfold maxLen at hcap
  have H63 : Hid (1 + 1 ≤ maxLen) := by unfold maxLen; show 1 + 1 ≤ _; omega
  have HBY : Hid ((1 + 1) * 64 ≤ 140737488355328) := by show _ ≤ _; omega
  go_enter Yba.func81, Yba.ntmps81
  go_wp2
  refine wp_world (fun W => Only [T, g] w W ∧ w.heap.size + 1 = W.heap.size ∧ Row W T 140 #[c0, .slice (some ⟨g, 0, none⟩) 1 1, .int .i64 0, c3, c4, c5, c6] ∧ Row W w.heap.size 117 x.vs ∧ W.ownsRow 0 117 7 (.slice (some ⟨g, 0, none⟩) 1 1) 1 xs)
    ⟨(Only.refl _ _).alloc _, by simp, r0.alloc _, row_new _ _ _ _ rfl, hown.alloc _⟩ ?_
  rintro W ⟨ho, hsz, r1, r2, hown⟩
  generalize hB : w.heap.size = B at *
  have HB := Hid.mk hB
  have AL := Hid.mk (And.intro ho (And.intro hsz (And.intro r1 (And.intro r2 hown))))
  have f0 := r1.frozen 1
  have f1 := r1.frozen 2
  have k0 := r1.cell 1
  have k1 := r1.cell 2
  simp at k0 k1
  have hslide : (∀ k, (Builtin.copy_ #[134, 134] 3 #[.slice (some ⟨g, 0, none⟩) 1 1, .slice (some ⟨g, 0, none⟩) 1 1]).run Yba.prog (W.drewN k) = .ok (.int .i64 1) (W.drewN k)) := by
    intro k
    rcases hown.2 with ⟨hv, _⟩ | ⟨g2, cap2, cur, hv, _, hg2, _, _, hcs, htk⟩
    · simp at hv
    · simp at hv
      obtain ⟨rfl, rfl⟩ := hv
      have hcl : cur.toList = xs := by rw [← htk, List.take_of_length_le (by simp; omega)]
      have := run_copy_rowN (P := Yba.prog) (W.drewN k) 134 134 3 117 7 g 0 1 1 ⟨g, 0, none⟩ 1 1 cur 117 cur.toList Yba.underlying134 (by rw [hi]; simp [hz1]) 1 rfl hg2 (by simp; omega) (fun j v hj => by
        have ha : (⟨g, 0, none⟩ : Addr).add j = ⟨g, j, none⟩ := addr_add0 g j
        rw [ha]
        exact (Row.cell (w := W) hg2 j).trans (by rw [← Array.getElem?_toList]; exact hj)) (by simp) (by rw [hcl]; exact h1c)
      rw [this]
      have e := whole_row cur
      rw [e, setRow_self (W.drewN k) g cur 117 (0, 0) hg2]
      rfl
  have hcl : ∀ V, (Builtin.clear_ #[134] 0 #[.slice (some ⟨g, 0, none⟩) 0 0]).run Yba.prog V = .ok (.tuple #[]) V := fun V => by simp [Builtin.clear_, run_underlying Yba.underlying134]
  clear ho hB hsz r0 hown r1 r2
  go_quiet (fail)
  go_wp2
  refine wp_region_drawn_tail 13 (by kernel_rfl) (by kernel_rfl) ?_
  simp only [List.take_succ_cons, List.take_zero, List.drop_succ_cons, List.drop_zero]
  repeat (go_big_quiet_step (fail))
  refine wpQuiet_nil ?_
  rintro _ ⟨m2, rfl⟩
  go_wp2
  refine wp_world (fun V => Only [T, g] w V ∧ B + 1 = V.heap.size ∧ Row V T 140 #[c0, .slice (some ⟨g, 0, none⟩) 1 1, .int .i64 0, c3, c4, c5, c6] ∧ Row V B 117 x.vs ∧ V.ownsRow 0 117 7 (.slice (some ⟨g, 0, none⟩) 1 1) 1 xs) ?_ ?_
  · obtain ⟨ho, hsz, r1, r2, hown⟩ := AL.out
    have e1 : B ≠ T := by omega
    exact ⟨((ho.drewN _).setCell (.inl (by simp)) _).setCell (.inl (by simp)) _, by simpa using hsz, by simpa using ((r1.drewN (nq + m2)).set 1 (.slice (some ⟨g, 0, none⟩) 1 1)).set 2 (.int .i64 0), ((r2.drewN _).setOther e1 _ _).setOther e1 _ _, owns_only hown ((((Only.refl [T] _).drewN _).setCell (.inl (by simp)) _).setCell (.inl (by simp)) _) (by simp [Value.ownBlock]; exact fun e => hgT e.symm)⟩
  clear k0 k1 f0 f1 AL hslide hcl
  rintro V ⟨ho, hsz, r1, r2, hown⟩
  have HO := Hid.mk ho
  have HS := Hid.mk hsz
  have OWN := Hid.mk hown
  have hTV : T < V.heap.size := r1.lt
  have hBV : B < V.heap.size := r2.lt
  have hgV : g < V.heap.size := (hown.lt g rfl).2
  clear ho hsz hown
  have k0 := r1.cell 1
  have k1 := r1.cell 2
  simp at k0 k1
  have z2 := fun i => r2.cell i
  have fin : Hid (∀ (w' : World) (v' : Value), w'.ownsRow 0 117 7 v' (1 + 1) (xs ++ x.vs.toList) → ((V.alloc (.cells x.vs 117)).drew).grownBy w' (some g) → (v'.ownBlock = some g ∨ v'.ownBlock = some (V.heap.size + 1)) →
      ∃ g' cap', v' = .slice (some ⟨g', 0, none⟩) (1 + 1) cap' ∧ w'.cell? ⟨T, 1, none⟩ = some (.slice (some ⟨g, 0, none⟩) 1 1) ∧ w'.frozen? ⟨T, 1, none⟩ = false ∧
      Only [T, g] w (w'.setCell ⟨T, 1, none⟩ (.slice (some ⟨g', 0, none⟩) (1 + 1) cap')) ∧
      ∃ iv', Row (w'.setCell ⟨T, 1, none⟩ (.slice (some ⟨g', 0, none⟩) (1 + 1) cap')) T 140 #[c0, iv', .int .i64 0, c3, c4, c5, c6] ∧ (w'.setCell ⟨T, 1, none⟩ (.slice (some ⟨g', 0, none⟩) (1 + 1) cap')).ownsRow 0 117 7 iv' (1 + 1) (xs ++ x.vs.toList) ∧ (∀ k, iv'.ownBlock = some k → k = g ∨ B ≤ k)) := by
    intro w' v' hown' hgr hnew
    obtain ⟨g', cap', hv⟩ := owns_shape hown' (by omega)
    subst hv
    have ho' : Only [T, g] w w' := ((HO.out.alloc _).drew).then (Only.ofGrown (S := [g]) hgr (by simp)) (by simp)
    have hr' : Row w' T 140 #[c0, .slice (some ⟨g, 0, none⟩) 1 1, .int .i64 0, c3, c4, c5, c6] := Row.only (S := [g]) ((r1.alloc _).drew) (Only.ofGrown hgr (by simp)) (by simpa using hgT)
    have hg' : g' = g ∨ V.heap.size + 1 = g' := by
      rcases hnew with h | h
      · simp [Value.ownBlock] at h; exact .inl h
      · simp [Value.ownBlock] at h; omega
    have hne : ¬ g' = T := by omega
    refine ⟨g', cap', rfl, by simpa using hr'.cell 1, hr'.frozen 1, ho'.setCell (by simp) _, .slice (some ⟨g', 0, none⟩) (1 + 1) cap', by simpa using hr'.set 1 (.slice (some ⟨g', 0, none⟩) (1 + 1) cap'), ?_, ?_⟩
    · exact owns_only hown' ((Only.refl [T] _).setCell (p := ⟨T, 1, none⟩) (by simp) (.slice (some ⟨g', 0, none⟩) (1 + 1) cap')) (by simp [Value.ownBlock]; exact hne)
    · have := HS.out; simp [Value.ownBlock]; omega
  clear r1 r2
  go_region_law (
    refine step_append_own2 rfl (.tmp 65) (.tmp 67) 134 rfl 117 i0 (.agg zeroArr) 7 64 Yba.underlying134 hi hz0 hz1 hz2 rfl (by decide) (.slice (some ⟨g, 0, none⟩) 1 1) 1 xs (by simp [Act.eval, Act.put]) (World.ownsRow.alloc (w := V) OWN.out _) ⟨V.heap.size, 0, none⟩ 1 1 x.vs.toList (by simp [Act.eval, Act.put]) rfl (seven_new rfl) seven_one (by decide) H63.out (.inr HBY.out) ?_; intro v' w' hown' hgr hnew; obtain ⟨g', cap', hv, q0, q1, res⟩ := fin.out w' v' hown' hgr (by simpa [Value.ownBlock] using hnew); rw [hv]; have RES := Hid.mk res; clear hown' hgr hnew hv res)
  all_goals go_wp2
  all_goals go_end0
  all_goals exact ⟨rfl, by rw [HB.out]; exact RES.out⟩
end Go.Proofs.Ybulkhba
