import Derived.Test.YbulkhbaOrdS
namespace Go.Proofs.Ybulkhba
open Go.RowKit
set_option linter.unusedVariables false
set_option linter.unusedSimpArgs false

set_option maxRecDepth 100000 in
set_option maxHeartbeats 1600000 in
/-- (*ordered).push, where what waits bears the same rank. -/
theorem ordPush_s (T : Nat) (iv : Value) (r : Req) (n : Nat) (A : List Arr) (c4 c5 c6 : Value) (w : World)
    (r0 : Row w T 140 #[.slice none 0 0, iv, .int .i64 0, .int .u64 n, c4, c5, c6]) (hl : LineA w iv 0 A) (hne : iv.ownBlock ≠ some T) (hA : A.length ≤ 1000000) (hn : n ≤ 1000000)
    (hrk : ∀ y, A.head? = some y → rankI y.r.pr y.r.dl y.r.hd r.pr r.dl r.hd = 0) :
    Calls Yba.prog 52 #[.pointer (some ⟨T, 0, none⟩), .agg r.vs] w fun e w' => e = .returned (.tuple #[]) ∧ Only (T :: iv.ownBlock.toList) w w' ∧
      ∃ iv', Row w' T 140 #[.slice none 0 0, iv', .int .i64 0, .int .u64 ((n : Int) + 1), c4, c5, c6] ∧ LineA w' iv' 0 (A ++ [⟨r, n⟩]) ∧ (∀ k, iv'.ownBlock = some k → iv.ownBlock = some k ∨ w.heap.size ≤ k) := by
  have hlt := r0.lt
  have hown := hl.lt
  obtain ⟨a, cap, hv, hcn, hc, hob, hnone, hsome⟩ := hl.shape
  rw [Nat.zero_add] at hv hcn
  unfold maxLen at hc
  cases A with
  | nil =>
    have len0 : Hid (∀ W, Only [] w W → Calls Yba.prog 58 #[.pointer (some ⟨T, 1, none⟩)] W fun e w' => e = .returned (.int .i64 0) ∧ ∃ k, w' = W.drewN k) := by
      intro W hW
      have r' := r0.only hW (by simp)
      have := lenA_any T 1 0 cap 0 a W (by decide) (by omega) (by rw [hv] at r'; simpa using r'.cell 1) (by simpa using r'.cell 2)
      simpa using this
    go_enter Yba.func52, Yba.ntmps52
    go_wp2_with fail
    refine (len0.out _ ((Only.refl _ _).alloc _)).mono ?_
    rintro e w1 ⟨rfl, m1, rfl⟩
    go_wp2_with fail
    refine wp_world (fun W => Only [] w W ∧ Row W T 140 #[.slice none 0 0, iv, .int .i64 0, .int .u64 n, c4, c5, c6] ∧ Row W w.heap.size 83 r.vs ∧ LineA W iv 0 []) ?_ ?_
    · exact ⟨(((Only.refl [] _).alloc _).drewN m1), r0.only (((Only.refl [] _).alloc _).drewN m1) (by simp), ((row_new _ _ _ _ rfl).drewN m1), hl.only (((Only.refl [] _).alloc _).drewN m1) (by simp)⟩
    rintro W ⟨ho, r1, r2, hl2⟩
    generalize hB : w.heap.size = B at *
    have HB := Hid.mk hB
    have HO := Hid.mk ho
    have HOWN := Hid.mk hown
    have hBW : B < W.heap.size := r2.lt
    have hTW : T < W.heap.size := r1.lt
    clear ho hB hown
    have k3 := r1.cell 3
    have z2 := fun i => r2.cell i
    simp at k3
    have PU : Hid (∀ m, Calls Yba.prog 81 #[.pointer (some ⟨T, 1, none⟩), .agg (Arr.vs ⟨r, n⟩)] (W.drewN m) fun e w' => e = .returned (.tuple #[]) ∧ Only (T :: iv.ownBlock.toList) (W.drewN m) w' ∧
        ∃ iv', Row w' T 140 #[.slice none 0 0, iv', .int .i64 0, .int .u64 n, c4, c5, c6] ∧ LineA w' iv' 0 ([] ++ [⟨r, n⟩]) ∧ (∀ k, iv'.ownBlock = some k → iv.ownBlock = some k ∨ W.heap.size ≤ k)) :=
      fun m => pushA_line T iv ⟨r, n⟩ [] _ _ c4 c5 c6 _ (r1.drewN m) (hl2.only ((Only.refl [] _).drewN m) (by simp)) hne hA
    clear r1 r2 hl2
    refine wp_region_drawn_tail 9 (by kernel_rfl) (by kernel_rfl) ?_
    simp only [List.take_succ_cons, List.take_zero, List.drop_succ_cons, List.drop_zero]
    repeat (go_big_quiet_step (fail))
    refine wpQuiet_nil ?_
    rintro _ ⟨m2, rfl⟩
    go_wp2_with fail
    refine (PU.out m2).mono ?_
    rintro e w2 ⟨rfl, ho2, iv', hr2, hl3, hnew⟩
    have HO2 := Hid.mk (show Only (T :: iv.ownBlock.toList) w w2 from (HO.out.mono (by simp)).trans (((Only.refl _ _).drewN m2).trans ho2))
    have RES := Hid.mk (And.intro hr2 (And.intro hl3 hnew))
    have k3' := hr2.cell 3
    have f3' := hr2.frozen 3
    simp at k3'
    have hn1 : (n : Int) ≤ 1000000 := by omega
    have hn0 : (0 : Int) ≤ n := by omega
    clear ho2 hr2 hl3 hnew PU z2 k3
    go_wp2
    go_end0
    refine ⟨rfl, HO2.out.setCell (by simp) _, iv', by simpa using RES.out.1.set 3 (.int .u64 ((n : Int) + 1)), ?_, ?_⟩
    · refine RES.out.2.1.only (S := [T]) ((Only.refl _ _).setCell (by simp) _) ?_
      intro k hk
      simp
      rcases RES.out.2.2 k hk with h | h
      · rintro rfl; exact hne h
      · omega
    · intro k hk
      rcases RES.out.2.2 k hk with h | h
      · exact .inl h
      · exact .inr (by have := HO.out.size; omega)
  | cons y A =>
    have hl0 := hl
    cases ha : a with
    | none => exact absurd (hnone ha).2.1 (by simp)
    | some ad =>
    obtain ⟨hag, hcap0, cur, dead, hg, hs, ht, hdl⟩ := hsome ad.block (by rw [hob, ha]; rfl)
    generalize ad.block = g at *
    rw [hag] at hv
    have hfr := LineA.front (w := w) (iv := iv) (g := g) ht hdl
    have hxl : (y :: A).length = A.length + 1 := rfl
    have len1 : Hid (∀ W, Only [] w W → Calls Yba.prog 58 #[.pointer (some ⟨T, 1, none⟩)] W fun e w' => e = .returned (.int .i64 ((A.length : Int) + 1)) ∧ ∃ k, w' = W.drewN k) := by
      intro W hW
      have r' := r0.only hW (by simp)
      have := lenA_any T 1 (y :: A).length cap 0 (some ⟨g, 0, none⟩) W (by unfold maxLen; omega) (by omega) (by rw [hv] at r'; simpa using r'.cell 1) (by simpa using r'.cell 2)
      simpa using this
    have val1 : Hid (∀ W, Only [] w W → Calls Yba.prog 79 #[.pointer (some ⟨T, 1, none⟩)] W fun e w' => e = .returned (.slice (some ⟨g, 0, none⟩) (A.length + 1) cap) ∧ ∃ k, w' = W.drewN k) := by
      intro W hW
      have r' := r0.only hW (by simp)
      have := valuesA_any T 1 (y :: A).length cap 0 g W hcn (by unfold maxLen; omega) (by simp) (by rw [hv] at r'; simpa using r'.cell 1) (by simpa using r'.cell 2)
      simpa using this
    have rk1 : Hid (∀ W, Only [] w W → Row W w.heap.size 83 r.vs → Calls Yba.prog 44 #[.pointer (some ⟨g, 0, none⟩), .pointer (some ⟨w.heap.size, 0, none⟩)] W fun e w' => e = .returned (.int .i64 0) ∧ ∃ k, w' = W.drewN k) := by
      intro W hW hr
      have hg' := hg.only hW (by simp)
      have d := fun j hj => (hg'.cell (0 * 7 + j)).trans (hfr j hj)
      have e1 := d 3 (by omega)
      have e2 := d 4 (by omega)
      have e3 := d 5 (by omega)
      have q1 := hr.cell 3
      have q2 := hr.cell 4
      have q3 := hr.cell 5
      simp at e1 e2 e3 q1 q2 q3
      have := rank_any g 0 w.heap.size 0 y.r.pr y.r.dl y.r.hd r.pr r.dl r.hd W (by simpa using e1) (by simpa using e2) (by simpa using e3) (by simpa using q1) (by simpa using q2) (by simpa using q3)
      rw [hrk y rfl] at this
      exact this
    have hAl : A.length + 1 ≤ 1000000 := hA
    have hAi : (0 : Int) ≤ A.length := by omega
    have hgt : ((0 : Int) < (A.length : Int) + 1) := by omega
    clear hnone hsome hfr ht hdl hs hob hrk
    go_enter Yba.func52, Yba.ntmps52
    go_wp2_with fail
    refine (len1.out _ ((Only.refl _ _).alloc _)).mono ?_
    rintro e w1 ⟨rfl, m1, rfl⟩
    go_wp2_with fail
    refine (val1.out _ (((Only.refl _ _).alloc _).drewN _)).mono ?_
    rintro e w1 ⟨rfl, m2, rfl⟩
    go_wp2_with fail
    refine (rk1.out _ (((Only.refl _ _).alloc _).drewN _) ((row_new _ _ _ _ rfl).drewN _)).mono ?_
    rintro e w1 ⟨rfl, m3, rfl⟩
    go_wp2_with fail
    refine wp_world (fun W => Only [] w W ∧ Row W T 140 #[.slice none 0 0, iv, .int .i64 0, .int .u64 n, c4, c5, c6] ∧ Row W w.heap.size 83 r.vs ∧ LineA W iv 0 (y :: A)) ?_ ?_
    · exact ⟨(((Only.refl [] _).alloc _).drewN (m1 + m2 + m3)), r0.only (((Only.refl [] _).alloc _).drewN (m1 + m2 + m3)) (by simp), ((row_new _ _ _ _ rfl).drewN (m1 + m2 + m3)), hl.only (((Only.refl [] _).alloc _).drewN (m1 + m2 + m3)) (by simp)⟩
    rintro W ⟨ho, r1, r2, hl2⟩
    generalize hB : w.heap.size = B at *
    have HB := Hid.mk hB
    have HO := Hid.mk ho
    have HOWN := Hid.mk hown
    have hBW : B < W.heap.size := r2.lt
    have hTW : T < W.heap.size := r1.lt
    clear ho hB hown
    have k3 := r1.cell 3
    have z2 := fun i => r2.cell i
    simp at k3
    have PU : Hid (∀ m, Calls Yba.prog 81 #[.pointer (some ⟨T, 1, none⟩), .agg (Arr.vs ⟨r, n⟩)] (W.drewN m) fun e w' => e = .returned (.tuple #[]) ∧ Only (T :: iv.ownBlock.toList) (W.drewN m) w' ∧
        ∃ iv', Row w' T 140 #[.slice none 0 0, iv', .int .i64 0, .int .u64 n, c4, c5, c6] ∧ LineA w' iv' 0 ((y :: A) ++ [⟨r, n⟩]) ∧ (∀ k, iv'.ownBlock = some k → iv.ownBlock = some k ∨ W.heap.size ≤ k)) :=
      fun m => pushA_line T iv ⟨r, n⟩ (y :: A) _ _ c4 c5 c6 _ (r1.drewN m) (hl2.only ((Only.refl [] _).drewN m) (by simp)) hne hA
    clear r1 r2 hl2
    refine wp_region_drawn_tail 9 (by kernel_rfl) (by kernel_rfl) ?_
    simp only [List.take_succ_cons, List.take_zero, List.drop_succ_cons, List.drop_zero]
    repeat (go_big_quiet_step (fail))
    refine wpQuiet_nil ?_
    rintro _ ⟨m4, rfl⟩
    go_wp2_with fail
    refine (PU.out m4).mono ?_
    rintro e w2 ⟨rfl, ho2, iv', hr2, hl3, hnew⟩
    have HO2 := Hid.mk (show Only (T :: iv.ownBlock.toList) w w2 from (HO.out.mono (by simp)).trans (((Only.refl _ _).drewN m4).trans ho2))
    have RES := Hid.mk (And.intro hr2 (And.intro hl3 hnew))
    have k3' := hr2.cell 3
    have f3' := hr2.frozen 3
    simp at k3'
    have hn1 : (n : Int) ≤ 1000000 := by omega
    have hn0 : (0 : Int) ≤ n := by omega
    clear ho2 hr2 hl3 hnew PU z2 k3
    go_wp2
    go_end0
    refine ⟨rfl, HO2.out.setCell (by simp) _, iv', by simpa using RES.out.1.set 3 (.int .u64 ((n : Int) + 1)), ?_, ?_⟩
    · refine RES.out.2.1.only (S := [T]) ((Only.refl _ _).setCell (by simp) _) ?_
      intro k hk
      simp
      rcases RES.out.2.2 k hk with h | h
      · rintro rfl; exact hne h
      · omega
    · intro k hk
      rcases RES.out.2.2 k hk with h | h
      · exact .inl h
      · exact .inr (by have := HO.out.size; omega)
end Go.Proofs.Ybulkhba
