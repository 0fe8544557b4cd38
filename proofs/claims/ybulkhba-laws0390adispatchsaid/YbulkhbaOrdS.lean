import Derived.Test.YbulkhbaLines
import Derived.Test.YbulkhbaCmp
namespace Go.Proofs.Ybulkhba
open Go.RowKit
set_option linter.unusedVariables false
set_option linter.unusedSimpArgs false

abbrev zeroReq : Array Value := #[.int .i64 0, .string ByteArray.empty, .int .i64 0, .int .i64 0, .int .i64 0, .bool false]

theorem field_req (x : Arr) (W : World) : (Instr.field 117 (.agg #[.int .i64 x.r.id, .string x.r.tn, .int .i64 x.r.tk, .int .i64 x.r.pr, .int .i64 x.r.dl, .bool x.r.hd, .int .u64 x.sq]) 0).run Yba.prog W = .ok (.agg #[.int .i64 x.r.id, .string x.r.tn, .int .i64 x.r.tk, .int .i64 x.r.pr, .int .i64 x.r.dl, .bool x.r.hd]) W := by kernel_rfl

/-! ### 'ordered' WHERE NOTHING LIES IN THE HEAP: all waits in the tail -/

set_option maxHeartbeats 800000 in
/-- (*ordered).len -/
theorem ordLen_s (T n cap hd : Nat) (a : Option Addr) (w : World) (hn : n ≤ maxLen) (hh : hd ≤ n)
    (c0 : w.cell? ⟨T, 0, none⟩ = some (.slice none 0 0)) (c1 : w.cell? ⟨T, 1, none⟩ = some (.slice a n cap)) (c2 : w.cell? ⟨T, 2, none⟩ = some (.int .i64 hd)) :
    Calls Yba.prog 41 #[.pointer (some ⟨T, 0, none⟩)] w fun e w' => e = .returned (.int .i64 ((n : Int) - hd)) ∧ ∃ k, w' = w.drewN k := by
  unfold maxLen at hn
  have hl : Hid (∀ W, (∃ k, W = w.drewN k) → Calls Yba.prog 58 #[.pointer (some ⟨T, 1, none⟩)] W fun e w' => e = .returned (.int .i64 ((n : Int) - hd)) ∧ ∃ k, w' = w.drewN k) := by
    rintro W ⟨k, rfl⟩
    exact quietD ⟨_, rfl⟩ (lenA_any T 1 n cap hd a _ (by unfold maxLen; omega) hh c1 c2)
  go_enter Yba.func41, Yba.ntmps41
  go_wp2
  go_quiet ((go_at_call 58; exact hl.out _ ⟨_, rfl⟩))
  go_wp2
  go_ret
  exact ⟨by simp, _, rfl⟩

set_option maxHeartbeats 800000 in
/-- (*ordered).fromTail -/
theorem ordFrom_s (T : Nat) (w : World) (c0 : w.cell? ⟨T, 0, none⟩ = some (.slice none 0 0)) :
    Calls Yba.prog 54 #[.pointer (some ⟨T, 0, none⟩)] w fun e w' => e = .returned (.bool true) ∧ ∃ k, w' = w.drewN k := by
  go_enter Yba.func54, Yba.ntmps54
  go_wp2
  go_quiet (fail)
  go_wp2
  go_ret
  exact ⟨rfl, _, rfl⟩

set_option maxRecDepth 100000 in
set_option maxHeartbeats 800000 in
/-- (*ordered).front -/
theorem ordFront_s (T hd : Nat) (iv : Value) (x : Arr) (A : List Arr) (c3 c4 c5 c6 : Value) (w : World)
    (r0 : Row w T 140 #[.slice none 0 0, iv, .int .i64 hd, c3, c4, c5, c6]) (hl : LineA w iv hd (x :: A)) :
    Calls Yba.prog 39 #[.pointer (some ⟨T, 0, none⟩)] w fun e w' => e = .returned (.agg x.r.vs) ∧ Below w.heap.size w w' := by
  obtain ⟨a, cap, hv, hn, hc, hob, hnone, hsome⟩ := hl.shape
  cases ha : a with
  | none => exact absurd (hnone ha).2.1 (by simp)
  | some ad =>
    obtain ⟨hag, hcap0, cur, dead, hg, hs, ht, hdl⟩ := hsome ad.block (by rw [hob, ha]; rfl)
    generalize ad.block = g at *
    rw [hag] at hv
    have hfr := LineA.front (w := w) (iv := iv) (g := g) ht hdl
    have hxl : (x :: A).length = A.length + 1 := rfl
    have F : Hid (∀ W, Below w.heap.size w W → Calls Yba.prog 55 #[.pointer (some ⟨T, 1, none⟩)] W fun e w' => e = .returned (.agg x.vs) ∧ Below W.heap.size W w') := by
      intro W hW
      have r0' := r0.below hW r0.lt
      have hg' := hg.below hW hg.lt
      subst hv
      have d := fun j hj => (hg'.cell (hd * 7 + j)).trans (hfr j hj)
      refine frontA_any T 1 (hd + (x :: A).length) cap hd g x W (by omega) (by omega) r0'.lt hg'.lt (by simpa using r0'.cell 1) (by simpa using r0'.cell 2) ?_ ?_ ?_ ?_ ?_ ?_ ?_
      · simpa using d 0 (by omega)
      · simpa using d 1 (by omega)
      · simpa using d 2 (by omega)
      · simpa using d 3 (by omega)
      · simpa using d 4 (by omega)
      · simpa using d 5 (by omega)
      · simpa using d 6 (by omega)
    have k0 := r0.cell 0
    simp at k0
    have hlt := r0.lt
    clear hnone hsome hfr hn hc ht hdl hs
    go_enter Yba.func39, Yba.ntmps39
    go_wp2_with fail
    refine (ordFrom_s T _ (by simp [go_sem, hlt, k0])).mono ?_
    rintro e w1 ⟨rfl, m1, rfl⟩
    go_wp2_with fail
    refine (F.out _ (below_drewN ((Below.refl _ _).alloc (Nat.le_refl _) _) _)).mono ?_
    rintro e w2 ⟨rfl, hb⟩
    have rB : Row w2 w.heap.size 83 zeroReq := ((row_new w 83 zeroReq w.heap.size rfl).drewN m1).below hb (by simp [go_sem])
    have zB := fun i => rB.cell i
    have fB := fun i => rB.frozen i
    have HB := Hid.mk (show Below w.heap.size w w2 from (below_drewN ((Below.refl _ _).alloc (Nat.le_refl _) _) _).trans (hb.mono (by simp [go_sem])))
    clear hb F k0 rB
    have hf := field_req x
    go_wp2
    refine bodyPost_ret (v := .agg x.r.vs) (by simp [results, Yba.results39, go_sem, zB]) rfl ⟨rfl, ?_⟩
    exact (((((HB.out.setCell (Nat.le_refl _) _).setCell (Nat.le_refl _) _).setCell (Nat.le_refl _) _).setCell (Nat.le_refl _) _).setCell (Nat.le_refl _) _).setCell (Nat.le_refl _) _

set_option maxRecDepth 100000 in
set_option maxHeartbeats 800000 in
/-- (*ordered).pop -/
theorem ordPop_s (T hd : Nat) (iv : Value) (x : Arr) (A : List Arr) (c3 c4 c5 c6 : Value) (w : World)
    (r0 : Row w T 140 #[.slice none 0 0, iv, .int .i64 hd, c3, c4, c5, c6]) (hl : LineA w iv hd (x :: A)) (hne : iv.ownBlock ≠ some T) :
    Calls Yba.prog 40 #[.pointer (some ⟨T, 0, none⟩)] w fun e w' => e = .returned (.agg x.r.vs) ∧ Only (T :: iv.ownBlock.toList) w w' ∧
      ∃ iv' hd', Row w' T 140 #[.slice none 0 0, iv', .int .i64 (hd' : Nat), c3, c4, c5, c6] ∧ LineA w' iv' hd' A ∧ iv'.ownBlock = iv.ownBlock := by
  have hlt := r0.lt
  have k0 := r0.cell 0
  simp at k0
  have hown := hl.lt
  go_enter Yba.func40, Yba.ntmps40
  go_wp2_with fail
  refine (ordFrom_s T _ (by simp [go_sem, hlt, k0])).mono ?_
  rintro e w1 ⟨rfl, m1, rfl⟩
  go_wp2_with fail
  refine (popA_line T hd iv x A _ c3 c4 c5 c6 _ ((r0.alloc _).drewN _) (hl.only (((Only.refl [] _).alloc _).drewN _) (by simp)) hne).mono ?_
  rintro e w2 ⟨rfl, ho, iv', hd', hr, hl', hob⟩
  have hB : w.heap.size ∉ T :: iv.ownBlock.toList := by
    simp only [List.mem_cons, Option.mem_toList, not_or]
    exact ⟨by omega, fun h => by have := hown _ h; omega⟩
  have rB : Row w2 w.heap.size 83 zeroReq := ((row_new w 83 zeroReq w.heap.size rfl).drewN m1).only ho hB
  have zB := fun i => rB.cell i
  have fB := fun i => rB.frozen i
  have hsz : w.heap.size < w2.heap.size := rB.lt
  have HO := Hid.mk (show Only (T :: iv.ownBlock.toList) w w2 from (((Only.refl _ _).alloc _).drewN _).trans ho)
  have RES := Hid.mk (And.intro hr (And.intro hl' hob))
  have HW := Hid.mk hown
  clear ho hr hl' hob k0 hl r0 rB hown
  go_wp2
  refine bodyPost_ret (v := .agg x.r.vs) (by simp [results, Yba.results40, go_sem, zB, hsz]) rfl ⟨rfl, ?_, iv', hd', ?_, ?_, RES.out.2.2⟩
  · have e : w.heap.size ≤ w.heap.size := Nat.le_refl _
    exact ((((((HO.out.setCell (.inr e) _).setCell (.inr e) _).setCell (.inr e) _).setCell (.inr e) _).setCell (.inr e) _).setCell (.inr e) _).alloc _
  · have e : T ≠ w.heap.size := by omega
    exact ((((((RES.out.1.setOther e _ _).setOther e _ _).setOther e _ _).setOther e _ _).setOther e _ _).setOther e _ _).alloc _
  · refine RES.out.2.1.only (S := [w.heap.size]) ?_ ?_
    · exact (((((((Only.refl _ _).setCell (.inl (by simp)) _).setCell (.inl (by simp)) _).setCell (.inl (by simp)) _).setCell (.inl (by simp)) _).setCell (.inl (by simp)) _).setCell (.inl (by simp)) _).alloc _
    · intro k hk
      rw [RES.out.2.2] at hk
      have := HW.out k hk
      simp
      omega
end Go.Proofs.Ybulkhba
