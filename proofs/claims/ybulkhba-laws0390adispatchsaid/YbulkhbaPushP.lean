import Derived.Test.YbulkhbaLineP
import Derived.Test.YbulkhbaOwn
namespace Go.Proofs.Ybulkhba
open Go.RowKit
set_option linter.unusedVariables false
set_option linter.unusedSimpArgs false

theorem Yba.info132 : (Yba.prog.info? 132).map (fun i => (i.zero, i.size, i.bytes)) = some (some (.pointer none), 1, 8) := by kernel_rfl

/-- A line of pointers: 'hd' cells that have gone, then those that wait. -/
def LineP (w : World) (iv : Value) (hd : Nat) (xs : List Value) : Prop :=
  ∃ dead, w.ownsRow 0 132 1 iv (hd + xs.length) (dead ++ xs) ∧ dead.length = hd ∧ (xs = [] → hd = 0) ∧ ∀ ad n cap, iv = .slice (some ad) n cap → 0 < cap

theorem one_new {w : World} {n : Nat} {p : Value} {t : TypeId} (hw : n = w.heap.size) : ∀ (j : Nat) (u : Value), [p][j]? = some u → (w.alloc (.cells #[p] t)).cell? (({ block := n, off := 0 } : Addr).add j) = some u := by
  intro j u hj
  match j, hj with
  | 0, hj => simp at hj; subst hj; subst hw; simp [Addr.add, go_sem]
theorem one_ptr {p : Option Addr} : ∀ (u : Value), u ∈ [Value.pointer p] → u.oneCell' = true := by
  intro u hu; simp at hu; subst hu; rfl
set_option maxRecDepth 100000 in
set_option maxHeartbeats 1600000 in
theorem pushP_nil (R : Nat) (c0 c3 c4 : Value) (p : Option Addr) (w : World)
    (r0 : Row w R 131 #[c0, .slice none 0 0, .int .i64 0, c3, c4]) :
    Calls Yba.prog 51 #[.pointer (some ⟨R, 1, none⟩), .pointer p] w fun e w' => e = .returned (.tuple #[]) ∧ Only [R] w w' ∧
      ∃ iv', Row w' R 131 #[c0, iv', .int .i64 0, c3, c4] ∧ LineP w' iv' 0 [.pointer p] ∧ (∀ k, iv'.ownBlock = some k → w.heap.size ≤ k) := by
  obtain ⟨i0, hi, hz0, hz1, hz2⟩ := info_parts Yba.info132
  have f0 := r0.frozen 1
  have f1 := r0.frozen 2
  have k0 := r0.cell 1
  have k1 := r0.cell 2
  simp at k0 k1
  have hlt := r0.lt
  have hcp : ∀ W, (Builtin.copy_ #[127, 127] 3 #[.slice none 0 0, .slice none 0 0]).run Yba.prog W = .ok (.int .i64 0) W := fun W => by kernel_rfl
  have hcl : ∀ W, (Builtin.clear_ #[127] 0 #[.slice none 0 0]).run Yba.prog W = .ok (.tuple #[]) W := fun W => by kernel_rfl
  go_enter Yba.func51, Yba.ntmps51
  go_wp2
  go_quiet (fail)
  go_wp2
  refine wp_region_drawn_tail 13 (by kernel_rfl) (by kernel_rfl) ?_
  simp only [List.take_succ_cons, List.take_zero, List.drop_succ_cons, List.drop_zero]
  repeat (go_big_quiet_step (fail))
  refine wpQuiet_nil ?_
  rintro _ ⟨m2, rfl⟩
  go_wp2_with (at_builtin; refine wpList_append_own2 rfl (.tmp 65) (.tmp 67) 127 rfl 132 i0 (.pointer none) 1 8 Yba.underlying127 hi hz0 hz1 hz2 rfl (by decide) _ 0 [] rfl (World.ownsRow_nil _ _ _ _) _ 1 1 [.pointer p] rfl rfl ?c1 ?c2 (by decide) (by decide) (.inr (by decide)) ?_)
  case c1 => exact one_new (by simp)
  case c2 => exact one_ptr
  intro v' w' hown hgr hnew
  obtain ⟨g, cap, hv⟩ := owns_shape hown (by decide)
  rw [hv]
  have ho : Only [R] w w' := (((((Only.refl _ _).drewN _).setCell (by simp) _).setCell (by simp) _).alloc _).then (Only.ofGrown (S := []) hgr (by simp [Value.ownBlock])) (by simp)
  have hr : Row w' R 131 #[c0, .slice none 0 0, .int .i64 0, c3, c4] := by
    refine Row.only (S := []) ?_ (Only.ofGrown hgr (by simp [Value.ownBlock])) (by simp)
    exact Row.alloc (by simpa using ((r0.drewN (nq + m2)).set 1 (.slice none 0 0)).set 2 (.int .i64 0)) _
  rw [hv] at hown hnew
  have hg0 : g = w.heap.size + 1 := by simpa [Value.ownBlock] using hnew
  have hg := hg0.symm
  clear hg0
  have HO := Hid.mk ho
  have HW := Hid.mk hown
  have HG := Hid.mk hg
  have q0 := hr.cell 1
  have q1 := hr.frozen 1
  simp at q0
  have HR := Hid.mk hr
  clear hown hgr hnew hv ho hr hg k0 k1 f0 f1 r0 hcp hcl
  go_wp2
  go_end0
  refine ⟨rfl, HO.out.setCell (by simp) _, .slice (some ⟨g, 0, none⟩) 1 cap, by simpa using HR.out.set 1 (.slice (some ⟨g, 0, none⟩) 1 cap), ⟨[], ?_, rfl, by simp, ?_⟩, ?_⟩
  · exact owns_only HW.out ((Only.refl [R] _).setCell (by simp) _) (by have := HG.out; simp [Value.ownBlock]; omega)
  · intro ad n cap' hc
    simp at hc
    have := owns_cap HW.out
    omega
  · have := HG.out; simp [Value.ownBlock]; omega

set_option maxRecDepth 100000 in
set_option maxHeartbeats 3200000 in
theorem pushP_plain (R g hd cap : Nat) (xs dead : List Value) (c0 c3 c4 : Value) (p : Option Addr) (w : World)
    (r0 : Row w R 131 #[c0, .slice (some ⟨g, 0, none⟩) (hd + xs.length) cap, .int .i64 hd, c3, c4]) (hown : w.ownsRow 0 132 1 (.slice (some ⟨g, 0, none⟩) (hd + xs.length) cap) (hd + xs.length) (dead ++ xs)) (hdl : dead.length = hd) (hcap : cap ≤ maxLen)
    (hgR : ¬ R = g) (hx : xs.length ≤ 1000000) (hno : hd + xs.length < cap ∨ (hd + xs.length = cap ∧ hd < (hd + xs.length) / 2)) :
    Calls Yba.prog 51 #[.pointer (some ⟨R, 1, none⟩), .pointer p] w fun e w' => e = .returned (.tuple #[]) ∧ Only [R, g] w w' ∧
      ∃ iv', Row w' R 131 #[c0, iv', .int .i64 hd, c3, c4] ∧ LineP w' iv' hd (xs ++ [.pointer p]) ∧ (∀ k, iv'.ownBlock = some k → k = g ∨ w.heap.size ≤ k) := by
  obtain ⟨i0, hi, hz0, hz1, hz2⟩ := info_parts Yba.info132
  have f0 := r0.frozen 1
  have f1 := r0.frozen 2
  have k0 := r0.cell 1
  have k1 := r0.cell 2
  simp at k0 k1
  have hlt := r0.lt
  unfold maxLen at hcap
  obtain ⟨N, hN⟩ : ∃ N, N = hd + xs.length := ⟨_, rfl⟩
  rw [← hN] at k0 hown hno r0
  have hglt : g < w.heap.size := (hown.lt g rfl).2
  have fin : Hid (∀ (w0 w' : World) (v' : Value), Only [R] w w0 → Row w0 R 131 #[c0, .slice (some ⟨g, 0, none⟩) N cap, .int .i64 hd, c3, c4] → w0.heap.size = w.heap.size + 1 → w'.ownsRow 0 132 1 v' (N + 1) (dead ++ (xs ++ [.pointer p])) → w0.grownBy w' (some g) → (v'.ownBlock = some g ∨ v'.ownBlock = some w0.heap.size) →
      ∃ g' cap', v' = .slice (some ⟨g', 0, none⟩) (N + 1) cap' ∧ w'.cell? ⟨R, 1, none⟩ = some (.slice (some ⟨g, 0, none⟩) N cap) ∧ w'.frozen? ⟨R, 1, none⟩ = false ∧ 
      Only [R, g] w (w'.setCell ⟨R, 1, none⟩ (.slice (some ⟨g', 0, none⟩) (N + 1) cap')) ∧
      ∃ iv', Row (w'.setCell ⟨R, 1, none⟩ (.slice (some ⟨g', 0, none⟩) (N + 1) cap')) R 131 #[c0, iv', .int .i64 hd, c3, c4] ∧ LineP (w'.setCell ⟨R, 1, none⟩ (.slice (some ⟨g', 0, none⟩) (N + 1) cap')) iv' hd (xs ++ [.pointer p]) ∧ (∀ k, iv'.ownBlock = some k → k = g ∨ w.heap.size ≤ k)) := by
    intro w0 w' v' ho hr hs0 hown' hgr hnew
    obtain ⟨g', cap', hv⟩ := owns_shape hown' (by omega)
    subst hv
    have ho' : Only [R, g] w w' := (ho.mono (by simp)).then (Only.ofGrown (S := [g]) hgr (by simp)) (by simp)
    have hr' : Row w' R 131 #[c0, .slice (some ⟨g, 0, none⟩) N cap, .int .i64 hd, c3, c4] := Row.only (S := [g]) hr (Only.ofGrown hgr (by simp)) (by simpa using hgR)
    have hg' : g' = g ∨ w.heap.size ≤ g' := by
      rcases hnew with h | h
      · simp [Value.ownBlock] at h; exact .inl h
      · simp [Value.ownBlock] at h; omega
    have hne : ¬ g' = R := by omega
    refine ⟨g', cap', rfl, by simpa using hr'.cell 1, hr'.frozen 1, ho'.setCell (by simp) _, .slice (some ⟨g', 0, none⟩) (N + 1) cap', by simpa using hr'.set 1 (.slice (some ⟨g', 0, none⟩) (N + 1) cap'), ⟨dead, ?_, hdl, by simp, ?_⟩, ?_⟩
    · have := owns_only hown' ((Only.refl [R] _).setCell (p := ⟨R, 1, none⟩) (by simp) (.slice (some ⟨g', 0, none⟩) (N + 1) cap')) (by simp [Value.ownBlock]; exact hne)
      rw [show hd + (xs ++ [Value.pointer p]).length = N + 1 by simp; omega]
      exact this
    · intro ad n cap'' hc
      simp at hc
      have := owns_cap hown'
      omega
    · simpa [Value.ownBlock] using hg'
  have HOW := Hid.mk hown
  have HR0 := Hid.mk r0
  have hroomy : Hid ((∃ ad cap', Value.slice (some ⟨g, 0, none⟩) N cap = .slice ad N cap' ∧ N + 1 ≤ cap') ∨ (N + 1) * 8 ≤ 140737488355328) := by
    rcases hno with h | h
    · exact .inl ⟨_, cap, rfl, by omega⟩
    · exact .inr (by omega)
  have hN63 : Hid (N + 1 ≤ maxLen) := by unfold maxLen; show N + 1 ≤ _; omega
  have HN := Hid.mk hN
  have hNc : N ≤ cap := by omega
  have hNd : hd ≤ N := by omega
  clear hN hown r0
  rcases hno with hlt' | ⟨rfl, hlt'⟩
  · have e1 : (((N : Nat) : Int) == ((cap : Nat) : Int)) = false := by rw [beq_eq_false_iff_ne]; omega
    go_enter Yba.func51, Yba.ntmps51
    go_wp2
    go_quiet (fail)
    go_wp2_with (at_builtin; refine wpList_append_own2 rfl (.tmp 65) (.tmp 67) 127 rfl 132 i0 (.pointer none) 1 8 Yba.underlying127 hi hz0 hz1 hz2 rfl (by decide) _ N (dead ++ xs) rfl (World.ownsRow.alloc (by exact HOW.out) _) _ 1 1 [.pointer p] rfl rfl ?c1 ?c2 (by decide) hN63.out hroomy.out ?_)
    case c1 => exact one_new (by simp)
    case c2 => exact one_ptr
    intro v' w' hown' hgr hnew
    obtain ⟨g', cap', hv, q0, q1, res⟩ := fin.out _ _ _ (((Only.refl _ _).drewN _).alloc _) ((HR0.out.drewN _).alloc _) (by simp) hown' hgr (by simpa [Value.ownBlock] using hnew)
    rw [hv]
    have RES := Hid.mk res
    clear hown' hgr hnew hv res k0 k1 f0 f1 fin
    go_wp2
    go_end0
    exact ⟨rfl, RES.out⟩
  · have e1 : (((N : Nat) : Int) == ((N : Nat) : Int)) = true := by simp
    have e2 : ¬ ((N : Int) / 2 ≤ (hd : Int)) := by omega
    go_enter Yba.func51, Yba.ntmps51
    go_wp2
    go_quiet (fail)
    go_wp2_with (at_builtin; refine wpList_append_own2 rfl (.tmp 65) (.tmp 67) 127 rfl 132 i0 (.pointer none) 1 8 Yba.underlying127 hi hz0 hz1 hz2 rfl (by decide) _ N (dead ++ xs) rfl (World.ownsRow.alloc (by exact HOW.out) _) _ 1 1 [.pointer p] rfl rfl ?c1 ?c2 (by decide) hN63.out hroomy.out ?_)
    case c1 => exact one_new (by simp)
    case c2 => exact one_ptr
    intro v' w' hown' hgr hnew
    obtain ⟨g', cap', hv, q0, q1, res⟩ := fin.out _ _ _ (((Only.refl _ _).drewN _).alloc _) ((HR0.out.drewN _).alloc _) (by simp) hown' hgr (by simpa [Value.ownBlock] using hnew)
    rw [hv]
    have RES := Hid.mk res
    clear hown' hgr hnew hv res k0 k1 f0 f1 fin
    go_wp2
    go_end0
    exact ⟨rfl, RES.out⟩

theorem zero_ptr_cells (n : Nat) : (Builtin.zeroCells (Value.pointer none).cells n).toList = List.replicate n (.pointer none) := by
  simp [Builtin.zeroCells, Value.cells]
  apply List.ext_getElem
  · simp
  · intro i h1 h2
    simp [Nat.mod_one]

set_option maxRecDepth 100000 in
set_option maxHeartbeats 3200000 in
theorem pushP_slide (R g hd cap : Nat) (xs dead : List Value) (c0 c3 c4 : Value) (p : Option Addr) (w : World)
    (r0 : Row w R 131 #[c0, .slice (some ⟨g, 0, none⟩) cap cap, .int .i64 hd, c3, c4]) (cur : Array Value) (rg : Row w g 132 cur) (hsz : cur.size = cap) (hcur : cur.toList = dead ++ xs) (hdl : dead.length = hd) (hcap : cap ≤ maxLen) (hcx : cap = hd + xs.length)
    (h1c : ∀ u ∈ xs, u.oneCell' = true) (hgR : ¬ R = g) (hx : xs.length ≤ 1000000) (hx0 : 0 < xs.length) (hyes : cap / 2 ≤ hd) :
    Calls Yba.prog 51 #[.pointer (some ⟨R, 1, none⟩), .pointer p] w fun e w' => e = .returned (.tuple #[]) ∧ Only [R, g] w w' ∧
      ∃ iv', Row w' R 131 #[c0, iv', .int .i64 0, c3, c4] ∧ LineP w' iv' 0 (xs ++ [.pointer p]) ∧ (∀ k, iv'.ownBlock = some k → k = g ∨ w.heap.size ≤ k) := by
  obtain ⟨i0, hi, hz0, hz1, hz2⟩ := info_parts Yba.info132
  have f0 := r0.frozen 1
  have f1 := r0.frozen 2
  have k0 := r0.cell 1
  have k1 := r0.cell 2
  simp at k0 k1
  have hlt := r0.lt
  have hltg := rg.lt
  unfold maxLen at hcap
  obtain ⟨m, hm⟩ : ∃ m, m = xs.length := ⟨_, rfl⟩
  have hzv : ∀ w, (zeroValue 132).run Yba.prog w = .ok (.pointer none) w := fun w => by simp [zeroValue, typeInfo, hi, hz0]
  obtain ⟨W1, hW1⟩ : ∃ W1 : Nat → World, ∀ k, (Builtin.copy_ #[127, 127] 3 #[.slice (some ⟨g, 0, none⟩) cap cap, .slice (some ⟨g, hd, none⟩) (cap - hd) (cap - hd)]).run Yba.prog (w.drewN k) = .ok (.int .i64 m) (W1 k) ∧
      Row (W1 k) g 132 (xs ++ cur.toList.drop m).toArray ∧ Row (W1 k) R 131 #[c0, .slice (some ⟨g, 0, none⟩) cap cap, .int .i64 hd, c3, c4] ∧ Only [R, g] w (W1 k) := by
    refine ⟨fun k => (w.drewN k).setRow g (xs ++ cur.toList.drop m).toArray, fun k => ⟨?_, (rg.drewN k).setRow _, (r0.drewN k).setRowOther hgR _, ((Only.refl _ _).drewN k).setRow (by simp) _⟩⟩
    have := run_copy_row (P := Yba.prog) (w.drewN k) 127 127 3 132 g 0 cap cap ⟨g, hd, none⟩ (cap - hd) (cap - hd) cur 132 xs Yba.underlying127 (by rw [hi]; simp [hz1]) rg (by rw [show cap - hd = xs.length by omega]; exact (Nat.min_eq_left (by omega)).symm) (fun j v hj => by
        have hj' : j < xs.length := by
          rcases Nat.lt_or_ge j xs.length with h | h
          · exact h
          · rw [List.getElem?_eq_none h] at hj; cases hj
        have := rg.cell (hd + j)
        rw [← Array.getElem?_toList, hcur, List.getElem?_append_right (by omega), hdl, show hd + j - hd = j by omega, hj] at this
        have ha : (⟨g, hd, none⟩ : Addr).add j = ⟨g, hd + j, none⟩ := by unfold Addr.add; split <;> simp_all
        rw [ha]
        exact this) (by omega) h1c
    rw [this]
    simp [goInt, hm]
  have hcp := fun k => (hW1 k).1
  have q1 := fun k => (hW1 k).2.2.1.cell 1
  have q2 := fun k => (hW1 k).2.2.1.cell 2
  simp at q1 q2
  obtain ⟨W2, hW2⟩ : ∃ W2 : Nat → World, ∀ k, (Builtin.clear_ #[127] 0 #[.slice (if cap = m then some ⟨g, 0, none⟩ else some ⟨g, m, none⟩) (cap - m) (cap - m)]).run Yba.prog (W1 k) = .ok (.tuple #[]) (W2 k) ∧
      (∃ A2 : Array Value, Row (W2 k) g 132 A2 ∧ A2.size = cap ∧ A2.toList.take m = xs) ∧ Row (W2 k) R 131 #[c0, .slice (some ⟨g, 0, none⟩) cap cap, .int .i64 hd, c3, c4] ∧ Only [R, g] w (W2 k) := by
    by_cases hc : cap = m
    · refine ⟨W1, fun k => ⟨?_, ⟨_, (hW1 k).2.1, ?_, ?_⟩, (hW1 k).2.2.1, (hW1 k).2.2.2⟩⟩
      · rw [hc, if_pos rfl, Nat.sub_self]
        simp [Builtin.clear_, run_underlying Yba.underlying127]
      · simp; omega
      · simp [hm]
    · obtain ⟨A2, hA2⟩ : ∃ A2 : Array Value, A2 = ((xs ++ cur.toList.drop m).take m ++ List.replicate (cap - m) (Value.pointer none) ++ (xs ++ cur.toList.drop m).drop (m + (cap - m))).toArray := ⟨_, rfl⟩
      refine ⟨fun k => (W1 k).setRow g A2, fun k => ⟨?_, ⟨A2, (hW1 k).2.1.setRow A2, ?_, ?_⟩, (hW1 k).2.2.1.setRowOther hgR A2, (hW1 k).2.2.2.setRow (by simp) A2⟩⟩
      · rw [if_neg hc]
        have := run_clear_row (P := Yba.prog) (w := W1 k) 127 132 0 (.pointer none) Yba.underlying127 hzv g m (cap - m) (cap - m) (by omega) _ (hW1 k).2.1 (by rw [zero_ptr_cells]; simp; omega) (by rw [zero_ptr_cells]; intro u hu; rw [List.eq_of_mem_replicate hu]; rfl)
        rw [zero_ptr_cells, List.length_replicate] at this
        rw [hA2]
        exact this
      · subst hA2; simp; omega
      · subst hA2; simp [hm]
  have hcl := fun k => (hW2 k).1
  have q3 := fun k => (hW2 k).2.2.1.cell 1
  have q4 := fun k => (hW2 k).2.2.1.cell 2
  have q5 := fun k => (hW2 k).2.2.1.frozen 1
  have q6 := fun k => (hW2 k).2.2.1.frozen 2
  simp at q3 q4
  have e1 : (((cap : Nat) : Int) == ((cap : Nat) : Int)) = true := by simp
  have e2 : ((cap : Int) / 2 ≤ (hd : Int)) := by omega
  have e3 : ¬ cap = hd := by omega
  have e4 : hd ≤ cap := by omega
  have e6 : m ≤ cap := by omega
  have hx1 : m ≤ 1000000 := by omega
  have hx2 : 0 < m := by omega
  have fin : Hid (∀ (k : Nat) (w' : World) (v' : Value), w'.ownsRow 0 132 1 v' (m + 1) (xs ++ [.pointer p]) → ((((W2 k).setCell ⟨R, 1, none⟩ (.slice (some ⟨g, 0, none⟩) m cap)).setCell ⟨R, 2, none⟩ (.int .i64 0)).alloc (.cells #[.pointer p] 132)).grownBy w' (some g) → (v'.ownBlock = some g ∨ v'.ownBlock = some ((W2 k).heap.size + 1)) →
      ∃ g' cap', v' = .slice (some ⟨g', 0, none⟩) (m + 1) cap' ∧ w'.cell? ⟨R, 1, none⟩ = some (.slice (some ⟨g, 0, none⟩) m cap) ∧ w'.frozen? ⟨R, 1, none⟩ = false ∧ 
      Only [R, g] w (w'.setCell ⟨R, 1, none⟩ (.slice (some ⟨g', 0, none⟩) (m + 1) cap')) ∧
      ∃ iv', Row (w'.setCell ⟨R, 1, none⟩ (.slice (some ⟨g', 0, none⟩) (m + 1) cap')) R 131 #[c0, iv', .int .i64 0, c3, c4] ∧ LineP (w'.setCell ⟨R, 1, none⟩ (.slice (some ⟨g', 0, none⟩) (m + 1) cap')) iv' 0 (xs ++ [.pointer p]) ∧ (∀ k, iv'.ownBlock = some k → k = g ∨ w.heap.size ≤ k)) := by
    intro k w' v' hown' hgr hnew
    obtain ⟨g', cap', hv⟩ := owns_shape hown' (by omega)
    subst hv
    have ho := (hW2 k).2.2.2
    have ho' : Only [R, g] w w' := (((ho.setCell (by simp) _).setCell (by simp) _).alloc _).then (Only.ofGrown (S := [g]) hgr (by simp)) (by simp)
    have hr : Row ((((W2 k).setCell ⟨R, 1, none⟩ (.slice (some ⟨g, 0, none⟩) m cap)).setCell ⟨R, 2, none⟩ (.int .i64 0)).alloc (.cells #[.pointer p] 132)) R 131 #[c0, .slice (some ⟨g, 0, none⟩) m cap, .int .i64 0, c3, c4] :=
      Row.alloc (by simpa using (((hW2 k).2.2.1).set 1 (.slice (some ⟨g, 0, none⟩) m cap)).set 2 (.int .i64 0)) _
    have hr' : Row w' R 131 #[c0, .slice (some ⟨g, 0, none⟩) m cap, .int .i64 0, c3, c4] := Row.only (S := [g]) hr (Only.ofGrown hgr (by simp)) (by simpa using hgR)
    have hsz := ho.size
    have hg' : g' = g ∨ w.heap.size ≤ g' := by
      rcases hnew with h | h
      · simp [Value.ownBlock] at h; exact .inl h
      · simp [Value.ownBlock] at h; omega
    have hne : ¬ g' = R := by omega
    refine ⟨g', cap', rfl, by simpa using hr'.cell 1, hr'.frozen 1, ho'.setCell (by simp) _, .slice (some ⟨g', 0, none⟩) (m + 1) cap', by simpa using hr'.set 1 (.slice (some ⟨g', 0, none⟩) (m + 1) cap'), ⟨[], ?_, rfl, by simp, ?_⟩, ?_⟩
    · have := owns_only hown' ((Only.refl [R] _).setCell (p := ⟨R, 1, none⟩) (by simp) (.slice (some ⟨g', 0, none⟩) (m + 1) cap')) (by simp [Value.ownBlock]; exact hne)
      rw [show 0 + (xs ++ [Value.pointer p]).length = m + 1 by simp; omega]
      exact this
    · intro ad n cap'' hc
      simp at hc
      have := owns_cap hown'
      omega
    · simpa [Value.ownBlock] using hg'
  have own : Hid (∀ k, ((((W2 k).setCell ⟨R, 1, none⟩ (.slice (some ⟨g, 0, none⟩) m cap)).setCell ⟨R, 2, none⟩ (.int .i64 0)).alloc (.cells #[.pointer p] 132)).ownsRow 0 132 1 (.slice (some ⟨g, 0, none⟩) m cap) m xs) := by
    intro k
    obtain ⟨A2, hA, hs2, ht2⟩ := (hW2 k).2.1
    exact World.ownsRow.alloc (by
      exact ⟨by omega, .inr ⟨g, cap, A2, rfl, Nat.zero_le _, (hA.setOther (fun e => hgR e.symm) _ _).setOther (fun e => hgR e.symm) _ _, by omega, by unfold maxLen; omega, by omega, by simpa using ht2⟩⟩) _
  clear hm hcx hW1 hW2 hcur hdl hsz rg r0 hyes hx hx0
  by_cases hc : cap = m
  · subst hc
    simp only [if_true, Nat.sub_self] at hcl
    go_enter Yba.func51, Yba.ntmps51
    go_wp2
    go_quiet (fail)
    go_wp2
    refine wp_region_drawn_tail 13 (by kernel_rfl) (by kernel_rfl) ?_
    simp only [List.take_succ_cons, List.take_zero, List.drop_succ_cons, List.drop_zero]
    repeat (go_big_quiet_step (fail))
    refine wpQuiet_nil ?_
    rintro _ ⟨m2, rfl⟩
    go_wp2_with (at_builtin; refine wpList_append_own2 rfl (.tmp 65) (.tmp 67) 127 rfl 132 i0 (.pointer none) 1 8 Yba.underlying127 hi hz0 hz1 hz2 rfl (by decide) _ cap xs rfl (by exact own.out _) _ 1 1 [.pointer p] rfl rfl ?c1 ?c2 (by decide) (by unfold maxLen; omega) (.inr (by omega)) ?_)
    case c1 => exact one_new (by simp)
    case c2 => exact one_ptr
    intro v' w' hown' hgr hnew
    obtain ⟨g', cap', hv, q0, q1, res⟩ := fin.out _ _ _ hown' hgr (by simpa [Value.ownBlock] using hnew)
    rw [hv]
    have RES := Hid.mk res
    clear hown' hgr hnew hv res k0 k1 f0 f1 fin
    go_wp2
    go_end0
    exact ⟨rfl, RES.out⟩
  · simp only [if_neg hc] at hcl
    go_enter Yba.func51, Yba.ntmps51
    go_wp2
    go_quiet (fail)
    go_wp2
    refine wp_region_drawn_tail 13 (by kernel_rfl) (by kernel_rfl) ?_
    simp only [List.take_succ_cons, List.take_zero, List.drop_succ_cons, List.drop_zero]
    repeat (go_big_quiet_step (fail))
    refine wpQuiet_nil ?_
    rintro _ ⟨m2, rfl⟩
    go_wp2_with (at_builtin; refine wpList_append_own2 rfl (.tmp 65) (.tmp 67) 127 rfl 132 i0 (.pointer none) 1 8 Yba.underlying127 hi hz0 hz1 hz2 rfl (by decide) _ m xs rfl (by exact own.out _) _ 1 1 [.pointer p] rfl rfl ?c3 ?c4 (by decide) (by unfold maxLen; omega) (.inr (by omega)) ?_)
    case c3 => exact one_new (by simp)
    case c4 => exact one_ptr
    intro v' w' hown' hgr hnew
    obtain ⟨g', cap', hv, q0, q1, res⟩ := fin.out _ _ _ hown' hgr (by simpa [Value.ownBlock] using hnew)
    rw [hv]
    have RES := Hid.mk res
    clear hown' hgr hnew hv res k0 k1 f0 f1 fin
    go_wp2
    go_end0
    exact ⟨rfl, RES.out⟩
end Go.Proofs.Ybulkhba
