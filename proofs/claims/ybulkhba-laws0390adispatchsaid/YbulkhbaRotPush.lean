import Derived.Test.YbulkhbaPopSt
namespace Go.Proofs.Ybulkhba
open Go.RowKit
set_option linter.unusedVariables false
set_option linter.unusedSimpArgs false

set_option maxRecDepth 100000 in
set_option maxHeartbeats 800000 in
/-- (*fair).Pop, nothing waits. -/
theorem pop_empty (Q M R : Nat) (w : World) (rQ : Row w Q 107 (fairRow M R 0)) :
    Calls Yba.prog 18 #[.pointer (some ⟨Q, 0, none⟩)] w fun e w' => e = .returned (.tuple #[.agg zeroReq, .bool false]) ∧ Below w.heap.size w w' := by
  have hQl := rQ.lt
  have kq := rQ.cell 6
  simp at kq
  go_enter Yba.func18, Yba.ntmps18
  go_wp2
  refine bodyPost_ret (v := .tuple #[.agg zeroReq, .bool false]) (by simp [results, Yba.results18, go_sem]; rfl) rfl ⟨rfl, ?_⟩
  exact (Below.refl _ _).alloc (Nat.le_refl _) _

set_option maxRecDepth 100000 in
set_option maxHeartbeats 3200000 in
/-- (*rotation).push -/
theorem rotPush_s (R rh : Nat) (rv : Value) (it : Bool) (nr : Nat) (ps : List Value) (t : TS) (r : Req) (w : World)
    (rR : Row w R 131 (rotRow rv rh it nr)) (hL : LineP w rv rh ps) (hT : TLine w R t) (hh : t.hd = 0) (hps : ps.length ≤ 1000) (h1c : ∀ u ∈ ps, u.oneCell' = true) (hA : t.A.length ≤ 10000) (hn : t.n ≤ 10000) (hnr : nr ≤ 10000)
    (hrk : ∀ y, t.A.head? = some y → rankI y.r.pr y.r.dl y.r.hd r.pr r.dl r.hd = 0) :
    Calls Yba.prog 35 #[.pointer (some ⟨R, 0, none⟩), .pointer (some ⟨t.b, 0, none⟩), .agg r.vs] w fun e w' => e = .returned (.tuple #[]) ∧ Only (R :: (rv.ownBlock.toList ++ t.fp)) w w' ∧
      ∃ rv' rh' iv', Row w' R 131 (rotRow rv' rh' it ((nr : Int) + 1)) ∧ LineP w' rv' rh' (if t.A = [] then ps ++ [t.ptr] else ps) ∧ TLine w' R { t with iv := iv', A := t.A ++ [⟨r, t.n⟩], n := t.n + 1 } ∧
        (∀ k, rv'.ownBlock = some k → rv.ownBlock = some k ∨ w.heap.size ≤ k) ∧ (∀ k, iv'.ownBlock = some k → t.iv.ownBlock = some k ∨ w.heap.size ≤ k) := by
  have hne := hL.ne rR (by decide)
  have hRl := rR.lt
  have hbl := hT.1.lt
  have hbR : t.b ≠ R := hT.1.ne rR (by decide)
  have LN41 : Hid (∀ W, Only [] w W → Calls Yba.prog 41 #[.pointer (some ⟨t.b, 0, none⟩)] W fun e w' => e = .returned (.int .i64 t.A.length) ∧ ∃ k, w' = W.drewN k) := by
    intro W hW
    have hT' := hT.only hW (by simp)
    obtain ⟨a, cap, hv, hn, hc, hob, hnone, hsome⟩ := hT'.2.1.shape
    have r4 := hT'.1
    rw [hv] at r4
    have := ordLen_s t.b (t.hd + t.A.length) cap t.hd a W (by omega) (Nat.le_add_right _ _) (by simpa using r4.cell 0) (by simpa using r4.cell 1) (by simpa using r4.cell 2)
    have e : (((t.hd + t.A.length : Nat) : Int) - t.hd) = (t.A.length : Int) := by omega
    rw [e] at this
    exact this
  -- what is left once the pointer has joined
  have PUSH : Hid (∀ (W : World) (rv' : Value) (rh' : Nat) (ps' : List Value), Only (R :: rv.ownBlock.toList) w W → Row W R 131 (rotRow rv' rh' it nr) → LineP W rv' rh' ps' → (∀ k, rv'.ownBlock = some k → rv.ownBlock = some k ∨ w.heap.size ≤ k) →
      Calls Yba.prog 52 #[.pointer (some ⟨t.b, 0, none⟩), .agg r.vs] W fun e w' => e = .returned (.tuple #[]) ∧ (w'.cell? ⟨R, 4, none⟩ = some (.int .i64 nr) ∧ w'.frozen? ⟨R, 4, none⟩ = false) ∧ (Only (R :: (rv.ownBlock.toList ++ t.fp)) w (w'.setCell ⟨R, 4, none⟩ (.int .i64 ((nr : Int) + 1))) ∧
      ∃ rv' rh' iv', Row (w'.setCell ⟨R, 4, none⟩ (.int .i64 ((nr : Int) + 1))) R 131 (rotRow rv' rh' it ((nr : Int) + 1)) ∧ LineP (w'.setCell ⟨R, 4, none⟩ (.int .i64 ((nr : Int) + 1))) rv' rh' ps' ∧ TLine (w'.setCell ⟨R, 4, none⟩ (.int .i64 ((nr : Int) + 1))) R { t with iv := iv', A := t.A ++ [⟨r, t.n⟩], n := t.n + 1 } ∧
        (∀ k, rv'.ownBlock = some k → rv.ownBlock = some k ∨ w.heap.size ≤ k) ∧ (∀ k, iv'.ownBlock = some k → t.iv.ownBlock = some k ∨ w.heap.size ≤ k))) := by
    intro W rv' rh' ps' ho rR' hL' hnew
    have hbS : ∀ k ∈ t.fp, k ∉ R :: rv.ownBlock.toList := by
      intro k hk
      simp only [TS.fp, List.mem_cons, Option.mem_toList] at hk
      simp only [List.mem_cons, Option.mem_toList, not_or]
      rcases hk with rfl | hk
      · exact ⟨hbR, fun h => hL.ne hT.1 (by decide) h⟩
      · exact ⟨fun e => hT.2.1.ne rR (by decide) (e ▸ hk), fun e => hL.neA hT.2.1 k e hk⟩
    have hT' := hT.only ho hbS
    have r1 := hT'.1
    have l1 := hT'.2.1
    rw [hh] at r1 l1
    refine (ordPush_s t.b t.iv r t.n t.A _ _ _ W r1 l1 hT'.2.2 (by omega) (by omega) hrk).mono ?_
    rintro e w' ⟨rfl, ho2, iv', hr2, hl2, hnew2⟩
    have hRS : R ∉ t.b :: t.iv.ownBlock.toList := by
      simp only [List.mem_cons, Option.mem_toList, not_or]
      exact ⟨fun e => hbR e.symm, fun h => hT.2.1.ne rR (by decide) h⟩
    have rR2 := rR'.only ho2 hRS
    have hL2 : LineP w' rv' rh' ps' := hL'.only ho2 (by
      intro k hk hm
      simp only [List.mem_cons, Option.mem_toList] at hm
      rcases hm with rfl | hm
      · exact hL'.ne hT'.1 (by decide) hk
      · exact hL'.neA hT'.2.1 k hk hm)
    have hno : Only [R] w' (w'.setCell ⟨R, 4, none⟩ (.int .i64 ((nr : Int) + 1))) := (Only.refl _ _).setCell (by simp) _
    have hivb : iv'.ownBlock ≠ some t.b := hl2.ne hr2 (by decide)
    refine ⟨rfl, ⟨by simpa using rR2.cell 4, rR2.frozen 4⟩, ?_, rv', rh', iv', by simpa using rR2.set 4 (.int .i64 ((nr : Int) + 1)), hL2.only hno ?_, ⟨?_, ?_, hivb⟩, hnew, ?_⟩
    · refine ((ho.mono ?_).trans (ho2.mono ?_)).setCell (by simp) _
      · intro j hj; simp only [List.mem_cons, List.mem_append, Option.mem_toList] at hj ⊢; rcases hj with h | h <;> simp [h]
      · intro j hj; simp only [TS.fp, List.mem_cons, List.mem_append, Option.mem_toList] at hj ⊢; rcases hj with h | h <;> simp [h]
    · intro k hk; simp; rintro rfl; exact hL2.ne rR2 (by decide) hk
    · have := hr2.only hno (by simpa using hbR)
      simpa [hh] using this
    · have := hl2.only hno (by intro k hk; simp; rintro rfl; exact hl2.ne rR2 (by decide) hk)
      simpa [hh] using this
    · intro k hk
      rcases hnew2 k hk with h | h
      · exact .inl h
      · exact .inr (by have := ho.size; omega)
  have hnr1 : (nr : Int) ≤ 10000 := by omega
  have hnr0 : (0 : Int) ≤ nr := by omega
  have PJ : Hid (∀ W, Only [] w W → Calls Yba.prog 51 #[.pointer (some ⟨R, 1, none⟩), .pointer (some ⟨t.b, 0, none⟩)] W fun e w' => e = .returned (.tuple #[]) ∧ Only (R :: rv.ownBlock.toList) W w' ∧
      ∃ iv' hd', Row w' R 131 (rotRow iv' hd' it nr) ∧ LineP w' iv' hd' (ps ++ [t.ptr]) ∧ (∀ k, iv'.ownBlock = some k → rv.ownBlock = some k ∨ W.heap.size ≤ k)) :=
    fun W hW => pushP_line R rh rv (some ⟨t.b, 0, none⟩) ps _ _ _ W (rR.only hW (by simp)) (hL.only hW (by simp)) hne (by omega) h1c
  have LL : Hid (LineP w rv rh ps ∧ Row w R 131 (rotRow rv rh it nr)) := ⟨hL, rR⟩
  clear hrk hh
  by_cases hA0 : t.A = []
  · have h0 : t.A.length = 0 := by rw [hA0]; rfl
    have HA := Hid.mk hA0
    rw [h0] at LN41
    clear hA0 h0 hA hT rR hL
    go_enter Yba.func35, Yba.ntmps35
    go_wp2_with fail
    refine (LN41.out _ ((Only.refl _ _).alloc _)).mono ?_
    rintro e w1 ⟨rfl, m1, rfl⟩
    go_wp2_with fail
    refine (PJ.out _ (((Only.refl _ _).alloc _).drewN m1)).mono ?_
    rintro e w2 ⟨rfl, ho2, rv2, rh2, rR2, hL2, hnew2⟩
    have hB : w.heap.size ∉ R :: rv.ownBlock.toList := by
      simp only [List.mem_cons, Option.mem_toList, not_or]
      exact ⟨by omega, fun h => by have := LL.out.1.lt _ h; omega⟩
    have rB : Row w2 w.heap.size 83 r.vs := ((row_new w 83 r.vs _ rfl).drewN m1).only ho2 hB
    have HO2 := Hid.mk (show Only (R :: rv.ownBlock.toList) w w2 from (((Only.refl _ _).alloc _).drewN m1).trans ho2)
    have NEW2 : Hid (∀ k, rv2.ownBlock = some k → rv.ownBlock = some k ∨ w.heap.size ≤ k) := fun k hk => by
      rcases hnew2 k hk with h | h
      · exact .inl h
      · exact .inr (by simp at h; omega)
    have R2 := Hid.mk (And.intro rR2 hL2)
    have zB := fun i => rB.cell i
    clear ho2 rR2 hL2 hnew2 rB PJ LN41
    go_wp2_with fail
    refine wp_region_drawn_tail 4 (by kernel_rfl) (by kernel_rfl) ?_
    simp only [List.take_succ_cons, List.take_zero, List.drop_succ_cons, List.drop_zero]
    repeat (go_big_quiet_step (fail))
    refine wpQuiet_nil ?_
    rintro _ ⟨m3, rfl⟩
    go_wp2_with fail
    refine (PUSH.out _ rv2 rh2 (ps ++ [t.ptr]) (HO2.out.drewN m3) (R2.out.1.drewN m3) (R2.out.2.only (S := []) ((Only.refl _ _).drewN m3) (by simp)) NEW2.out).mono ?_
    rintro e w3 ⟨rfl, ⟨q4, f4⟩, res⟩
    have RES := Hid.mk res
    clear res PUSH R2
    go_wp2
    go_end0
    exact ⟨rfl, by simpa [HA.out] using RES.out⟩
  · have h0 : (((t.A.length : Nat) : Int) == 0) = false := by
      rw [beq_eq_false_iff_ne]
      intro h
      exact hA0 (List.eq_nil_of_length_eq_zero (by omega))
    have HA := Hid.mk hA0
    clear hA0 hA hT rR hL
    go_enter Yba.func35, Yba.ntmps35
    go_wp2_with fail
    refine (LN41.out _ ((Only.refl _ _).alloc _)).mono ?_
    rintro e w1 ⟨rfl, m1, rfl⟩
    go_wp2_with fail
    refine wp_region_drawn_tail 4 (by kernel_rfl) (by kernel_rfl) ?_
    simp only [List.take_succ_cons, List.take_zero, List.drop_succ_cons, List.drop_zero]
    repeat (go_big_quiet_step (fail))
    refine wpQuiet_nil ?_
    rintro _ ⟨m3, rfl⟩
    go_wp2_with fail
    have ho := ((Only.refl (R :: rv.ownBlock.toList) w).alloc (.cells r.vs 83)).drewN (m1 + m3)
    have ho' := ((Only.refl [] w).alloc (.cells r.vs 83)).drewN (m1 + m3)
    refine (PUSH.out _ rv rh ps ho (LL.out.2.only ho' (by simp)) (LL.out.1.only ho' (by simp)) (fun k hk => .inl hk)).mono ?_
    rintro e w3 ⟨rfl, ⟨q4, f4⟩, res⟩
    have RES := Hid.mk res
    clear res PUSH
    go_wp2
    go_end0
    exact ⟨rfl, by simpa [HA.out] using RES.out⟩
end Go.Proofs.Ybulkhba
