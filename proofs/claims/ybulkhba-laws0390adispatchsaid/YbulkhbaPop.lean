import Derived.Test.YbulkhbaPopSt
namespace Go.Proofs.Ybulkhba
open Go.RowKit
set_option linter.unusedVariables false
set_option linter.unusedSimpArgs false

set_option maxRecDepth 100000 in
set_option maxHeartbeats 6400000 in
/-- (*fair).Pop, WHERE THE FRONT TENANT's HEAD FITS. -/
theorem pop_fits (Q M R rh wt : Nat) (rv : Value) (t : TS) (ts : List TS) (it : Bool) (x : Arr) (A : List Arr) (ents : List (ByteArray × Nat)) (w : World) (d' : Int)
    (rQ : Row w Q 107 (fairRow M R wt)) (rR : Row w R 131 (rotRow rv rh it wt)) (hL : LineP w rv rh ((t :: ts).map TS.ptr)) (hT : TLine w R t) (hA : t.A = x :: A) (hM : MapIs w M ents)
    (hwt : 0 < wt) (hwt2 : wt ≤ 1000000) (hts : ts.length ≤ 1000) (hq0 : 0 ≤ t.q) (hq1 : t.q ≤ 1000000) (hd0 : 0 ≤ t.d) (hd1 : t.d ≤ 1000000) (hx0 : 0 ≤ x.r.tk) (hx1 : x.r.tk ≤ 1000000)
    (hd : (it = true ∧ d' = t.d) ∨ (it = false ∧ d' = t.d + t.q)) (hfit : x.r.tk ≤ d') :
    Calls Yba.prog 18 #[.pointer (some ⟨Q, 0, none⟩)] w fun e w' => e = .returned (.tuple #[.agg x.r.vs, .bool true]) ∧
      ∃ rv' rh' iv' hd' rot' it' ents', Only (Q :: M :: R :: (rv.ownBlock.toList ++ t.fp)) w w' ∧ Row w' Q 107 (fairRow M R ((wt : Int) - 1)) ∧ Row w' R 131 (rotRow rv' rh' it' ((wt : Int) - 1)) ∧ LineP w' rv' rh' (rot'.map TS.ptr) ∧
        TLine w' R { t with iv := iv', hd := hd', A := A, d := d' - x.r.tk } ∧ MapIs w' M ents' ∧ iv'.ownBlock = t.iv.ownBlock ∧ (∀ k, rv'.ownBlock = some k → rv.ownBlock = some k ∨ w.heap.size ≤ k) ∧
        PopNext t { t with iv := iv', hd := hd', A := A, d := d' - x.r.tk } ts x A (d' - x.r.tk) ents rot' it' ents' := by
  obtain ⟨S, hS⟩ : ∃ S, S = Q :: M :: R :: (rv.ownBlock.toList ++ t.fp) := ⟨_, rfl⟩
  have sQ : Hid (Q ∈ S) := by subst hS; show _ ∈ _; simp
  have sM : Hid (M ∈ S) := by subst hS; show _ ∈ _; simp
  have sR : Hid (R ∈ S) := by subst hS; show _ ∈ _; simp
  have sb : Hid (t.b ∈ S) := by subst hS; show _ ∈ _; simp [TS.fp]
  have sT : Hid (∀ k ∈ t.fp, k ∈ S) := by subst hS; intro k hk; simp [hk]
  have sL : Hid (∀ k ∈ R :: rv.ownBlock.toList, k ∈ S) := by subst hS; intro k hk; simp only [List.mem_cons, Option.mem_toList, List.mem_append] at hk ⊢; rcases hk with h | h <;> simp [h]
  have HS := Hid.mk hS
  clear hS
  have hne := hL.ne rR (by decide)
  have hQl := rQ.lt
  have hRl := rR.lt
  have kq := rQ.cell 6
  have kq5 := rQ.cell 5
  have fq := rQ.frozen 6
  have kr4 := rR.cell 4
  simp at kq kq5 kr4
  have hnz : (((wt : Nat) : Int) == 0) = false := by rw [beq_eq_false_iff_ne]; omega
  have hRQ : ¬ R = Q := rR.ne rQ (by decide)
  go_enter Yba.func18, Yba.ntmps18
  go_wp2
  refine wp_world (fun W => PSt w W S Q M R w.heap.size ((wt : Int) - 1) wt rv rh ((t :: ts).map TS.ptr) it t ents) ?_ ?_
  · rw [← World.setCell_alloc_past _ _ _ _ hQl]
    have ho : Only [] w (w.alloc (.cells zeroReq 83)) := (Only.refl _ _).alloc _
    have h0 : PSt w (w.alloc (.cells zeroReq 83)) S Q M R w.heap.size wt wt rv rh ((t :: ts).map TS.ptr) it t ents :=
      ⟨(Only.refl _ _).alloc _, rQ.alloc _, rR.alloc _, hL.only ho (by simp), hT.only ho (by simp), hM.only ho (by simp), row_new _ _ _ _ rfl⟩
    exact h0.setNq sQ.out _
  obtain ⟨Bw, hBw⟩ : ∃ Bw, Bw = w.heap.size := ⟨_, rfl⟩
  have hB0 : Hid (w.heap.size ≤ Bw) := by show _ ≤ _; omega
  rw [← hBw]
  clear hBw
  have hdd : d' ≤ 2000000 := by rcases hd with ⟨_, h⟩ | ⟨_, h⟩ <;> omega
  generalize Bw = B0 at *
  clear kq kq5 fq kr4 rQ rR hL hT hM
  rintro W hP
  have k4 := hP.rR.cell 4
  simp at k4
  have HP := Hid.mk hP
  clear hP
  refine wp_loop_rounds 1 ?_
  rw [rounds_succ]
  go_wp2
  refine wp_loop_rounds 1 ?_
  rw [rounds_succ]
  have k1 := HP.out.rR.cell 1
  have k2 := HP.out.rR.cell 2
  have k3 := HP.out.rR.cell 3
  simp at k1 k2 k3
  have FR : Hid (Calls Yba.prog 36 #[.pointer (some ⟨R, 1, none⟩)] W fun e w' => e = .returned (.pointer (some ⟨t.b, 0, none⟩)) ∧ ∃ k, w' = W.drewN k) := by
    obtain ⟨a, cap, hv, hn, hc, hob, hnone, hsome⟩ := HP.out.line.shape
    cases ha : a with
    | none => exact absurd (hnone ha).2.1 (by simp)
    | some ad =>
      obtain ⟨hag, hcap0, cur, dead, hg, hs, htk, hdl⟩ := hsome ad.block (by rw [hob, ha]; rfl)
      rw [hag] at hv
      rw [hv] at k1
      have hx : (dead ++ List.map TS.ptr (t :: ts))[rh]? = some t.ptr := by rw [List.getElem?_append_right (by omega), hdl, Nat.sub_self]; rfl
      rw [← htk, List.getElem?_take_of_lt (by simp), Array.getElem?_toList] at hx
      exact frontP_any R 1 _ cap rh ad.block (some ⟨t.b, 0, none⟩) W (by omega) (by simp) k1 k2 ((hg.cell rh).trans hx)
  go_wp2_with fail
  refine FR.out.mono ?_
  rintro e w1 ⟨rfl, m1, rfl⟩
  cases it
  · have LN : Hid (∀ m, Calls Yba.prog 37 #[.pointer (some ⟨R, 1, none⟩)] (W.drewN m) fun e w' => e = .returned (.int .i64 ((ts.length : Int) + 1)) ∧ ∃ k, w' = (W.drewN m).drewN k) := by
      intro m
      obtain ⟨a, cap, hv, hn, hc, hob, hnone, hsome⟩ := HP.out.line.shape
      rw [hv] at k1
      have := lenP_any R 1 _ cap rh a (W.drewN m) (by omega) (Nat.le_add_right _ _) k1 k2
      have e : (((rh + (List.map TS.ptr (t :: ts)).length : Nat) : Int) - rh) = (ts.length : Int) + 1 := by simp; omega
      rw [e] at this
      exact this
    have hl0 : ((0 : Int) == (ts.length : Int) + 1) = false := by rw [beq_eq_false_iff_ne]; omega
    go_wp2_with fail
    refine (LN.out _).mono ?_
    rintro e w1 ⟨rfl, m2, rfl⟩
    have q5 := HP.out.tl.1.cell 5
    have q6 := HP.out.tl.1.cell 6
    have f6 := HP.out.tl.1.frozen 6
    simp at q5 q6
    have f3 := HP.out.rR.frozen 3
    go_wp2_with fail
    refine wp_region_drawn_tail 17 (by kernel_rfl) (by kernel_rfl) ?_
    simp only [List.take_succ_cons, List.take_zero, List.drop_succ_cons, List.drop_zero]
    repeat (go_big_quiet_step (fail))
    refine wpQuiet_nil ?_
    rintro _ ⟨m3, rfl⟩
    go_wp2_with fail
    have ed : d' = t.d + t.q := by rcases hd with ⟨h, _⟩ | ⟨_, h⟩; cases h; exact h
    refine wp_world (fun V => PSt w V S Q M R B0 ((wt : Int) - 1) wt rv rh ((t :: ts).map TS.ptr) true { t with d := d' } ents) ?_ ?_
    · rw [ed]
      exact ((HP.out.drewN _).setDef sb.out (t.d + t.q)).setRot sR.out 3 (.bool true) true wt rfl
    clear FR LN hl0 q5 q6 f6 f3 k1 k2 k3 k4 HP ed hd
    rintro V hP
    have HP := Hid.mk hP
    clear hP
    have tl : Row V t.b 140 #[.slice none 0 0, t.iv, .int .i64 t.hd, .int .u64 t.n, .pointer (some ⟨R, 0, none⟩), .int .i64 t.q, .int .i64 d'] := HP.out.tl.1
    have la : LineA V t.iv t.hd (x :: A) := hA ▸ HP.out.tl.2.1
    have hne2 : t.iv.ownBlock ≠ some t.b := HP.out.tl.2.2
    have c0 := fun u : Ext V => (HP.out.rR.ext u).cell 0
    simp at c0
    have FRO : Hid (∀ u : Ext V, Calls Yba.prog 39 #[.pointer (some ⟨t.b, 0, none⟩)] u.1 fun e w' => e = .returned (.agg x.r.vs) ∧ Below u.1.heap.size u.1 w') :=
      fun u => ordFront_s t.b t.hd t.iv x A _ _ _ _ u.1 (tl.ext u) (la.only (S := []) (Only.ofBelow u.2) (by simp))
    have ne : Nonempty (Ext V) := ⟨⟨V, Below.refl _ _⟩⟩
    refine wp_region_ext (by kernel_rfl) (by kernel_rfl) ?_
    unfold InExt
    repeat (go_big_quiet_step (first | (go_at_call 39; exact quietE _ (FRO.out _)) | (go_at_call 34; exact quietE _ (cost_any x.r _))))
    refine wpQuiet_nil ?_
    rintro _ ⟨u, rfl⟩
    have q6 := (tl.ext u).cell 6
    simp at q6
    have HP2 := Hid.mk (HP.out.ext u.2)
    have TL2 := Hid.mk (And.intro (tl.ext u) (la.only (S := []) (Only.ofBelow u.2) (by simp)))
    clear tl la c0 FRO ne HP
    go_wp2_with fail
    refine (ordPop_s t.b t.hd t.iv x A _ _ _ _ u.1 TL2.out.1 TL2.out.2 hne2).mono ?_
    rintro e V3 ⟨rfl, ho, iv', hd', hr, hl', hob⟩
    have HP3 : Hid (PSt w V3 S Q M R B0 ((wt : Int) - 1) wt rv rh ((t :: ts).map TS.ptr) true { t with iv := iv', hd := hd', A := A, d := d' } ents) :=
      HP2.out.popped sT.out ho { t with iv := iv', hd := hd', A := A, d := d' } rfl ⟨hr, hl', by rw [hob]; exact hne2⟩
    have HOB := Hid.mk hob
    clear ho hr hl' hob q6 HP2 TL2
    have q6 := HP3.out.tl.1.cell 6
    have f6 := HP3.out.tl.1.frozen 6
    have q4 := HP3.out.rR.cell 4
    have f4 := HP3.out.rR.frozen 4
    simp at q6 q4
    have lb := HP3.out.tl.1.lt
    have lR := HP3.out.rR.lt
    simp only at lb f6
    go_wp2_with fail
    have HP4 : Hid (∀ m, PSt w ((((V3.setCell ⟨t.b, 6, none⟩ (.int .i64 (d' - x.r.tk))).setCell ⟨R, 4, none⟩ (.int .i64 ((wt : Int) - 1))).alloc (.cells x.r.vs 83)).drewN m) S Q M R B0 ((wt : Int) - 1) ((wt : Int) - 1) rv rh ((t :: ts).map TS.ptr) true { t with iv := iv', hd := hd', A := A, d := d' - x.r.tk } ents) :=
      fun m => (((HP3.out.setDef sb.out (d' - x.r.tk)).setRot sR.out 4 (.int .i64 ((wt : Int) - 1)) true ((wt : Int) - 1) rfl).ext ((Below.refl _ _).alloc (Nat.le_refl _) _)).drewN m
    have RR4 : Hid (∀ m, Row ((((V3.setCell ⟨t.b, 6, none⟩ (.int .i64 (d' - x.r.tk))).setCell ⟨R, 4, none⟩ (.int .i64 ((wt : Int) - 1))).alloc (.cells x.r.vs 83)).drewN m) V3.heap.size 83 x.r.vs) := fun m => (row_new _ _ _ _ (by simp)).drewN m
    clear q6 f6 q4 f4 HP3
    have LN41 : Hid (Calls Yba.prog 41 #[.pointer (some ⟨t.b, 0, none⟩)] ((((V3.setCell ⟨t.b, 6, none⟩ (.int .i64 (d' - x.r.tk))).setCell ⟨R, 4, none⟩ (.int .i64 ((wt : Int) - 1))).alloc (.cells x.r.vs 83))) fun e w' => e = .returned (.int .i64 A.length) ∧ ∃ k, w' = ((((V3.setCell ⟨t.b, 6, none⟩ (.int .i64 (d' - x.r.tk))).setCell ⟨R, 4, none⟩ (.int .i64 ((wt : Int) - 1))).alloc (.cells x.r.vs 83))).drewN k) := by
      have h4 := (HP4.out 0)
      obtain ⟨a, cap, hv, hn, hc, hob, hnone, hsome⟩ := h4.tl.2.1.shape
      have r4 := h4.tl.1
      simp only at hv r4 hn
      rw [hv] at r4
      have := ordLen_s t.b (hd' + A.length) cap hd' a _ (by omega) (Nat.le_add_right _ _) (by simpa using r4.cell 0) (by simpa using r4.cell 1) (by simpa using r4.cell 2)
      have e : (((hd' + A.length : Nat) : Int) - hd') = (A.length : Int) := by omega
      rw [e] at this
      exact this
    refine LN41.out.mono ?_
    rintro e w4 ⟨rfl, m4, rfl⟩
    clear LN41
    obtain ⟨W4, hW4⟩ : ∃ W4, W4 = ((((V3.setCell ⟨t.b, 6, none⟩ (.int .i64 (d' - x.r.tk))).setCell ⟨R, 4, none⟩ (.int .i64 ((wt : Int) - 1))).alloc (.cells x.r.vs 83)).drewN m4) := ⟨_, rfl⟩
    have HP5 := Hid.mk (HP4.out m4)
    have RR5 := Hid.mk (RR4.out m4)
    rw [← hW4] at HP5 RR5 ⊢
    clear HP4 RR4 hW4
    generalize V3.heap.size = B9 at *
    cases A with
    | nil =>
      go_wp2_with fail
      refine (popP_line R rh rv (some ⟨t.b, 0, none⟩) (ts.map TS.ptr) _ _ _ W4 HP5.out.rR HP5.out.line hne).mono ?_
      rintro e V6 ⟨rfl, ho6, rv6, rh6, r6, l6, ob6⟩
      have HP6 := Hid.mk (HP5.out.turned sL.out ho6 rv6 rh6 (ts.map TS.ptr) true r6 l6)
      have RR6 : Hid (Row V6 B9 83 x.r.vs) := RR5.out.only ho6 (by
        simp only [List.mem_cons, Option.mem_toList, not_or]
        exact ⟨RR5.out.ne HP5.out.rR (by decide), fun h => HP5.out.line.ne RR5.out (by decide) h⟩)
      have OB6 := Hid.mk ob6
      clear ho6 r6 l6 ob6
      have k3 := HP6.out.rR.cell 3
      have f3 := HP6.out.rR.frozen 3
      simp at k3
      go_wp2_with fail
      refine wp_world (fun V => PSt w V S Q M R B0 ((wt : Int) - 1) ((wt : Int) - 1) rv6 rh6 (ts.map TS.ptr) false { t with iv := iv', hd := hd', A := [], d := d' - x.r.tk } ents ∧ Row V B9 83 x.r.vs) ?_ ?_
      · exact ⟨HP6.out.setRot sR.out 3 (.bool false) false ((wt : Int) - 1) rfl, RR6.out.setOther (RR6.out.ne HP6.out.rR (by decide)) _ _⟩
      clear HP5 RR5 HP6 RR6 k3 f3
      rintro V7 ⟨hP7, rr7⟩
      obtain ⟨Wd, hWd⟩ := Classical.skolem.1 (fun k => run_delete (hP7.mp.only (S := []) ((Only.refl _ _).drewN k) (by simp)) x.r.tn 0)
      have hdel := fun k => (hWd k).1
      have q4 := hP7.rQ.cell 4
      have b1 := rr7.cell 1
      simp at q4 b1
      have HPd : Hid (∀ k, PSt w (Wd k) S Q M R B0 ((wt : Int) - 1) ((wt : Int) - 1) rv6 rh6 (ts.map TS.ptr) false { t with iv := iv', hd := hd', A := [], d := d' - x.r.tk } (delE x.r.tn ents)) := fun k => (hP7.drewN k).mapped sM.out (hWd k).2.2 _ (hWd k).2.1
      have zB9 : ∀ k i, (Wd k).cell? ⟨B9, i, none⟩ = x.r.vs[i]? := fun k i => ((rr7.drewN k).only (hWd k).2.2 (by simpa using (hP7.mp.ne rr7).symm)).cell i
      have zB0 : ∀ k i, (Wd k).cell? ⟨B0, i, none⟩ = zeroReq[i]? := fun k i => (HPd.out k).res.cell i
      have fB0 : ∀ k i, (Wd k).frozen? ⟨B0, i, none⟩ = false := fun k i => (HPd.out k).res.frozen i
      clear hWd hP7 rr7
      refine wp_region_drawn_tail 6 (by kernel_rfl) (by kernel_rfl) ?_
      simp only [List.take_succ_cons, List.take_zero, List.drop_succ_cons, List.drop_zero]
      repeat (go_big_quiet_step (fail))
      refine wpQuiet_nil ?_
      rintro _ ⟨m7, rfl⟩
      go_wp2
      have ho8 := (((((((Only.refl [B0] (Wd m7)).setCell (p := ⟨B0, 0, none⟩) (by simp) (.int .i64 x.r.id)).setCell (p := ⟨B0, 1, none⟩) (by simp) (.string x.r.tn)).setCell (p := ⟨B0, 2, none⟩) (by simp) (.int .i64 x.r.tk)).setCell (p := ⟨B0, 3, none⟩) (by simp) (.int .i64 x.r.pr)).setCell (p := ⟨B0, 4, none⟩) (by simp) (.int .i64 x.r.dl)).setCell (p := ⟨B0, 5, none⟩) (by simp) (.bool x.r.hd))
      obtain ⟨g1, g2, g3, g4, g5, g6⟩ := (HPd.out m7).fin hB0.out ho8
      refine bodyPost_ret (v := .tuple #[.agg x.r.vs, .bool true]) (by simp [results, Yba.results18, go_sem, zB0]) rfl ⟨rfl, rv6, rh6, iv', hd', ts, false, _, HS.out ▸ g1, g2, g3, g4, g5, g6, HOB.out, fun k hk => .inl (OB6.out ▸ hk), .inl ⟨rfl, rfl, rfl, rfl⟩⟩
    | cons y A' =>
      have q6 := fun u : Ext W4 => (HP5.out.tl.1.ext u).cell 6
      have c0 := fun u : Ext W4 => (HP5.out.rR.ext u).cell 0
      simp at q6 c0
      have FRO : Hid (∀ u : Ext W4, Calls Yba.prog 39 #[.pointer (some ⟨t.b, 0, none⟩)] u.1 fun e w' => e = .returned (.agg y.r.vs) ∧ Below u.1.heap.size u.1 w') :=
        fun u => ordFront_s t.b hd' iv' y A' _ _ _ _ u.1 (HP5.out.tl.1.ext u) (HP5.out.tl.2.1.only (S := []) (Only.ofBelow u.2) (by simp))
      have ne : Nonempty (Ext W4) := ⟨⟨W4, Below.refl _ _⟩⟩
      have hAi : (((A'.length : Int) + 1) == 0) = false := by rw [beq_eq_false_iff_ne]; omega
      by_cases hy : d' - x.r.tk < y.r.tk
      · go_wp2_with fail
        refine wp_region_ext (by kernel_rfl) (by kernel_rfl) ?_
        unfold InExt
        repeat (go_big_quiet_step (first | (go_at_call 39; exact quietE _ (FRO.out _)) | (go_at_call 34; exact quietE _ (cost_any y.r _))))
        refine wpQuiet_nil ?_
        rintro _ ⟨u, rfl⟩
        have HP6 := Hid.mk (HP5.out.ext u.2)
        have RR6 := Hid.mk (RR5.out.ext u)
        clear q6 c0 FRO ne HP5 RR5
        go_wp2_with fail
        refine (endTurn_any R rh rv t ts _ _ _ u.1 HP6.out.rR HP6.out.line hne hts).mono ?_
        rintro e V7 ⟨rfl, ho7, rv7, rh7, r7, l7, nr7, new7⟩
        have HP7 := Hid.mk (HP6.out.turned sL.out ho7 rv7 rh7 ((ts ++ [t]).map TS.ptr) false r7 l7)
        have RR7 : Hid (Row V7 B9 83 x.r.vs) := RR6.out.only ho7 (by
          simp only [List.mem_cons, Option.mem_toList, not_or]
          exact ⟨RR6.out.ne HP6.out.rR (by decide), fun h => HP6.out.line.ne RR6.out (by decide) h⟩)
        have NEW7 : Hid (∀ k, rv7.ownBlock = some k → rv.ownBlock = some k ∨ w.heap.size ≤ k) := fun k hk => by
          rcases new7 k hk with h | h
          · exact .inl h
          · exact .inr (by have := HP6.out.only.size; omega)
        clear ho7 r7 l7 new7 nr7
        have zB9 := fun i => RR7.out.cell i
        have zB0 := fun i => HP7.out.res.cell i
        have fB0 := fun i => HP7.out.res.frozen i
        clear HP6 RR6
        go_wp2
        have ho8 := (((((((Only.refl [B0] V7).setCell (p := ⟨B0, 0, none⟩) (by simp) (.int .i64 x.r.id)).setCell (p := ⟨B0, 1, none⟩) (by simp) (.string x.r.tn)).setCell (p := ⟨B0, 2, none⟩) (by simp) (.int .i64 x.r.tk)).setCell (p := ⟨B0, 3, none⟩) (by simp) (.int .i64 x.r.pr)).setCell (p := ⟨B0, 4, none⟩) (by simp) (.int .i64 x.r.dl)).setCell (p := ⟨B0, 5, none⟩) (by simp) (.bool x.r.hd))
        obtain ⟨g1, g2, g3, g4, g5, g6⟩ := HP7.out.fin hB0.out ho8
        refine bodyPost_ret (v := .tuple #[.agg x.r.vs, .bool true]) (by simp [results, Yba.results18, go_sem, zB0]) rfl ⟨rfl, rv7, rh7, iv', hd', ts ++ [{ t with iv := iv', hd := hd', A := y :: A', d := d' - x.r.tk }], false, ents, HS.out ▸ g1, g2, g3, by simpa [TS.ptr] using g4, g5, g6, HOB.out, NEW7.out, .inr ⟨y, A', rfl, rfl, .inr ⟨hy, rfl, rfl⟩⟩⟩
      · go_wp2_with fail
        refine wp_region_ext (by kernel_rfl) (by kernel_rfl) ?_
        unfold InExt
        repeat (go_big_quiet_step (first | (go_at_call 39; exact quietE _ (FRO.out _)) | (go_at_call 34; exact quietE _ (cost_any y.r _))))
        refine wpQuiet_nil ?_
        rintro _ ⟨u, rfl⟩
        have HP6 := Hid.mk (HP5.out.ext u.2)
        have RR6 := Hid.mk (RR5.out.ext u)
        clear q6 c0 FRO ne HP5 RR5
        have zB9 := fun i => RR6.out.cell i
        have zB0 := fun i => HP6.out.res.cell i
        have fB0 := fun i => HP6.out.res.frozen i
        go_wp2
        have ho8 := (((((((Only.refl [B0] u.1).setCell (p := ⟨B0, 0, none⟩) (by simp) (.int .i64 x.r.id)).setCell (p := ⟨B0, 1, none⟩) (by simp) (.string x.r.tn)).setCell (p := ⟨B0, 2, none⟩) (by simp) (.int .i64 x.r.tk)).setCell (p := ⟨B0, 3, none⟩) (by simp) (.int .i64 x.r.pr)).setCell (p := ⟨B0, 4, none⟩) (by simp) (.int .i64 x.r.dl)).setCell (p := ⟨B0, 5, none⟩) (by simp) (.bool x.r.hd))
        obtain ⟨g1, g2, g3, g4, g5, g6⟩ := HP6.out.fin hB0.out ho8
        refine bodyPost_ret (v := .tuple #[.agg x.r.vs, .bool true]) (by simp [results, Yba.results18, go_sem, zB0]) rfl ⟨rfl, rv, rh, iv', hd', { t with iv := iv', hd := hd', A := y :: A', d := d' - x.r.tk } :: ts, true, ents, HS.out ▸ g1, g2, g3, by simpa [TS.ptr] using g4, g5, g6, HOB.out, fun k hk => .inl hk, .inr ⟨y, A', rfl, rfl, .inl ⟨by omega, rfl, rfl⟩⟩⟩
  · go_wp2_with fail
    have ed : d' = t.d := by rcases hd with ⟨_, h⟩ | ⟨h, _⟩; exact h; cases h
    refine wp_world (fun V => PSt w V S Q M R B0 ((wt : Int) - 1) wt rv rh ((t :: ts).map TS.ptr) true { t with d := d' } ents) ?_ ?_
    · rw [ed]
      exact HP.out.drewN _
    clear FR k1 k2 k3 k4 HP ed hd
    rintro V hP
    have HP := Hid.mk hP
    clear hP
    have tl : Row V t.b 140 #[.slice none 0 0, t.iv, .int .i64 t.hd, .int .u64 t.n, .pointer (some ⟨R, 0, none⟩), .int .i64 t.q, .int .i64 d'] := HP.out.tl.1
    have la : LineA V t.iv t.hd (x :: A) := hA ▸ HP.out.tl.2.1
    have hne2 : t.iv.ownBlock ≠ some t.b := HP.out.tl.2.2
    have c0 := fun u : Ext V => (HP.out.rR.ext u).cell 0
    simp at c0
    have FRO : Hid (∀ u : Ext V, Calls Yba.prog 39 #[.pointer (some ⟨t.b, 0, none⟩)] u.1 fun e w' => e = .returned (.agg x.r.vs) ∧ Below u.1.heap.size u.1 w') :=
      fun u => ordFront_s t.b t.hd t.iv x A _ _ _ _ u.1 (tl.ext u) (la.only (S := []) (Only.ofBelow u.2) (by simp))
    have ne : Nonempty (Ext V) := ⟨⟨V, Below.refl _ _⟩⟩
    refine wp_region_ext (by kernel_rfl) (by kernel_rfl) ?_
    unfold InExt
    repeat (go_big_quiet_step (first | (go_at_call 39; exact quietE _ (FRO.out _)) | (go_at_call 34; exact quietE _ (cost_any x.r _))))
    refine wpQuiet_nil ?_
    rintro _ ⟨u, rfl⟩
    have q6 := (tl.ext u).cell 6
    simp at q6
    have HP2 := Hid.mk (HP.out.ext u.2)
    have TL2 := Hid.mk (And.intro (tl.ext u) (la.only (S := []) (Only.ofBelow u.2) (by simp)))
    clear tl la c0 FRO ne HP
    go_wp2_with fail
    refine (ordPop_s t.b t.hd t.iv x A _ _ _ _ u.1 TL2.out.1 TL2.out.2 hne2).mono ?_
    rintro e V3 ⟨rfl, ho, iv', hd', hr, hl', hob⟩
    have HP3 : Hid (PSt w V3 S Q M R B0 ((wt : Int) - 1) wt rv rh ((t :: ts).map TS.ptr) true { t with iv := iv', hd := hd', A := A, d := d' } ents) :=
      HP2.out.popped sT.out ho { t with iv := iv', hd := hd', A := A, d := d' } rfl ⟨hr, hl', by rw [hob]; exact hne2⟩
    have HOB := Hid.mk hob
    clear ho hr hl' hob q6 HP2 TL2
    have q6 := HP3.out.tl.1.cell 6
    have f6 := HP3.out.tl.1.frozen 6
    have q4 := HP3.out.rR.cell 4
    have f4 := HP3.out.rR.frozen 4
    simp at q6 q4
    have lb := HP3.out.tl.1.lt
    have lR := HP3.out.rR.lt
    simp only at lb f6
    go_wp2_with fail
    have HP4 : Hid (∀ m, PSt w ((((V3.setCell ⟨t.b, 6, none⟩ (.int .i64 (d' - x.r.tk))).setCell ⟨R, 4, none⟩ (.int .i64 ((wt : Int) - 1))).alloc (.cells x.r.vs 83)).drewN m) S Q M R B0 ((wt : Int) - 1) ((wt : Int) - 1) rv rh ((t :: ts).map TS.ptr) true { t with iv := iv', hd := hd', A := A, d := d' - x.r.tk } ents) :=
      fun m => (((HP3.out.setDef sb.out (d' - x.r.tk)).setRot sR.out 4 (.int .i64 ((wt : Int) - 1)) true ((wt : Int) - 1) rfl).ext ((Below.refl _ _).alloc (Nat.le_refl _) _)).drewN m
    have RR4 : Hid (∀ m, Row ((((V3.setCell ⟨t.b, 6, none⟩ (.int .i64 (d' - x.r.tk))).setCell ⟨R, 4, none⟩ (.int .i64 ((wt : Int) - 1))).alloc (.cells x.r.vs 83)).drewN m) V3.heap.size 83 x.r.vs) := fun m => (row_new _ _ _ _ (by simp)).drewN m
    clear q6 f6 q4 f4 HP3
    have LN41 : Hid (Calls Yba.prog 41 #[.pointer (some ⟨t.b, 0, none⟩)] ((((V3.setCell ⟨t.b, 6, none⟩ (.int .i64 (d' - x.r.tk))).setCell ⟨R, 4, none⟩ (.int .i64 ((wt : Int) - 1))).alloc (.cells x.r.vs 83))) fun e w' => e = .returned (.int .i64 A.length) ∧ ∃ k, w' = ((((V3.setCell ⟨t.b, 6, none⟩ (.int .i64 (d' - x.r.tk))).setCell ⟨R, 4, none⟩ (.int .i64 ((wt : Int) - 1))).alloc (.cells x.r.vs 83))).drewN k) := by
      have h4 := (HP4.out 0)
      obtain ⟨a, cap, hv, hn, hc, hob, hnone, hsome⟩ := h4.tl.2.1.shape
      have r4 := h4.tl.1
      simp only at hv r4 hn
      rw [hv] at r4
      have := ordLen_s t.b (hd' + A.length) cap hd' a _ (by omega) (Nat.le_add_right _ _) (by simpa using r4.cell 0) (by simpa using r4.cell 1) (by simpa using r4.cell 2)
      have e : (((hd' + A.length : Nat) : Int) - hd') = (A.length : Int) := by omega
      rw [e] at this
      exact this
    refine LN41.out.mono ?_
    rintro e w4 ⟨rfl, m4, rfl⟩
    clear LN41
    obtain ⟨W4, hW4⟩ : ∃ W4, W4 = ((((V3.setCell ⟨t.b, 6, none⟩ (.int .i64 (d' - x.r.tk))).setCell ⟨R, 4, none⟩ (.int .i64 ((wt : Int) - 1))).alloc (.cells x.r.vs 83)).drewN m4) := ⟨_, rfl⟩
    have HP5 := Hid.mk (HP4.out m4)
    have RR5 := Hid.mk (RR4.out m4)
    rw [← hW4] at HP5 RR5 ⊢
    clear HP4 RR4 hW4
    generalize V3.heap.size = B9 at *
    cases A with
    | nil =>
      go_wp2_with fail
      refine (popP_line R rh rv (some ⟨t.b, 0, none⟩) (ts.map TS.ptr) _ _ _ W4 HP5.out.rR HP5.out.line hne).mono ?_
      rintro e V6 ⟨rfl, ho6, rv6, rh6, r6, l6, ob6⟩
      have HP6 := Hid.mk (HP5.out.turned sL.out ho6 rv6 rh6 (ts.map TS.ptr) true r6 l6)
      have RR6 : Hid (Row V6 B9 83 x.r.vs) := RR5.out.only ho6 (by
        simp only [List.mem_cons, Option.mem_toList, not_or]
        exact ⟨RR5.out.ne HP5.out.rR (by decide), fun h => HP5.out.line.ne RR5.out (by decide) h⟩)
      have OB6 := Hid.mk ob6
      clear ho6 r6 l6 ob6
      have k3 := HP6.out.rR.cell 3
      have f3 := HP6.out.rR.frozen 3
      simp at k3
      go_wp2_with fail
      refine wp_world (fun V => PSt w V S Q M R B0 ((wt : Int) - 1) ((wt : Int) - 1) rv6 rh6 (ts.map TS.ptr) false { t with iv := iv', hd := hd', A := [], d := d' - x.r.tk } ents ∧ Row V B9 83 x.r.vs) ?_ ?_
      · exact ⟨HP6.out.setRot sR.out 3 (.bool false) false ((wt : Int) - 1) rfl, RR6.out.setOther (RR6.out.ne HP6.out.rR (by decide)) _ _⟩
      clear HP5 RR5 HP6 RR6 k3 f3
      rintro V7 ⟨hP7, rr7⟩
      obtain ⟨Wd, hWd⟩ := Classical.skolem.1 (fun k => run_delete (hP7.mp.only (S := []) ((Only.refl _ _).drewN k) (by simp)) x.r.tn 0)
      have hdel := fun k => (hWd k).1
      have q4 := hP7.rQ.cell 4
      have b1 := rr7.cell 1
      simp at q4 b1
      have HPd : Hid (∀ k, PSt w (Wd k) S Q M R B0 ((wt : Int) - 1) ((wt : Int) - 1) rv6 rh6 (ts.map TS.ptr) false { t with iv := iv', hd := hd', A := [], d := d' - x.r.tk } (delE x.r.tn ents)) := fun k => (hP7.drewN k).mapped sM.out (hWd k).2.2 _ (hWd k).2.1
      have zB9 : ∀ k i, (Wd k).cell? ⟨B9, i, none⟩ = x.r.vs[i]? := fun k i => ((rr7.drewN k).only (hWd k).2.2 (by simpa using (hP7.mp.ne rr7).symm)).cell i
      have zB0 : ∀ k i, (Wd k).cell? ⟨B0, i, none⟩ = zeroReq[i]? := fun k i => (HPd.out k).res.cell i
      have fB0 : ∀ k i, (Wd k).frozen? ⟨B0, i, none⟩ = false := fun k i => (HPd.out k).res.frozen i
      clear hWd hP7 rr7
      refine wp_region_drawn_tail 6 (by kernel_rfl) (by kernel_rfl) ?_
      simp only [List.take_succ_cons, List.take_zero, List.drop_succ_cons, List.drop_zero]
      repeat (go_big_quiet_step (fail))
      refine wpQuiet_nil ?_
      rintro _ ⟨m7, rfl⟩
      go_wp2
      have ho8 := (((((((Only.refl [B0] (Wd m7)).setCell (p := ⟨B0, 0, none⟩) (by simp) (.int .i64 x.r.id)).setCell (p := ⟨B0, 1, none⟩) (by simp) (.string x.r.tn)).setCell (p := ⟨B0, 2, none⟩) (by simp) (.int .i64 x.r.tk)).setCell (p := ⟨B0, 3, none⟩) (by simp) (.int .i64 x.r.pr)).setCell (p := ⟨B0, 4, none⟩) (by simp) (.int .i64 x.r.dl)).setCell (p := ⟨B0, 5, none⟩) (by simp) (.bool x.r.hd))
      obtain ⟨g1, g2, g3, g4, g5, g6⟩ := (HPd.out m7).fin hB0.out ho8
      refine bodyPost_ret (v := .tuple #[.agg x.r.vs, .bool true]) (by simp [results, Yba.results18, go_sem, zB0]) rfl ⟨rfl, rv6, rh6, iv', hd', ts, false, _, HS.out ▸ g1, g2, g3, g4, g5, g6, HOB.out, fun k hk => .inl (OB6.out ▸ hk), .inl ⟨rfl, rfl, rfl, rfl⟩⟩
    | cons y A' =>
      have q6 := fun u : Ext W4 => (HP5.out.tl.1.ext u).cell 6
      have c0 := fun u : Ext W4 => (HP5.out.rR.ext u).cell 0
      simp at q6 c0
      have FRO : Hid (∀ u : Ext W4, Calls Yba.prog 39 #[.pointer (some ⟨t.b, 0, none⟩)] u.1 fun e w' => e = .returned (.agg y.r.vs) ∧ Below u.1.heap.size u.1 w') :=
        fun u => ordFront_s t.b hd' iv' y A' _ _ _ _ u.1 (HP5.out.tl.1.ext u) (HP5.out.tl.2.1.only (S := []) (Only.ofBelow u.2) (by simp))
      have ne : Nonempty (Ext W4) := ⟨⟨W4, Below.refl _ _⟩⟩
      have hAi : (((A'.length : Int) + 1) == 0) = false := by rw [beq_eq_false_iff_ne]; omega
      by_cases hy : d' - x.r.tk < y.r.tk
      · go_wp2_with fail
        refine wp_region_ext (by kernel_rfl) (by kernel_rfl) ?_
        unfold InExt
        repeat (go_big_quiet_step (first | (go_at_call 39; exact quietE _ (FRO.out _)) | (go_at_call 34; exact quietE _ (cost_any y.r _))))
        refine wpQuiet_nil ?_
        rintro _ ⟨u, rfl⟩
        have HP6 := Hid.mk (HP5.out.ext u.2)
        have RR6 := Hid.mk (RR5.out.ext u)
        clear q6 c0 FRO ne HP5 RR5
        go_wp2_with fail
        refine (endTurn_any R rh rv t ts _ _ _ u.1 HP6.out.rR HP6.out.line hne hts).mono ?_
        rintro e V7 ⟨rfl, ho7, rv7, rh7, r7, l7, nr7, new7⟩
        have HP7 := Hid.mk (HP6.out.turned sL.out ho7 rv7 rh7 ((ts ++ [t]).map TS.ptr) false r7 l7)
        have RR7 : Hid (Row V7 B9 83 x.r.vs) := RR6.out.only ho7 (by
          simp only [List.mem_cons, Option.mem_toList, not_or]
          exact ⟨RR6.out.ne HP6.out.rR (by decide), fun h => HP6.out.line.ne RR6.out (by decide) h⟩)
        have NEW7 : Hid (∀ k, rv7.ownBlock = some k → rv.ownBlock = some k ∨ w.heap.size ≤ k) := fun k hk => by
          rcases new7 k hk with h | h
          · exact .inl h
          · exact .inr (by have := HP6.out.only.size; omega)
        clear ho7 r7 l7 new7 nr7
        have zB9 := fun i => RR7.out.cell i
        have zB0 := fun i => HP7.out.res.cell i
        have fB0 := fun i => HP7.out.res.frozen i
        clear HP6 RR6
        go_wp2
        have ho8 := (((((((Only.refl [B0] V7).setCell (p := ⟨B0, 0, none⟩) (by simp) (.int .i64 x.r.id)).setCell (p := ⟨B0, 1, none⟩) (by simp) (.string x.r.tn)).setCell (p := ⟨B0, 2, none⟩) (by simp) (.int .i64 x.r.tk)).setCell (p := ⟨B0, 3, none⟩) (by simp) (.int .i64 x.r.pr)).setCell (p := ⟨B0, 4, none⟩) (by simp) (.int .i64 x.r.dl)).setCell (p := ⟨B0, 5, none⟩) (by simp) (.bool x.r.hd))
        obtain ⟨g1, g2, g3, g4, g5, g6⟩ := HP7.out.fin hB0.out ho8
        refine bodyPost_ret (v := .tuple #[.agg x.r.vs, .bool true]) (by simp [results, Yba.results18, go_sem, zB0]) rfl ⟨rfl, rv7, rh7, iv', hd', ts ++ [{ t with iv := iv', hd := hd', A := y :: A', d := d' - x.r.tk }], false, ents, HS.out ▸ g1, g2, g3, by simpa [TS.ptr] using g4, g5, g6, HOB.out, NEW7.out, .inr ⟨y, A', rfl, rfl, .inr ⟨hy, rfl, rfl⟩⟩⟩
      · go_wp2_with fail
        refine wp_region_ext (by kernel_rfl) (by kernel_rfl) ?_
        unfold InExt
        repeat (go_big_quiet_step (first | (go_at_call 39; exact quietE _ (FRO.out _)) | (go_at_call 34; exact quietE _ (cost_any y.r _))))
        refine wpQuiet_nil ?_
        rintro _ ⟨u, rfl⟩
        have HP6 := Hid.mk (HP5.out.ext u.2)
        have RR6 := Hid.mk (RR5.out.ext u)
        clear q6 c0 FRO ne HP5 RR5
        have zB9 := fun i => RR6.out.cell i
        have zB0 := fun i => HP6.out.res.cell i
        have fB0 := fun i => HP6.out.res.frozen i
        go_wp2
        have ho8 := (((((((Only.refl [B0] u.1).setCell (p := ⟨B0, 0, none⟩) (by simp) (.int .i64 x.r.id)).setCell (p := ⟨B0, 1, none⟩) (by simp) (.string x.r.tn)).setCell (p := ⟨B0, 2, none⟩) (by simp) (.int .i64 x.r.tk)).setCell (p := ⟨B0, 3, none⟩) (by simp) (.int .i64 x.r.pr)).setCell (p := ⟨B0, 4, none⟩) (by simp) (.int .i64 x.r.dl)).setCell (p := ⟨B0, 5, none⟩) (by simp) (.bool x.r.hd))
        obtain ⟨g1, g2, g3, g4, g5, g6⟩ := HP6.out.fin hB0.out ho8
        refine bodyPost_ret (v := .tuple #[.agg x.r.vs, .bool true]) (by simp [results, Yba.results18, go_sem, zB0]) rfl ⟨rfl, rv, rh, iv', hd', { t with iv := iv', hd := hd', A := y :: A', d := d' - x.r.tk } :: ts, true, ents, HS.out ▸ g1, g2, g3, by simpa [TS.ptr] using g4, g5, g6, HOB.out, fun k hk => .inl hk, .inr ⟨y, A', rfl, rfl, .inl ⟨by omega, rfl, rfl⟩⟩⟩
end Go.Proofs.Ybulkhba
