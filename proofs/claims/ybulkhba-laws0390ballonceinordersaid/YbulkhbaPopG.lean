import Derived.Test.YbulkhbaPopGSt
namespace Go.Proofs.Ybulkhba
open Go.RowKit
set_option linter.unusedVariables false
set_option linter.unusedSimpArgs false

set_option maxRecDepth 100000 in
set_option maxHeartbeats 12800000 in
/-- (*fair).Pop, IN GENERAL. -/
theorem pop_g (Q M R rh wt : Nat) (rv : Value) (rot : List TG) (it : Bool) (ents : List (ByteArray × Nat)) (w : World)
    (h : QG w Q M R wt wt rv rh it rot ents) (hgi : GI it rot) (hne : rot ≠ []) (hwt : 0 < wt) (hwt2 : wt ≤ 1000000) :
    Calls Yba.prog 18 #[.pointer (some ⟨Q, 0, none⟩)] w fun e w' => ∃ x, e = .returned (.tuple #[.agg x.r.vs, .bool true]) ∧ PopPost w w' Q M R ((wt : Int) - 1) rv rot ents x := by
  have hQl := h.rQ.lt
  have hRl := h.rR.lt
  have kq := h.rQ.cell 6
  have kq5 := h.rQ.cell 5
  have fq := h.rQ.frozen 6
  have kr4 := h.rR.cell 4
  simp at kq kq5 kr4
  have hnz : (((wt : Nat) : Int) == 0) = false := by rw [beq_eq_false_iff_ne]; omega
  have hRQ : ¬ R = Q := h.rR.ne h.rQ (by decide)
  have HH := Hid.mk h
  have HGI := Hid.mk hgi
  have HNE := Hid.mk hne
  clear h hgi hne
  go_enter Yba.func18, Yba.ntmps18
  go_wp2
  refine wp_world (fun W => GSt w W Q M R w.heap.size ((wt : Int) - 1) wt rv rot rv rh it rot ents) ?_ ?_
  · rw [← World.setCell_alloc_past _ _ _ _ hQl]
    have h0 : GSt w (w.alloc (.cells zeroReq 83)) Q M R w.heap.size wt wt rv rot rv rh it rot ents :=
      ⟨HH.out.same ((Only.refl _ _).alloc _), (Only.refl _ _).alloc _, row_new _ _ _ _ rfl, fun k hk => .inl hk, fun k hk => hk⟩
    exact h0.setN _
  obtain ⟨Bw, hBw⟩ : ∃ Bw, Bw = w.heap.size := ⟨_, rfl⟩
  have hB0 : Hid (w.heap.size ≤ Bw) := by show _ ≤ _; omega
  rw [← hBw]
  clear hBw
  generalize Bw = B0 at *
  clear kq kq5 fq kr4 HH
  rintro W hP
  have k4 := hP.q.rR.cell 4
  simp at k4
  have HP := Hid.mk hP
  clear hP
  refine wp_loop_rounds 1 ?_
  rw [rounds_succ]
  go_wp2
  clear k4
  go_loopg [6] (gaps rot) (fun k iv W => ∃ (idle : Nat) (it' : Bool) (rv' : Value) (rh' : Nat) (rot' : List TG), iv = .int .i64 idle ∧ gaps rot' ≤ k ∧ GSt w W Q M R B0 ((wt : Int) - 1) wt rv rot rv' rh' it' rot' ents ∧ (rot'.map TG.core).Perm (rot.map TG.core) ∧ GI it' rot' ∧ rot' ≠ [] ∧ idle ≤ rot'.length ∧ (it' = true → idle = 0) ∧ Short idle rot')
  case atStart => exact ⟨0, it, rv, rh, rot, rfl, Nat.le_refl _, HP.out, List.Perm.refl _, HGI.out, HNE.out, Nat.zero_le _, fun _ => rfl, Short.zero _⟩
  case round =>
    clear HP HGI HNE
    obtain ⟨idle, it1, rv1, rh1, rot1, rfl, hgp, hP, hpm, hgi, hn1, hid, hit, hsh⟩ := hrel
    obtain ⟨t, ts, rfl⟩ := List.exists_cons_of_ne_nil hn1
    have HP := Hid.mk hP
    have HPM := Hid.mk hpm
    have HG := Hid.mk hgi
    have HSH := Hid.mk hsh
    have HGP := Hid.mk hgp
    have hlts : ts.length ≤ 899 := by have := hgi.1; simp at this; omega
    rw [List.length_cons] at hid
    clear hP hpm hgi hsh hn1 hgp
    have FR := Hid.mk (frontQ HP.out.q)
    have k3 := HP.out.q.rR.cell 3
    have f3 := HP.out.q.rR.frozen 3
    simp at k3
    have hR2 := HP.out.q.rR.lt
    cases it1
    · have LN : Hid (∀ m, Calls Yba.prog 37 #[.pointer (some ⟨R, 1, none⟩)] (wr.drewN m) fun e w' => e = .returned (.int .i64 ((ts.length : Int) + 1)) ∧ ∃ k, w' = (wr.drewN m).drewN k) := by
        intro m
        have := lenQ (HP.out.drewN m).q
        simpa using this
      have hall := Hid.mk HG.out.all
      clear hit
      go_wp2_with fail
      refine FR.out.mono ?_
      rintro e w1 ⟨rfl, m1, rfl⟩
      by_cases hidl : idle = ts.length + 1
      · have hie : ((idle : Int) == (ts.length : Int) + 1) = true := by rw [beq_iff_eq]; omega
        go_wp2_with fail
        refine (LN.out _).mono ?_
        rintro e w1 ⟨rfl, m2, rfl⟩
        have SK : Hid (Calls Yba.prog 38 #[.pointer (some ⟨R, 0, none⟩)] (wr.drewN (m1 + m2)) fun e w' => e = .returned (.tuple #[]) ∧ Only (qBlocksG Q M R rv1 (t :: ts)) (wr.drewN (m1 + m2)) w' ∧
            ∃ k : Nat, (∀ s ∈ t :: ts, s.d + k * s.q < s.fr.r.tk) ∧ QG w' Q M R ((wt : Int) - 1) wt rv1 rh1 false ((t :: ts).map (TG.add k)) ents) := by
          refine skip_g Q M R rh1 _ _ rv1 false (t :: ts) ents _ TG.fr (HP.out.drewN (m1 + m2)).q (by simp) (by simp; omega) (fun s hs => oFront_is (hall.out s hs).ne) (fun s hs => by have := (hall.out s hs).lA; omega) (fun s hs => ?_)
          have a := hall.out s hs
          have b := a.c
          have c := HSH.out.all (by simpa using hidl) s hs
          unfold TG.c at b c
          exact ⟨a.d0, c, by omega, a.q0, by have := a.q1; omega⟩
        go_wp2_with fail
        refine SK.out.mono ?_
        rintro e w2 ⟨rfl, ho2, kk, hkk, hq2⟩
        have HP2 : Hid (GSt w w2 Q M R B0 ((wt : Int) - 1) wt rv rot rv1 rh1 false (TG.add kk t :: ts.map (TG.add kk)) ents) :=
          (HP.out.drewN (m1 + m2)).step ho2 (fun k hk => hk) hq2 (fun k hk => .inl hk) (fun k hk => by simpa [List.flatMap_map, TG.add, TG.fp] using hk)
        have hall2 : Hid (∀ s ∈ TG.add kk t :: ts.map (TG.add kk), TOk 255 s) := (GI.add HG.out hkk).all
        have HPM2 : Hid (((TG.add kk t :: ts.map (TG.add kk)).map TG.core).Perm (rot.map TG.core)) := by
          have e := core_add kk (t :: ts)
          rw [List.map_cons] at e
          refine Hid.mk ?_
          rw [e]; exact HPM.out
        have HGP2 : Hid (gaps (TG.add kk t :: ts.map (TG.add kk)) ≤ gk) :=
          Nat.le_trans (gaps_add (k := kk) (by omega) (t :: ts) (fun s hs => by have := (hall.out s hs).q0; omega)) HGP.out
        have hbt : t.b = (TG.add kk t).b := rfl
        have hlts2 : (ts.map (TG.add kk)).length ≤ 899 := by simpa using hlts
        rw [hbt]
        clear hkk hq2 ho2 HP HPM HG HSH HGP hall SK LN FR k3 f3 hbt hie hid hlts hidl
        generalize TG.add kk t = t1 at *
        generalize ts.map (TG.add kk) = ts1 at *
        have k3 := HP2.out.q.rR.cell 3
        have f3 := HP2.out.q.rR.frozen 3
        simp at k3
        have HSH2 : Hid (Short 0 (t1 :: ts1)) := Short.zero _
        have q5 := (HP2.out.q.tls t1 (by simp)).row.cell 5
        have q6 := (HP2.out.q.tls t1 (by simp)).row.cell 6
        have f6 := (HP2.out.q.tls t1 (by simp)).row.frozen 6
        simp at q5 q6
        have tk1 := hall2.out t1 (by simp)
        have b0 := tk1.d0
        have b1 := tk1.d1
        have b2 := tk1.q0
        have b3 := tk1.q1
        have hbl := (HP2.out.q.tls t1 (by simp)).row.lt
        go_wp2_with fail
        refine wp_region_drawn_tail 17 (by kernel_rfl) (by kernel_rfl) ?_
        simp only [List.take_succ_cons, List.take_zero, List.drop_succ_cons, List.drop_zero]
        repeat (go_big_quiet_step (fail))
        refine wpQuiet_nil ?_
        rintro _ ⟨m3, rfl⟩
        go_wp2_with fail
        refine wp_world (fun V => GSt w V Q M R B0 ((wt : Int) - 1) wt rv rot rv1 rh1 true ({ t1 with d := t1.d + t1.q } :: ts1) ents) ?_ ?_
        · exact ((HP2.out.drewN _).setDef (t1.d + t1.q)).setRot 3 (.bool true) true wt rfl
        rintro V hP3
        have HP3 := Hid.mk hP3
        clear hP3
        have HT : Hid (GTurn rot { t1 with d := t1.d + t1.q } ts1) := ⟨HPM2.out, tk1.setD _ (by omega) (by omega), fun s hs => hall2.out s (by simp [hs]), by omega⟩
        have hold : Hid (t1.d + 1 ≤ t1.d + t1.q ∧ 0 ≤ t1.d) := ⟨by omega, b0⟩
        have GAP : Hid (t1.d + t1.q < t1.c → gaps (ts1 ++ [{ t1 with d := t1.d + t1.q }]) < gk) := fun hc => by
          have h1 := gap_turn hold.out.1 hc
          have h2 := HGP2.out
          rw [gaps_cons] at h2
          rw [gaps_snoc]
          omega
        have GALL : Hid (t1.d + t1.q < t1.c → GI false (ts1 ++ [{ t1 with d := t1.d + t1.q }])) := fun hc => by
          refine GI.of_all (by simp; omega) fun s hs => ?_
          rcases List.mem_append.1 hs with g | g
          · exact hall2.out s (by simp [g])
          · rw [List.mem_singleton.1 g]
            have := (hall2.out t1 (by simp)).c
            exact (hall2.out t1 (by simp)).setD _ (by omega) (by omega)
        have GSH : Hid (t1.d + t1.q < t1.c → Short (0 + 1) (ts1 ++ [{ t1 with d := t1.d + t1.q }])) := fun hc => HSH2.out.turn (by simp) hc
        have GPM : Hid (((ts1 ++ [{ t1 with d := t1.d + t1.q }]).map TG.core).Perm (rot.map TG.core)) := (perm_turn t1 _ ts1).trans HPM2.out
        clear q5 q6 f6 k3 f3 HP2 hold tk1 b0 b1 b2 b3 hbl HSH2 HPM2 HGP2 hall2
        rw [show t1.b = ({ t1 with d := t1.d + t1.q } : TG).b from rfl]
        have hc1 : Hid (({ t1 with d := t1.d + t1.q } : TG).d = t1.d + t1.q ∧ ({ t1 with d := t1.d + t1.q } : TG).c = t1.c) := ⟨rfl, rfl⟩
        generalize ({ t1 with d := t1.d + t1.q } : TG) = t2 at *
        obtain ⟨x, hx⟩ : ∃ x, x = t2.fr := ⟨_, rfl⟩
        have hfx : Hid (OFront t2.H t2.A x) := by rw [hx]; exact oFront_is HT.out.t0.ne
        have htk := HT.out.t0.c
        have hcx : t2.c = x.r.tk := by rw [hx]; rfl
        rw [hcx] at htk
        have hd0 := HT.out.t0.d0
        have hd1 := HT.out.t0.d1
        obtain ⟨H', A', hpop⟩ := opop_front HT.out.t0.ne
        have HX : Hid (OPop t2.H t2.A x H' A') := by rw [hx]; exact hpop
        have hlA := HT.out.t0.lA
        have hlH := HT.out.t0.lH
        clear hpop hx
        have tl := HP3.out.q.tls t2 (by simp)
        have c0 := fun u : Ext V => (HP3.out.q.rR.ext u).cell 0
        simp at c0
        have FRO : Hid (∀ u : Ext V, Calls Yba.prog 39 #[.pointer (some ⟨t2.b, 0, none⟩)] u.1 fun e w' => e = .returned (.agg x.r.vs) ∧ Below u.1.heap.size u.1 w') :=
          fun u => ordFront_g t2.b t2.hd t2.ev t2.iv t2.H t2.A x _ _ _ _ u.1 (tl.row.ext u) (tl.ord.same (Only.ofBelow u.2)) (by omega) hfx.out
        have ne : Nonempty (Ext V) := ⟨⟨V, Below.refl _ _⟩⟩
        refine wp_region_ext (by kernel_rfl) (by kernel_rfl) ?_
        unfold InExt
        repeat (go_big_quiet_step (first | (go_at_call 39; exact quietE _ (FRO.out _)) | (go_at_call 34; exact quietE _ (cost_any x.r _))))
        refine wpQuiet_nil ?_
        rintro _ ⟨u, rfl⟩
        have q6 := (tl.row.ext u).cell 6
        simp at q6
        have HPC := Hid.mk (HP3.out.ext u.2)
        clear c0 FRO ne HP3 tl
        by_cases hfit : t2.c ≤ t2.d
        · have hfit2 : x.r.tk ≤ t2.d := by omega
          have TL2 := Hid.mk (HPC.out.q.tls t2 (by simp))
          clear hfit GAP GALL GSH GPM hc1
          go_wp2_with fail
          refine (ordPop_g t2.b t2.hd t2.ev t2.iv t2.H t2.A H' A' x _ _ _ _ u.1 TL2.out.row TL2.out.ord (by omega) (by omega) TL2.out.ivb HX.out).mono ?_
          rintro e V3 ⟨rfl, ho3, ev', iv', hd', hr3, hl3, hob1, hob2⟩
          have HP3 : Hid (GSt w V3 Q M R B0 ((wt : Int) - 1) wt rv rot rv1 rh1 true ({ t2 with ev := ev', H := H', iv := iv', hd := hd', A := A' } :: ts1) ents) :=
            HPC.out.popped ho3 rfl ⟨hr3, hl3⟩ (by simp [TG.fp, hob1, hob2])
          clear ho3 hr3 hl3 hob1 hob2 q6 HPC TL2
          have q6 := (HP3.out.q.tls _ List.mem_cons_self).row.cell 6
          have f6 := (HP3.out.q.tls _ List.mem_cons_self).row.frozen 6
          have q4 := HP3.out.q.rR.cell 4
          have f4 := HP3.out.q.rR.frozen 4
          simp at q6 q4
          have lb := (HP3.out.q.tls _ List.mem_cons_self).row.lt
          have lR := HP3.out.q.rR.lt
          simp only at lb f6
          go_wp2_with fail
          have HP4 : Hid (∀ m, GSt w ((((V3.setCell ⟨t2.b, 6, none⟩ (.int .i64 (t2.d - x.r.tk))).setCell ⟨R, 4, none⟩ (.int .i64 ((wt : Int) - 1))).alloc (.cells x.r.vs 83)).drewN m) Q M R B0 ((wt : Int) - 1) ((wt : Int) - 1) rv rot rv1 rh1 true ({ t2 with ev := ev', H := H', iv := iv', hd := hd', A := A', d := t2.d - x.r.tk } :: ts1) ents) :=
            fun m => (((HP3.out.setDef (t2.d - x.r.tk)).setRot 4 (.int .i64 ((wt : Int) - 1)) true ((wt : Int) - 1) rfl).ext ((Below.refl _ _).alloc (Nat.le_refl _) _)).drewN m
          have RR4 : Hid (∀ m, Row ((((V3.setCell ⟨t2.b, 6, none⟩ (.int .i64 (t2.d - x.r.tk))).setCell ⟨R, 4, none⟩ (.int .i64 ((wt : Int) - 1))).alloc (.cells x.r.vs 83)).drewN m) V3.heap.size 83 x.r.vs) := fun m => (row_new _ _ _ _ (by simp)).drewN m
          clear q6 f6 q4 f4 HP3
          have hlen' := opop_len HX.out
          have LN41 : Hid (Calls Yba.prog 41 #[.pointer (some ⟨t2.b, 0, none⟩)] ((((V3.setCell ⟨t2.b, 6, none⟩ (.int .i64 (t2.d - x.r.tk))).setCell ⟨R, 4, none⟩ (.int .i64 ((wt : Int) - 1))).alloc (.cells x.r.vs 83))) fun e w' => e = .returned (.int .i64 ((H'.length + A'.length : Nat) : Int)) ∧ ∃ k, w' = ((((V3.setCell ⟨t2.b, 6, none⟩ (.int .i64 (t2.d - x.r.tk))).setCell ⟨R, 4, none⟩ (.int .i64 ((wt : Int) - 1))).alloc (.cells x.r.vs 83))).drewN k) := by
            have h4 := (HP4.out 0).q.tls _ List.mem_cons_self
            exact ordLen_g t2.b hd' ev' iv' H' A' _ _ _ _ _ h4.row h4.ord (by omega) (by omega)
          refine LN41.out.mono ?_
          rintro e w4 ⟨rfl, m4, rfl⟩
          clear LN41
          obtain ⟨W4, hW4⟩ : ∃ W4, W4 = ((((V3.setCell ⟨t2.b, 6, none⟩ (.int .i64 (t2.d - x.r.tk))).setCell ⟨R, 4, none⟩ (.int .i64 ((wt : Int) - 1))).alloc (.cells x.r.vs 83)).drewN m4) := ⟨_, rfl⟩
          have HP5 := Hid.mk (HP4.out m4)
          have RR5 := Hid.mk (RR4.out m4)
          rw [← hW4] at HP5 RR5 ⊢
          clear HP4 RR4 hW4
          generalize V3.heap.size = B9 at *
          by_cases hemp : H' ++ A' = []
          · have hl0 : (((H'.length + A'.length : Nat) : Int) == 0) = true := by
              have := congrArg List.length hemp
              simp at this
              simp [this]
            obtain ⟨LL, hLL⟩ : ∃ LL : Int, LL = ((H'.length + A'.length : Nat) : Int) := ⟨_, rfl⟩
            rw [← hLL] at hl0 ⊢
            have hR := Hid.mk (HP5.out.q.line.ne HP5.out.q.rR (by decide))
            go_wp2_with fail
            refine (popP_line R rh1 rv1 (some ⟨t2.b, 0, none⟩) (ts1.map TG.ptr) _ _ _ W4 HP5.out.q.rR HP5.out.q.line hR.out).mono ?_
            rintro e V6 ⟨rfl, ho6, rv6, rh6, r6, l6, ob6⟩
            have HP6 := Hid.mk (HP5.out.turned ho6 (HP5.out.q.turned ho6 rv6 rh6 true ts1 r6 l6 (fun s hs => List.mem_cons_of_mem _ hs) (List.pairwise_cons.1 HP5.out.q.pw).2) (fun k hk => .inl (ob6 ▸ hk)) (fun s hs => List.mem_cons_of_mem _ hs))
            have RR6 : Hid (Row V6 B9 83 x.r.vs) := RR5.out.only ho6 (by
              simp only [List.mem_cons, Option.mem_toList, not_or]
              exact ⟨RR5.out.ne HP5.out.q.rR (by decide), fun h => HP5.out.q.line.ne RR5.out (by decide) h⟩)
            clear ho6 r6 l6 ob6
            have k3 := HP6.out.q.rR.cell 3
            have f3 := HP6.out.q.rR.frozen 3
            simp at k3
            have lR6 := HP6.out.q.rR.lt
            go_wp2_with fail
            refine wp_world (fun V => GSt w V Q M R B0 ((wt : Int) - 1) ((wt : Int) - 1) rv rot rv6 rh6 false ts1 ents ∧ Row V B9 83 x.r.vs) ?_ ?_
            · exact ⟨HP6.out.setRot 3 (.bool false) false ((wt : Int) - 1) rfl, RR6.out.setOther (RR6.out.ne HP6.out.q.rR (by decide)) _ _⟩
            clear HP5 RR5 HP6 RR6 k3 f3
            rintro V7 ⟨hP7, rr7⟩
            obtain ⟨Wd, hWd⟩ := Classical.skolem.1 (fun k => run_delete (hP7.q.mp.only (S := []) ((Only.refl _ _).drewN k) (by simp)) x.r.tn 0)
            have hdel := fun k => (hWd k).1
            have q4 := hP7.q.rQ.cell 4
            have b1 := rr7.cell 1
            simp at q4 b1
            have HPd : Hid (∀ k, GSt w (Wd k) Q M R B0 ((wt : Int) - 1) ((wt : Int) - 1) rv rot rv6 rh6 false ts1 (delE x.r.tn ents)) := fun k => (hP7.drewN k).mapped (hWd k).2.2 (hWd k).2.1
            have zB9 : ∀ k i, (Wd k).cell? ⟨B9, i, none⟩ = x.r.vs[i]? := fun k i => ((rr7.drewN k).only (hWd k).2.2 (by simpa using (hP7.q.mp.ne rr7).symm)).cell i
            have zB0 : ∀ k i, (Wd k).cell? ⟨B0, i, none⟩ = zeroReq[i]? := fun k i => (HPd.out k).res.cell i
            have fB0 : ∀ k i, (Wd k).frozen? ⟨B0, i, none⟩ = false := fun k i => (HPd.out k).res.frozen i
            clear hWd hP7 rr7
            refine wp_region_drawn_tail 6 (by kernel_rfl) (by kernel_rfl) ?_
            simp only [List.take_succ_cons, List.take_zero, List.drop_succ_cons, List.drop_zero]
            repeat (go_big_quiet_step (fail))
            refine wpQuiet_nil ?_
            rintro _ ⟨m7, rfl⟩
            go_wp2
            have ho8 := (((((((Only.refl [B0] (Wd m7)).setCell (p := ⟨B0, 0, none⟩) (by simp) (.int .i64 x.r.id)).setCell (p := ⟨B0, 1, none⟩) (by simp) (.string x.r.tn)).setCell (p := ⟨B0, 2, none⟩) (by simp) (.int .i64 x.r.tk)).setCell (p := ⟨B0, 3, none⟩) (by simp) (.int .i64 x.r.pr)).setCell (p := ⟨B0, 4, none⟩) (by simp) (.int .i64 x.r.dl)).setCell (p := ⟨B0, 5, none⟩) (by simp) (.bool x.r.hd))
            obtain ⟨g1, g2, g3⟩ := (HPd.out m7).fin hB0.out ho8
            refine bodyPost_ret (v := .tuple #[.agg x.r.vs, .bool true]) (by simp [results, Yba.results18, go_sem, zB0]) rfl ⟨x, rfl, t2, ts1, rv6, rh6, false, ts1, _, H', A', HT.out.perm, HX.out, g1, g2, g3, HT.out.left, .inl ⟨hemp, rfl, rfl⟩⟩
          · have hl0 : (((H'.length + A'.length : Nat) : Int) == 0) = false := by
              rw [beq_eq_false_iff_ne]
              intro e
              refine hemp (List.eq_nil_of_length_eq_zero ?_)
              rw [List.length_append]
              omega
            obtain ⟨LL, hLL⟩ : ∃ LL : Int, LL = ((H'.length + A'.length : Nat) : Int) := ⟨_, rfl⟩
            rw [← hLL] at hl0 ⊢
            clear hLL
            have HEMP := Hid.mk hemp
            clear hemp
            obtain ⟨y, hy⟩ : ∃ y, y = oFront H' A' := ⟨_, rfl⟩
            have hfy : Hid (OFront H' A' y) := by rw [hy]; exact oFront_is HEMP.out
            have q6 := fun u : Ext W4 => ((HP5.out.q.tls _ List.mem_cons_self).row.ext u).cell 6
            have c0 := fun u : Ext W4 => (HP5.out.q.rR.ext u).cell 0
            simp at q6 c0
            have FRO : Hid (∀ u : Ext W4, Calls Yba.prog 39 #[.pointer (some ⟨t2.b, 0, none⟩)] u.1 fun e w' => e = .returned (.agg y.r.vs) ∧ Below u.1.heap.size u.1 w') :=
              fun u => ordFront_g t2.b hd' ev' iv' H' A' y _ _ _ _ u.1 ((HP5.out.q.tls _ List.mem_cons_self).row.ext u) ((HP5.out.q.tls _ List.mem_cons_self).ord.same (Only.ofBelow u.2)) (by omega) hfy.out
            have ne : Nonempty (Ext W4) := ⟨⟨W4, Below.refl _ _⟩⟩
            have HY := Hid.mk hy
            clear hy
            by_cases hy : t2.d - x.r.tk < y.r.tk
            · go_wp2_with fail
              refine wp_region_ext (by kernel_rfl) (by kernel_rfl) ?_
              unfold InExt
              repeat (go_big_quiet_step (first | (go_at_call 39; exact quietE _ (FRO.out _)) | (go_at_call 34; exact quietE _ (cost_any y.r _))))
              refine wpQuiet_nil ?_
              rintro _ ⟨u, rfl⟩
              have HP6 := Hid.mk (HP5.out.ext u.2)
              have RR6 := Hid.mk (RR5.out.ext u)
              clear q6 c0 FRO ne HP5 RR5
              go_wp2_with fail
              refine (endTurn_g Q M R rh1 _ _ rv1 true _ ts1 ents _ HP6.out.q (by omega)).mono ?_
              rintro e V7 ⟨rfl, ho7, rv7, rh7, q7, new7⟩
              have HP7 := Hid.mk (HP6.out.turned ho7 q7 new7 (by intro s hs; simp at hs ⊢; rcases hs with e | e <;> simp [e]))
              have RR7 : Hid (Row V7 B9 83 x.r.vs) := RR6.out.only ho7 (by
                simp only [List.mem_cons, Option.mem_toList, not_or]
                exact ⟨RR6.out.ne HP6.out.q.rR (by decide), fun h => HP6.out.q.line.ne RR6.out (by decide) h⟩)
              clear ho7 q7 new7
              have zB9 := fun i => RR7.out.cell i
              have zB0 := fun i => HP7.out.res.cell i
              have fB0 := fun i => HP7.out.res.frozen i
              clear HP6 RR6
              go_wp2
              have ho8 := (((((((Only.refl [B0] V7).setCell (p := ⟨B0, 0, none⟩) (by simp) (.int .i64 x.r.id)).setCell (p := ⟨B0, 1, none⟩) (by simp) (.string x.r.tn)).setCell (p := ⟨B0, 2, none⟩) (by simp) (.int .i64 x.r.tk)).setCell (p := ⟨B0, 3, none⟩) (by simp) (.int .i64 x.r.pr)).setCell (p := ⟨B0, 4, none⟩) (by simp) (.int .i64 x.r.dl)).setCell (p := ⟨B0, 5, none⟩) (by simp) (.bool x.r.hd))
              obtain ⟨g1, g2, g3⟩ := HP7.out.fin hB0.out ho8
              refine bodyPost_ret (v := .tuple #[.agg x.r.vs, .bool true]) (by simp [results, Yba.results18, go_sem, zB0]) rfl ⟨x, rfl, t2, ts1, rv7, rh7, false, _, _, H', A', HT.out.perm, HX.out, g1, g2, g3, HT.out.goes HX.out HEMP.out ev' iv' hd' _ (by omega) (by rw [← HY.out]; exact hy), .inr ⟨HEMP.out, rfl, { t2 with ev := ev', H := H', iv := iv', hd := hd', A := A', d := t2.d - x.r.tk }, rfl, rfl, rfl, rfl, rfl, .inr rfl⟩⟩
            · go_wp2_with fail
              refine wp_region_ext (by kernel_rfl) (by kernel_rfl) ?_
              unfold InExt
              repeat (go_big_quiet_step (first | (go_at_call 39; exact quietE _ (FRO.out _)) | (go_at_call 34; exact quietE _ (cost_any y.r _))))
              refine wpQuiet_nil ?_
              rintro _ ⟨u, rfl⟩
              have HP6 := Hid.mk (HP5.out.ext u.2)
              have RR6 := Hid.mk (RR5.out.ext u)
              clear q6 c0 FRO ne HP5 RR5
              have zB9 := fun i => RR6.out.cell i
              have zB0 := fun i => HP6.out.res.cell i
              have fB0 := fun i => HP6.out.res.frozen i
              go_wp2
              have ho8 := (((((((Only.refl [B0] u.1).setCell (p := ⟨B0, 0, none⟩) (by simp) (.int .i64 x.r.id)).setCell (p := ⟨B0, 1, none⟩) (by simp) (.string x.r.tn)).setCell (p := ⟨B0, 2, none⟩) (by simp) (.int .i64 x.r.tk)).setCell (p := ⟨B0, 3, none⟩) (by simp) (.int .i64 x.r.pr)).setCell (p := ⟨B0, 4, none⟩) (by simp) (.int .i64 x.r.dl)).setCell (p := ⟨B0, 5, none⟩) (by simp) (.bool x.r.hd))
              obtain ⟨g1, g2, g3⟩ := HP6.out.fin hB0.out ho8
              refine bodyPost_ret (v := .tuple #[.agg x.r.vs, .bool true]) (by simp [results, Yba.results18, go_sem, zB0]) rfl ⟨x, rfl, t2, ts1, rv1, rh1, true, _, _, H', A', HT.out.perm, HX.out, g1, g2, g3, HT.out.stays HX.out HEMP.out ev' iv' hd' _ (by omega) (by omega) (by rw [← HY.out]; omega), .inr ⟨HEMP.out, rfl, { t2 with ev := ev', H := H', iv := iv', hd := hd', A := A', d := t2.d - x.r.tk }, rfl, rfl, rfl, rfl, rfl, .inl rfl⟩⟩
        · have hlt2 : t1.d + t1.q < t1.c := by
            have := hc1.out
            omega
          have HPM3 := Hid.mk GPM.out
          have HG3 := Hid.mk (GALL.out hlt2)
          have HGP3 := Hid.mk (GAP.out hlt2)
          have HSH3 := Hid.mk (GSH.out hlt2)
          clear GALL GAP GSH GPM hlt2 hc1 HT
          go_wp2_with fail
          refine (endTurn_g Q M R rh1 _ _ rv1 true t2 ts1 ents _ HPC.out.q (by omega)).mono ?_
          rintro e V4 ⟨rfl, ho4, rv4, rh4, hq4, hnew4⟩
          have HP4 := Hid.mk (HPC.out.turned ho4 hq4 hnew4 (by intro s hs; simp at hs ⊢; rcases hs with e | e <;> simp [e]))
          clear ho4 hq4 hnew4 HPC
          go_wp2
          go_roundg (gaps (ts1 ++ [t2]))
          case measure => exact HGP3.out
          case rel => exact ⟨0 + 1, false, rv4, rh4, ts1 ++ [t2], by simp, Nat.le_refl _, HP4.out, HPM3.out, HG3.out, by simp, by simp only [List.length_append, List.length_cons, List.length_nil]; omega, fun e => absurd e (by simp), HSH3.out⟩
      · have hie : ((idle : Int) == (ts.length : Int) + 1) = false := by rw [beq_eq_false_iff_ne]; omega
        go_wp2_with fail
        refine (LN.out _).mono ?_
        rintro e w1 ⟨rfl, m2, rfl⟩
        obtain ⟨w2, hw2⟩ : ∃ w2, w2 = (wr.drewN m1).drewN m2 := ⟨_, rfl⟩
        have HP2 : Hid (GSt w w2 Q M R B0 ((wt : Int) - 1) wt rv rot rv1 rh1 false (t :: ts) ents) := by
          rw [hw2]; exact (HP.out.drewN m1).drewN m2
        rw [← hw2]
        clear hw2 HP FR LN HG
        generalize t = t1 at *
        generalize ts = ts1 at *
        have hidl1 : Hid (idle < (t1 :: ts1).length) := by simp only [List.length_cons]; exact Hid.mk (by omega)
        have HSH2 := HSH
        have k3 := HP2.out.q.rR.cell 3
        have f3 := HP2.out.q.rR.frozen 3
        simp at k3
        have q5 := (HP2.out.q.tls t1 (by simp)).row.cell 5
        have q6 := (HP2.out.q.tls t1 (by simp)).row.cell 6
        have f6 := (HP2.out.q.tls t1 (by simp)).row.frozen 6
        simp at q5 q6
        have tk1 := hall.out t1 (by simp)
        have b0 := tk1.d0
        have b1 := tk1.d1
        have b2 := tk1.q0
        have b3 := tk1.q1
        have hbl := (HP2.out.q.tls t1 (by simp)).row.lt
        go_wp2_with fail
        refine wp_region_drawn_tail 17 (by kernel_rfl) (by kernel_rfl) ?_
        simp only [List.take_succ_cons, List.take_zero, List.drop_succ_cons, List.drop_zero]
        repeat (go_big_quiet_step (fail))
        refine wpQuiet_nil ?_
        rintro _ ⟨m3, rfl⟩
        go_wp2_with fail
        refine wp_world (fun V => GSt w V Q M R B0 ((wt : Int) - 1) wt rv rot rv1 rh1 true ({ t1 with d := t1.d + t1.q } :: ts1) ents) ?_ ?_
        · exact ((HP2.out.drewN _).setDef (t1.d + t1.q)).setRot 3 (.bool true) true wt rfl
        rintro V hP3
        have HP3 := Hid.mk hP3
        clear hP3
        have HT : Hid (GTurn rot { t1 with d := t1.d + t1.q } ts1) := ⟨HPM.out, tk1.setD _ (by omega) (by omega), fun s hs => hall.out s (by simp [hs]), by omega⟩
        have hold : Hid (t1.d + 1 ≤ t1.d + t1.q ∧ 0 ≤ t1.d) := ⟨by omega, b0⟩
        have GAP : Hid (t1.d + t1.q < t1.c → gaps (ts1 ++ [{ t1 with d := t1.d + t1.q }]) < gk) := fun hc => by
          have h1 := gap_turn hold.out.1 hc
          have h2 := HGP.out
          rw [gaps_cons] at h2
          rw [gaps_snoc]
          omega
        have GALL : Hid (t1.d + t1.q < t1.c → GI false (ts1 ++ [{ t1 with d := t1.d + t1.q }])) := fun hc => by
          refine GI.of_all (by simp; omega) fun s hs => ?_
          rcases List.mem_append.1 hs with g | g
          · exact hall.out s (by simp [g])
          · rw [List.mem_singleton.1 g]
            have := (hall.out t1 (by simp)).c
            exact (hall.out t1 (by simp)).setD _ (by omega) (by omega)
        have GSH : Hid (t1.d + t1.q < t1.c → Short (idle + 1) (ts1 ++ [{ t1 with d := t1.d + t1.q }])) := fun hc => HSH2.out.turn hidl1.out hc
        have GPM : Hid (((ts1 ++ [{ t1 with d := t1.d + t1.q }]).map TG.core).Perm (rot.map TG.core)) := (perm_turn t1 _ ts1).trans HPM.out
        clear q5 q6 f6 k3 f3 HP2 hold tk1 b0 b1 b2 b3 hbl HSH2 HPM HGP hall
        rw [show t1.b = ({ t1 with d := t1.d + t1.q } : TG).b from rfl]
        have hc1 : Hid (({ t1 with d := t1.d + t1.q } : TG).d = t1.d + t1.q ∧ ({ t1 with d := t1.d + t1.q } : TG).c = t1.c) := ⟨rfl, rfl⟩
        generalize ({ t1 with d := t1.d + t1.q } : TG) = t2 at *
        obtain ⟨x, hx⟩ : ∃ x, x = t2.fr := ⟨_, rfl⟩
        have hfx : Hid (OFront t2.H t2.A x) := by rw [hx]; exact oFront_is HT.out.t0.ne
        have htk := HT.out.t0.c
        have hcx : t2.c = x.r.tk := by rw [hx]; rfl
        rw [hcx] at htk
        have hd0 := HT.out.t0.d0
        have hd1 := HT.out.t0.d1
        obtain ⟨H', A', hpop⟩ := opop_front HT.out.t0.ne
        have HX : Hid (OPop t2.H t2.A x H' A') := by rw [hx]; exact hpop
        have hlA := HT.out.t0.lA
        have hlH := HT.out.t0.lH
        clear hpop hx
        have tl := HP3.out.q.tls t2 (by simp)
        have c0 := fun u : Ext V => (HP3.out.q.rR.ext u).cell 0
        simp at c0
        have FRO : Hid (∀ u : Ext V, Calls Yba.prog 39 #[.pointer (some ⟨t2.b, 0, none⟩)] u.1 fun e w' => e = .returned (.agg x.r.vs) ∧ Below u.1.heap.size u.1 w') :=
          fun u => ordFront_g t2.b t2.hd t2.ev t2.iv t2.H t2.A x _ _ _ _ u.1 (tl.row.ext u) (tl.ord.same (Only.ofBelow u.2)) (by omega) hfx.out
        have ne : Nonempty (Ext V) := ⟨⟨V, Below.refl _ _⟩⟩
        refine wp_region_ext (by kernel_rfl) (by kernel_rfl) ?_
        unfold InExt
        repeat (go_big_quiet_step (first | (go_at_call 39; exact quietE _ (FRO.out _)) | (go_at_call 34; exact quietE _ (cost_any x.r _))))
        refine wpQuiet_nil ?_
        rintro _ ⟨u, rfl⟩
        have q6 := (tl.row.ext u).cell 6
        simp at q6
        have HPC := Hid.mk (HP3.out.ext u.2)
        clear c0 FRO ne HP3 tl
        by_cases hfit : t2.c ≤ t2.d
        · have hfit2 : x.r.tk ≤ t2.d := by omega
          have TL2 := Hid.mk (HPC.out.q.tls t2 (by simp))
          clear hfit GAP GALL GSH GPM hc1
          go_wp2_with fail
          refine (ordPop_g t2.b t2.hd t2.ev t2.iv t2.H t2.A H' A' x _ _ _ _ u.1 TL2.out.row TL2.out.ord (by omega) (by omega) TL2.out.ivb HX.out).mono ?_
          rintro e V3 ⟨rfl, ho3, ev', iv', hd', hr3, hl3, hob1, hob2⟩
          have HP3 : Hid (GSt w V3 Q M R B0 ((wt : Int) - 1) wt rv rot rv1 rh1 true ({ t2 with ev := ev', H := H', iv := iv', hd := hd', A := A' } :: ts1) ents) :=
            HPC.out.popped ho3 rfl ⟨hr3, hl3⟩ (by simp [TG.fp, hob1, hob2])
          clear ho3 hr3 hl3 hob1 hob2 q6 HPC TL2
          have q6 := (HP3.out.q.tls _ List.mem_cons_self).row.cell 6
          have f6 := (HP3.out.q.tls _ List.mem_cons_self).row.frozen 6
          have q4 := HP3.out.q.rR.cell 4
          have f4 := HP3.out.q.rR.frozen 4
          simp at q6 q4
          have lb := (HP3.out.q.tls _ List.mem_cons_self).row.lt
          have lR := HP3.out.q.rR.lt
          simp only at lb f6
          go_wp2_with fail
          have HP4 : Hid (∀ m, GSt w ((((V3.setCell ⟨t2.b, 6, none⟩ (.int .i64 (t2.d - x.r.tk))).setCell ⟨R, 4, none⟩ (.int .i64 ((wt : Int) - 1))).alloc (.cells x.r.vs 83)).drewN m) Q M R B0 ((wt : Int) - 1) ((wt : Int) - 1) rv rot rv1 rh1 true ({ t2 with ev := ev', H := H', iv := iv', hd := hd', A := A', d := t2.d - x.r.tk } :: ts1) ents) :=
            fun m => (((HP3.out.setDef (t2.d - x.r.tk)).setRot 4 (.int .i64 ((wt : Int) - 1)) true ((wt : Int) - 1) rfl).ext ((Below.refl _ _).alloc (Nat.le_refl _) _)).drewN m
          have RR4 : Hid (∀ m, Row ((((V3.setCell ⟨t2.b, 6, none⟩ (.int .i64 (t2.d - x.r.tk))).setCell ⟨R, 4, none⟩ (.int .i64 ((wt : Int) - 1))).alloc (.cells x.r.vs 83)).drewN m) V3.heap.size 83 x.r.vs) := fun m => (row_new _ _ _ _ (by simp)).drewN m
          clear q6 f6 q4 f4 HP3
          have hlen' := opop_len HX.out
          have LN41 : Hid (Calls Yba.prog 41 #[.pointer (some ⟨t2.b, 0, none⟩)] ((((V3.setCell ⟨t2.b, 6, none⟩ (.int .i64 (t2.d - x.r.tk))).setCell ⟨R, 4, none⟩ (.int .i64 ((wt : Int) - 1))).alloc (.cells x.r.vs 83))) fun e w' => e = .returned (.int .i64 ((H'.length + A'.length : Nat) : Int)) ∧ ∃ k, w' = ((((V3.setCell ⟨t2.b, 6, none⟩ (.int .i64 (t2.d - x.r.tk))).setCell ⟨R, 4, none⟩ (.int .i64 ((wt : Int) - 1))).alloc (.cells x.r.vs 83))).drewN k) := by
            have h4 := (HP4.out 0).q.tls _ List.mem_cons_self
            exact ordLen_g t2.b hd' ev' iv' H' A' _ _ _ _ _ h4.row h4.ord (by omega) (by omega)
          refine LN41.out.mono ?_
          rintro e w4 ⟨rfl, m4, rfl⟩
          clear LN41
          obtain ⟨W4, hW4⟩ : ∃ W4, W4 = ((((V3.setCell ⟨t2.b, 6, none⟩ (.int .i64 (t2.d - x.r.tk))).setCell ⟨R, 4, none⟩ (.int .i64 ((wt : Int) - 1))).alloc (.cells x.r.vs 83)).drewN m4) := ⟨_, rfl⟩
          have HP5 := Hid.mk (HP4.out m4)
          have RR5 := Hid.mk (RR4.out m4)
          rw [← hW4] at HP5 RR5 ⊢
          clear HP4 RR4 hW4
          generalize V3.heap.size = B9 at *
          by_cases hemp : H' ++ A' = []
          · have hl0 : (((H'.length + A'.length : Nat) : Int) == 0) = true := by
              have := congrArg List.length hemp
              simp at this
              simp [this]
            obtain ⟨LL, hLL⟩ : ∃ LL : Int, LL = ((H'.length + A'.length : Nat) : Int) := ⟨_, rfl⟩
            rw [← hLL] at hl0 ⊢
            have hR := Hid.mk (HP5.out.q.line.ne HP5.out.q.rR (by decide))
            go_wp2_with fail
            refine (popP_line R rh1 rv1 (some ⟨t2.b, 0, none⟩) (ts1.map TG.ptr) _ _ _ W4 HP5.out.q.rR HP5.out.q.line hR.out).mono ?_
            rintro e V6 ⟨rfl, ho6, rv6, rh6, r6, l6, ob6⟩
            have HP6 := Hid.mk (HP5.out.turned ho6 (HP5.out.q.turned ho6 rv6 rh6 true ts1 r6 l6 (fun s hs => List.mem_cons_of_mem _ hs) (List.pairwise_cons.1 HP5.out.q.pw).2) (fun k hk => .inl (ob6 ▸ hk)) (fun s hs => List.mem_cons_of_mem _ hs))
            have RR6 : Hid (Row V6 B9 83 x.r.vs) := RR5.out.only ho6 (by
              simp only [List.mem_cons, Option.mem_toList, not_or]
              exact ⟨RR5.out.ne HP5.out.q.rR (by decide), fun h => HP5.out.q.line.ne RR5.out (by decide) h⟩)
            clear ho6 r6 l6 ob6
            have k3 := HP6.out.q.rR.cell 3
            have f3 := HP6.out.q.rR.frozen 3
            simp at k3
            have lR6 := HP6.out.q.rR.lt
            go_wp2_with fail
            refine wp_world (fun V => GSt w V Q M R B0 ((wt : Int) - 1) ((wt : Int) - 1) rv rot rv6 rh6 false ts1 ents ∧ Row V B9 83 x.r.vs) ?_ ?_
            · exact ⟨HP6.out.setRot 3 (.bool false) false ((wt : Int) - 1) rfl, RR6.out.setOther (RR6.out.ne HP6.out.q.rR (by decide)) _ _⟩
            clear HP5 RR5 HP6 RR6 k3 f3
            rintro V7 ⟨hP7, rr7⟩
            obtain ⟨Wd, hWd⟩ := Classical.skolem.1 (fun k => run_delete (hP7.q.mp.only (S := []) ((Only.refl _ _).drewN k) (by simp)) x.r.tn 0)
            have hdel := fun k => (hWd k).1
            have q4 := hP7.q.rQ.cell 4
            have b1 := rr7.cell 1
            simp at q4 b1
            have HPd : Hid (∀ k, GSt w (Wd k) Q M R B0 ((wt : Int) - 1) ((wt : Int) - 1) rv rot rv6 rh6 false ts1 (delE x.r.tn ents)) := fun k => (hP7.drewN k).mapped (hWd k).2.2 (hWd k).2.1
            have zB9 : ∀ k i, (Wd k).cell? ⟨B9, i, none⟩ = x.r.vs[i]? := fun k i => ((rr7.drewN k).only (hWd k).2.2 (by simpa using (hP7.q.mp.ne rr7).symm)).cell i
            have zB0 : ∀ k i, (Wd k).cell? ⟨B0, i, none⟩ = zeroReq[i]? := fun k i => (HPd.out k).res.cell i
            have fB0 : ∀ k i, (Wd k).frozen? ⟨B0, i, none⟩ = false := fun k i => (HPd.out k).res.frozen i
            clear hWd hP7 rr7
            refine wp_region_drawn_tail 6 (by kernel_rfl) (by kernel_rfl) ?_
            simp only [List.take_succ_cons, List.take_zero, List.drop_succ_cons, List.drop_zero]
            repeat (go_big_quiet_step (fail))
            refine wpQuiet_nil ?_
            rintro _ ⟨m7, rfl⟩
            go_wp2
            have ho8 := (((((((Only.refl [B0] (Wd m7)).setCell (p := ⟨B0, 0, none⟩) (by simp) (.int .i64 x.r.id)).setCell (p := ⟨B0, 1, none⟩) (by simp) (.string x.r.tn)).setCell (p := ⟨B0, 2, none⟩) (by simp) (.int .i64 x.r.tk)).setCell (p := ⟨B0, 3, none⟩) (by simp) (.int .i64 x.r.pr)).setCell (p := ⟨B0, 4, none⟩) (by simp) (.int .i64 x.r.dl)).setCell (p := ⟨B0, 5, none⟩) (by simp) (.bool x.r.hd))
            obtain ⟨g1, g2, g3⟩ := (HPd.out m7).fin hB0.out ho8
            refine bodyPost_ret (v := .tuple #[.agg x.r.vs, .bool true]) (by simp [results, Yba.results18, go_sem, zB0]) rfl ⟨x, rfl, t2, ts1, rv6, rh6, false, ts1, _, H', A', HT.out.perm, HX.out, g1, g2, g3, HT.out.left, .inl ⟨hemp, rfl, rfl⟩⟩
          · have hl0 : (((H'.length + A'.length : Nat) : Int) == 0) = false := by
              rw [beq_eq_false_iff_ne]
              intro e
              refine hemp (List.eq_nil_of_length_eq_zero ?_)
              rw [List.length_append]
              omega
            obtain ⟨LL, hLL⟩ : ∃ LL : Int, LL = ((H'.length + A'.length : Nat) : Int) := ⟨_, rfl⟩
            rw [← hLL] at hl0 ⊢
            clear hLL
            have HEMP := Hid.mk hemp
            clear hemp
            obtain ⟨y, hy⟩ : ∃ y, y = oFront H' A' := ⟨_, rfl⟩
            have hfy : Hid (OFront H' A' y) := by rw [hy]; exact oFront_is HEMP.out
            have q6 := fun u : Ext W4 => ((HP5.out.q.tls _ List.mem_cons_self).row.ext u).cell 6
            have c0 := fun u : Ext W4 => (HP5.out.q.rR.ext u).cell 0
            simp at q6 c0
            have FRO : Hid (∀ u : Ext W4, Calls Yba.prog 39 #[.pointer (some ⟨t2.b, 0, none⟩)] u.1 fun e w' => e = .returned (.agg y.r.vs) ∧ Below u.1.heap.size u.1 w') :=
              fun u => ordFront_g t2.b hd' ev' iv' H' A' y _ _ _ _ u.1 ((HP5.out.q.tls _ List.mem_cons_self).row.ext u) ((HP5.out.q.tls _ List.mem_cons_self).ord.same (Only.ofBelow u.2)) (by omega) hfy.out
            have ne : Nonempty (Ext W4) := ⟨⟨W4, Below.refl _ _⟩⟩
            have HY := Hid.mk hy
            clear hy
            by_cases hy : t2.d - x.r.tk < y.r.tk
            · go_wp2_with fail
              refine wp_region_ext (by kernel_rfl) (by kernel_rfl) ?_
              unfold InExt
              repeat (go_big_quiet_step (first | (go_at_call 39; exact quietE _ (FRO.out _)) | (go_at_call 34; exact quietE _ (cost_any y.r _))))
              refine wpQuiet_nil ?_
              rintro _ ⟨u, rfl⟩
              have HP6 := Hid.mk (HP5.out.ext u.2)
              have RR6 := Hid.mk (RR5.out.ext u)
              clear q6 c0 FRO ne HP5 RR5
              go_wp2_with fail
              refine (endTurn_g Q M R rh1 _ _ rv1 true _ ts1 ents _ HP6.out.q (by omega)).mono ?_
              rintro e V7 ⟨rfl, ho7, rv7, rh7, q7, new7⟩
              have HP7 := Hid.mk (HP6.out.turned ho7 q7 new7 (by intro s hs; simp at hs ⊢; rcases hs with e | e <;> simp [e]))
              have RR7 : Hid (Row V7 B9 83 x.r.vs) := RR6.out.only ho7 (by
                simp only [List.mem_cons, Option.mem_toList, not_or]
                exact ⟨RR6.out.ne HP6.out.q.rR (by decide), fun h => HP6.out.q.line.ne RR6.out (by decide) h⟩)
              clear ho7 q7 new7
              have zB9 := fun i => RR7.out.cell i
              have zB0 := fun i => HP7.out.res.cell i
              have fB0 := fun i => HP7.out.res.frozen i
              clear HP6 RR6
              go_wp2
              have ho8 := (((((((Only.refl [B0] V7).setCell (p := ⟨B0, 0, none⟩) (by simp) (.int .i64 x.r.id)).setCell (p := ⟨B0, 1, none⟩) (by simp) (.string x.r.tn)).setCell (p := ⟨B0, 2, none⟩) (by simp) (.int .i64 x.r.tk)).setCell (p := ⟨B0, 3, none⟩) (by simp) (.int .i64 x.r.pr)).setCell (p := ⟨B0, 4, none⟩) (by simp) (.int .i64 x.r.dl)).setCell (p := ⟨B0, 5, none⟩) (by simp) (.bool x.r.hd))
              obtain ⟨g1, g2, g3⟩ := HP7.out.fin hB0.out ho8
              refine bodyPost_ret (v := .tuple #[.agg x.r.vs, .bool true]) (by simp [results, Yba.results18, go_sem, zB0]) rfl ⟨x, rfl, t2, ts1, rv7, rh7, false, _, _, H', A', HT.out.perm, HX.out, g1, g2, g3, HT.out.goes HX.out HEMP.out ev' iv' hd' _ (by omega) (by rw [← HY.out]; exact hy), .inr ⟨HEMP.out, rfl, { t2 with ev := ev', H := H', iv := iv', hd := hd', A := A', d := t2.d - x.r.tk }, rfl, rfl, rfl, rfl, rfl, .inr rfl⟩⟩
            · go_wp2_with fail
              refine wp_region_ext (by kernel_rfl) (by kernel_rfl) ?_
              unfold InExt
              repeat (go_big_quiet_step (first | (go_at_call 39; exact quietE _ (FRO.out _)) | (go_at_call 34; exact quietE _ (cost_any y.r _))))
              refine wpQuiet_nil ?_
              rintro _ ⟨u, rfl⟩
              have HP6 := Hid.mk (HP5.out.ext u.2)
              have RR6 := Hid.mk (RR5.out.ext u)
              clear q6 c0 FRO ne HP5 RR5
              have zB9 := fun i => RR6.out.cell i
              have zB0 := fun i => HP6.out.res.cell i
              have fB0 := fun i => HP6.out.res.frozen i
              go_wp2
              have ho8 := (((((((Only.refl [B0] u.1).setCell (p := ⟨B0, 0, none⟩) (by simp) (.int .i64 x.r.id)).setCell (p := ⟨B0, 1, none⟩) (by simp) (.string x.r.tn)).setCell (p := ⟨B0, 2, none⟩) (by simp) (.int .i64 x.r.tk)).setCell (p := ⟨B0, 3, none⟩) (by simp) (.int .i64 x.r.pr)).setCell (p := ⟨B0, 4, none⟩) (by simp) (.int .i64 x.r.dl)).setCell (p := ⟨B0, 5, none⟩) (by simp) (.bool x.r.hd))
              obtain ⟨g1, g2, g3⟩ := HP6.out.fin hB0.out ho8
              refine bodyPost_ret (v := .tuple #[.agg x.r.vs, .bool true]) (by simp [results, Yba.results18, go_sem, zB0]) rfl ⟨x, rfl, t2, ts1, rv1, rh1, true, _, _, H', A', HT.out.perm, HX.out, g1, g2, g3, HT.out.stays HX.out HEMP.out ev' iv' hd' _ (by omega) (by omega) (by rw [← HY.out]; omega), .inr ⟨HEMP.out, rfl, { t2 with ev := ev', H := H', iv := iv', hd := hd', A := A', d := t2.d - x.r.tk }, rfl, rfl, rfl, rfl, rfl, .inl rfl⟩⟩
        · have hlt2 : t1.d + t1.q < t1.c := by
            have := hc1.out
            omega
          have HPM3 := Hid.mk GPM.out
          have HG3 := Hid.mk (GALL.out hlt2)
          have HGP3 := Hid.mk (GAP.out hlt2)
          have HSH3 := Hid.mk (GSH.out hlt2)
          clear GALL GAP GSH GPM hlt2 hc1 HT
          go_wp2_with fail
          refine (endTurn_g Q M R rh1 _ _ rv1 true t2 ts1 ents _ HPC.out.q (by omega)).mono ?_
          rintro e V4 ⟨rfl, ho4, rv4, rh4, hq4, hnew4⟩
          have HP4 := Hid.mk (HPC.out.turned ho4 hq4 hnew4 (by intro s hs; simp at hs ⊢; rcases hs with e | e <;> simp [e]))
          clear ho4 hq4 hnew4 HPC
          go_wp2
          go_roundg (gaps (ts1 ++ [t2]))
          case measure => exact HGP3.out
          case rel => exact ⟨idle + 1, false, rv4, rh4, ts1 ++ [t2], by simp, Nat.le_refl _, HP4.out, HPM3.out, HG3.out, by simp, by simp only [List.length_append, List.length_cons, List.length_nil]; omega, fun e => absurd e (by simp), HSH3.out⟩
    · have hid0 : idle = 0 := hit rfl
      subst hid0
      clear hit
      go_wp2_with fail
      refine FR.out.mono ?_
      rintro e w1 ⟨rfl, m1, rfl⟩
      have HT : Hid (GTurn rot t ts) := ⟨HPM.out, (HG.out.2.2.1 rfl).1, HG.out.2.1, hlts⟩
      have hfitT : t.c ≤ t.d := (HG.out.2.2.1 rfl).2
      obtain ⟨V, hV⟩ : ∃ V, V = wr.drewN m1 := ⟨_, rfl⟩
      have HP2 : Hid (GSt w V Q M R B0 ((wt : Int) - 1) wt rv rot rv1 rh1 true (t :: ts) ents) := by
        rw [hV]; exact HP.out.drewN m1
      go_wp2_with fail
      rw [← hV]
      clear hV HP FR HPM HG HSH HGP k3 f3
      obtain ⟨x, hx⟩ : ∃ x, x = t.fr := ⟨_, rfl⟩
      have hfx : Hid (OFront t.H t.A x) := by rw [hx]; exact oFront_is HT.out.t0.ne
      have htk := HT.out.t0.c
      have hcx : t.c = x.r.tk := by rw [hx]; rfl
      rw [hcx] at htk
      have hd0 := HT.out.t0.d0
      have hd1 := HT.out.t0.d1
      obtain ⟨H', A', hpop⟩ := opop_front HT.out.t0.ne
      have HX : Hid (OPop t.H t.A x H' A') := by rw [hx]; exact hpop
      have hlA := HT.out.t0.lA
      have hlH := HT.out.t0.lH
      clear hpop hx
      have tl := HP2.out.q.tls t (by simp)
      have c0 := fun u : Ext V => (HP2.out.q.rR.ext u).cell 0
      simp at c0
      have FRO : Hid (∀ u : Ext V, Calls Yba.prog 39 #[.pointer (some ⟨t.b, 0, none⟩)] u.1 fun e w' => e = .returned (.agg x.r.vs) ∧ Below u.1.heap.size u.1 w') :=
        fun u => ordFront_g t.b t.hd t.ev t.iv t.H t.A x _ _ _ _ u.1 (tl.row.ext u) (tl.ord.same (Only.ofBelow u.2)) (by omega) hfx.out
      have ne : Nonempty (Ext V) := ⟨⟨V, Below.refl _ _⟩⟩
      refine wp_region_ext (by kernel_rfl) (by kernel_rfl) ?_
      unfold InExt
      repeat (go_big_quiet_step (first | (go_at_call 39; exact quietE _ (FRO.out _)) | (go_at_call 34; exact quietE _ (cost_any x.r _))))
      refine wpQuiet_nil ?_
      rintro _ ⟨u, rfl⟩
      have q6 := (tl.row.ext u).cell 6
      simp at q6
      have HPC := Hid.mk (HP2.out.ext u.2)
      clear c0 FRO ne HP2 tl
      by_cases hfit : t.c ≤ t.d
      · have hfit2 : x.r.tk ≤ t.d := by omega
        have TL2 := Hid.mk (HPC.out.q.tls t (by simp))
        clear hfit hfitT
        go_wp2_with fail
        refine (ordPop_g t.b t.hd t.ev t.iv t.H t.A H' A' x _ _ _ _ u.1 TL2.out.row TL2.out.ord (by omega) (by omega) TL2.out.ivb HX.out).mono ?_
        rintro e V3 ⟨rfl, ho3, ev', iv', hd', hr3, hl3, hob1, hob2⟩
        have HP3 : Hid (GSt w V3 Q M R B0 ((wt : Int) - 1) wt rv rot rv1 rh1 true ({ t with ev := ev', H := H', iv := iv', hd := hd', A := A' } :: ts) ents) :=
          HPC.out.popped ho3 rfl ⟨hr3, hl3⟩ (by simp [TG.fp, hob1, hob2])
        clear ho3 hr3 hl3 hob1 hob2 q6 HPC TL2
        have q6 := (HP3.out.q.tls _ List.mem_cons_self).row.cell 6
        have f6 := (HP3.out.q.tls _ List.mem_cons_self).row.frozen 6
        have q4 := HP3.out.q.rR.cell 4
        have f4 := HP3.out.q.rR.frozen 4
        simp at q6 q4
        have lb := (HP3.out.q.tls _ List.mem_cons_self).row.lt
        have lR := HP3.out.q.rR.lt
        simp only at lb f6
        go_wp2_with fail
        have HP4 : Hid (∀ m, GSt w ((((V3.setCell ⟨t.b, 6, none⟩ (.int .i64 (t.d - x.r.tk))).setCell ⟨R, 4, none⟩ (.int .i64 ((wt : Int) - 1))).alloc (.cells x.r.vs 83)).drewN m) Q M R B0 ((wt : Int) - 1) ((wt : Int) - 1) rv rot rv1 rh1 true ({ t with ev := ev', H := H', iv := iv', hd := hd', A := A', d := t.d - x.r.tk } :: ts) ents) :=
          fun m => (((HP3.out.setDef (t.d - x.r.tk)).setRot 4 (.int .i64 ((wt : Int) - 1)) true ((wt : Int) - 1) rfl).ext ((Below.refl _ _).alloc (Nat.le_refl _) _)).drewN m
        have RR4 : Hid (∀ m, Row ((((V3.setCell ⟨t.b, 6, none⟩ (.int .i64 (t.d - x.r.tk))).setCell ⟨R, 4, none⟩ (.int .i64 ((wt : Int) - 1))).alloc (.cells x.r.vs 83)).drewN m) V3.heap.size 83 x.r.vs) := fun m => (row_new _ _ _ _ (by simp)).drewN m
        clear q6 f6 q4 f4 HP3
        have hlen' := opop_len HX.out
        have LN41 : Hid (Calls Yba.prog 41 #[.pointer (some ⟨t.b, 0, none⟩)] ((((V3.setCell ⟨t.b, 6, none⟩ (.int .i64 (t.d - x.r.tk))).setCell ⟨R, 4, none⟩ (.int .i64 ((wt : Int) - 1))).alloc (.cells x.r.vs 83))) fun e w' => e = .returned (.int .i64 ((H'.length + A'.length : Nat) : Int)) ∧ ∃ k, w' = ((((V3.setCell ⟨t.b, 6, none⟩ (.int .i64 (t.d - x.r.tk))).setCell ⟨R, 4, none⟩ (.int .i64 ((wt : Int) - 1))).alloc (.cells x.r.vs 83))).drewN k) := by
          have h4 := (HP4.out 0).q.tls _ List.mem_cons_self
          exact ordLen_g t.b hd' ev' iv' H' A' _ _ _ _ _ h4.row h4.ord (by omega) (by omega)
        refine LN41.out.mono ?_
        rintro e w4 ⟨rfl, m4, rfl⟩
        clear LN41
        obtain ⟨W4, hW4⟩ : ∃ W4, W4 = ((((V3.setCell ⟨t.b, 6, none⟩ (.int .i64 (t.d - x.r.tk))).setCell ⟨R, 4, none⟩ (.int .i64 ((wt : Int) - 1))).alloc (.cells x.r.vs 83)).drewN m4) := ⟨_, rfl⟩
        have HP5 := Hid.mk (HP4.out m4)
        have RR5 := Hid.mk (RR4.out m4)
        rw [← hW4] at HP5 RR5 ⊢
        clear HP4 RR4 hW4
        generalize V3.heap.size = B9 at *
        by_cases hemp : H' ++ A' = []
        · have hl0 : (((H'.length + A'.length : Nat) : Int) == 0) = true := by
            have := congrArg List.length hemp
            simp at this
            simp [this]
          obtain ⟨LL, hLL⟩ : ∃ LL : Int, LL = ((H'.length + A'.length : Nat) : Int) := ⟨_, rfl⟩
          rw [← hLL] at hl0 ⊢
          have hR := Hid.mk (HP5.out.q.line.ne HP5.out.q.rR (by decide))
          go_wp2_with fail
          refine (popP_line R rh1 rv1 (some ⟨t.b, 0, none⟩) (ts.map TG.ptr) _ _ _ W4 HP5.out.q.rR HP5.out.q.line hR.out).mono ?_
          rintro e V6 ⟨rfl, ho6, rv6, rh6, r6, l6, ob6⟩
          have HP6 := Hid.mk (HP5.out.turned ho6 (HP5.out.q.turned ho6 rv6 rh6 true ts r6 l6 (fun s hs => List.mem_cons_of_mem _ hs) (List.pairwise_cons.1 HP5.out.q.pw).2) (fun k hk => .inl (ob6 ▸ hk)) (fun s hs => List.mem_cons_of_mem _ hs))
          have RR6 : Hid (Row V6 B9 83 x.r.vs) := RR5.out.only ho6 (by
            simp only [List.mem_cons, Option.mem_toList, not_or]
            exact ⟨RR5.out.ne HP5.out.q.rR (by decide), fun h => HP5.out.q.line.ne RR5.out (by decide) h⟩)
          clear ho6 r6 l6 ob6
          have k3 := HP6.out.q.rR.cell 3
          have f3 := HP6.out.q.rR.frozen 3
          simp at k3
          have lR6 := HP6.out.q.rR.lt
          go_wp2_with fail
          refine wp_world (fun V => GSt w V Q M R B0 ((wt : Int) - 1) ((wt : Int) - 1) rv rot rv6 rh6 false ts ents ∧ Row V B9 83 x.r.vs) ?_ ?_
          · exact ⟨HP6.out.setRot 3 (.bool false) false ((wt : Int) - 1) rfl, RR6.out.setOther (RR6.out.ne HP6.out.q.rR (by decide)) _ _⟩
          clear HP5 RR5 HP6 RR6 k3 f3
          rintro V7 ⟨hP7, rr7⟩
          obtain ⟨Wd, hWd⟩ := Classical.skolem.1 (fun k => run_delete (hP7.q.mp.only (S := []) ((Only.refl _ _).drewN k) (by simp)) x.r.tn 0)
          have hdel := fun k => (hWd k).1
          have q4 := hP7.q.rQ.cell 4
          have b1 := rr7.cell 1
          simp at q4 b1
          have HPd : Hid (∀ k, GSt w (Wd k) Q M R B0 ((wt : Int) - 1) ((wt : Int) - 1) rv rot rv6 rh6 false ts (delE x.r.tn ents)) := fun k => (hP7.drewN k).mapped (hWd k).2.2 (hWd k).2.1
          have zB9 : ∀ k i, (Wd k).cell? ⟨B9, i, none⟩ = x.r.vs[i]? := fun k i => ((rr7.drewN k).only (hWd k).2.2 (by simpa using (hP7.q.mp.ne rr7).symm)).cell i
          have zB0 : ∀ k i, (Wd k).cell? ⟨B0, i, none⟩ = zeroReq[i]? := fun k i => (HPd.out k).res.cell i
          have fB0 : ∀ k i, (Wd k).frozen? ⟨B0, i, none⟩ = false := fun k i => (HPd.out k).res.frozen i
          clear hWd hP7 rr7
          refine wp_region_drawn_tail 6 (by kernel_rfl) (by kernel_rfl) ?_
          simp only [List.take_succ_cons, List.take_zero, List.drop_succ_cons, List.drop_zero]
          repeat (go_big_quiet_step (fail))
          refine wpQuiet_nil ?_
          rintro _ ⟨m7, rfl⟩
          go_wp2
          have ho8 := (((((((Only.refl [B0] (Wd m7)).setCell (p := ⟨B0, 0, none⟩) (by simp) (.int .i64 x.r.id)).setCell (p := ⟨B0, 1, none⟩) (by simp) (.string x.r.tn)).setCell (p := ⟨B0, 2, none⟩) (by simp) (.int .i64 x.r.tk)).setCell (p := ⟨B0, 3, none⟩) (by simp) (.int .i64 x.r.pr)).setCell (p := ⟨B0, 4, none⟩) (by simp) (.int .i64 x.r.dl)).setCell (p := ⟨B0, 5, none⟩) (by simp) (.bool x.r.hd))
          obtain ⟨g1, g2, g3⟩ := (HPd.out m7).fin hB0.out ho8
          refine bodyPost_ret (v := .tuple #[.agg x.r.vs, .bool true]) (by simp [results, Yba.results18, go_sem, zB0]) rfl ⟨x, rfl, t, ts, rv6, rh6, false, ts, _, H', A', HT.out.perm, HX.out, g1, g2, g3, HT.out.left, .inl ⟨hemp, rfl, rfl⟩⟩
        · have hl0 : (((H'.length + A'.length : Nat) : Int) == 0) = false := by
            rw [beq_eq_false_iff_ne]
            intro e
            refine hemp (List.eq_nil_of_length_eq_zero ?_)
            rw [List.length_append]
            omega
          obtain ⟨LL, hLL⟩ : ∃ LL : Int, LL = ((H'.length + A'.length : Nat) : Int) := ⟨_, rfl⟩
          rw [← hLL] at hl0 ⊢
          clear hLL
          have HEMP := Hid.mk hemp
          clear hemp
          obtain ⟨y, hy⟩ : ∃ y, y = oFront H' A' := ⟨_, rfl⟩
          have hfy : Hid (OFront H' A' y) := by rw [hy]; exact oFront_is HEMP.out
          have q6 := fun u : Ext W4 => ((HP5.out.q.tls _ List.mem_cons_self).row.ext u).cell 6
          have c0 := fun u : Ext W4 => (HP5.out.q.rR.ext u).cell 0
          simp at q6 c0
          have FRO : Hid (∀ u : Ext W4, Calls Yba.prog 39 #[.pointer (some ⟨t.b, 0, none⟩)] u.1 fun e w' => e = .returned (.agg y.r.vs) ∧ Below u.1.heap.size u.1 w') :=
            fun u => ordFront_g t.b hd' ev' iv' H' A' y _ _ _ _ u.1 ((HP5.out.q.tls _ List.mem_cons_self).row.ext u) ((HP5.out.q.tls _ List.mem_cons_self).ord.same (Only.ofBelow u.2)) (by omega) hfy.out
          have ne : Nonempty (Ext W4) := ⟨⟨W4, Below.refl _ _⟩⟩
          have HY := Hid.mk hy
          clear hy
          by_cases hy : t.d - x.r.tk < y.r.tk
          · go_wp2_with fail
            refine wp_region_ext (by kernel_rfl) (by kernel_rfl) ?_
            unfold InExt
            repeat (go_big_quiet_step (first | (go_at_call 39; exact quietE _ (FRO.out _)) | (go_at_call 34; exact quietE _ (cost_any y.r _))))
            refine wpQuiet_nil ?_
            rintro _ ⟨u, rfl⟩
            have HP6 := Hid.mk (HP5.out.ext u.2)
            have RR6 := Hid.mk (RR5.out.ext u)
            clear q6 c0 FRO ne HP5 RR5
            go_wp2_with fail
            refine (endTurn_g Q M R rh1 _ _ rv1 true _ ts ents _ HP6.out.q (by omega)).mono ?_
            rintro e V7 ⟨rfl, ho7, rv7, rh7, q7, new7⟩
            have HP7 := Hid.mk (HP6.out.turned ho7 q7 new7 (by intro s hs; simp at hs ⊢; rcases hs with e | e <;> simp [e]))
            have RR7 : Hid (Row V7 B9 83 x.r.vs) := RR6.out.only ho7 (by
              simp only [List.mem_cons, Option.mem_toList, not_or]
              exact ⟨RR6.out.ne HP6.out.q.rR (by decide), fun h => HP6.out.q.line.ne RR6.out (by decide) h⟩)
            clear ho7 q7 new7
            have zB9 := fun i => RR7.out.cell i
            have zB0 := fun i => HP7.out.res.cell i
            have fB0 := fun i => HP7.out.res.frozen i
            clear HP6 RR6
            go_wp2
            have ho8 := (((((((Only.refl [B0] V7).setCell (p := ⟨B0, 0, none⟩) (by simp) (.int .i64 x.r.id)).setCell (p := ⟨B0, 1, none⟩) (by simp) (.string x.r.tn)).setCell (p := ⟨B0, 2, none⟩) (by simp) (.int .i64 x.r.tk)).setCell (p := ⟨B0, 3, none⟩) (by simp) (.int .i64 x.r.pr)).setCell (p := ⟨B0, 4, none⟩) (by simp) (.int .i64 x.r.dl)).setCell (p := ⟨B0, 5, none⟩) (by simp) (.bool x.r.hd))
            obtain ⟨g1, g2, g3⟩ := HP7.out.fin hB0.out ho8
            refine bodyPost_ret (v := .tuple #[.agg x.r.vs, .bool true]) (by simp [results, Yba.results18, go_sem, zB0]) rfl ⟨x, rfl, t, ts, rv7, rh7, false, _, _, H', A', HT.out.perm, HX.out, g1, g2, g3, HT.out.goes HX.out HEMP.out ev' iv' hd' _ (by omega) (by rw [← HY.out]; exact hy), .inr ⟨HEMP.out, rfl, { t with ev := ev', H := H', iv := iv', hd := hd', A := A', d := t.d - x.r.tk }, rfl, rfl, rfl, rfl, rfl, .inr rfl⟩⟩
          · go_wp2_with fail
            refine wp_region_ext (by kernel_rfl) (by kernel_rfl) ?_
            unfold InExt
            repeat (go_big_quiet_step (first | (go_at_call 39; exact quietE _ (FRO.out _)) | (go_at_call 34; exact quietE _ (cost_any y.r _))))
            refine wpQuiet_nil ?_
            rintro _ ⟨u, rfl⟩
            have HP6 := Hid.mk (HP5.out.ext u.2)
            have RR6 := Hid.mk (RR5.out.ext u)
            clear q6 c0 FRO ne HP5 RR5
            have zB9 := fun i => RR6.out.cell i
            have zB0 := fun i => HP6.out.res.cell i
            have fB0 := fun i => HP6.out.res.frozen i
            go_wp2
            have ho8 := (((((((Only.refl [B0] u.1).setCell (p := ⟨B0, 0, none⟩) (by simp) (.int .i64 x.r.id)).setCell (p := ⟨B0, 1, none⟩) (by simp) (.string x.r.tn)).setCell (p := ⟨B0, 2, none⟩) (by simp) (.int .i64 x.r.tk)).setCell (p := ⟨B0, 3, none⟩) (by simp) (.int .i64 x.r.pr)).setCell (p := ⟨B0, 4, none⟩) (by simp) (.int .i64 x.r.dl)).setCell (p := ⟨B0, 5, none⟩) (by simp) (.bool x.r.hd))
            obtain ⟨g1, g2, g3⟩ := HP6.out.fin hB0.out ho8
            refine bodyPost_ret (v := .tuple #[.agg x.r.vs, .bool true]) (by simp [results, Yba.results18, go_sem, zB0]) rfl ⟨x, rfl, t, ts, rv1, rh1, true, _, _, H', A', HT.out.perm, HX.out, g1, g2, g3, HT.out.stays HX.out HEMP.out ev' iv' hd' _ (by omega) (by omega) (by rw [← HY.out]; omega), .inr ⟨HEMP.out, rfl, { t with ev := ev', H := H', iv := iv', hd := hd', A := A', d := t.d - x.r.tk }, rfl, rfl, rfl, rfl, rfl, .inl rfl⟩⟩
      · exact absurd hfitT hfit
end Go.Proofs.Ybulkhba
