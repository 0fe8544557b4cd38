import Derived.Test.YbulkhbaAg
namespace Go.Proofs.Ybulkhba
open Go.Conc Go.RowKit
set_option linter.unusedVariables false
set_option linter.unusedSimpArgs false

set_option maxRecDepth 100000 in
set_option maxHeartbeats 12800000 in
theorem ad_walk (a5 a6 : Option Addr) (c5 c6 : Nat) (X5 : List Bool) (X6 : List Int) (z0 z1 z2 z3 now : Int) (wk : Bool) (w : World) (h5 : AtsB w a5 X5) (h6 : AtsU w a6 X6) (hx6 : ∀ x ∈ X6, 0 ≤ x ∧ x < 256)
    (l5 : X5.length ≤ 1024) (l6 : X6.length ≤ 1024) (k5 : X5.length ≤ c5) (k6 : X6.length ≤ c6) (z00 : 0 ≤ z0) (z01 : z0 < 256) (z10 : 0 ≤ z1) (z11 : z1 < 256) (z20 : 0 ≤ z2) (z21 : z2 < 256) (z30 : 0 ≤ z3) (z31 : z3 < 256)
    (hw0 : -9223372036854775808 ≤ now) (hw1 : now ≤ 9223372036854775807) :
    Calls Yba.prog 4 #[.int .u8 z0, .int .u8 z1, .int .u8 z2, .int .u8 z3, .bool wk, .slice a5 X5.length c5, .slice a6 X6.length c6, .int .i64 now] w fun e w' => e = .returned (.bool true) ∧ Below w.heap.size w w' := by
  obtain ⟨n5, hn5⟩ : ∃ n, n = X5.length := ⟨_, rfl⟩
  obtain ⟨n6, hn6⟩ : ∃ n, n = X6.length := ⟨_, rfl⟩
  rw [← hn5] at l5 k5 ⊢
  rw [← hn6] at l6 k6 ⊢
  have H5 := Hid.mk (And.intro hn5 h5)
  have H6 := Hid.mk (And.intro hn6 (And.intro h6 hx6))
  clear hn5 hn6 h5 h6 hx6
  have n5i : ((n5 : Nat) : Int) ≤ 1024 := by omega
  have n6i : ((n6 : Nat) : Int) ≤ 1024 := by omega
  obtain ⟨i75, hi75, hz75, hs75, hb75⟩ := info_parts Yba.info75
  obtain ⟨i4, hi4, hz4, hs4, hb4⟩ := info_parts Yba.info4'
  obtain ⟨i83, hi83, hz83, hs83, hb83⟩ := info_parts Yba.info83
  have hmk5 : ∀ W, (Instr.makeSlice 65 (.int .i64 n5) (.int .i64 n5)).run Yba.prog W = .ok (.slice (some ⟨W.heap.size, 0, none⟩) n5 n5) (W.alloc (.cells (madeCells (Value.pointer none).cells n5) 75)) := fun W => by
    have h := run_makeSlice (P := Yba.prog) W 65 75 i75 (.pointer none) Yba.underlying65 hi75 hz75 .i64 .i64 n5 n5 (by omega) (by omega) (by simp [hs75]; omega) (by simp [hb75]; omega) (by omega)
    rw [hs75] at h
    simpa using h
  have hmk6 : ∀ W, (Instr.makeSlice 65 (.int .i64 n6) (.int .i64 n6)).run Yba.prog W = .ok (.slice (some ⟨W.heap.size, 0, none⟩) n6 n6) (W.alloc (.cells (madeCells (Value.pointer none).cells n6) 75)) := fun W => by
    have h := run_makeSlice (P := Yba.prog) W 65 75 i75 (.pointer none) Yba.underlying65 hi75 hz75 .i64 .i64 n6 n6 (by omega) (by omega) (by simp [hs75]; omega) (by simp [hb75]; omega) (by omega)
    rw [hs75] at h
    simpa using h
  have hmkb : ∀ W, (Instr.makeSlice 72 (.int .i64 n5) (.int .i64 n5)).run Yba.prog W = .ok (.slice (some ⟨W.heap.size, 0, none⟩) n5 n5) (W.alloc (.cells (madeCells (Value.bool false).cells n5) 4)) := fun W => by
    have h := run_makeSlice (P := Yba.prog) W 72 4 i4 (.bool false) Yba.underlying72 hi4 hz4 .i64 .i64 n5 n5 (by omega) (by omega) (by simp [hs4]; omega) (by simp [hb4]; omega) (by omega)
    rw [hs4] at h
    simpa using h
  have hmm := @run_makeMap Yba.prog
  have hmc := mkch
  have m0 := wrap_tmod' z00 z01 (k := 8) (by omega) (by omega)
  have m1 := wrap_tmod' z10 z11 (k := 8) (by omega) (by omega)
  have m2 := wrap_tmod' z20 z21 (k := 4) (by omega) (by omega)
  have m3 := wrap_tmod' z30 z31 (k := 3) (by omega) (by omega)
  have ADD0 := Hid.mk (add_any 0 0 now w (by omega) (by omega) hw0 hw1)
  obtain ⟨wl, hwl⟩ : ∃ wl, addW 0 now = wl := ⟨_, rfl⟩
  obtain ⟨ex, hex⟩ : ∃ ex, addX 0 0 now = ex := ⟨_, rfl⟩
  have hr := addW_rng (wl := 0) (d := now) (by omega) (by omega)
  rw [hwl] at hr ADD0
  rw [hex] at ADD0
  obtain ⟨hwl0, hwl1⟩ := hr
  have HEX : Hid (-100000000000 ≤ ex ∧ ex ≤ 100000000000) := by
    refine Hid.mk ?_
    rw [← hex]
    exact addX_small hw0 hw1
  clear hwl hex
  have hz0 : 0 ≤ z0 % 8 := Int.emod_nonneg _ (by omega)
  have hz0' : z0 % 8 < 8 := Int.emod_lt_of_pos _ (by omega)
  have hz1 : 0 ≤ z1 % 8 := Int.emod_nonneg _ (by omega)
  have hz1' : z1 % 8 < 8 := Int.emod_lt_of_pos _ (by omega)
  have hz2 : 0 ≤ z2 % 4 := Int.emod_nonneg _ (by omega)
  have hz2' : z2 % 4 < 4 := Int.emod_lt_of_pos _ (by omega)
  have hz3 : 0 ≤ z3 % 3 := Int.emod_nonneg _ (by omega)
  have hz3' : z3 % 3 < 3 := Int.emod_lt_of_pos _ (by omega)
  go_enter Yba.func4, Yba.ntmps4
  go_wp2_with fail
  refine ADD0.out.mono ?_
  rintro e w1 ⟨rfl, hb1⟩
  have HB1 := Hid.mk hb1
  clear hb1 ADD0
  go_upto_region 12 with fail
  refine wp_world (fun V => BL w V ⟨w1.heap.size, w1.heap.size + 1, w1.heap.size + 1 + 1, w1.heap.size + 1 + 1 + 1, w1.heap.size + 1 + 1 + 1 + 1, w1.heap.size + 1 + 1 + 1 + 1 + 1, w1.heap.size + 1 + 1 + 1 + 1 + 1 + 1, w1.heap.size + 1 + 1 + 1 + 1 + 1 + 1 + 1, n6, wl, ex, z0 % 8, z1 % 8, z2 % 4, wk, z3 % 3, nmX X6⟩ [] (.slice none 0 0)) ?_ ?_
  · have hb := HB1.out
    have hs := hb.size
    refine ⟨?_, ?_, ?_, ?_, ?_, ?_, World.ownsRow_nil _ _ _ _, ?_, ⟨0, ?_⟩, by simp, ⟨_, row_new _ 75 _ _ (by simp), by rw [madeSize], by simp⟩, by simp, by simp, by simp, by simp, ?_, by simp [Value.ownBlock]⟩
    · exact (((((((hb.alloc hs _).alloc (by simp; omega) _).alloc (by simp; omega) _).alloc (by simp; omega) _).alloc (by simp; omega) _).alloc (by simp; omega) _).alloc (by simp; omega) _).alloc (by simp; omega) _
    · exact (((((((row_new w1 29 _ _ rfl).alloc _).alloc _).alloc _).alloc _).alloc _).alloc _).alloc _
    · exact ((((((row_new _ 39 _ _ (by simp)).alloc _).alloc _).alloc _).alloc _).alloc _).alloc _
    · exact (((((row_new _ 43 _ _ (by simp)).alloc _).alloc _).alloc _).alloc _).alloc _
    · exact ((((row_new _ 74 _ _ (by simp)).alloc _).alloc _).alloc _).alloc _
    · exact (((row_new _ 48 _ _ (by simp)).alloc _).alloc _).alloc _
    · exact mapF_new (obj_alloc (obj_alloc (obj_new _ _ _ (by simp)))) (fun a => by simp [fwL])
    · exact mapF_new (obj_alloc (obj_new _ _ _ (by simp))) (fun a => rfl)
    · simp; omega
  clear m0 HB1
  generalize w1.heap.size + 1 + 1 + 1 + 1 + 1 + 1 + 1 = La
  generalize w1.heap.size + 1 + 1 + 1 + 1 + 1 + 1 = Mq
  generalize w1.heap.size + 1 + 1 + 1 + 1 + 1 = Mw
  generalize w1.heap.size + 1 + 1 + 1 + 1 = Q
  generalize w1.heap.size + 1 + 1 + 1 = N
  generalize w1.heap.size + 1 + 1 = C
  generalize w1.heap.size + 1 = B
  generalize w1.heap.size = Bt
  generalize z0 % 8 = sl at *
  generalize hi0 : z1 % 8 = i0 at *
  generalize ht0 : z2 % 4 = t0 at *
  generalize z3 % 3 = tr at *
  intro V0 BL0
  have BL0 := Hid.mk BL0
  clear w1
  go_wp2
  go_loopg [26] n6 (fun k i W => ∃ (j : Nat) (LW : List Wt) (qv : Value), j + k = n6 ∧ i = .int .i64 j ∧ LW.length = j ∧ BL w W ⟨Bt, B, C, N, Q, Mw, Mq, La, n6, wl, ex, sl, i0, t0, wk, tr, nmX X6⟩ LW qv)
  case atStart => exact ⟨0, [], _, by omega, rfl, rfl, BL0.out⟩
  clear BL0
  obtain ⟨j, LW, qv, hj, rfl, hLl, hbl⟩ := hrel
  by_cases hlt : j < n6
  case pos =>
    have hj6 : j < X6.length := by rw [← H6.out.1]; exact hlt
    obtain ⟨x6, e6, hb6, hc6⟩ := (H6.out.2.1.below hbl.below) j hj6
    obtain ⟨x, hx⟩ : ∃ x, x = X6[j] := ⟨_, rfl⟩
    obtain ⟨hx0, hx1⟩ : 0 ≤ x ∧ x < 256 := by rw [hx]; exact H6.out.2.2 _ (List.getElem_mem _)
    rw [← hx] at hc6
    rw [e6]
    have HBL := Hid.mk hbl
    have HLL := Hid.mk hLl
    have HX := Hid.mk hx
    have HE6 := Hid.mk e6
    clear hbl hLl hx e6
    go_upto_region 17 with fail
    refine wp_world (fun V => Only [] wr V ∧ WtIs V B ⟨wr.heap.size + 1, wr.heap.size, bits .and .u8 x 1 == 1⟩ false) ?_ ?_
    · exact ⟨((Only.refl _ _).alloc _).alloc _, row_new _ _ _ _ (by simp), by simpa [chanV] using obj_alloc (obj_new wr _ _ rfl)⟩
    obtain ⟨t, ht⟩ : ∃ t : Wt, t = ⟨wr.heap.size + 1, wr.heap.size, bits .and .u8 x 1 == 1⟩ := ⟨_, rfl⟩
    have htb : wr.heap.size ≤ t.b := by rw [ht]; simp
    have htc : wr.heap.size ≤ t.c := by rw [ht]; simp
    have eb : wr.heap.size + 1 = t.b := by rw [ht]
    rw [← ht, eb]
    have HT := Hid.mk (And.intro htb htc)
    clear ht htb htc eb hc6 hb6
    rintro V ⟨vo, vt⟩
    have hb := HBL.out
    obtain ⟨cl, rl, hls, hlv⟩ := hb.la
    have rlV : Row V La 75 cl := rl.only vo (by simp)
    have hls' : cl.size = n6 := hls
    obtain ⟨ov, hov⟩ : ∃ ov, cl[j]? = some ov := ⟨cl[j]'(by omega), by simp⟩
    have y1 : V.cell? ⟨La, j, none⟩ = some ov := (rlV.cell j).trans hov
    have y2 := rlV.frozen j
    obtain ⟨V1, hV1⟩ : ∃ V1, V1 = V.setCell ⟨La, j, none⟩ (ptrTo t.b) := ⟨_, rfl⟩
    have o1 : Only [La] wr V1 := by rw [hV1]; exact (vo.mono (by simp)).setCell (by simp) _
    have mw1 : MapF kvI vvP V1 Mw (fwL LW) LW.length := hb.mw.only o1 (by simpa using hb.mw.ne rl)
    obtain ⟨V2, e2, mw2, o2⟩ := mw1.put mapTy49 (j : Int) t.b
    obtain ⟨nq, hmq⟩ := hb.mq
    have o12 : Only [La, Mw] wr V2 := (o1.mono (by simp)).trans (o2.mono (by simp))
    have rN2 : Row V2 N 74 namesRow := hb.rN.only o12 (by simp only [List.mem_cons, List.not_mem_nil, or_false, not_or]; exact ⟨hb.rN.ne rl (by decide), (hb.mw.ne hb.rN).symm⟩)
    have q0 : V2.cell? ⟨N, (x / 2 % 3).toNat, none⟩ = some (.string (nameB (nmX X6 j).val)) := by
      rw [HX.out, nmX_val hj6 (by rw [← HX.out]; exact hx0), rN2.cell]
      exact names_at _
    have mq2 : MapF kvS vvI V2 Mq (fun x => optI (cntF (nmX X6) x LW.length 0)) nq := hmq.only o12 (by simp only [List.mem_cons, List.not_mem_nil, or_false, not_or]; exact ⟨hmq.ne rl, fun e => hb.mm e.symm⟩)
    rw [HLL.out] at mq2
    have hlk := mq2.look mapTy50 (nmX X6 j)
    rw [optI_get] at hlk
    obtain ⟨V3, e3, mq3, o3⟩ := mq2.put mapTy50 (nmX X6 j) ((cntF (nmX X6) (nmX X6 j) j 0 : Nat) + 1 : Int)
    obtain ⟨cnt, hcnt⟩ : ∃ cnt, cnt = cntF (nmX X6) (nmX X6 j) j 0 := ⟨_, rfl⟩
    have hcl : ((cnt : Nat) : Int) ≤ 1024 := by
      have := cntF_le (nmX X6) (nmX X6 j) j 0
      omega
    have o123 : Only [La, Mw, Mq] wr V3 := (o12.mono (by simp)).trans (o3.mono (by simp))
    have rQ3 : Row V3 Q 48 #[qv, .int .i64 0] := hb.rQ.only o123 (by simp only [List.mem_cons, List.not_mem_nil, or_false, not_or]; exact ⟨hb.rQ.ne rl (by decide), (hb.mw.ne hb.rQ).symm, (hmq.ne hb.rQ).symm⟩)
    have yq := rQ3.cell 0
    simp at yq
    have ow3 : V3.ownsRow 0 83 6 qv LW.length (reqCells (nmX X6) LW.length) := owns_only hb.ow o123 (fun k hk => by
      obtain ⟨c2, r2⟩ := own_row hb.ow hk
      simp only [List.mem_cons, List.not_mem_nil, or_false, not_or]
      exact ⟨r2.ne rl (by decide), (hb.mw.ne r2).symm, (hmq.ne r2).symm⟩)
    have hlQ : Q < V3.heap.size := rQ3.lt
    have FIN : Hid (∀ (o : Obj) (W4 : World) (v' : Value), W4.ownsRow 0 83 6 v' (j + 1) (reqCells (nmX X6) j ++ (reqL (nmX X6) j).vs.toList) → (V3.alloc o).grownBy W4 qv.ownBlock → (v'.ownBlock = qv.ownBlock ∨ v'.ownBlock = some (V3.alloc o).heap.size) →
        W4.cell? ⟨Q, 0, none⟩ = some qv ∧ W4.frozen? ⟨Q, 0, none⟩ = false ∧ BL w (W4.setCell ⟨Q, 0, none⟩ v') ⟨Bt, B, C, N, Q, Mw, Mq, La, n6, wl, ex, sl, i0, t0, wk, tr, nmX X6⟩ (LW ++ [t]) v') := by
      intro o W4 v' hown hgr hnew
      have hl := HLL.out
      subst hl
      have r4 : Row W4 Q 48 #[qv, .int .i64 0] := (rQ3.alloc o).only (S := qv.ownBlock.toList) (Only.ofGrown hgr (fun j hj => .inl (by rw [hj]; simp))) (fun hm => by
        obtain ⟨c2, r2⟩ := own_row ow3 (mem_own hm)
        exact absurd rfl (rQ3.ne r2 (by decide)))
      refine ⟨by simpa using r4.cell 0, r4.frozen 0, HBL.out.round (t := t) hlt vo vt HT.out.1 HT.out.2 mw2 ?_ (by rw [← hV1]; exact o2) mq3 o3 hown hgr hnew⟩
      rw [fwL_new]; rfl
    rw [HLL.out] at ow3
    have HOW := Hid.mk ow3
    rw [← hcnt] at e3 hlk
    clear hb vo vt rl hls hls' hlv rlV hov o1 mw1 mw2 o2 o12 rN2 hmq mq2 mq3 o3 o123 rQ3 ow3 hcnt
    go_upto_region 18 with fail
    rw [← hV1]
    clear y1 y2 hV1
    go_upto_region 20 with fail
    clear e2 q0
    go_upto_region 21 with fail
    clear e3 hlk
    go_wp2_with (at_builtin; refine wpList_append_own2 rfl (.tmp 127) (.tmp 131) 46 rfl 83 i83 (.agg zeroReq) 6 56 Yba.underlying46 hi83 hz83 hs83 hb83 rfl (by decide) _ j (reqCells (nmX X6) j) rfl ?c0 _ 1 1 (reqL (nmX X6) j).vs.toList rfl rfl ?c1 ?c2 (by decide) ?c3 ?c4 ?_)
    case c0 => exact World.ownsRow.alloc HOW.out _
    case c1 => exact fun j u h => h
    case c2 => exact ⟨rfl, rfl, rfl, rfl, rfl, rfl⟩
    case c3 => unfold maxLen; omega
    case c4 => exact .inr (by omega)
    intro v' W4 hown hgr hnew
    obtain ⟨yq4, fq4, hb4⟩ := FIN.out _ W4 v' hown hgr (by simpa using hnew)
    obtain ⟨g', cap', rfl⟩ := owns_shape hown (by omega)
    have HB4 := Hid.mk hb4
    clear hown hgr hnew hb4 FIN HOW yq
    go_upto_region 14 with fail
    rw [← HE6.out]
    go_wp2
    go_roundg (n6 - j - 1)
    case measure => omega
    case rel => exact ⟨j + 1, LW ++ [t], _, by omega, by simp, by simp [HLL.out], HB4.out⟩
  obtain rfl : n6 = j := by omega
  have HBL := Hid.mk (And.intro hLl hbl)
  clear hLl hbl hj hlt hmk6
  go_upto_region 23 with fail
  refine wp_world (fun V => RL wr V B wr.heap.size n5 []) ⟨(Below.refl _ _).alloc (Nat.le_refl _) _, ⟨_, row_new _ 75 _ _ (by simp), by rw [madeSize], by simp⟩, by simp, by simp, by simp, by simp, Nat.le_refl _⟩ ?_
  obtain ⟨V1, hV1⟩ : ∃ V, V = wr := ⟨_, rfl⟩
  subst hV1
  obtain ⟨Ra, hRa⟩ : ∃ Ra, Ra = V1.heap.size := ⟨_, rfl⟩
  rw [← hRa]
  clear hRa
  intro V0 RL0
  have RL0 := Hid.mk RL0
  go_wp2
  go_loopg [31] n5 (fun k i W => ∃ (j : Nat) (RW : List Wt), j + k = n5 ∧ i = .int .i64 j ∧ RW.length = j ∧ RL V1 W B Ra n5 RW)
  case atStart => exact ⟨0, [], by omega, rfl, rfl, RL0.out⟩
  clear RL0
  obtain ⟨j, RW, hj, rfl, hRl, hrl⟩ := hrel
  by_cases hlt : j < n5
  case pos =>
    have hj5 : j < X5.length := by rw [← H5.out.1]; exact hlt
    have hbw : Below w.heap.size w wr := HBL.out.2.below.trans (hrl.below.mono HBL.out.2.below.size)
    obtain ⟨x5, e5, hb5w, _⟩ := H5.out.2 j hj5
    obtain ⟨x5', e5', hb5, hc5⟩ := (H5.out.2.below hbw) j hj5
    rw [e5] at e5'
    cases e5'
    obtain ⟨x, hx⟩ : ∃ x, x = X5[j] := ⟨_, rfl⟩
    rw [← hx] at hc5
    rw [e5]
    obtain ⟨cr, rr, hrs, hrv⟩ := hrl.ra
    obtain ⟨ov, hov⟩ : ∃ ov, cr[j]? = some ov := ⟨cr[j]'(by omega), by simp⟩
    have y1 : wr.cell? ⟨Ra, j, none⟩ = some ov := (rr.cell j).trans hov
    have y2 : ∀ o o', ((wr.alloc o).alloc o').frozen? ⟨Ra, j, none⟩ = false := fun o o' => ((rr.alloc o).alloc o').frozen j
    have y3 : ∀ o o', ((wr.alloc o).drew.alloc o').frozen? ⟨Ra, j, none⟩ = false := fun o o' => ((rr.alloc o).drew.alloc o').frozen j
    have y4 : ∀ o o', ((wr.alloc o).alloc o').cell? ⟨Ra, j, none⟩ = some ov := fun o o' => (((rr.alloc o).alloc o').cell j).trans hov
    have y5 : ∀ o o', ((wr.alloc o).drew.alloc o').cell? ⟨Ra, j, none⟩ = some ov := fun o o' => (((rr.alloc o).drew.alloc o').cell j).trans hov
    have hlR : Ra < wr.heap.size := rr.lt
    have y6 : ∀ v, (wr.setCell ⟨Ra, j, none⟩ v).cell? (x5.add j) = some (.bool x) := fun v => by
      have hb : Below V1.heap.size wr (wr.setCell ⟨Ra, j, none⟩ v) := (Below.refl _ _).setCell hrl.los v
      rw [hb.cell (by rw [add_block]; exact Nat.lt_of_lt_of_le hb5w HBL.out.2.below.size)]
      exact hc5
    have hb5' : (x5.add j).block < wr.heap.size := by rw [add_block]; exact hb5
    have HRL := Hid.mk (And.intro hRl (And.intro hrl (And.intro rr (And.intro hrs hrv))))
    have HE5 := Hid.mk e5
    clear hbw hx e5 hRl hrl rr hrs hrv hov
    go_upto_region 26 with fail
    go_region_held3 (fun w' => w'.cell? (x5.add j) = some (.bool x)) (go_keep) (fail)
    have FIN := HRL.out.2.1.round (by rw [HRL.out.1]; exact hlt) x
    rw [HRL.out.1] at FIN
    have HF := Hid.mk FIN
    clear FIN y1 y2 y3 y4 y5 y6
    go_upto_region 25 with fail
    rw [← HE5.out]
    go_wp2
    go_roundg (n5 - j - 1)
    case measure => omega
    case rel => exact ⟨j + 1, RW ++ [⟨wr.heap.size + 1, wr.heap.size, x⟩], by omega, by simp, by simp [HRL.out.1], HF.out⟩
  obtain rfl : n5 = j := by omega
  obtain ⟨V2, hV2⟩ : ∃ V, V = wr := ⟨_, rfl⟩
  subst hV2
  obtain ⟨V4, hcp1, o4, hcp3⟩ := copy_ptrs (V3 := V2.alloc (.cells (madeCells #[Value.pointer none] n5) 75)) (g := V2.heap.size) (row_new _ _ _ _ rfl) (by rw [madeSize]) hRl (by obtain ⟨cr, rr, h⟩ := hrl.ra; exact ⟨cr, rr.alloc _, h⟩)
  have hcp2 : Below V2.heap.size V2 V4 := ((Below.refl _ V2).alloc (Nat.le_refl _) _).trans (o4.below (by simp) (by simp))
  have HRL := Hid.mk (And.intro hRl hrl)
  have HCP := Hid.mk (And.intro hcp2 hcp3)
  clear hRl hrl hj hlt hcp2 hcp3 o4
  go_upto_region 30 with fail
  refine wp_world (fun V => Laid w V1 V2 V ⟨Bt, B, C, N, Q, Mw, Mq, La, n6, wl, ex, sl, i0, t0, wk, tr, nmX X6⟩ (V4.heap.size + 1) V4.heap.size V2.heap.size Ra n5 RW LW qv) ⟨HBL.out.2, HRL.out.2, HBL.out.1, HRL.out.1, ?_, Nat.le_refl _, ?_, ?_, ?_, ?_, ?_⟩ ?_
  · exact (HCP.out.1.alloc HCP.out.1.size _).alloc (by have := HCP.out.1.size; simp; omega) _
  · exact HCP.out.1.size
  · have := HCP.out.1.size; omega
  · obtain ⟨cs, r, h⟩ := HCP.out.2
    exact ⟨cs, (r.alloc _).alloc _, h⟩
  · exact (row_new _ _ _ _ rfl).alloc _
  · exact row_new _ _ _ _ (by simp)
  have HLN := Hid.mk (And.intro HBL.out.1 HRL.out.1)
  clear hcp1 HCP HBL HRL hmc hmm
  generalize V4.heap.size + 1 = S
  generalize V4.heap.size = Bb
  generalize V2.heap.size = Brt
  intro W0 hla
  have PO := Hid.mk (hla.go l5 l6 hwl0 hwl1 hz0 hz0' hz1 hz1' hz2 hz2' hz3 hz3' HEX.out.1 HEX.out.2)
  clear hla
  go_wp2_with fail
  refine PO.out.mono ?_
  clear PO HEX
  rintro e w2 ⟨rfl, c, k, ⟨eB, eS, eC, eQ, eMw, eMq, ewl, eex, esl, eR, eL, enm, ex2, eadd⟩, ⟨hk, hall, hstop⟩, haf⟩
  have eB : B = c.B := eB
  have eS : S = c.S := eS
  have eC : C = c.C := eC
  have eQ : Q = c.Qn := eQ
  have eMw : Mw = c.Mw := eMw
  have eMq : Mq = c.Mq := eMq
  have ewl : wl = c.wl := ewl
  have eex : ex = c.ex := eex
  have esl : sl = c.sl := esl
  have enm : nmX X6 = c.nm := enm
  subst eB eS eC eQ eMw eMq ewl eex esl eR eL
  have HLN5 : Hid (c.RW.length = n5) := HLN.out.2
  have HLN6 : Hid (c.LW.length = n6) := HLN.out.1
  have HAF : Hid (AF w w2 c Bt N La Ra Brt n5 k (keptAt c.sl i0 c.rl n5) (infAt c.sl (infAt c.sl i0 c.rl n5) c.llf k) (t0 + (infAt c.sl (infAt c.sl i0 c.rl n5) c.llf k - i0)) wk (gvAt c.sl i0 c.rl n5) (gvAt c.sl (infAt c.sl i0 c.rl n5) c.llf k) 0 0) := haf
  have HK : Hid (k ≤ c.LW.length ∧ (∀ j, j < k → infAt c.sl (infAt c.sl i0 c.rl n5) c.llf j < c.sl) ∧ (k = c.LW.length ∨ c.sl ≤ infAt c.sl (infAt c.sl i0 c.rl n5) c.llf k)) := ⟨hk, hall, by simpa using hstop⟩
  have HNM := Hid.mk enm
  have HX2 := Hid.mk (And.intro ex2 eadd)
  clear HLN haf hk hall hstop enm ex2 eadd eB eS eC eQ eMw eMq ewl eex esl
  go_upto_region 35 with fail
  try rw [hi0]
  try rw [ht0]
  clear hi0 ht0
  refine wp_world (fun V => L3 w2 V w2.heap.size n5 c.sl i0 c.rl c.RW 0 (.slice none 0 0)) (L3.start ((Below.refl _ _).alloc (Nat.le_refl _) _) (row_new _ _ _ _ rfl) (by rw [madeSize]) (fun i hi => by simp [madeCells, hi, Nat.mod_one]) (Nat.le_refl _)) ?_
  obtain ⟨Gr, hGr⟩ : ∃ Gr, Gr = w2.heap.size := ⟨_, rfl⟩
  rw [← hGr]
  clear hGr hmkb
  intro V0 L30
  have L30 := Hid.mk L30
  go_wp2
  go_loopg [34, 35, 37, 38] n5 (fun kk cu tv kv i W => ∃ (j : Nat), j + kk = n5 ∧ cu = .int .i64 (infAt c.sl i0 c.rl j) ∧ tv = .int .i64 (t0 + (infAt c.sl i0 c.rl j - i0)) ∧ i = .int .i64 j ∧ L3 w2 W Gr n5 c.sl i0 c.rl c.RW j kv)
  case atStart => exact ⟨0, by omega, rfl, by simp [infAt], rfl, L30.out⟩
  clear L30
  obtain ⟨j, hj, rfl, rfl, rfl, hl3⟩ := hrel
  by_cases hlt : j < n5
  case pos =>
    have hjR : j < c.RW.length := by rw [HLN5.out]; exact hlt
    have hafW := HAF.out.ext hl3.below
    obtain ⟨cr, rr, hrv⟩ := hafW.ra
    have hw := hafW.rws j hjR (by omega)
    obtain ⟨cg, rg, hgs, hgv⟩ := hl3.gr
    obtain ⟨p, hp⟩ : ∃ p, p = c.RW[j].b := ⟨_, rfl⟩
    obtain ⟨lf, hlf⟩ : ∃ lf, lf = c.RW[j].left := ⟨_, rfl⟩
    have y1 : wr.cell? ⟨Ra, j, none⟩ = some (.pointer (some ⟨p, 0, none⟩)) := by rw [hp]; exact (rr.cell j).trans (hrv j hjR)
    have y2 : wr.cell? ⟨p, 2, none⟩ = some (.bool lf) := by rw [hp, hlf]; simpa using hw.row.cell 2
    have y3 := (rg.cell j).trans (hgv j hlt)
    have y4 := rg.frozen j
    have n1 : ¬ Ra = Gr := rr.ne rg (by decide)
    have n2 : ¬ p = Gr := by rw [hp]; exact hw.row.ne rg (by decide)
    have n3 : ¬ Gr = Ra := fun e => n1 e.symm
    have n4 : ¬ Gr = p := fun e => n2 e.symm
    have hrl : c.rl j = lf := by unfold Cst.rl; rw [List.getElem?_eq_getElem hjR, hlf]; rfl
    obtain ⟨I, hI⟩ : ∃ I, I = infAt c.sl i0 c.rl j := ⟨_, rfl⟩
    have hI0 : i0 ≤ I := by rw [hI]; exact infAt_ge j
    have hI1 : I ≤ 8 := by rw [hI]; exact infAt_le (by omega) (by omega) j
    rw [← hI]
    have HL3 := Hid.mk hl3
    have HP := Hid.mk hp
    have HI := Hid.mk hI
    have HRL := Hid.mk hrl
    clear hl3 hafW rr hrv hw rg hgs hgv hp hlf hrl hI
    by_cases hS : I < c.sl
    case pos =>
      have EG := Hid.mk (HL3.out.give (by rw [← HI.out]; exact hS) hlt HLN5.out.symm)
      have EN : Hid (infAt c.sl i0 c.rl (j + 1) = if lf then I else I + 1) := by
        refine Hid.mk ?_
        rw [infAt, ← HI.out, if_pos hS, HRL.out]
      have hS' : 0 < c.sl - I := by omega
      go_upto_if 203 with fail
      clear y1 y2 y3 y4
      cases lf
      · go_wp2
        go_roundg (n5 - j - 1)
        case measure => omega
        case rel => exact ⟨j + 1, by omega, by rw [EN.out]; rfl, by rw [EN.out]; simp; omega, by simp, EG.out⟩
      · go_wp2
        go_roundg (n5 - j - 1)
        case measure => omega
        case rel => exact ⟨j + 1, by omega, by rw [EN.out]; rfl, by rw [EN.out]; simp, by simp, EG.out⟩
    case neg =>
      have EN : Hid (infAt c.sl i0 c.rl (j + 1) = I) := by
        refine Hid.mk ?_
        rw [infAt, ← HI.out, if_neg hS]
      have hS' : ¬ 0 < c.sl - I := by omega
      have hS2 : c.sl ≤ I := by omega
      have hkl : keptAt c.sl i0 c.rl j ≤ j := kept_le j
      have hki : ((keptAt c.sl i0 c.rl j : Nat) : Int) ≤ 1024 := by omega
      obtain ⟨xs, hxs⟩ : ∃ xs, xs = ((c.RW.take j).drop (j - keptAt c.sl i0 c.rl j)).map (fun t => ptrTo t.b) := ⟨_, rfl⟩
      have HOW := Hid.mk HL3.out.ow
      rw [← hxs] at HOW
      have HXS := Hid.mk hxs
      clear hxs
      go_wp2_with (at_builtin; refine wpList_append_own2 rfl (.tmp 208) (.tmp 213) 65 rfl 75 i75 (.pointer none) 1 8 Yba.underlying65 hi75 hz75 hs75 hb75 rfl (by decide) _ (keptAt c.sl i0 c.rl j) xs rfl ?c0 _ 1 1 [ptrTo p] rfl rfl ?c1 ?c2 (by decide) ?c3 ?c4 ?_)
      case c0 => exact World.ownsRow.alloc HOW.out _
      case c2 => rfl
      case c3 => unfold maxLen; omega
      case c4 => exact .inr (by omega)
      intro v' W4 hown hgr hnew
      have EG : Hid (L3 w2 W4 Gr n5 c.sl i0 c.rl c.RW (j + 1) v') := by
        rw [HP.out, HXS.out] at hown
        refine HL3.out.keep (by rw [← HI.out]; omega) hjR (((Only.refl _ wr).alloc _).trans (Only.ofGrown hgr (fun j hj => .inl (by rw [hj]; simp)))) hown ?_
        intro q hq
        rcases hnew with e | e
        · exact .inl (by rw [← e]; exact hq)
        · rw [e] at hq
          cases hq
          exact .inr (by simp)
      clear hown hgr hnew
      go_wp2
      go_roundg (n5 - j - 1)
      case measure => omega
      case rel => exact ⟨j + 1, by omega, by rw [EN.out], by rw [EN.out], by simp, EG.out⟩
  obtain rfl : n5 = j := by omega
  have hag := hl3.done HLN5.out.symm HAF.out
  obtain ⟨J1, hJ1⟩ : ∃ J1, J1 = infAt c.sl i0 c.rl n5 := ⟨_, rfl⟩
  have hJ0 : i0 ≤ J1 := by rw [hJ1]; exact infAt_ge n5
  have hJ8 : J1 ≤ 8 := by rw [hJ1]; exact infAt_le (by omega) (by omega) n5
  obtain ⟨kp, hkp⟩ : ∃ kp, kp = keptAt c.sl i0 c.rl n5 := ⟨_, rfl⟩
  have hkp5 : kp ≤ n5 := by rw [hkp]; exact kept_le n5
  obtain ⟨kv, hkv⟩ : ∃ kv, kv = u37 := ⟨_, rfl⟩
  rw [← hJ1, ← hkp, ← hkv] at hag
  rw [← hJ1] at HK ⊢
  rw [← hkv]
  have HJ1 := Hid.mk hJ1
  have HAG := Hid.mk hag
  have hk6 : k ≤ n6 := by have := HK.out.1; rw [HLN6.out] at this; exact this
  clear HAF hl3 hag hlt hj hJ1 hkp hkv
  go_upto_region 44 with fail
  go_wp2
  rename_i K25 hK25
  have HK25 := Hid.mk hK25
  clear hK25
  go_loopg [34, 35, 39] k (fun kk cu tv i W => ∃ p : Nat, p + kk = k ∧ cu = .int .i64 (infAt c.sl J1 c.llf p) ∧ tv = .int .i64 (t0 + (infAt c.sl J1 c.llf p - i0)) ∧ i = .int .i64 p ∧ AG w W c Bt N La Ra Brt n5 k kp (infAt c.sl J1 c.llf k) (t0 + (infAt c.sl J1 c.llf k - i0)) wk (gvAt c.sl i0 c.rl n5) (gvAt c.sl J1 c.llf k) 0 0 Gr kv i0)
  case atStart => exact ⟨0, by omega, rfl, rfl, rfl, HAG.out⟩
  clear HAG
  obtain ⟨p, hp, rfl, rfl, rfl, hag⟩ := hrel
  obtain ⟨I, hI⟩ : ∃ I, I = infAt c.sl J1 c.llf p := ⟨_, rfl⟩
  have hI0 : J1 ≤ I := by rw [hI]; exact infAt_ge p
  have hI8 : I ≤ 8 := by rw [hI]; exact infAt_le (by omega) (by omega) p
  by_cases hlt : p < k
  case pos =>
    rw [← hI]
    have hpL : p < c.LW.length := by rw [HLN6.out]; omega
    have hpi : ((p : Nat) : Int) < ((n6 : Nat) : Int) := by omega
    have hp6 : p < n6 := by omega
    have hS : I < c.sl := by rw [hI]; exact HK.out.2.1 p hlt
    have hS' : 0 < c.sl - I := by omega
    obtain ⟨cl, rl, hlv⟩ := hag.af.la
    have hw := hag.af.lws p hpL (by omega)
    obtain ⟨q, hq⟩ : ∃ q, q = c.LW[p].b := ⟨_, rfl⟩
    obtain ⟨lf, hlf⟩ : ∃ lf, lf = c.LW[p].left := ⟨_, rfl⟩
    have y1 : wr.cell? ⟨La, p, none⟩ = some (.pointer (some ⟨q, 0, none⟩)) := by rw [hq]; exact (rl.cell p).trans (hlv p hpL)
    have y2 : wr.cell? ⟨q, 2, none⟩ = some (.bool lf) := by rw [hq, hlf]; simpa using hw.row.cell 2
    have EN : Hid (infAt c.sl J1 c.llf (p + 1) = if lf then I else I + 1) := by
      refine Hid.mk ?_
      have hll : c.llf p = lf := by unfold Cst.llf; rw [List.getElem?_eq_getElem hpL, hlf]; rfl
      rw [infAt, ← hI, if_pos hS, hll]
    have HAG := Hid.mk hag
    clear hag rl hlv hw hq hlf hI
    go_upto_if 232 with fail
    clear y1 y2
    cases lf
    · go_wp2
      go_roundg (k - p - 1)
      case measure => omega
      case rel => exact ⟨p + 1, by omega, by rw [EN.out]; rfl, by rw [EN.out]; simp; omega, by simp, HAG.out⟩
    · go_wp2
      go_roundg (k - p - 1)
      case measure => omega
      case rel => exact ⟨p + 1, by omega, by rw [EN.out]; rfl, by rw [EN.out]; simp, by simp, HAG.out⟩
  obtain rfl : k = p := by omega
  rw [← hI] at hag ⊢
  have HI := Hid.mk hI
  have HAG := Hid.mk hag
  have hst : ((k : Nat) : Int) < ((n6 : Nat) : Int) → c.sl ≤ I := by
    intro h
    rcases HK.out.2.2 with e | e
    · have := HLN6.out; omega
    · rw [hI]; exact e
  clear hag hI hlt hp
  go_upto_region 45 with fail
  go_cut [224] from 215 to 238 (fun s wx => s = .bool false ∧ wx = wr)
  case first =>
    by_cases hke : k = n6
    · subst hke
      go_wp2
      go_meet
      case rel => exact ⟨rfl, rfl⟩
    · have hk1 : ((k : Nat) : Int) < ((n6 : Nat) : Int) := by omega
      have hS := hst hk1
      have hS' : ¬ 0 < c.sl - I := by omega
      go_wp2
      go_meet
      case rel => exact ⟨by rw [decide_eq_false (by omega)], rfl⟩
  obtain ⟨rfl, rfl⟩ := hcut
  clear hst
  go_wp2
  refine HK25.out _ _ ?_
  exact ad_tail1 w _ c a6 c6 n5 n6 k kp X6 Bt N La Ra Brt I t0 i0 J1 wk Gr kv HAG.out hk6 l6 k6 H6.out HLN6.out HK.out.2.1 HNM.out l5 hkp5 HLN5.out hwl0 hwl1 HX2.out
end Go.Proofs.Ybulkhba
