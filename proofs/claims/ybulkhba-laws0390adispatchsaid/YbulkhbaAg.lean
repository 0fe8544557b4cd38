import Derived.Test.YbulkhbaAf
namespace Go.Proofs.Ybulkhba
open Go.Conc Go.RowKit
set_option linter.unusedVariables false
set_option linter.unusedSimpArgs false

set_option maxRecDepth 100000 in
set_option maxHeartbeats 12800000 in
/-- From the backend's check on. -/
theorem ad_tail1 (w W : World) (c : Cst) (a6 : Option Addr) (c6 n5 n6 k kp : Nat) (X6 : List Int) (Bt N La Ra Brt : Nat) (I t0 i0 J1 : Int) (wk : Bool) (Gr : Nat) (kv : Value) (hag : AG w W c Bt N La Ra Brt n5 k kp I (t0 + (I - i0)) wk (gvAt c.sl i0 c.rl n5) (gvAt c.sl J1 c.llf k) 0 0 Gr kv i0)
    (hk6 : k ≤ n6) (l6 : n6 ≤ 1024) (k6 : n6 ≤ c6) (h6 : n6 = X6.length ∧ AtsU w a6 X6 ∧ ∀ x ∈ X6, 0 ≤ x ∧ x < 256) (hl6 : c.LW.length = n6) (hall : ∀ j, j < k → infAt c.sl J1 c.llf j < c.sl) (hnm : nmX X6 = c.nm)
    (l5 : n5 ≤ 1024) (hkp5 : kp ≤ n5) (hl5 : c.RW.length = n5) (hwl0 : 0 ≤ c.wl) (hwl1 : c.wl < 1000000000) (hx2 : c.ex2 = c.ex + 5 ∧ addX c.wl c.ex 5000000000 = c.ex + 5)
    {s0 s1 s2 s3 s5 s7 s8 s9 s10 s11 s12 s13 s14 s15 s16 s18 s23 s24 s26 s27 s28 s29 s31 s32 s38 s40 s41 s42 s43 s44 s45 s46 s47 s48 s49 s50 s51 s52 s53 s54 s55 s56 s57 s58 s59 s60 s61 s62 s63 s64 s65 s66 s67 s68 s69 s70 s71 s72 s73 s74 s75 s76 s77 s78 s79 s80 s81 s82 s83 s84 s85 s86 s87 s88 s89 s90 s91 s92 s93 s94 s95 s96 s97 s98 s99 s100 s101 s102 s103 s104 s105 s106 s107 s108 s109 s110 s111 s112 s113 s114 s115 s116 s117 s118 s119 s120 s121 s122 s123 s124 s125 s126 s127 s128 s129 s130 s131 s132 s133 s134 s135 s136 s137 s138 s139 s140 s141 s142 s143 s144 s145 s146 s147 s148 s149 s150 s151 s152 s153 s154 s155 s156 s157 s158 s159 s160 s161 s162 s163 s164 s165 s166 s167 s168 s169 s170 s171 s172 s173 s174 s175 s176 s177 s178 s179 s180 s181 s182 s183 s184 s185 s186 s187 s188 s189 s190 s191 s192 s193 s194 s195 s196 s197 s198 s199 s200 s201 s202 s203 s204 s205 s206 s207 s208 s209 s210 s211 s212 s213 s214 s215 s216 s217 s218 s219 s220 s221 s222 s223 s224 s225 s226 s227 s228 s229 s230 s231 s232 s233 s234 s235 s236 s237 s238 s239 s240 s241 s242 s243 s244 s245 s246 s247 s248 s249 s250 s251 s252 s253 s254 s255 s256 s257 s258 s259 s260 s261 s262 s263 s264 s265 s266 s267 s268 s269 s270 s271 s272 s273 s274 s275 s276 s277 s278 s279 s280 s281 s282 s283 s284 s285 s286 s287 s288 s289 s290 s291 s292 s293 s294 s295 s296 s297 s298 s299 s300 s301 s302 s303 s304 s305 s306 s307 s308 s309 s310 s311 s312 s313 s314 s315 s316 s317 s318 s319 s320 s321 s322 s323 s324 s325 s326 s327 s328 s329 s330 s331 s332 s333 s334 s335 s336 s337 s338 s339 s340 s341 s342 s343 s344 s345 s346 s347 s348 s349 s350 s351 s352 s353 s354 s355 s356 s357 s358 s359 s360 s361 s362 s363 s364 s365 s366 s367 s368 s369 s370 s371 s372 s373 s374 s375 s376 s377 s378 s379 s380 s381 s382 s383 s384 s385 s386 s387 s388 s389 s390 s391 s392 s393 s394 s395 s396 s397 s398 s399 s400 s401 s402 s403 s404 s405 s406 s407 s408 s409 s410 s411 s412 s413 s414 s415 s416 s417 s418 s419 s420 s421 s422 s423 s424 s425 s426 s427 s428 s429 s430 s431 s432 s433 s434 s435 s436 s437 s438 s439 s440 s441 s442 s443 s444 s445 s446 s447 s448 s449 s450 s451 s452 s453 s454 s455 s456 s457 s458 s459 : Value} :
    Code.wp Yba.prog ((tailO 25 (Yba.f4.body.getD .skip)).getD .skip) (bodyPost Yba.prog Yba.f4 fun e w' => e = .returned (.bool true) ∧ Below w.heap.size w w')
      ⟨List.toArray (s0 :: s1 :: s2 :: s3 :: .bool wk :: s5 :: .slice a6 n6 c6 :: s7 :: s8 :: s9 :: s10 :: s11 :: s12 :: s13 :: s14 :: s15 :: s16 :: .pointer (some ⟨Bt, 0, none⟩) :: s18 :: .pointer (some ⟨c.B, 0, none⟩) :: .pointer (some ⟨c.C, 0, none⟩) :: .pointer (some ⟨N, 0, none⟩) :: .pointer (some ⟨c.Qn, 0, none⟩) :: s23 :: s24 :: .slice (some ⟨La, 0, none⟩) n6 n6 :: s26 :: s27 :: s28 :: s29 :: .slice (some ⟨Ra, 0, none⟩) n5 n5 :: s31 :: s32 :: .pointer (some ⟨c.S, 0, none⟩) :: .int .i64 I :: .int .i64 (t0 + (I - i0)) :: .slice (some ⟨Gr, 0, none⟩) n5 n5 :: kv :: s38 :: .int .i64 k :: s40 :: s41 :: s42 :: s43 :: s44 :: s45 :: s46 :: s47 :: s48 :: s49 :: s50 :: s51 :: s52 :: s53 :: s54 :: s55 :: s56 :: s57 :: s58 :: s59 :: s60 :: s61 :: s62 :: s63 :: s64 :: s65 :: s66 :: s67 :: s68 :: s69 :: s70 :: s71 :: s72 :: s73 :: s74 :: s75 :: s76 :: s77 :: s78 :: s79 :: s80 :: s81 :: s82 :: s83 :: s84 :: s85 :: s86 :: s87 :: s88 :: s89 :: s90 :: s91 :: s92 :: s93 :: s94 :: s95 :: s96 :: s97 :: s98 :: s99 :: s100 :: s101 :: s102 :: s103 :: s104 :: s105 :: s106 :: s107 :: s108 :: s109 :: s110 :: s111 :: s112 :: s113 :: s114 :: s115 :: s116 :: s117 :: s118 :: s119 :: s120 :: s121 :: s122 :: s123 :: s124 :: s125 :: s126 :: s127 :: s128 :: s129 :: s130 :: s131 :: s132 :: s133 :: s134 :: s135 :: s136 :: s137 :: s138 :: s139 :: s140 :: s141 :: s142 :: s143 :: s144 :: s145 :: s146 :: s147 :: s148 :: s149 :: s150 :: s151 :: s152 :: s153 :: s154 :: s155 :: s156 :: s157 :: s158 :: s159 :: s160 :: s161 :: s162 :: s163 :: s164 :: s165 :: s166 :: s167 :: s168 :: s169 :: s170 :: s171 :: s172 :: s173 :: s174 :: s175 :: s176 :: s177 :: s178 :: s179 :: s180 :: s181 :: s182 :: s183 :: s184 :: s185 :: s186 :: s187 :: s188 :: s189 :: s190 :: s191 :: s192 :: s193 :: s194 :: s195 :: s196 :: s197 :: s198 :: s199 :: s200 :: s201 :: s202 :: s203 :: s204 :: s205 :: s206 :: s207 :: s208 :: s209 :: s210 :: s211 :: s212 :: s213 :: s214 :: s215 :: s216 :: s217 :: s218 :: s219 :: s220 :: s221 :: s222 :: s223 :: s224 :: s225 :: s226 :: s227 :: s228 :: s229 :: s230 :: s231 :: s232 :: s233 :: s234 :: s235 :: s236 :: s237 :: s238 :: s239 :: s240 :: s241 :: s242 :: s243 :: s244 :: s245 :: s246 :: s247 :: s248 :: s249 :: s250 :: s251 :: s252 :: s253 :: s254 :: s255 :: s256 :: s257 :: s258 :: s259 :: s260 :: s261 :: s262 :: s263 :: s264 :: s265 :: s266 :: s267 :: s268 :: s269 :: s270 :: s271 :: s272 :: s273 :: s274 :: s275 :: s276 :: s277 :: s278 :: s279 :: s280 :: s281 :: s282 :: s283 :: s284 :: s285 :: s286 :: s287 :: s288 :: s289 :: s290 :: s291 :: s292 :: s293 :: s294 :: s295 :: s296 :: s297 :: s298 :: s299 :: s300 :: s301 :: s302 :: s303 :: s304 :: s305 :: s306 :: s307 :: s308 :: s309 :: s310 :: s311 :: s312 :: s313 :: s314 :: s315 :: s316 :: s317 :: s318 :: s319 :: s320 :: s321 :: s322 :: s323 :: s324 :: s325 :: s326 :: s327 :: s328 :: s329 :: s330 :: s331 :: s332 :: s333 :: s334 :: s335 :: s336 :: s337 :: s338 :: s339 :: s340 :: s341 :: s342 :: s343 :: s344 :: s345 :: s346 :: s347 :: s348 :: s349 :: s350 :: s351 :: s352 :: s353 :: s354 :: s355 :: s356 :: s357 :: s358 :: s359 :: s360 :: s361 :: s362 :: s363 :: s364 :: s365 :: s366 :: s367 :: s368 :: s369 :: s370 :: s371 :: s372 :: s373 :: s374 :: s375 :: s376 :: s377 :: s378 :: s379 :: s380 :: s381 :: s382 :: s383 :: s384 :: s385 :: s386 :: s387 :: s388 :: s389 :: s390 :: s391 :: s392 :: s393 :: s394 :: s395 :: s396 :: s397 :: s398 :: s399 :: s400 :: s401 :: s402 :: s403 :: s404 :: s405 :: s406 :: s407 :: s408 :: s409 :: s410 :: s411 :: s412 :: s413 :: s414 :: s415 :: s416 :: s417 :: s418 :: s419 :: s420 :: s421 :: s422 :: s423 :: s424 :: s425 :: s426 :: s427 :: s428 :: s429 :: s430 :: s431 :: s432 :: s433 :: s434 :: s435 :: s436 :: s437 :: s438 :: s439 :: s440 :: s441 :: s442 :: s443 :: s444 :: s445 :: s446 :: s447 :: s448 :: s449 :: s450 :: s451 :: s452 :: s453 :: s454 :: s455 :: s456 :: s457 :: s458 :: s459 :: []), []⟩ W := by
  refine wp_tail rfl ?_
  have n5i : ((n5 : Nat) : Int) ≤ 1024 := by omega
  have n6i : ((n6 : Nat) : Int) ≤ 1024 := by omega
  have HLN5 := Hid.mk hl5
  have H6 := Hid.mk h6
  have HLN6 := Hid.mk hl6
  have HNM := Hid.mk hnm
  have HALL := Hid.mk hall
  have HAG := Hid.mk hag
  have HX2 := Hid.mk hx2
  clear h6 hl5 hl6 hnm hall hag hx2
  obtain ⟨wc, hwc⟩ : ∃ V, V = W := ⟨_, rfl⟩
  subst hwc
  go_upto_region 50 with fail
  have hag := HAG.out
  have ne : Nonempty (Ext wc) := ⟨⟨wc, Below.refl _ _⟩⟩
  have t1 := fun u : Ext wc => (hag.af.t0.ext u).cell 0
  have t2 := fun u : Ext wc => (hag.af.t0.ext u).cell 1
  have t3 := fun u : Ext wc => (hag.af.t0.ext u).cell 2
  have p2 := fun u : Ext wc => (hag.af.rB.ext u).cell 2
  have p3 := fun u : Ext wc => (hag.af.rB.ext u).cell 3
  have p4 := fun u : Ext wc => (hag.af.rB.ext u).cell 4
  have p5 := fun u : Ext wc => (hag.af.rB.ext u).cell 5
  have p6 := fun u : Ext wc => (hag.af.rB.ext u).cell 6
  have p7 := fun u : Ext wc => (hag.af.rB.ext u).cell 7
  have p8 := fun u : Ext wc => (hag.af.rB.ext u).cell 8
  simp at t1 t2 t3 p2 p3 p4 p5 p6 p7 p8
  have ADD : Hid (∀ u : Ext wc, Calls Yba.prog 10 #[.agg (tmV c.wl c.ex), .int .i64 5000000000] u.1 fun e w' => e = .returned (.agg (tmV c.wl c.ex2)) ∧ Below u.1.heap.size u.1 w') := fun u => by
    have h := add_any c.wl c.ex 5000000000 u.1 hwl0 hwl1 (by omega) (by omega)
    rw [addW_five hwl0 hwl1, HX2.out.2, ← HX2.out.1] at h
    exact h
  have EQ : Hid (∀ u : Ext wc, Calls Yba.prog 12 #[.agg (tmV c.wl c.ex2), .agg (tmV c.wl c.ex2)] u.1 fun e w' => e = .returned (.bool true) ∧ Below u.1.heap.size u.1 w') := fun u => equal_same _ _ u.1 hwl0 hwl1
  clear hag
  refine wp_region_ext (by kernel_rfl) (by kernel_rfl) ?_
  unfold InExt
  repeat (go_big_quiet_step (first | (go_at_call 10; exact quietE _ (ADD.out _)) | (go_at_call 12; exact quietE _ (EQ.out _))))
  refine wpQuiet_nil ?_
  rintro _ ⟨u, rfl⟩
  go_upto_region 52 with fail
  refine wp_world (fun V => AG w V c Bt N La Ra Brt n5 k kp I (t0 + (I - i0)) wk (gvAt c.sl i0 c.rl n5) (gvAt c.sl J1 c.llf k) 0 0 Gr kv i0) (HAG.out.ext u.2) ?_
  clear t1 t2 t3 p2 p3 p4 p5 p6 p7 p8 ADD EQ ne HAG
  intro V5 hag
  have AFT := Hid.mk (aafter_any c.C c.wl c.ex c.lgv wk V5 hag.af.rC hag.af.log)
  have HAG := Hid.mk hag
  clear hag
  go_wp2_with fail
  refine AFT.out.mono ?_
  rintro e w9 ⟨rfl, hb9⟩
  have hag := HAG.out.ext hb9
  clear AFT HAG hb9
  have y15 := hag.af.rS.cell 15
  simp at y15
  obtain ⟨ad, kcap, hkv⟩ := owns_len hag.ow
  have hkcap : kp ≤ kcap := by
    have := hag.ow
    rw [hkv] at this
    exact owns_cap this
  rw [hkv] at hag ⊢
  have HAG := Hid.mk hag
  clear hag hkv
  go_upto_region 56 with fail
  clear y15
  go_wp2
  have kpi : ((kp : Nat) : Int) ≤ 1024 := by omega
  go_loopg [40] kp (fun kk i W => ∃ j : Nat, j + kk = kp ∧ i = .int .i64 j ∧ AG w W c Bt N La Ra Brt n5 k kp I (t0 + (I - i0)) wk (gvAt c.sl i0 c.rl n5) (gvAt c.sl J1 c.llf k) 0 0 Gr (.slice ad kp kcap) i0)
  case atStart => exact ⟨0, by omega, rfl, HAG.out⟩
  clear HAG
  obtain ⟨j, hj, rfl, hag⟩ := hrel
  by_cases hlt : j < kp
  case pos =>
    obtain ⟨g, cap', e⟩ := owns_shape hag.ow (by omega)
    have e1 : ad = some ⟨g, 0, none⟩ := by injection e
    have e2 : kcap = cap' := by injection e
    subst e2
    have how := hag.ow
    rw [e1] at how
    have hnj : n5 - kp + j < c.RW.length := by rw [HLN5.out]; omega
    obtain ⟨q, hq⟩ : ∃ q, q = c.RW[n5 - kp + j].b := ⟨_, rfl⟩
    have ne : Nonempty (Ext wr) := ⟨⟨wr, Below.refl _ _⟩⟩
    have y1 : ∀ u : Ext wr, u.1.cell? ⟨c.S, 15, none⟩ = some (.slice (some ⟨Brt, 0, none⟩) kp n5) := fun u => by simpa using (hag.af.rS.ext u).cell 15
    have y2 : ∀ u : Ext wr, u.1.cell? ⟨Brt, j, none⟩ = some (.pointer (some ⟨q, 0, none⟩)) := fun u => by
      obtain ⟨cs, r, hs, hc⟩ := hag.af.fin
      rw [(r.ext u).cell, hc j hlt, List.getElem?_eq_getElem hnj, hq]
      rfl
    have y3 : ∀ u : Ext wr, u.1.cell? ⟨g, j, none⟩ = some (.pointer (some ⟨q, 0, none⟩)) := fun u => by
      refine Ext.cell ?_ u
      have hlt' : j < kp * 1 := by omega
      rw [how.cellAt j hlt', List.getElem?_map, List.getElem?_drop, List.getElem?_eq_getElem hnj, hq]
      rfl
    have heq := neq_same75
    rw [e1]
    have HAG := Hid.mk hag
    have HE1 := Hid.mk e1
    clear hag how e e1 hq
    go_upto_region 59 with fail
    refine wp_region_ext (by kernel_rfl) (by kernel_rfl) ?_
    unfold InExt
    repeat (go_big_quiet_step (fail))
    refine wpQuiet_nil ?_
    rintro _ ⟨u, rfl⟩
    have HC := Hid.mk (HAG.out.ext u.2)
    clear y1 y2 y3 heq ne HAG
    go_upto_region 58 with fail
    rw [← HE1.out]
    go_wp2
    go_roundg (kp - j - 1)
    case measure => omega
    case rel => exact ⟨j + 1, by omega, by simp, HC.out⟩
  obtain rfl : kp = j := by omega
  have HAG := Hid.mk hag
  clear hag hj hlt
  go_upto_region 61 with fail
  go_wp2
  rename_i K30 hK30
  have HK30 := Hid.mk hK30
  clear hK30
  go_loopg [41] n5 (fun kk i W => ∃ j : Nat, j + kk = n5 ∧ i = .int .i64 j ∧ AG w W c Bt N La Ra Brt n5 k kp I (t0 + (I - i0)) wk (gvAt c.sl i0 c.rl n5) (gvAt c.sl J1 c.llf k) j 0 Gr (.slice ad kp kcap) i0)
  case atStart => exact ⟨0, by omega, rfl, HAG.out⟩
  clear HAG
  obtain ⟨j, hj, rfl, hag⟩ := hrel
  by_cases hlt : j < n5
  case pos =>
    have hjR : j < c.RW.length := by rw [HLN5.out]; exact hlt
    obtain ⟨cr, rr, hrv⟩ := hag.af.ra
    have hw := hag.af.rws j hjR (Nat.le_refl _)
    obtain ⟨cg, rg, hgv⟩ := hag.gr
    obtain ⟨q, hq⟩ : ∃ q, q = c.RW[j].b := ⟨_, rfl⟩
    obtain ⟨lf, hlf⟩ : ∃ lf, lf = c.RW[j].left := ⟨_, rfl⟩
    obtain ⟨gb, hgb⟩ : ∃ gb, gb = decide (infAt c.sl i0 c.rl j < c.sl) := ⟨_, rfl⟩
    have hg : gvAt c.sl i0 c.rl n5 j = (gb && !lf) := by
      have hrl : c.rl j = lf := by unfold Cst.rl; rw [List.getElem?_eq_getElem hjR, hlf]; rfl
      unfold gvAt
      rw [hrl, ← hgb]
      simp [hlt]
    rw [hg] at hw
    have y0 : wr.cell? ⟨Gr, j, none⟩ = some (.bool gb) := by rw [hgb]; exact (rg.cell j).trans (hgv j hlt)
    have y1 : wr.cell? ⟨Ra, j, none⟩ = some (.pointer (some ⟨q, 0, none⟩)) := by rw [hq]; exact (rr.cell j).trans (hrv j hjR)
    have y2 : wr.cell? ⟨q, 2, none⟩ = some (.bool lf) := by rw [hq, hlf]; simpa using hw.row.cell 2
    have y3 : wr.cell? ⟨q, 3, none⟩ = some (.bool (gb && !lf)) := by rw [hq]; simpa using hw.row.cell 3
    have HELD : Hid (Calls Yba.prog 14 #[.pointer (some ⟨q, 0, none⟩), .pointer (some ⟨c.B, 0, none⟩)] wr fun e w' => e = .returned (.bool (gb && !lf)) ∧ Only [c.RW[j].c] wr w') := by
      rw [hq]
      exact held_any c.B c.RW[j] _ wr hw
    have HAG := Hid.mk hag
    clear hag rr hrv hw rg hgv hq hlf hgb hg
    go_upto_region 64 with fail
    go_cut [42] from 307 to 345 (fun s wx => s = .bool (gb && !lf) ∧ wx = wr)
    case first =>
      cases gb <;> cases lf
      · go_wp2
        go_meet
        case rel => exact ⟨rfl, rfl⟩
      · go_wp2
        go_meet
        case rel => exact ⟨rfl, rfl⟩
      · go_wp2
        go_meet
        case rel => exact ⟨rfl, rfl⟩
      · go_wp2
        go_meet
        case rel => exact ⟨rfl, rfl⟩
    obtain ⟨rfl, rfl⟩ := hcut
    clear y0 y2
    generalize (gb && !lf) = g at *
    go_wp2_with fail
    refine HELD.out.mono ?_
    rintro e w' ⟨rfl, ho⟩
    have HC := Hid.mk (HAG.out.heldR hjR ho)
    clear ho HELD HAG y1 y3
    go_wp2
    go_roundg (n5 - j - 1)
    case measure => omega
    case rel => exact ⟨j + 1, by omega, by simp, HC.out⟩
  obtain rfl : n5 = j := by omega
  have HAG := Hid.mk hag
  clear hag hj hlt
  go_wp2
  refine HK30.out _ _ ?_
  exact ad_tail2 w _ c a6 c6 n5 n6 k kp X6 Bt N La Ra Brt I t0 i0 J1 wk HAG.out.af hk6 l6 k6 H6.out HLN6.out HALL.out HNM.out
end Go.Proofs.Ybulkhba
