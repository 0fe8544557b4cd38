import Derived.Test.YbulkhbaAd
import Derived.Deep.RegionHeld3
namespace Go.Proofs.Ybulkhba
open Go.Conc Go.RowKit
set_option linter.unusedVariables false
set_option linter.unusedSimpArgs false

/-- The code behind the first n statements of a body. -/
def tailO : Nat → Code → Option Code
  | 0, c => some c
  | n + 1, .seq _ r => tailO n r
  | _ + 1, _ => none
theorem wp_tail {n : Nat} {c : Code} {Q : Exit → Act → World → Prop} {a : Act} {w : World} (h : tailO n (Yba.f4.body.getD .skip) = some c) (hw : Code.wp Yba.prog c Q a w) : Code.wp Yba.prog ((tailO n (Yba.f4.body.getD .skip)).getD .skip) Q a w := by
  rw [h]; exact hw
set_option maxRecDepth 100000 in
set_option maxHeartbeats 12800000 in
/-- From 'var exp' on: the line's checks. -/
theorem ad_tail2 (w W : World) (c : Cst) (a6 : Option Addr) (c6 n5 n6 k kp : Nat) (X6 : List Int) (Bt N La Ra Brt : Nat) (I t0 i0 J1 : Int) (wk : Bool) (haf : AF w W c Bt N La Ra Brt n5 k kp I (t0 + (I - i0)) wk (gvAt c.sl i0 c.rl n5) (gvAt c.sl J1 c.llf k) n5 0)
    (hk6 : k ≤ n6) (l6 : n6 ≤ 1024) (k6 : n6 ≤ c6) (h6 : n6 = X6.length ∧ AtsU w a6 X6 ∧ ∀ x ∈ X6, 0 ≤ x ∧ x < 256) (hl6 : c.LW.length = n6) (hall : ∀ j, j < k → infAt c.sl J1 c.llf j < c.sl) (hnm : nmX X6 = c.nm)
    {s0 s1 s2 s3 s4 s5 s7 s8 s9 s10 s11 s12 s13 s14 s15 s16 s17 s18 s20 s23 s24 s26 s27 s28 s29 s30 s31 s32 s34 s35 s36 s37 s38 s40 s41 s42 s43 s44 s45 s46 s47 s48 s49 s50 s51 s52 s53 s54 s55 s56 s57 s58 s59 s60 s61 s62 s63 s64 s65 s66 s67 s68 s69 s70 s71 s72 s73 s74 s75 s76 s77 s78 s79 s80 s81 s82 s83 s84 s85 s86 s87 s88 s89 s90 s91 s92 s93 s94 s95 s96 s97 s98 s99 s100 s101 s102 s103 s104 s105 s106 s107 s108 s109 s110 s111 s112 s113 s114 s115 s116 s117 s118 s119 s120 s121 s122 s123 s124 s125 s126 s127 s128 s129 s130 s131 s132 s133 s134 s135 s136 s137 s138 s139 s140 s141 s142 s143 s144 s145 s146 s147 s148 s149 s150 s151 s152 s153 s154 s155 s156 s157 s158 s159 s160 s161 s162 s163 s164 s165 s166 s167 s168 s169 s170 s171 s172 s173 s174 s175 s176 s177 s178 s179 s180 s181 s182 s183 s184 s185 s186 s187 s188 s189 s190 s191 s192 s193 s194 s195 s196 s197 s198 s199 s200 s201 s202 s203 s204 s205 s206 s207 s208 s209 s210 s211 s212 s213 s214 s215 s216 s217 s218 s219 s220 s221 s222 s223 s224 s225 s226 s227 s228 s229 s230 s231 s232 s233 s234 s235 s236 s237 s238 s239 s240 s241 s242 s243 s244 s245 s246 s247 s248 s249 s250 s251 s252 s253 s254 s255 s256 s257 s258 s259 s260 s261 s262 s263 s264 s265 s266 s267 s268 s269 s270 s271 s272 s273 s274 s275 s276 s277 s278 s279 s280 s281 s282 s283 s284 s285 s286 s287 s288 s289 s290 s291 s292 s293 s294 s295 s296 s297 s298 s299 s300 s301 s302 s303 s304 s305 s306 s307 s308 s309 s310 s311 s312 s313 s314 s315 s316 s317 s318 s319 s320 s321 s322 s323 s324 s325 s326 s327 s328 s329 s330 s331 s332 s333 s334 s335 s336 s337 s338 s339 s340 s341 s342 s343 s344 s345 s346 s347 s348 s349 s350 s351 s352 s353 s354 s355 s356 s357 s358 s359 s360 s361 s362 s363 s364 s365 s366 s367 s368 s369 s370 s371 s372 s373 s374 s375 s376 s377 s378 s379 s380 s381 s382 s383 s384 s385 s386 s387 s388 s389 s390 s391 s392 s393 s394 s395 s396 s397 s398 s399 s400 s401 s402 s403 s404 s405 s406 s407 s408 s409 s410 s411 s412 s413 s414 s415 s416 s417 s418 s419 s420 s421 s422 s423 s424 s425 s426 s427 s428 s429 s430 s431 s432 s433 s434 s435 s436 s437 s438 s439 s440 s441 s442 s443 s444 s445 s446 s447 s448 s449 s450 s451 s452 s453 s454 s455 s456 s457 s458 s459 : Value} :
    Code.wp Yba.prog ((tailO 30 (Yba.f4.body.getD .skip)).getD .skip) (bodyPost Yba.prog Yba.f4 fun e w' => e = .returned (.bool true) ∧ Below w.heap.size w w')
      ⟨List.toArray (s0 :: s1 :: s2 :: s3 :: s4 :: s5 :: .slice a6 n6 c6 :: s7 :: s8 :: s9 :: s10 :: s11 :: s12 :: s13 :: s14 :: s15 :: s16 :: s17 :: s18 :: .pointer (some ⟨c.B, 0, none⟩) :: s20 :: .pointer (some ⟨N, 0, none⟩) :: .pointer (some ⟨c.Qn, 0, none⟩) :: s23 :: s24 :: .slice (some ⟨La, 0, none⟩) n6 n6 :: s26 :: s27 :: s28 :: s29 :: s30 :: s31 :: s32 :: .pointer (some ⟨c.S, 0, none⟩) :: s34 :: s35 :: s36 :: s37 :: s38 :: .int .i64 k :: s40 :: s41 :: s42 :: s43 :: s44 :: s45 :: s46 :: s47 :: s48 :: s49 :: s50 :: s51 :: s52 :: s53 :: s54 :: s55 :: s56 :: s57 :: s58 :: s59 :: s60 :: s61 :: s62 :: s63 :: s64 :: s65 :: s66 :: s67 :: s68 :: s69 :: s70 :: s71 :: s72 :: s73 :: s74 :: s75 :: s76 :: s77 :: s78 :: s79 :: s80 :: s81 :: s82 :: s83 :: s84 :: s85 :: s86 :: s87 :: s88 :: s89 :: s90 :: s91 :: s92 :: s93 :: s94 :: s95 :: s96 :: s97 :: s98 :: s99 :: s100 :: s101 :: s102 :: s103 :: s104 :: s105 :: s106 :: s107 :: s108 :: s109 :: s110 :: s111 :: s112 :: s113 :: s114 :: s115 :: s116 :: s117 :: s118 :: s119 :: s120 :: s121 :: s122 :: s123 :: s124 :: s125 :: s126 :: s127 :: s128 :: s129 :: s130 :: s131 :: s132 :: s133 :: s134 :: s135 :: s136 :: s137 :: s138 :: s139 :: s140 :: s141 :: s142 :: s143 :: s144 :: s145 :: s146 :: s147 :: s148 :: s149 :: s150 :: s151 :: s152 :: s153 :: s154 :: s155 :: s156 :: s157 :: s158 :: s159 :: s160 :: s161 :: s162 :: s163 :: s164 :: s165 :: s166 :: s167 :: s168 :: s169 :: s170 :: s171 :: s172 :: s173 :: s174 :: s175 :: s176 :: s177 :: s178 :: s179 :: s180 :: s181 :: s182 :: s183 :: s184 :: s185 :: s186 :: s187 :: s188 :: s189 :: s190 :: s191 :: s192 :: s193 :: s194 :: s195 :: s196 :: s197 :: s198 :: s199 :: s200 :: s201 :: s202 :: s203 :: s204 :: s205 :: s206 :: s207 :: s208 :: s209 :: s210 :: s211 :: s212 :: s213 :: s214 :: s215 :: s216 :: s217 :: s218 :: s219 :: s220 :: s221 :: s222 :: s223 :: s224 :: s225 :: s226 :: s227 :: s228 :: s229 :: s230 :: s231 :: s232 :: s233 :: s234 :: s235 :: s236 :: s237 :: s238 :: s239 :: s240 :: s241 :: s242 :: s243 :: s244 :: s245 :: s246 :: s247 :: s248 :: s249 :: s250 :: s251 :: s252 :: s253 :: s254 :: s255 :: s256 :: s257 :: s258 :: s259 :: s260 :: s261 :: s262 :: s263 :: s264 :: s265 :: s266 :: s267 :: s268 :: s269 :: s270 :: s271 :: s272 :: s273 :: s274 :: s275 :: s276 :: s277 :: s278 :: s279 :: s280 :: s281 :: s282 :: s283 :: s284 :: s285 :: s286 :: s287 :: s288 :: s289 :: s290 :: s291 :: s292 :: s293 :: s294 :: s295 :: s296 :: s297 :: s298 :: s299 :: s300 :: s301 :: s302 :: s303 :: s304 :: s305 :: s306 :: s307 :: s308 :: s309 :: s310 :: s311 :: s312 :: s313 :: s314 :: s315 :: s316 :: s317 :: s318 :: s319 :: s320 :: s321 :: s322 :: s323 :: s324 :: s325 :: s326 :: s327 :: s328 :: s329 :: s330 :: s331 :: s332 :: s333 :: s334 :: s335 :: s336 :: s337 :: s338 :: s339 :: s340 :: s341 :: s342 :: s343 :: s344 :: s345 :: s346 :: s347 :: s348 :: s349 :: s350 :: s351 :: s352 :: s353 :: s354 :: s355 :: s356 :: s357 :: s358 :: s359 :: s360 :: s361 :: s362 :: s363 :: s364 :: s365 :: s366 :: s367 :: s368 :: s369 :: s370 :: s371 :: s372 :: s373 :: s374 :: s375 :: s376 :: s377 :: s378 :: s379 :: s380 :: s381 :: s382 :: s383 :: s384 :: s385 :: s386 :: s387 :: s388 :: s389 :: s390 :: s391 :: s392 :: s393 :: s394 :: s395 :: s396 :: s397 :: s398 :: s399 :: s400 :: s401 :: s402 :: s403 :: s404 :: s405 :: s406 :: s407 :: s408 :: s409 :: s410 :: s411 :: s412 :: s413 :: s414 :: s415 :: s416 :: s417 :: s418 :: s419 :: s420 :: s421 :: s422 :: s423 :: s424 :: s425 :: s426 :: s427 :: s428 :: s429 :: s430 :: s431 :: s432 :: s433 :: s434 :: s435 :: s436 :: s437 :: s438 :: s439 :: s440 :: s441 :: s442 :: s443 :: s444 :: s445 :: s446 :: s447 :: s448 :: s449 :: s450 :: s451 :: s452 :: s453 :: s454 :: s455 :: s456 :: s457 :: s458 :: s459 :: []), []⟩ W := by
  refine wp_tail rfl ?_
  have n6i : ((n6 : Nat) : Int) ≤ 1024 := by omega
  have H6 := Hid.mk h6
  have HLN6 := Hid.mk hl6
  have HNM := Hid.mk hnm
  have HK : Hid (True ∧ (∀ j, j < k → infAt c.sl J1 c.llf j < c.sl) ∧ True) := ⟨trivial, hall, trivial⟩
  have HAF := Hid.mk haf
  clear h6 hl6 hnm hall haf
  obtain ⟨wr, hwr⟩ : ∃ V, V = W := ⟨_, rfl⟩
  subst hwr
  go_upto_region 68 with fail
  refine wp_world (fun V => AH w V c Bt N La Ra Brt n5 k kp I (t0 + (I - i0)) wk (gvAt c.sl i0 c.rl n5) (gvAt c.sl J1 c.llf k) 0 wr.heap.size (expRow c.nm k 0)) ⟨HAF.out.ext ((Below.refl _ _).alloc (Nat.le_refl _) _), by rw [expRow_zero]; exact row_new _ _ _ _ rfl, HAF.out.below.size⟩ ?_
  obtain ⟨E, hE⟩ : ∃ E, E = wr.heap.size := ⟨_, rfl⟩
  rw [← hE]
  clear hE HAF
  intro V7 hah
  have HAH := Hid.mk hah
  clear hah
  go_wp2
  go_loopg [44] n6 (fun kk i W => ∃ j : Nat, j + kk = n6 ∧ i = .int .i64 j ∧ AH w W c Bt N La Ra Brt n5 k kp I (t0 + (I - i0)) wk (gvAt c.sl i0 c.rl n5) (gvAt c.sl J1 c.llf k) j E (expRow c.nm k j))
  case atStart => exact ⟨0, by omega, rfl, HAH.out⟩
  clear HAH
  obtain ⟨j, hj, rfl, hah⟩ := hrel
  by_cases hlt : j < n6
  case pos =>
    have hjL : j < c.LW.length := by rw [HLN6.out]; exact hlt
    obtain ⟨cl, rl, hlv⟩ := hah.af.la
    have hw := hah.af.lws j hjL (Nat.le_refl _)
    obtain ⟨q, hq⟩ : ∃ q, q = c.LW[j].b := ⟨_, rfl⟩
    obtain ⟨lf, hlf⟩ : ∃ lf, lf = c.LW[j].left := ⟨_, rfl⟩
    have hll : c.llf j = lf := by unfold Cst.llf; rw [List.getElem?_eq_getElem hjL, hlf]; rfl
    have y1 : wr.cell? ⟨La, j, none⟩ = some (.pointer (some ⟨q, 0, none⟩)) := by rw [hq]; exact (rl.cell j).trans (hlv j hjL)
    have y2 : wr.cell? ⟨q, 2, none⟩ = some (.bool lf) := by rw [hq, hlf]; simpa using hw.row.cell 2
    by_cases hjk : j < k
    case pos =>
      have hg : gvAt c.sl J1 c.llf k j = !lf := by
        unfold gvAt
        rw [hll, decide_eq_true hjk, decide_eq_true (HK.out.2.1 j hjk)]
        simp
      rw [hg] at hw
      have y3 : wr.cell? ⟨q, 3, none⟩ = some (.bool (!lf)) := by rw [hq]; simpa using hw.row.cell 3
      have HELD : Hid (Calls Yba.prog 14 #[.pointer (some ⟨q, 0, none⟩), .pointer (some ⟨c.B, 0, none⟩)] wr fun e w' => e = .returned (.bool (!lf)) ∧ Only [c.LW[j].c] wr w') := by
        rw [hq]
        exact held_any c.B c.LW[j] _ wr hw
      have HAH := Hid.mk hah
      have hjki : ((j : Nat) : Int) < ((k : Nat) : Int) := by omega
      have hfw : Hid (c.fw k ((j : Nat) : Int) = none) := by
        refine Hid.mk ?_
        unfold Cst.fw
        rw [if_neg (by omega)]
      clear hah rl hlv hw hq hlf hg hll
      cases lf <;> simp only [Bool.not_true, Bool.not_false] at y3 HELD
      · go_wp2_with fail
        refine HELD.out.mono ?_
        rintro e w' ⟨rfl, ho⟩
        have hah := HAH.out.heldL hjL ho
        have ys : w'.cell? ⟨c.S, 12, none⟩ = some (.map (some c.Mw)) := by simpa using hah.af.rS.cell 12
        have hlk := hah.af.mw.look_ok mapTy49 ((j : Nat) : Int)
        rw [hfw.out] at hlk
        simp at hlk
        rw [← expRow_wait c.nm hjk] at hah
        have HC := Hid.mk hah
        clear hah ho HELD HAH y1 y2 y3
        go_wp2
        go_roundg (n6 - j - 1)
        case measure => omega
        case rel => exact ⟨j + 1, by omega, by simp, HC.out⟩
      · go_wp2_with fail
        refine HELD.out.mono ?_
        rintro e w' ⟨rfl, ho⟩
        have hah := HAH.out.heldL hjL ho
        have ys : w'.cell? ⟨c.S, 12, none⟩ = some (.map (some c.Mw)) := by simpa using hah.af.rS.cell 12
        have hlk := hah.af.mw.look_ok mapTy49 ((j : Nat) : Int)
        rw [hfw.out] at hlk
        simp at hlk
        rw [← expRow_wait c.nm hjk] at hah
        have HC := Hid.mk hah
        clear hah ho HELD HAH y1 y2 y3
        go_wp2
        go_roundg (n6 - j - 1)
        case measure => omega
        case rel => exact ⟨j + 1, by omega, by simp, HC.out⟩
    case neg =>
      have hg : gvAt c.sl J1 c.llf k j = false := by
        unfold gvAt
        rw [decide_eq_false hjk]
        simp
      rw [hg] at hw
      have y3 : wr.cell? ⟨q, 3, none⟩ = some (.bool false) := by rw [hq]; simpa using hw.row.cell 3
      have HELD : Hid (Calls Yba.prog 14 #[.pointer (some ⟨q, 0, none⟩), .pointer (some ⟨c.B, 0, none⟩)] wr fun e w' => e = .returned (.bool false) ∧ Only [c.LW[j].c] wr w') := by
        rw [hq]
        exact held_any c.B c.LW[j] _ wr hw
      have HAH := Hid.mk hah
      have hjki : ¬ ((j : Nat) : Int) < ((k : Nat) : Int) := by omega
      have hkji : ((k : Nat) : Int) ≤ ((j : Nat) : Int) := by omega
      have hfw : Hid (c.fw k ((j : Nat) : Int) = some q) := by
        refine Hid.mk ?_
        unfold Cst.fw
        rw [if_pos (by omega), hq]
        simp [hjL]
      clear hah rl hlv hw hq hlf hg hll
      have hj6 : j < X6.length := by rw [← H6.out.1]; exact hlt
      obtain ⟨x6, e6, hb6, _⟩ := H6.out.2.1 j hj6
      obtain ⟨x, hx⟩ : ∃ x, x = X6[j] := ⟨_, rfl⟩
      obtain ⟨hx0, hx1⟩ : 0 ≤ x ∧ x < 256 := by rw [hx]; exact H6.out.2.2 _ (List.getElem_mem _)
      have hix : (x / 2 % 3).toNat = (c.nm j).val := by rw [hx, nmX_val hj6 (by rw [← hx]; exact hx0), HNM.out]
      have HIX := Hid.mk (And.intro hix (And.intro hx e6))
      clear hix hx e6
      go_wp2_with fail
      refine HELD.out.mono ?_
      rintro e w' ⟨rfl, ho⟩
      have hah := HAH.out.heldL hjL ho
      have ys : w'.cell? ⟨c.S, 12, none⟩ = some (.map (some c.Mw)) := by simpa using hah.af.rS.cell 12
      have hlk := hah.af.mw.look_ok mapTy49 ((j : Nat) : Int)
      rw [hfw.out] at hlk
      simp at hlk
      have hc6 : w'.cell? (x6.add j) = some (.int .u8 x) := by
        obtain ⟨x6', e6', _, hc⟩ := (H6.out.2.1.below hah.af.below) j hj6
        rw [HIX.out.2.2] at e6'
        cases e6'
        rw [HIX.out.2.1]; exact hc
      obtain ⟨cnt, hcnt⟩ : ∃ cnt, cnt = cntF c.nm (c.nm j) (j - k) k := ⟨_, rfl⟩
      have hcl : ((cnt : Nat) : Int) ≤ 1024 := by
        have := cntF_le c.nm (c.nm j) (j - k) k
        omega
      have ye : w'.cell? ⟨E, (x / 2 % 3).toNat, none⟩ = some (.int .i64 ((cnt : Nat) : Int)) := by
        rw [HIX.out.1, hcnt, hah.rE.cell]
        exact expRow_at _ _ _ _
      have yf := hah.rE.frozen (x / 2 % 3).toNat
      have FIN : Hid (AH w (w'.setCell ⟨E, (x / 2 % 3).toNat, none⟩ (.int .i64 (((cnt : Nat) : Int) + 1))) c Bt N La Ra Brt n5 k kp I (t0 + (I - i0)) wk (gvAt c.sl i0 c.rl n5) (gvAt c.sl J1 c.llf k) (j + 1) E (expRow c.nm k (j + 1))) := by
        refine Hid.mk ?_
        have h := hah.count (x / 2 % 3).toNat (.int .i64 (((cnt : Nat) : Int) + 1))
        rw [← expRow_next c.nm (by omega : k ≤ j), ← HIX.out.1, ← hcnt]
        exact h
      clear hah hcnt ho HELD HAH y1 y2 y3
      rw [HIX.out.2.2]
      go_upto_region 70 with fail
      rw [← HIX.out.2.2]
      go_wp2
      go_roundg (n6 - j - 1)
      case measure => omega
      case rel => exact ⟨j + 1, by omega, by simp, FIN.out⟩
  obtain rfl : n6 = j := by omega
  have LEN := Hid.mk (aqLen_any c.Qn c.LW.length c.qcap c.qa k wr hah.af.rQ (by rw [HLN6.out]; omega) (by omega))
  rw [HLN6.out] at LEN
  have HAH := Hid.mk hah
  clear hah hj hlt
  go_wp2_with fail
  refine LEN.out.mono ?_
  rintro e w8 ⟨rfl, m, hm⟩
  have hb8 : Below wr.heap.size wr w8 := by rw [hm]; exact ((Only.refl [] wr).drewN m).below (Nat.le_refl _) (by simp)
  have hah := HAH.out.ext hb8
  clear hm hb8 HAH LEN
  have ys : w8.cell? ⟨c.S, 12, none⟩ = some (.map (some c.Mw)) := by simpa using hah.af.rS.cell 12
  have hml : ∀ ty, (Builtin.len_ #[49] ty #[.map (some c.Mw)]).run Yba.prog w8 = .ok (.int .i64 (((n6 : Nat) : Int) - ((k : Nat) : Int))) w8 := fun ty => by
    have h := hah.af.mw.len Yba.underlying49 ty
    rw [HLN6.out, show ((n6 - k : Nat) : Int) = ((n6 : Nat) : Int) - ((k : Nat) : Int) by omega] at h
    exact h
  have HAH := Hid.mk hah
  clear hah
  go_upto_region 81 with fail
  clear ys hml
  go_wp2
  go_loopg [48] 3 (fun kk i W => ∃ j : Nat, j + kk = 3 ∧ i = .int .i64 j ∧ AH w W c Bt N La Ra Brt n5 k kp I (t0 + (I - i0)) wk (gvAt c.sl i0 c.rl n5) (gvAt c.sl J1 c.llf k) n6 E (expRow c.nm k n6))
  case atStart => exact ⟨0, by omega, rfl, HAH.out⟩
  clear HAH
  obtain ⟨j, hj, rfl, hah⟩ := hrel
  by_cases hlt : j < 3
  case pos =>
    have hlti : ((j : Nat) : Int) < 3 := by omega
    obtain ⟨cnt, hcnt⟩ : ∃ cnt, cnt = cntF c.nm ⟨j, hlt⟩ (n6 - k) k := ⟨_, rfl⟩
    have hcl : ((cnt : Nat) : Int) ≤ 1024 := by
      have := cntF_le c.nm ⟨j, hlt⟩ (n6 - k) k
      omega
    obtain ⟨nq, hmq⟩ := hah.af.mq
    have ne : Nonempty (Ext wr) := ⟨⟨wr, Below.refl _ _⟩⟩
    have y1 : ∀ u : Ext wr, u.1.cell? ⟨c.S, 13, none⟩ = some (.map (some c.Mq)) := fun u => by simpa using (hah.af.rS.ext u).cell 13
    have y2 : ∀ u : Ext wr, u.1.cell? ⟨N, j, none⟩ = some (.string (nameB j)) := fun u => by
      rw [(hah.af.rN.ext u).cell]
      exact names_at ⟨j, hlt⟩
    have y3 : ∀ u : Ext wr, u.1.cell? ⟨E, j, none⟩ = some (.int .i64 ((cnt : Nat) : Int)) := fun u => by
      rw [(hah.rE.ext u).cell, hcnt]
      exact expRow_at c.nm k n6 ⟨j, hlt⟩
    have hlk : ∀ u : Ext wr, (Instr.lookup 50 (.map (some c.Mq)) (.string (nameB j)) true).run Yba.prog u.1 = .ok (.tuple #[.int .i64 ((cnt : Nat) : Int), .bool (optI cnt).isSome]) u.1 := fun u => by
      have h := (hmq.only (S := []) (Only.ofBelow u.2) (by simp)).look_ok mapTy50 ⟨j, hlt⟩
      unfold Cst.fq at h
      rw [HLN6.out, ← hcnt, optI_get] at h
      exact h
    have HAH := Hid.mk hah
    clear hah hmq hcnt
    go_upto_region 84 with fail
    refine wp_region_ext (by kernel_rfl) (by kernel_rfl) ?_
    unfold InExt
    repeat (go_big_quiet_step (fail))
    refine wpQuiet_nil ?_
    rintro _ ⟨u, rfl⟩
    have HC := Hid.mk (HAH.out.ext u.2)
    have y3' := y3 u
    clear hlk y1 y2 y3 HAH
    go_upto_if 449 with fail
    by_cases hc : cnt = 0
    case pos =>
      subst hc
      simp only [optI, if_pos]
      go_wp2
      go_roundg (3 - j - 1)
      case measure => omega
      case rel => exact ⟨j + 1, by omega, by simp, HC.out⟩
    case neg =>
      have hc0 : (((cnt : Nat) : Int) == 0) = false := by rw [beq_eq_false_iff_ne]; omega
      have hc1 : ¬ ((cnt : Nat) : Int) = 0 := by omega
      have ho : (optI cnt).isSome = true := by simp [optI, hc]
      go_wp2
      go_roundg (3 - j - 1)
      case measure => omega
      case rel => exact ⟨j + 1, by omega, by simp, HC.out⟩
  obtain rfl : 3 = j := by omega
  have HF := Hid.mk hah.af.below
  clear hah
  go_wp2
  go_ret
  exact ⟨rfl, HF.out⟩
end Go.Proofs.Ybulkhba
