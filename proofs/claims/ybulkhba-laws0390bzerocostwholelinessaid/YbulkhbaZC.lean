import Derived.Test.YbulkhbaRRLaw
namespace Go.Proofs.Ybulkhba
open Go.RowKit
set_option linter.unusedVariables false
set_option linter.unusedSimpArgs false

def wantZ (F : List Int) (X : Nat → List Int) : List Int := F.flatMap (fun kd => X kd.toNat)
theorem wantZ_take (F : List Int) (X : Nat → List Int) (i : Nat) (hi : i < F.length) : wantZ (F.take (i + 1)) X = wantZ (F.take i) X ++ X F[i].toNat := by
  unfold wantZ
  rw [List.take_succ_eq_append_getElem hi, List.flatMap_append]
  simp only [List.flatMap_cons, List.flatMap_nil, List.append_nil]

theorem Set2.pushL {w2 W W' : World} {wv v' : Value} {xs ys : List Int} (h : Set2 w2 W wv xs) (hown : W'.ownsRow 0 3 1 v' (xs.length + ys.length) (xs.map (Value.int .i64 ·) ++ ys.map (Value.int .i64 ·))) (hg : W.grownBy W' wv.ownBlock) (hn : v'.ownBlock = wv.ownBlock ∨ v'.ownBlock = some W.heap.size) : Set2 w2 W' v' (xs ++ ys) := by
  refine ⟨by simpa [Lst] using hown, fun k hk => ?_, h.below.trans ((Only.ofGrown (S := wv.ownBlock.toList) hg (by intro j hj; simp [hj])).below h.below.size (fun k hk => h.lo k (by simpa using hk)))⟩
  rcases hn with e | e
  · exact h.lo k (by rw [← e]; exact hk)
  · rw [e] at hk; cases hk; exact h.below.size
theorem wantZ_len (F : List Int) (X : Nat → List Int) (m : Nat) (h : ∀ k, (X k).length ≤ m) : (wantZ F X).length ≤ F.length * m := by
  induction F with
  | nil => simp [wantZ]
  | cons x F ih =>
    have h1 := h x.toNat
    simp only [wantZ, List.flatMap_cons, List.length_append, List.length_cons] at ih ⊢
    rw [Nat.succ_mul]
    omega
theorem ints_all {ys : List Int} : ∀ (u : Value), u ∈ ys.map (Value.int .i64 ·) → u.oneCell' = true := by
  intro u hu
  obtain ⟨y, _, rfl⟩ := List.mem_map.1 hu
  rfl

theorem Set1.off {w W W' : World} {K : List Nat} {c : Int} {j : Nat} {os : Nat → Value} {S1 b : Nat} {ty : TypeId} {cs : Array Value} (h : Set1 w W K c j os S1) (r : Row W b ty cs) (h1 : ty ≠ 83) (h2 : ty ≠ 3) (h3 : ty ≠ 109) (hb : w.heap.size ≤ b) (ho : Only [b] W W') :
    Set1 w W' K c j os S1 := by
  obtain ⟨c1, a1, a2, a3⟩ := h.rs
  obtain ⟨c2, b1, b2, b3⟩ := h.ks
  refine ⟨h.below.trans (ho.below h.below.size (by simpa using hb)), ⟨c1, a1.only ho (by simpa using (r.ne a1 h1).symm), a2, a3⟩, ⟨c2, b1.only ho (by simpa using (r.ne b1 h2).symm), b2, b3⟩, h.ls.only ho (by simpa using (r.ne h.ls h3).symm), fun i hi => (h.own.owns i hi).only ho ?_, h.own.apart, h.own.lo⟩
  intro k hk
  obtain ⟨cs', r'⟩ := (h.own.owns i hi).row k hk
  simpa using (r.ne r' h2).symm

set_option maxRecDepth 100000 in
set_option maxHeartbeats 6400000 in
theorem zc_walk (a0 : Option Addr) (cap : Nat) (K : List Nat) (z0 z1 z2 : Int) (wz w : World) (hwz : w = wz.alloc (.cells #[.int .u8 z0, .int .u8 z1, .int .u8 z2] 91)) (hin : KindsIn w a0 K) (hn : K.length ≤ 1024) (hcap : K.length ≤ cap)
    (hz0 : 0 ≤ z0 ∧ z0 < 256) (hz1 : 0 ≤ z1 ∧ z1 < 256) (hz2 : 0 ≤ z2 ∧ z2 < 256)
    (hk3 : ∀ k ∈ K, k < 3) (hF : ∀ k ∈ plainAt K K.length 3, 0 ≤ k ∧ k < 3) (hne : ∀ k ∈ plainAt K K.length 3, plainAt K K.length k.toNat ≠ []) (hW : (wantZ (plainAt K K.length 3) (plainAt K K.length)).length = K.length)
    (hfew : ∀ c q0 q1 q2 j, j ≤ K.length → (buildB ((zipP K c q0 q1 q2).take j)).length ≤ 900)
    (hS : ∀ q0 q1 q2, 1 ≤ q0 → q0 ≤ 8 → 1 ≤ q1 → q1 ≤ 8 → 1 ≤ q2 → q2 ≤ 8 → ∀ rot : List TS, rot.map TS.tb = buildB (zipP K 0 q0 q1 q2) → Serves (wantZ (plainAt K K.length 3) (plainAt K K.length)) false (rot.map TS.pb)) :
    Calls Yba.prog 7 #[.slice a0 K.length cap, .agg #[.int .u8 z0, .int .u8 z1, .int .u8 z2]] wz fun e w' => e = .returned (.bool true) ∧ Below wz.heap.size wz w' := by
  obtain ⟨n, hnn⟩ : ∃ n, n = K.length := ⟨_, rfl⟩
  obtain ⟨F, hFF⟩ : ∃ F, F = plainAt K n 3 := ⟨_, rfl⟩
  obtain ⟨X, hXX⟩ : ∃ X, X = plainAt K n := ⟨_, rfl⟩
  obtain ⟨q0, hq0⟩ : ∃ q, z0 % 8 + 1 = q := ⟨_, rfl⟩
  obtain ⟨q1, hq1⟩ : ∃ q, z1 % 8 + 1 = q := ⟨_, rfl⟩
  obtain ⟨q2, hq2⟩ : ∃ q, z2 % 8 + 1 = q := ⟨_, rfl⟩
  have hn63 : ((n : Nat) : Int) ≤ 1024 := by omega
  obtain ⟨i3, hi3, hz3, hs3, hb3⟩ := info_parts Yba.info3
  have PLAIN := Hid.mk (plain_any a0 cap K w hin hn hcap)
  have RZ : Hid (Row w wz.heap.size 91 #[.int .u8 z0, .int .u8 z1, .int .u8 z2] ∧ Below wz.heap.size wz w ∧ wz.heap.size < w.heap.size) := by
    rw [hwz]
    exact ⟨row_new _ _ _ _ rfl, (Below.refl _ _).alloc (Nat.le_refl _) _, by simp⟩
  rw [← hnn] at hn hcap PLAIN hF hne hW hS ⊢
  rw [← hFF] at hF hne hW hS
  rw [← hXX] at hW hS hne
  have HS := Hid.mk (hS q0 q1 q2 (by omega) (by omega) (by omega) (by omega) (by omega) (by omega))
  have HW := Hid.mk hW
  have HF := Hid.mk hF
  have HNE := Hid.mk hne
  have HN := Hid.mk hnn
  have HFEW := Hid.mk (hfew 0 q0 q1 q2)
  have HK3 := Hid.mk hk3
  have HFX := Hid.mk (And.intro hFF hXX)
  have HWZ := Hid.mk hwz
  obtain ⟨hz0, hz0'⟩ := hz0
  obtain ⟨hz1, hz1'⟩ := hz1
  obtain ⟨hz2, hz2'⟩ := hz2
  clear hin hk3 hF hne hW hfew hS hnn hFF hXX hwz
  go_enter Yba.func7, Yba.ntmps7
  go_wp2_with fail
  rw [← HWZ.out]
  refine PLAIN.out.mono ?_
  rintro e w1 ⟨os, rfl, b1, hrs, hks, hown⟩
  obtain ⟨p0, g0, e0, l0⟩ := (hown.owns 0 (by omega)).shape
  obtain ⟨p1, g1, e1, l1⟩ := (hown.owns 1 (by omega)).shape
  obtain ⟨p2, g2, e2, l2⟩ := (hown.owns 2 (by omega)).shape
  obtain ⟨p3, g3, e3, l3⟩ := (hown.owns 3 (by omega)).shape
  rw [← HFX.out.2] at e0 e1 e2 e3
  rw [e0, e1, e2, e3]
  have HE := Hid.mk (And.intro e0 (And.intro e1 (And.intro e2 e3)))
  have H1 := Hid.mk (And.intro b1 (And.intro hrs (And.intro hks hown)))
  have W1S : Hid (w.heap.size ≤ w1.heap.size) := b1.size
  clear e0 e1 e2 e3 l0 l1 l2 l3 b1 hrs hks hown PLAIN
  go_wp2
  refine wp_world (fun V => Set1 w V K 0 n os w1.heap.size ∧ Row V wz.heap.size 91 #[.int .u8 z0, .int .u8 z1, .int .u8 z2] ∧ Row V (w1.heap.size + 1) 85 #[.int .i64 0, .int .i64 0, .int .i64 0]) ?_ ?_
  · obtain ⟨b1, ⟨c1, r1, r2, r3⟩, ⟨c2, k1, k2, k3⟩, hown⟩ := H1.out
    have ho := ((Only.refl [] w1).alloc (.cells #[os 0, os 1, os 2] 109)).alloc (.cells #[.int .i64 0, .int .i64 0, .int .i64 0] 85)
    rw [HN.out] at r2 r3 k2 k3 hown
    rw [← HE.out.1, ← HE.out.2.1, ← HE.out.2.2.1]
    refine ⟨⟨(b1.alloc b1.size _).alloc (by have := b1.size; simp; omega) _, ⟨c1, (r1.alloc _).alloc _, r2, ?_⟩, ⟨c2, (k1.alloc _).alloc _, k2, k3⟩, (row_new _ _ _ _ rfl).alloc _, hown.only ho (by simp)⟩, ((RZ.out.1.below b1 RZ.out.2.2).alloc _).alloc _, row_new _ _ _ _ (by simp)⟩
    simpa [plainReq] using r3
  rintro V0 ⟨v1, v2, v3⟩
  have y0 := v2.cell 0
  have y1 := v2.cell 1
  have y2 := v2.cell 2
  have x0 := v3.cell 0
  have x1 := v3.cell 1
  have x2 := v3.cell 2
  have xf0 := v3.frozen 0
  have xf1 := v3.frozen 1
  have xf2 := v3.frozen 2
  have hbb : wz.heap.size ≠ w1.heap.size + 1 := v2.ne v3 (by decide)
  simp at y0 y1 y2 x0 x1 x2
  have HV := Hid.mk (And.intro v1 (And.intro v2 v3))
  clear v1 v2 v3 H1
  refine wp_loop_rounds 4 ?_
  rw [rounds_succ]
  go_wp2
  rw [rounds_succ]
  go_wp2
  rw [rounds_succ]
  go_wp2
  rw [rounds_succ]
  go_wp2_with fail
  obtain ⟨V, hV⟩ : ∃ V, V = (((V0.setCell ⟨w1.heap.size + 1, 0, none⟩ (.int .i64 q0)).setCell ⟨w1.heap.size + 1, 1, none⟩ (.int .i64 q1)).setCell ⟨w1.heap.size + 1, 2, none⟩ (.int .i64 q2)) := ⟨_, rfl⟩
  rw [← hV]
  have S : Hid (Set1 w V K 0 n os w1.heap.size) := by
    rw [hV]
    refine HV.out.1.off HV.out.2.2 (by decide) (by decide) (by decide) ?_ ((((Only.refl _ _).setCell (by simp) _).setCell (by simp) _).setCell (by simp) _)
    have h1 := HV.out.1.own.lo
    have h2 := (HV.out.1.ls).lt
    have h3 : w.heap.size ≤ w1.heap.size := W1S.out
    omega
  clear hV HV y0 y1 y2 x0 x1 x2 xf0 xf1 xf2 hbb
  have NEW : Hid (Calls Yba.prog 17 #[.slice (some ⟨w.heap.size + 1, 0, none⟩) n n, .slice (some ⟨w.heap.size + 1 + 1, 0, none⟩) n n, .agg #[.int .i64 q0, .int .i64 q1, .int .i64 q2]] V fun e w' => ∃ Q M R, e = .returned (.pointer (some ⟨Q, 0, none⟩)) ∧ Built V w' Q M R n (buildB (zipP K 0 q0 q1 q2))) := by
    have hS := S.out
    rw [HN.out] at hS
    obtain ⟨h1, h2⟩ := Set1.out hS
    have hl : (rsP K 0).length = n := by simp [rsP, HN.out]
    have hl2 : (ksP K).length = n := by simp [ksP, HN.out]
    have h := new_any (w.heap.size + 1) (w.heap.size + 1 + 1) n n (rsP K 0) (ksP K) q0 q1 q2 V h1 h2 (by omega) (by omega) (by omega) (by omega) ?_ ?_ ?_
    · rw [hl] at h; exact h
    · intro k hk
      simp only [ksP, List.mem_map] at hk
      obtain ⟨k', hk', rfl⟩ := hk
      have := HK3.out k' hk'
      omega
    · intro r hr r' hr'
      simp only [rsP, List.mem_map] at hr hr'
      obtain ⟨i, _, rfl⟩ := hr
      obtain ⟨i', _, rfl⟩ := hr'
      rfl
    · intro i hi
      exact HFEW.out i (by rw [hl] at hi; rw [← HN.out]; exact hi)
  refine NEW.out.mono ?_
  rintro e w2 ⟨Q, M, R, rfl, hb⟩
  have S2 : Hid (Set1 w w2 K 0 n os w1.heap.size) := by
    have h := S.out
    have ho : Only [] V w2 := Only.ofBelow hb.below
    obtain ⟨c1, a1, a2, a3⟩ := h.rs
    obtain ⟨c2, b1, b2, b3⟩ := h.ks
    exact ⟨h.below.trans (hb.below.mono h.below.size), ⟨c1, a1.only ho (by simp), a2, a3⟩, ⟨c2, b1.only ho (by simp), b2, b3⟩, h.ls.only ho (by simp), h.own.only ho (by simp)⟩
  have B2 : Hid (∃ rv rh rot, QSt w2 Q M R n n rv rh false rot (rot.map fun t => (t.nm, t.b)) ∧ rot.map TS.tb = buildB (zipP K 0 q0 q1 q2) ∧ ∀ k ∈ qBlocks Q M R rv rot, w.heap.size ≤ k) := by
    obtain ⟨rv, rh, rot, g1, g2, g3⟩ := hb.ex
    exact ⟨rv, rh, rot, g1, g2, fun k hk => Nat.le_trans S.out.below.size (g3 k hk)⟩
  have HFL : Hid (F.length ≤ 2048) := by
    have := plainAt_len K n 3
    show F.length ≤ 2048
    rw [HFX.out.1]
    omega
  have HXL : Hid (∀ k, (X k).length ≤ 2048) := by
    intro k
    have := plainAt_len K n k
    rw [HFX.out.2]
    omega
  have hX3 : X 3 = F := by rw [HFX.out.1, HFX.out.2]
  rw [hX3]
  have HX3 := Hid.mk hX3
  clear hb S NEW HFEW HK3 hX3
  go_wp2
  go_loopg [13, 14] F.length (fun k wv rr W => ∃ i : Nat, i + k = F.length ∧ rr = .int .i64 i ∧ Set2 w2 W wv (wantZ (F.take i) X))
  case atStart => exact ⟨0, by omega, rfl, World.ownsRow_nil _ _ _ _, by simp [Value.ownBlock], Below.refl _ _⟩
  case round =>
    obtain ⟨i, hi, rfl, hs2⟩ := hrel
    by_cases hlt3 : i < F.length
    case pos =>
      obtain ⟨ys, hys⟩ : ∃ ys, ys = wantZ (F.take i) X := ⟨_, rfl⟩
      rw [← hys] at hs2
      have HYS := Hid.mk hys
      have T3 := Hid.mk hs2
      clear hys hs2
      have hi2 : ((i : Nat) : Int) ≤ 2048 := by have := HFL.out; omega
      have ho2 : Only [] w2 wr := Only.ofBelow T3.out.below
      have hOW := S2.out.own.only ho2 (by simp)
      rw [← HN.out, ← HFX.out.2] at hOW
      have hL3 := hOW.owns 3 (by omega)
      rw [HX3.out, HE.out.2.2.2, HX3.out] at hL3
      obtain ⟨gf, cf, ef, yf⟩ := hL3.get i hlt3
      simp only [Value.slice.injEq] at ef
      obtain ⟨rfl, _, rfl⟩ := ef
      obtain ⟨kd, hkd⟩ : ∃ kd, kd = F[i] := ⟨_, rfl⟩
      rw [← hkd] at yf
      have hk0 : 0 ≤ kd ∧ kd < 3 := by rw [hkd]; exact HF.out _ (List.getElem_mem _)
      have hkne : X kd.toNat ≠ [] := by rw [hkd]; exact HNE.out _ (List.getElem_mem _)
      obtain ⟨k, hk⟩ : ∃ k : Nat, kd = (k : Int) := ⟨kd.toNat, by omega⟩
      subst hk
      have hk3 : k < 3 := by omega
      have hLk := hOW.owns k (by omega)
      have hkp : 0 < (X k).length := List.length_pos_iff.2 hkne
      obtain ⟨gx, cx, ex⟩ := owns_shape hLk hkp
      have yb : wr.cell? ⟨w1.heap.size, k, none⟩ = some (os k) := by
        rw [(S2.out.ls.only ho2 (by simp)).cell]
        have e : k = 0 ∨ k = 1 ∨ k = 2 := by omega
        rcases e with h | h | h <;> subst h <;> simp
      have hrow : wantZ (F.take (i + 1)) X = wantZ (F.take i) X ++ X k := by
        rw [wantZ_take F X i hlt3, ← hkd]; rfl
      rw [ex] at yb hLk
      have HROW := Hid.mk hrow
      have HLK := Hid.mk hLk
      have hcf : F.length ≤ g3 := by
        rcases hL3.2 with ⟨e, _⟩ | ⟨_, _, _, e, _, _, h, _⟩
        · simp at e
        · simp at e; omega
      obtain ⟨xk, hxk⟩ : ∃ xk, xk = X k := ⟨_, rfl⟩
      have HLEN : Hid (ys.length ≤ 50000000 ∧ xk.length ≤ 2048) := by
        refine ⟨?_, by rw [hxk]; exact HXL.out k⟩
        rw [HYS.out]
        have hw := wantZ_len (F.take i) X 2048 HXL.out
        have g3 := HFL.out
        have g4 : (F.take i).length ≤ F.length := by simp; omega
        have g5 : (F.take i).length * 2048 ≤ 2048 * 2048 := Nat.mul_le_mul (by omega) (Nat.le_refl _)
        omega
      rw [← hxk] at yb hLk hkp HLK HROW
      have HXK := Hid.mk hxk
      clear hrow hkd ex hOW hL3 hLk hkne hxk
      go_wp2_with (at_builtin; refine wpList_append_own2 rfl (.tmp 53) (.tmp 59) 92 rfl 3 i3 (.int .i64 0) 1 8 Yba.underlying92 hi3 hz3 hs3 hb3 rfl (by decide) _ ys.length (ys.map (Value.int .i64 ·)) rfl ?d0 ⟨gx, 0, none⟩ xk.length cx (xk.map (Value.int .i64 ·)) rfl (by simp) ?d1 ints_all hkp ?d3 ?d4 ?_)
      case d0 => exact T3.out.own
      case d1 => exact World.ownsRow.cells HLK.out rfl
      case d3 => have := HLEN.out; unfold maxLen; omega
      case d4 => have := HLEN.out; exact .inr (by omega)
      intro v' w' hown hgr hnew
      have T4 := Hid.mk (T3.out.pushL hown hgr (by simpa using hnew))
      clear hown hgr hnew
      go_wp2
      go_roundg (F.length - i - 1)
      case measure => omega
      case rel =>
        refine ⟨i + 1, by omega, by simp, ?_⟩
        rw [HROW.out, ← HYS.out]
        exact T4.out
    rw [List.take_of_length_le (by omega)] at hs2
    have hiF : i = F.length := by omega
    subst hiF
    obtain ⟨rv, rh, rot, hq, htb, hbl⟩ := B2.out
    have hq2 := hq.ext hs2.below
    have hsv := HS.out rot htb
    obtain ⟨wl, hwl⟩ : ∃ wl, wl = wantZ F X := ⟨_, rfl⟩
    rw [← hwl] at hs2 hsv
    have hwn : wl.length = n := by rw [hwl]; exact HW.out
    have hbel : Below w.heap.size w wr := S2.out.below.trans (hs2.below.mono S2.out.below.size)
    have P0 := Hid.mk (And.intro hq2 (And.intro hsv (And.intro hbl (And.intro hbel hs2.own))))
    have HWN := Hid.mk hwn
    clear hq hq2 hsv hbl hbel htb hwl hwn hs2 B2 S2 HS HW
    go_wp2
    go_loopg [15] n (fun k jj W => ∃ j : Nat, j + k = n ∧ jj = .int .i64 j ∧ PopSt2 w W Q M R (n - j) (wl.drop j) u13 wl)
    case atStart => exact ⟨0, by omega, rfl, ⟨rv, rh, false, rot, _, P0.out.1, P0.out.2.1, P0.out.2.2.1⟩, P0.out.2.2.2.1, P0.out.2.2.2.2⟩
    case round =>
      obtain ⟨j, hj, rfl, hps⟩ := hrel
      by_cases hlt4 : j < n
      case neg =>
        have hjr : j = n := by omega
        subst hjr
        obtain ⟨rv', rh', it', rot', ents', g1, _, _⟩ := hps.ex
        have PE := Hid.mk (pop_empty Q M R wr (by simpa using g1.rQ))
        have HB := Hid.mk hps.below
        clear hps g1 P0
        go_wp2_with fail
        refine PE.out.mono ?_
        rintro e w5 ⟨rfl, hb5⟩
        go_wp2
        go_ret
        have hbz := (HB.out.trans (hb5.mono HB.out.size)).alloc (Nat.le_trans HB.out.size hb5.size) (.cells zeroReq 83)
        exact ⟨rfl, RZ.out.2.1.trans (hbz.mono (Nat.le_of_lt RZ.out.2.2))⟩
      have hjw : j < wl.length := by rw [HWN.out]; exact hlt4
      obtain ⟨rv', rh', it', rot', ents', g1, g2, g3⟩ := hps.ex
      rw [List.drop_eq_getElem_cons hjw] at g2
      obtain ⟨gw, cw, ew, yw⟩ := hps.own.get j hjw
      obtain ⟨xv, hxv⟩ : ∃ xv, xv = wl[j] := ⟨_, rfl⟩
      rw [← hxv] at g2 yw
      have POP : Hid (Calls Yba.prog 18 #[.pointer (some ⟨Q, 0, none⟩)] wr fun e w' => ∃ q : Req, e = .returned (.tuple #[.agg q.vs, .bool true]) ∧ q.id = xv ∧ PopSt2 w w' Q M R (n - (j + 1)) (wl.drop (j + 1)) u13 wl) := by
        refine (pop_serves Q M R rh' (n - j) rv' rot' it' ents' wr xv _ g1 g2 (by omega) (by omega)).mono ?_
        rintro e w' ⟨q, rfl, hq1, rv2, rh2, rot2, it2, ents2, f1, f2, f3, f4⟩
        refine ⟨q, rfl, hq1, ⟨rv2, rh2, it2, rot2, ents2, ?_, f4, ?_⟩, hps.below.trans (f2.below hps.below.size g3), hps.own.only f2 ?_⟩
        · have e : ((n - j : Nat) : Int) - 1 = ((n - (j + 1) : Nat) : Int) := by omega
          rw [e] at f1
          exact f1
        · intro k hk
          rcases f3 k hk with h | h
          · exact g3 k h
          · have := hps.below.size; omega
        · intro k hk
          obtain ⟨cs, hr⟩ := hps.own.row k hk
          exact g1.not_mine hr (by decide) (by decide) (by decide) (by decide) (by decide)
      rw [HWN.out] at ew
      subst ew
      have hcw : n ≤ cw := by
        have h := hps.own
        unfold Lst at h
        rw [HWN.out] at h
        exact owns_cap h
      clear g1 g2 g3 hps P0 yw
      go_wp2_with fail
      refine POP.out.mono ?_
      rintro e w5 ⟨q, rfl, hqid, hp⟩
      have yw : w5.cell? ⟨gw, j, none⟩ = some (.int .i64 xv) := by
        obtain ⟨g', c', e', y'⟩ := hp.own.get j hjw
        simp only [Value.slice.injEq, Option.some.injEq, Addr.mk.injEq] at e'
        rw [hxv, e'.1.1]; exact y'
      have hgw : gw < w5.heap.size := hp.own.lt gw rfl
      have P5 := Hid.mk hp
      clear hp hxv POP
      go_wp2
      refine wp_world (fun V => PopSt2 w V Q M R (n - (j + 1)) (wl.drop (j + 1)) (.slice (some ⟨gw, 0, none⟩) n cw) wl ∧ V.cell? ⟨w5.heap.size, 0, none⟩ = some (.int .i64 xv) ∧ V.cell? ⟨gw, j, none⟩ = some (.int .i64 xv)) ?_ ?_
      · refine ⟨P5.out.alloc _, ?_, ?_⟩
        · exact (row_new w5 83 _ _ rfl).cell 0
        · rw [World.cell?_alloc_lt _ _ _ hgw]; exact yw
      rintro V ⟨pv, y0, yw'⟩
      have P6 := Hid.mk pv
      clear pv P5 yw
      go_region
      go_wp2
      go_roundg (n - j - 1)
      case measure => omega
      case rel => exact ⟨j + 1, by omega, by simp, P6.out.drew⟩
end Go.Proofs.Ybulkhba
