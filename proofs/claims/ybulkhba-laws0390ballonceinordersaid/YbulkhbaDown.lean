import Derived.Test.YbulkhbaUp
namespace Go.Proofs.Ybulkhba
open Go.RowKit
set_option linter.unusedVariables false
set_option linter.unusedSimpArgs false

abbrev zArr : Arr := ⟨⟨0, ⟨#[]⟩, 0, 0, 0, false⟩, 0⟩
/-- Where popEarlier stands while it moves the hole. -/
def DownSt (w : World) (T B g cap : Nat) (S : List Nat) (ev' c1 c2 c3 c4 c5 c6 : Value) (v x : Arr) (Hc : List Arr) (U : World) : Prop :=
  Only S w U ∧ Row U T 140 #[ev', c1, c2, c3, c4, c5, c6] ∧ Row U (B + 1 + 1) 117 v.vs ∧ HeapAt U g cap Hc ∧ Row U B 83 zeroReq ∧ Row U (B + 1) 83 x.r.vs

/-- Six cells laid into a request's block. -/
abbrev setR (W : World) (B : Nat) (r : Req) : World :=
  (((((W.setCell ⟨B, 0, none⟩ (.int .i64 r.id)).setCell ⟨B, 1, none⟩ (.string r.tn)).setCell ⟨B, 2, none⟩ (.int .i64 r.tk)).setCell ⟨B, 3, none⟩ (.int .i64 r.pr)).setCell ⟨B, 4, none⟩ (.int .i64 r.dl)).setCell ⟨B, 5, none⟩ (.bool r.hd)
theorem only_setR (W : World) (B : Nat) (r : Req) : Only [B] W (setR W B r) :=
  ((((((Only.refl _ _).setCell (by simp) _).setCell (by simp) _).setCell (by simp) _).setCell (by simp) _).setCell (by simp) _).setCell (by simp) _
theorem DownSt.drewN {w : World} {T B g cap : Nat} {S : List Nat} {ev' c1 c2 c3 c4 c5 c6 : Value} {v x : Arr} {Hc : List Arr} {U : World} (h : DownSt w T B g cap S ev' c1 c2 c3 c4 c5 c6 v x Hc U) (m : Nat) :
    DownSt w T B g cap S ev' c1 c2 c3 c4 c5 c6 v x Hc (U.drewN m) :=
  ⟨h.1.drewN m, h.2.1.drewN m, h.2.2.1.drewN m, h.2.2.2.1.only (S := []) ((Only.refl _ _).drewN m) (by simp), h.2.2.2.2.1.drewN m, h.2.2.2.2.2.drewN m⟩
theorem DownSt.put {w : World} {T B g cap : Nat} {ev' c1 c2 c3 c4 c5 c6 : Value} {v x : Arr} {Hc : List Arr} {U : World} (h : DownSt w T B g cap [T, g] ev' c1 c2 c3 c4 c5 c6 v x Hc U) (hgT : g ≠ T) (hgB : g ≠ B ∧ g ≠ B + 1 ∧ g ≠ B + 1 + 1) (j : Nat) (hj : j < Hc.length) (hc : Hc.length ≤ cap) (a : Arr) :
    DownSt w T B g cap [T, g] ev' c1 c2 c3 c4 c5 c6 v x (Hc.set j a) (set7 U g j a) := by
  have ho := only_set7 U g j a
  exact ⟨h.1.trans (ho.mono (by simp)), h.2.1.only ho (by simpa using Ne.symm hgT), h.2.2.1.only ho (by simpa using Ne.symm hgB.2.2), h.2.2.2.1.set j hj hc a, h.2.2.2.2.1.only ho (by simpa using Ne.symm hgB.1), h.2.2.2.2.2.only ho (by simpa using Ne.symm hgB.2.1)⟩
theorem DownSt.fin {w : World} {T B g cap n : Nat} {c1 c2 c3 c4 c5 c6 : Value} {v x : Arr} {Hc : List Arr} {U : World} (h : DownSt w T B g cap [T, g] (.slice (some ⟨g, 0, none⟩) n cap) c1 c2 c3 c4 c5 c6 v x Hc U) (hB : B = w.heap.size) (hgB : g ≠ B) (hTB : T ≠ B) (hl : Hc.length = n) (hc : n ≤ cap) (hm : cap ≤ maxLen) :
    Only [T, g] w (setR U B x.r) ∧ ∃ ev', Row (setR U B x.r) T 140 #[ev', c1, c2, c3, c4, c5, c6] ∧ HeapL (setR U B x.r) ev' Hc ∧ ev'.ownBlock = some g := by
  have ho := only_setR U B x.r
  refine ⟨h.1.then ho (by simp; omega), _, h.2.1.only ho (by simpa using hTB), .inr ⟨g, cap, by rw [hl], by omega, hm, h.2.2.2.1.only ho (by simpa using hgB)⟩, rfl⟩

set_option maxRecDepth 100000 in
set_option maxHeartbeats 2000000 in
/-- (*ordered).popEarlier -/
theorem popEarlier_any (T : Nat) (ev : Value) (x : Arr) (H : List Arr) (c1 c2 c3 c4 c5 c6 : Value) (w : World)
    (r0 : Row w T 140 #[ev, c1, c2, c3, c4, c5, c6]) (hH : HeapL w ev (x :: H)) (hl : H.length ≤ 100000) :
    Calls Yba.prog 57 #[.pointer (some ⟨T, 0, none⟩)] w fun e w' => e = .returned (.agg x.r.vs) ∧ Only (T :: ev.ownBlock.toList) w w' ∧
      ∃ ev', Row w' T 140 #[ev', c1, c2, c3, c4, c5, c6] ∧ HeapL w' ev' (popH (x :: H) ((x :: H).getLast (by simp))) ∧ ev'.ownBlock = ev.ownBlock := by
  obtain ⟨g, cap, rfl, hcap, hmax, hh⟩ := hH.at (by simp)
  obtain ⟨v, hv⟩ : ∃ v, v = (x :: H).getLast (by simp) := ⟨_, rfl⟩
  rw [← hv]
  obtain ⟨n, hn⟩ : ∃ n, n = H.length := ⟨_, rfl⟩
  have hlen : (x :: H).length = n + 1 := by simp [hn]
  rw [hlen] at hcap
  have hvn : (x :: H)[n]'(by omega) = v := by rw [hv, List.getLast_eq_getElem]; simp [hn]
  have f0 := r0.frozen 0
  have k0 := r0.cell 0
  simp at k0
  have hlt := r0.lt
  have hgT : g ≠ T := hh.ne r0 (by decide)
  have hgl := hh.lt
  have hlt1 : T < w.heap.size + 1 := by omega
  have hlt2 : T < w.heap.size + 1 + 1 := by omega
  have hgl1 : g < w.heap.size + 1 := by omega
  have hgl2 : g < w.heap.size + 1 + 1 := by omega
  have zx : ∀ c, c < 7 → w.cell? ⟨g, c, none⟩ = x.vs[c]? := fun c hc => by
    have h := hh.cell 0 (by simp) c hc
    simpa using h
  have zn : ∀ c, c < 7 → w.cell? ⟨g, n * 7 + c, none⟩ = v.vs[c]? := fun c hc => by
    have h := hh.cell n (by omega) c hc
    rw [hvn] at h
    exact h
  have fg := fun i => hh.frozen i
  have x0 := zx 0 (by decide)
  have x1 := zx 1 (by decide)
  have x2 := zx 2 (by decide)
  have x3 := zx 3 (by decide)
  have x4 := zx 4 (by decide)
  have x5 := zx 5 (by decide)
  have n0 := zn 0 (by decide)
  have n1 := zn 1 (by decide)
  have n2 := zn 2 (by decide)
  have n3 := zn 3 (by decide)
  have n4 := zn 4 (by decide)
  have n5 := zn 5 (by decide)
  have n6 := zn 6 (by decide)
  simp at x0 x1 x2 x3 x4 x5 n0 n1 n2 n3 n4 n5 n6
  have HH := Hid.mk hh
  have HR := Hid.mk r0
  have HN := Hid.mk hn
  have hn2 : ((n : Nat) : Int) ≤ 100000 := by omega
  have hmax' : (cap : Int) ≤ 9223372036854775807 := by unfold maxLen at hmax; omega
  show Calls Yba.prog 57 #[.pointer (some ⟨T, 0, none⟩)] w fun e w' => e = .returned (.agg x.r.vs) ∧ Only [T, g] w w' ∧ ∃ ev', Row w' T 140 #[ev', c1, c2, c3, c4, c5, c6] ∧ HeapL w' ev' (popH (x :: H) v) ∧ ev'.ownBlock = some g
  rw [← hn] at k0
  clear hh hvn hv hn zx zn hH hlen r0
  go_enter Yba.func57, Yba.ntmps57
  go_wp2
  refine wp_world (DownSt w T w.heap.size g cap [T, g] (.slice (some ⟨g, 0, none⟩) n cap) c1 c2 c3 c4 c5 c6 v x ((x :: H).take n)) ?_ ?_
  · have ho := only_set7 w g n zArr
    have ho2 : Only [T] (set7 w g n zArr) ((set7 w g n zArr).setCell ⟨T, 0, none⟩ (.slice (some ⟨g, 0, none⟩) n cap)) := (Only.refl _ _).setCell (by simp) _
    have hHn := HN.out
    have hh := (HH.out.set n (by simp; omega) (by simp; omega) zArr).takeN n
    have et : ((x :: H).set n zArr).take n = (x :: H).take n := by
      apply List.ext_getElem?
      intro k
      simp only [List.getElem?_take]
      split
      · rw [List.getElem?_set_ne (by omega)]
      · rfl
    rw [et] at hh
    have hr := (HR.out.only ho (by simpa using Ne.symm hgT)).set 0 (.slice (some ⟨g, 0, none⟩) n cap)
    have hoo : Only [T, g] w ((set7 w g n zArr).setCell ⟨T, 0, none⟩ (.slice (some ⟨g, 0, none⟩) n cap)) := (ho.mono (by simp)).trans (ho2.mono (by simp))
    have hh2 := hh.only ho2 (by simpa using hgT)
    have hsz : ((set7 w g n zArr).setCell ⟨T, 0, none⟩ (.slice (some ⟨g, 0, none⟩) n cap)).heap.size = w.heap.size := by simp
    generalize (set7 w g n zArr).setCell ⟨T, 0, none⟩ (.slice (some ⟨g, 0, none⟩) n cap) = Y at hr hoo hh2 hsz ⊢
    refine ⟨((hoo.alloc _).alloc _).alloc _, ?_, row_new _ _ _ _ (by simp [hsz]), hh2.only (S := []) ((((Only.refl _ _).alloc _).alloc _).alloc _) (by simp), ?_, ?_⟩
    · exact ((Row.alloc (by simpa using hr) _).alloc _).alloc _
    · exact ((row_new _ _ _ _ hsz.symm).alloc _).alloc _
    · exact (row_new _ _ _ _ (by simp [hsz])).alloc _
  rintro U hU
  generalize hB' : w.heap.size = B at *
  have hB := hB'.symm
  clear hB'
  have HU := Hid.mk hU
  have HB := Hid.mk hB
  have hgB : g ≠ B ∧ g ≠ B + 1 ∧ g ≠ B + 1 + 1 := by omega
  have hTB : T ≠ B ∧ T ≠ B + 1 ∧ T ≠ B + 1 + 1 := by omega
  clear hU k0 f0 x0 x1 x2 x3 x4 x5 n0 n1 n2 n3 n4 n5 n6 fg hlt1 hlt2 hgl1 hgl2 hB
  go_loopg [6] n (fun k i wr => ∃ (j : Nat) (Hc : List Arr), i = .int .i64 j ∧ j + k = n ∧ (0 < n → j < n) ∧ Hc.length = n ∧ down v Hc j = popH (x :: H) v ∧ DownSt w T B g cap [T, g] (.slice (some ⟨g, 0, none⟩) n cap) c1 c2 c3 c4 c5 c6 v x Hc wr)
  case atStart =>
    refine ⟨0, (x :: H).take n, rfl, by omega, fun h => h, by simp [HN.out], ?_, HU.out⟩
    unfold popH
    simp [HN.out]
  case round =>
    obtain ⟨j, Hc, rfl, hj, hjn, hl1, hdn, hs⟩ := hrel
    have k0 := hs.2.1.cell 0
    simp at k0
    have f0 := hs.2.1.frozen 0
    have zV := fun i => hs.2.2.1.cell i
    have fg := fun i => hs.2.2.2.1.frozen i
    have zR := fun i => hs.2.2.2.2.1.cell i
    have fR := fun i => hs.2.2.2.2.1.frozen i
    have zX := fun i => hs.2.2.2.2.2.cell i
    have hTl := hs.2.1.lt
    have HS := Hid.mk hs
    have HDN := Hid.mk hdn
    have hj2 : ((j : Nat) : Int) ≤ 100000 := by omega
    clear hs hdn
    by_cases hn0 : n = 0
    · have hset : Hid (Hc = popH (x :: H) v) := by
        have h := HDN.out
        unfold down at h
        rw [dif_neg (by omega), List.set_eq_of_length_le (by omega)] at h
        exact h
      have hnn : ¬ (0 : Int) < (n : Int) := by omega
      have hge : (n : Int) ≤ 2 * (j : Int) + 1 := by omega
      clear hn0
      go_wp2
      obtain ⟨u1, u2⟩ := HS.out.fin HB.out hgB.1 hTB.1 hl1 (by omega) hmax
      rw [hset.out] at u2
      refine bodyPost_ret (v := .agg x.r.vs) (by simp [results, Yba.results57, go_sem, zR, zX]) rfl ⟨rfl, u1, u2⟩
    · have hnn : (0 : Int) < (n : Int) := by omega
      have hjl : j < n := hjn (by omega)
      have zg : ∀ c, c < 7 → wr.cell? ⟨g, j * 7 + c, none⟩ = (Hc[j]'(by omega)).vs[c]? := fun c hc => HS.out.2.2.2.1.cell j (by omega) c hc
      have y0 := zg 0 (by decide)
      have y1 := zg 1 (by decide)
      have y2 := zg 2 (by decide)
      have y3 := zg 3 (by decide)
      have y4 := zg 4 (by decide)
      have y5 := zg 5 (by decide)
      have y6 := zg 6 (by decide)
      simp at y0 y1 y2 y3 y4 y5 y6
      clear zg hn0
      by_cases hkid : 2 * j + 1 < n
      · obtain ⟨ch, hch⟩ : ∃ ch : Nat, ch = 2 * j + 1 := ⟨_, rfl⟩
        have hch2 : 2 * (j : Int) + 1 = (ch : Int) := by omega
        have hchn : ch < n := by omega
        have hge : ¬ (n : Int) ≤ (ch : Int) := by omega
        by_cases hsib : ch + 1 < n
        · have hsib2 : (ch : Int) + 1 < (n : Int) := by omega
          obtain ⟨p, hp⟩ : ∃ p, p = Hc[ch]'(by omega) := ⟨_, rfl⟩
          obtain ⟨q, hq⟩ : ∃ q, q = Hc[ch + 1]'(by omega) := ⟨_, rfl⟩
          have zp : ∀ c, c < 7 → wr.cell? ⟨g, ch * 7 + c, none⟩ = p.vs[c]? := fun c hc => by rw [hp]; exact HS.out.2.2.2.1.cell ch (by omega) c hc
          have zq : ∀ c, c < 7 → wr.cell? ⟨g, (ch + 1) * 7 + c, none⟩ = q.vs[c]? := fun c hc => by rw [hq]; exact HS.out.2.2.2.1.cell (ch + 1) (by omega) c hc
          have B9 : Hid (∀ W, (∃ k, W = wr.drewN k) → Calls Yba.prog 23 #[.pointer (some ⟨g, (ch + 1) * 7, none⟩), .pointer (some ⟨g, ch * 7, none⟩)] W fun e w' => e = .returned (.bool (bf q p)) ∧ ∃ n, w' = wr.drewN n) := by
            rintro W ⟨k, rfl⟩
            exact quietD ⟨_, rfl⟩ (before_arr g ((ch + 1) * 7) g (ch * 7) q p _ zq zp)
          have hpq : bf (Hc.getD (2 * j + 2) v) (Hc.getD (2 * j + 1) v) = bf q p := by
            rw [hp, hq]
            simp only [← hch, show 2 * j + 2 = ch + 1 by omega]
            simp [List.getD_eq_getElem?_getD, show ch < Hc.length by omega, show ch + 1 < Hc.length by omega]
          clear hp hq zp zq
          cases hb1 : bf q p with
          | false =>
            obtain ⟨kk, hkk⟩ : ∃ kk, kk = ch := ⟨_, rfl⟩
            have HKE : Hid (kid Hc j v = kk) := by
              refine Hid.mk ?_
              unfold kid
              rw [hpq, hb1, hkk, hch]
              simp
            have hkn : kk < n := by omega
            have hjk : j < kk := by omega
            subst hkk
            rw [hb1] at B9
            clear hpq hb1 hch
            obtain ⟨y, hy⟩ : ∃ y, y = Hc[kk]'(by omega) := ⟨_, rfl⟩
            have zk : ∀ c, c < 7 → wr.cell? ⟨g, kk * 7 + c, none⟩ = y.vs[c]? := fun c hc => by rw [hy]; exact HS.out.2.2.2.1.cell kk (by omega) c hc
            have x0 := zk 0 (by decide)
            have x1 := zk 1 (by decide)
            have x2 := zk 2 (by decide)
            have x3 := zk 3 (by decide)
            have x4 := zk 4 (by decide)
            have x5 := zk 5 (by decide)
            have x6 := zk 6 (by decide)
            simp at x0 x1 x2 x3 x4 x5 x6
            have BEF : Hid (∀ m, Calls Yba.prog 23 #[.pointer (some ⟨g, kk * 7, none⟩), .pointer (some ⟨B + 1 + 1, 0, none⟩)] (wr.drewN m) fun e w' => e = .returned (.bool (bf y v)) ∧ ∃ k, w' = (wr.drewN m).drewN k) :=
              fun m => before_arr g (kk * 7) (B + 1 + 1) 0 y v _ zk (fun c hc => by rw [Nat.zero_add]; exact zV c)
            have HKK : Hid (Hc.getD (kid Hc j v) v = y) := by rw [HKE.out, hy]; refine Hid.mk ?_; simp [List.getD_eq_getElem?_getD, show kk < Hc.length by omega]
            clear hy zk
            cases hb2 : bf y v with
            | false =>
              have hset : Hid (Hc.set j v = popH (x :: H) v) := by
                have h := HDN.out
                unfold down at h
                rw [dif_pos (by omega), HKK.out, hb2] at h
                refine Hid.mk ?_
                simpa using h
              rw [hb2] at BEF
              clear hb2
              go_wp2
              go_quiet ((go_at_call 23; exact B9.out _ ⟨_, rfl⟩))
              go_wp2_with fail
              refine (BEF.out _).mono ?_
              rintro e w4 ⟨rfl, m1, rfl⟩
              go_wp2
              refine wp_region_drawn_tail 7 (by kernel_rfl) (by kernel_rfl) ?_
              simp only [List.take_succ_cons, List.take_zero, List.drop_succ_cons, List.drop_zero]
              repeat (go_big_quiet_step (fail))
              refine wpQuiet_nil ?_
              rintro _ ⟨m9, rfl⟩
              go_wp2
              obtain ⟨u1, u2⟩ := ((HS.out.drewN _).put hgT hgB j (by omega) (by omega) v).fin HB.out hgB.1 hTB.1 (by simpa using hl1) (by omega) hmax
              rw [hset.out] at u2
              refine bodyPost_ret (v := .agg x.r.vs) (by simp [results, Yba.results57, go_sem, zR, zX]) rfl ⟨rfl, u1, u2⟩
            | true =>
              have hset : Hid (down v (Hc.set j y) kk = popH (x :: H) v) := by
                have h := HDN.out
                unfold down at h
                rw [dif_pos (by omega), HKK.out, hb2] at h
                refine Hid.mk ?_
                simpa [HKE.out] using h
              rw [hb2] at BEF
              clear hb2
              go_wp2
              go_quiet ((go_at_call 23; exact B9.out _ ⟨_, rfl⟩))
              go_wp2_with fail
              refine (BEF.out _).mono ?_
              rintro e w4 ⟨rfl, m1, rfl⟩
              go_wp2
              refine wp_region_drawn_tail 13 (by kernel_rfl) (by kernel_rfl) ?_
              simp only [List.take_succ_cons, List.take_zero, List.drop_succ_cons, List.drop_zero]
              repeat (go_big_quiet_step (fail))
              refine wpQuiet_nil ?_
              rintro _ ⟨m2, rfl⟩
              go_wp2
              go_roundg (n - kk)
              case measure => omega
              case rel => exact ⟨kk, Hc.set j y, by simp, by omega, fun _ => by omega, by simpa using hl1, hset.out, (HS.out.drewN _).put hgT hgB j (by omega) (by omega) y⟩
          | true =>
            obtain ⟨kk, hkk⟩ : ∃ kk, kk = ch + 1 := ⟨_, rfl⟩
            have HKE : Hid (kid Hc j v = kk) := by
              refine Hid.mk ?_
              unfold kid
              rw [hpq, hb1, hkk, hch]
              simp
              omega
            have hkn : kk < n := by omega
            have hjk : j < kk := by omega
            have hkk2 : (ch : Int) + 1 = (kk : Int) := by omega
            rw [hb1, ← hkk] at B9
            clear hpq hb1 hch hkk
            obtain ⟨y, hy⟩ : ∃ y, y = Hc[kk]'(by omega) := ⟨_, rfl⟩
            have zk : ∀ c, c < 7 → wr.cell? ⟨g, kk * 7 + c, none⟩ = y.vs[c]? := fun c hc => by rw [hy]; exact HS.out.2.2.2.1.cell kk (by omega) c hc
            have x0 := zk 0 (by decide)
            have x1 := zk 1 (by decide)
            have x2 := zk 2 (by decide)
            have x3 := zk 3 (by decide)
            have x4 := zk 4 (by decide)
            have x5 := zk 5 (by decide)
            have x6 := zk 6 (by decide)
            simp at x0 x1 x2 x3 x4 x5 x6
            have BEF : Hid (∀ m, Calls Yba.prog 23 #[.pointer (some ⟨g, kk * 7, none⟩), .pointer (some ⟨B + 1 + 1, 0, none⟩)] (wr.drewN m) fun e w' => e = .returned (.bool (bf y v)) ∧ ∃ k, w' = (wr.drewN m).drewN k) :=
              fun m => before_arr g (kk * 7) (B + 1 + 1) 0 y v _ zk (fun c hc => by rw [Nat.zero_add]; exact zV c)
            have HKK : Hid (Hc.getD (kid Hc j v) v = y) := by rw [HKE.out, hy]; refine Hid.mk ?_; simp [List.getD_eq_getElem?_getD, show kk < Hc.length by omega]
            clear hy zk
            cases hb2 : bf y v with
            | false =>
              have hset : Hid (Hc.set j v = popH (x :: H) v) := by
                have h := HDN.out
                unfold down at h
                rw [dif_pos (by omega), HKK.out, hb2] at h
                refine Hid.mk ?_
                simpa using h
              rw [hb2] at BEF
              clear hb2
              go_wp2
              go_quiet ((go_at_call 23; exact B9.out _ ⟨_, rfl⟩))
              go_wp2_with fail
              refine (BEF.out _).mono ?_
              rintro e w4 ⟨rfl, m1, rfl⟩
              go_wp2
              refine wp_region_drawn_tail 7 (by kernel_rfl) (by kernel_rfl) ?_
              simp only [List.take_succ_cons, List.take_zero, List.drop_succ_cons, List.drop_zero]
              repeat (go_big_quiet_step (fail))
              refine wpQuiet_nil ?_
              rintro _ ⟨m9, rfl⟩
              go_wp2
              obtain ⟨u1, u2⟩ := ((HS.out.drewN _).put hgT hgB j (by omega) (by omega) v).fin HB.out hgB.1 hTB.1 (by simpa using hl1) (by omega) hmax
              rw [hset.out] at u2
              refine bodyPost_ret (v := .agg x.r.vs) (by simp [results, Yba.results57, go_sem, zR, zX]) rfl ⟨rfl, u1, u2⟩
            | true =>
              have hset : Hid (down v (Hc.set j y) kk = popH (x :: H) v) := by
                have h := HDN.out
                unfold down at h
                rw [dif_pos (by omega), HKK.out, hb2] at h
                refine Hid.mk ?_
                simpa [HKE.out] using h
              rw [hb2] at BEF
              clear hb2
              go_wp2
              go_quiet ((go_at_call 23; exact B9.out _ ⟨_, rfl⟩))
              go_wp2_with fail
              refine (BEF.out _).mono ?_
              rintro e w4 ⟨rfl, m1, rfl⟩
              go_wp2
              refine wp_region_drawn_tail 13 (by kernel_rfl) (by kernel_rfl) ?_
              simp only [List.take_succ_cons, List.take_zero, List.drop_succ_cons, List.drop_zero]
              repeat (go_big_quiet_step (fail))
              refine wpQuiet_nil ?_
              rintro _ ⟨m2, rfl⟩
              go_wp2
              go_roundg (n - kk)
              case measure => omega
              case rel => exact ⟨kk, Hc.set j y, by simp, by omega, fun _ => by omega, by simpa using hl1, hset.out, (HS.out.drewN _).put hgT hgB j (by omega) (by omega) y⟩
        · have hsib2 : decide ((ch : Int) + 1 < (n : Int)) = false := by rw [decide_eq_false_iff_not]; omega
          obtain ⟨kk, hkk⟩ : ∃ kk, kk = ch := ⟨_, rfl⟩
          have HKE : Hid (kid Hc j v = kk) := by
            refine Hid.mk ?_
            unfold kid
            rw [if_neg (by omega)]
            omega
          have hkn : kk < n := by omega
          have hjk : j < kk := by omega
          subst hkk
          clear hch
          obtain ⟨y, hy⟩ : ∃ y, y = Hc[kk]'(by omega) := ⟨_, rfl⟩
          have zk : ∀ c, c < 7 → wr.cell? ⟨g, kk * 7 + c, none⟩ = y.vs[c]? := fun c hc => by rw [hy]; exact HS.out.2.2.2.1.cell kk (by omega) c hc
          have x0 := zk 0 (by decide)
          have x1 := zk 1 (by decide)
          have x2 := zk 2 (by decide)
          have x3 := zk 3 (by decide)
          have x4 := zk 4 (by decide)
          have x5 := zk 5 (by decide)
          have x6 := zk 6 (by decide)
          simp at x0 x1 x2 x3 x4 x5 x6
          have BEF : Hid (∀ m, Calls Yba.prog 23 #[.pointer (some ⟨g, kk * 7, none⟩), .pointer (some ⟨B + 1 + 1, 0, none⟩)] (wr.drewN m) fun e w' => e = .returned (.bool (bf y v)) ∧ ∃ k, w' = (wr.drewN m).drewN k) :=
            fun m => before_arr g (kk * 7) (B + 1 + 1) 0 y v _ zk (fun c hc => by rw [Nat.zero_add]; exact zV c)
          have HKK : Hid (Hc.getD (kid Hc j v) v = y) := by rw [HKE.out, hy]; refine Hid.mk ?_; simp [List.getD_eq_getElem?_getD, show kk < Hc.length by omega]
          clear hy zk
          cases hb2 : bf y v with
          | false =>
            have hset : Hid (Hc.set j v = popH (x :: H) v) := by
              have h := HDN.out
              unfold down at h
              rw [dif_pos (by omega), HKK.out, hb2] at h
              refine Hid.mk ?_
              simpa using h
            rw [hb2] at BEF
            clear hb2
            go_wp2
            go_quiet (fail)
            go_wp2_with fail
            refine (BEF.out _).mono ?_
            rintro e w4 ⟨rfl, m1, rfl⟩
            go_wp2
            refine wp_region_drawn_tail 7 (by kernel_rfl) (by kernel_rfl) ?_
            simp only [List.take_succ_cons, List.take_zero, List.drop_succ_cons, List.drop_zero]
            repeat (go_big_quiet_step (fail))
            refine wpQuiet_nil ?_
            rintro _ ⟨m9, rfl⟩
            go_wp2
            obtain ⟨u1, u2⟩ := ((HS.out.drewN _).put hgT hgB j (by omega) (by omega) v).fin HB.out hgB.1 hTB.1 (by simpa using hl1) (by omega) hmax
            rw [hset.out] at u2
            refine bodyPost_ret (v := .agg x.r.vs) (by simp [results, Yba.results57, go_sem, zR, zX]) rfl ⟨rfl, u1, u2⟩
          | true =>
            have hset : Hid (down v (Hc.set j y) kk = popH (x :: H) v) := by
              have h := HDN.out
              unfold down at h
              rw [dif_pos (by omega), HKK.out, hb2] at h
              refine Hid.mk ?_
              simpa [HKE.out] using h
            rw [hb2] at BEF
            clear hb2
            go_wp2
            go_quiet (fail)
            go_wp2_with fail
            refine (BEF.out _).mono ?_
            rintro e w4 ⟨rfl, m1, rfl⟩
            go_wp2
            refine wp_region_drawn_tail 13 (by kernel_rfl) (by kernel_rfl) ?_
            simp only [List.take_succ_cons, List.take_zero, List.drop_succ_cons, List.drop_zero]
            repeat (go_big_quiet_step (fail))
            refine wpQuiet_nil ?_
            rintro _ ⟨m2, rfl⟩
            go_wp2
            go_roundg (n - kk)
            case measure => omega
            case rel => exact ⟨kk, Hc.set j y, by simp, by omega, fun _ => by omega, by simpa using hl1, hset.out, (HS.out.drewN _).put hgT hgB j (by omega) (by omega) y⟩
      · have hset : Hid (Hc.set j v = popH (x :: H) v) := by
          have h := HDN.out
          unfold down at h
          rw [dif_neg (by omega)] at h
          exact h
        have hge : (n : Int) ≤ 2 * (j : Int) + 1 := by omega
        go_wp2
        refine wp_region_drawn_tail 7 (by kernel_rfl) (by kernel_rfl) ?_
        simp only [List.take_succ_cons, List.take_zero, List.drop_succ_cons, List.drop_zero]
        repeat (go_big_quiet_step (fail))
        refine wpQuiet_nil ?_
        rintro _ ⟨m9, rfl⟩
        go_wp2
        obtain ⟨u1, u2⟩ := ((HS.out.drewN _).put hgT hgB j (by omega) (by omega) v).fin HB.out hgB.1 hTB.1 (by simpa using hl1) (by omega) hmax
        rw [hset.out] at u2
        refine bodyPost_ret (v := .agg x.r.vs) (by simp [results, Yba.results57, go_sem, zR, zX]) rfl ⟨rfl, u1, u2⟩
end Go.Proofs.Ybulkhba
