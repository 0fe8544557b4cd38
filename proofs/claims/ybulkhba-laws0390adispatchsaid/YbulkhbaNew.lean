import Derived.Test.YbulkhbaBuild
import Derived.Laws.EntriesVeiled
import Derived.Deep.LoopGhost
namespace Go.Proofs.Ybulkhba
open Go.RowKit
set_option linter.unusedVariables false
set_option linter.unusedSimpArgs false

/-- A row of requests; a row of numbers. -/
def ReqsAt (w : World) (b : Nat) (rs : List Req) : Prop := ∃ cs, Row w b 83 cs ∧ ∀ j (h : j < rs.length) c, c < 6 → cs[j * 6 + c]? = rs[j].vs[c]?
def IntsAt (w : World) (b : Nat) (xs : List Int) : Prop := ∃ cs, Row w b 3 cs ∧ ∀ j (h : j < xs.length), cs[j]? = some (.int .i64 xs[j])
theorem ReqsAt.only {S : List Nat} {w w' : World} {b : Nat} {rs : List Req} (h : ReqsAt w b rs) (ho : Only S w w') (hb : b ∉ S) : ReqsAt w' b rs := by
  obtain ⟨cs, h1, h2⟩ := h; exact ⟨cs, h1.only ho hb, h2⟩
theorem IntsAt.only {S : List Nat} {w w' : World} {b : Nat} {xs : List Int} (h : IntsAt w b xs) (ho : Only S w w') (hb : b ∉ S) : IntsAt w' b xs := by
  obtain ⟨cs, h1, h2⟩ := h; exact ⟨cs, h1.only ho hb, h2⟩
theorem ReqsAt.lt {w : World} {b : Nat} {rs : List Req} (h : ReqsAt w b rs) : b < w.heap.size := by obtain ⟨cs, h1, _⟩ := h; exact h1.lt
theorem IntsAt.lt {w : World} {b : Nat} {xs : List Int} (h : IntsAt w b xs) : b < w.heap.size := by obtain ⟨cs, h1, _⟩ := h; exact h1.lt

/-- THE BUILDING's RELATION. B: the blocks that were there. -/
structure Built (w0 W : World) (Q M R : Nat) (j : Nat) (L : List TB) : Prop where
  below : Below w0.heap.size w0 W
  ex : ∃ rv rh rot, QSt W Q M R j j rv rh false rot (rot.map fun t => (t.nm, t.b)) ∧ rot.map TS.tb = L ∧ ∀ k ∈ qBlocks Q M R rv rot, w0.heap.size ≤ k

set_option maxRecDepth 100000 in
set_option maxHeartbeats 6400000 in
/-- zzs0390bnew -/
theorem new_any (Brs Bk cr ck : Nat) (rs : List Req) (ks : List Int) (q0 q1 q2 : Int) (w : World) (hrs : ReqsAt w Brs rs) (hks : IntsAt w Bk ks) (hkl : ks.length = rs.length) (hn : rs.length ≤ 1024) (hcr : rs.length ≤ cr) (hck : rs.length ≤ ck)
    (hk3 : ∀ k ∈ ks, 0 ≤ k ∧ k < 3) (hrk : ∀ r ∈ rs, ∀ r' ∈ rs, rankI r.pr r.dl r.hd r'.pr r'.dl r'.hd = 0)
    (hfew : ∀ j, j ≤ rs.length → (buildB ((rs.zip (ks.map fun k => if k = 0 then q0 else if k = 1 then q1 else q2)).take j)).length ≤ 900) :
    Calls Yba.prog 17 #[.slice (some ⟨Brs, 0, none⟩) rs.length cr, .slice (some ⟨Bk, 0, none⟩) rs.length ck, .agg #[.int .i64 q0, .int .i64 q1, .int .i64 q2]] w fun e w' => ∃ Q M R, e = .returned (.pointer (some ⟨Q, 0, none⟩)) ∧
      Built w w' Q M R rs.length (buildB (rs.zip (ks.map fun k => if k = 0 then q0 else if k = 1 then q1 else q2))) := by
  obtain ⟨n, hnn⟩ : ∃ n, n = rs.length := ⟨_, rfl⟩
  rw [← hnn] at hn hcr hck hkl hfew ⊢
  have hmm := @run_makeMap Yba.prog
  have hmk : ∀ W, (Instr.makeSlice 105 (.int .i64 1) (.int .i64 1)).run Yba.prog W = .ok (.slice (some ⟨W.heap.size, 0, none⟩) 1 1) (W.alloc (.cells #[.nilFunc, .slice none 0 0, .int .i64 0, .bool false, .int .i64 0] 131)) := fun W => by kernel_rfl
  obtain ⟨L, hL⟩ : ∃ L : Nat → List TB, L = fun j => buildB ((rs.zip (ks.map fun k => if k = 0 then q0 else if k = 1 then q1 else q2)).take j) := ⟨_, rfl⟩
  have HL := Hid.mk hL
  have HN := Hid.mk hnn
  have HRS := Hid.mk hrs
  have HKS := Hid.mk hks
  have HK3 := Hid.mk hk3
  have HRK := Hid.mk hrk
  have HKL := Hid.mk hkl
  have HFEW := Hid.mk hfew
  have hltr := hrs.lt
  have hltk := hks.lt
  clear hL hnn hrs hks hk3 hrk hkl hfew
  go_enter Yba.func17, Yba.ntmps17
  go_wp2
  go_loopg [8] n (fun k i wr => ∃ j : Nat, j + k = n ∧ i = .int .i64 j ∧ Built w wr (w.heap.size + 1 + 1 + 1) (w.heap.size + 1) (w.heap.size + 1 + 1) j (L j) ∧ Row wr w.heap.size 85 #[.int .i64 q0, .int .i64 q1, .int .i64 q2])
  case atStart =>
    refine ⟨0, by omega, rfl, ⟨?_, .slice none 0 0, 0, [], ⟨?_, ?_, LineP.nil _, by simp, ?_, List.Pairwise.nil⟩, ?_, ?_⟩, ?_⟩
    · exact ((((Below.refl _ _).alloc (Nat.le_refl _) _).alloc (by simp) _).alloc (by simp; omega) _).alloc (by simp; omega) _
    · exact row_new _ _ _ _ (by simp)
    · exact (row_new _ _ _ _ (by simp)).alloc _
    · refine ⟨#[], 0, ?_, rfl⟩
      have h1 : ((w.alloc (.cells #[.int .i64 q0, .int .i64 q1, .int .i64 q2] 85)).alloc (.map #[] 0)).heap[w.heap.size + 1]? = some (.map #[] 0) := by
        have h0 : w.heap.size + 1 = (w.alloc (.cells #[.int .i64 q0, .int .i64 q1, .int .i64 q2] 85)).heap.size := by simp
        rw [h0]
        exact Array.getElem?_push_size
      rw [Below.heap_alloc _ _ _ (by simp), Below.heap_alloc _ _ _ (by simp)]
      exact h1
    · rw [HL.out]; rfl
    · intro k hk
      simp [qBlocks, Value.ownBlock] at hk
      omega
    · exact ((row_new w 85 _ _ rfl).alloc _ |>.alloc _ |>.alloc _)
  case round =>
    obtain ⟨j, hj, rfl, hbu, hqr⟩ := hrel
    by_cases hlt : j < n
    case neg =>
      have hjn : j = n := by omega
      subst hjn
      have HBU := Hid.mk hbu
      clear hbu hqr
      go_wp2
      go_ret
      refine ⟨_, w.heap.size + 1, w.heap.size + 1 + 1, rfl, ?_⟩
      have h1 := HBU.out
      have hz1 := HN.out
      have hz2 := HKL.out
      rw [show L j = _ from congrFun HL.out j, List.take_of_length_le (by simp; omega)] at h1
      exact h1
    have hlt2 : j < rs.length := by rw [← HN.out]; exact hlt
    have hlt3 : j < ks.length := by rw [HKL.out]; exact hlt
    obtain ⟨r, hr⟩ : ∃ r, r = rs[j] := ⟨_, rfl⟩
    obtain ⟨kd, hkd⟩ : ∃ kd, kd = ks[j] := ⟨_, rfl⟩
    have c : ∀ c, c < 6 → wr.cell? ⟨Brs, j * 6 + c, none⟩ = r.vs[c]? := fun c hc => by
      obtain ⟨cs, g1, g2⟩ := HRS.out
      rw [(g1.below hbu.below g1.lt).cell, g2 j hlt2 c hc, hr]
    have c0 := c 0 (by decide)
    have c1 := c 1 (by decide)
    have c2 := c 2 (by decide)
    have c3 := c 3 (by decide)
    have c4 := c 4 (by decide)
    have c5 := c 5 (by decide)
    simp only [Req.vs, Nat.add_zero] at c0 c1 c2 c3 c4 c5
    simp at c0 c1 c2 c3 c4 c5
    have HR := Hid.mk (And.intro hr hkd)
    have HBU := Hid.mk (And.intro hbu hqr)
    clear c hr hkd hbu hqr
    go_wp2
    obtain ⟨hb, rv, rh, rot, hq, htb, hblk⟩ := HBU.out.1
    refine wp_world (fun V => Below w.heap.size w V ∧ QSt V (w.heap.size + 1 + 1 + 1) (w.heap.size + 1) (w.heap.size + 1 + 1) j j rv rh false rot (rot.map fun t => (t.nm, t.b)) ∧ Row V w.heap.size 85 #[.int .i64 q0, .int .i64 q1, .int .i64 q2] ∧ Row V wr.heap.size 83 r.vs) ?_ ?_
    · exact ⟨hb.alloc hb.size _, hq.ext ((Below.refl _ _).alloc (Nat.le_refl _) _), HBU.out.2.alloc _, row_new _ _ _ _ rfl⟩
    rintro V ⟨vb, vq, vr, v9⟩
    obtain ⟨B9, hB9⟩ : ∃ B9, B9 = wr.heap.size := ⟨_, rfl⟩
    rw [← hB9] at v9 ⊢
    obtain ⟨ents, hents⟩ : ∃ e, e = rot.map fun t => (t.nm, t.b) := ⟨_, rfl⟩
    have LK : ∀ m, (Instr.lookup 104 (.map (some (w.heap.size + 1))) (.string r.tn) false).run Yba.prog (V.drewN m) = .ok (((look r.tn ents 0).map (·.2)).getD (.pointer none)) (V.drewN m) := fun m => by
      rw [hents]; exact run_look (vq.mp.only (S := []) ((Only.refl _ _).drewN m) (by simp)) r.tn
    have zq : V.cell? ⟨w.heap.size + 1 + 1 + 1, 4, none⟩ = some (.map (some (w.heap.size + 1))) := by simpa using vq.rQ.cell 4
    have z9 : V.cell? ⟨B9, 1, none⟩ = some (.string r.tn) := by simpa using v9.cell 1
    clear c0 c1 c2 c3 c4 c5
    obtain ⟨qv, hqv⟩ : ∃ qv, qv = (if kd = 0 then q0 else if kd = 1 then q1 else q2) := ⟨_, rfl⟩
    have hkd3 : 0 ≤ kd ∧ kd < 3 := by rw [HR.out.2]; exact HK3.out _ (List.getElem_mem _)
    have hkk : ∀ W, Below w.heap.size w W → W.cell? ⟨Bk, j, none⟩ = some (.int .i64 kd) := fun W hW => by
      obtain ⟨cs, g1, g2⟩ := HKS.out
      rw [(g1.below hW g1.lt).cell, g2 j hlt3, ← HR.out.2]
    have hqq : ∀ W, Row W w.heap.size 85 #[.int .i64 q0, .int .i64 q1, .int .i64 q2] → W.cell? ⟨w.heap.size, kd.toNat, none⟩ = some (.int .i64 qv) := fun W hW => by
      rw [hW.cell, hqv]
      have : kd = 0 ∨ kd = 1 ∨ kd = 2 := by omega
      rcases this with h | h | h <;> subst h <;> simp
    have FIN : Hid (∀ W rv' rh' rot', Below w.heap.size w W → QSt W (w.heap.size + 1 + 1 + 1) (w.heap.size + 1) (w.heap.size + 1 + 1) j ((j : Int) + 1) rv' rh' false rot' (rot'.map fun t => (t.nm, t.b)) → rot'.map TS.tb = pushB r qv (L j) →
        (∀ k ∈ qBlocks (w.heap.size + 1 + 1 + 1) (w.heap.size + 1) (w.heap.size + 1 + 1) rv' rot', w.heap.size ≤ k) → Row W w.heap.size 85 #[.int .i64 q0, .int .i64 q1, .int .i64 q2] →
        Built w (W.setCell ⟨w.heap.size + 1 + 1 + 1, 6, none⟩ (.int .i64 ((j : Int) + 1))) (w.heap.size + 1 + 1 + 1) (w.heap.size + 1) (w.heap.size + 1 + 1) (j + 1) (L (j + 1)) ∧ Row (W.setCell ⟨w.heap.size + 1 + 1 + 1, 6, none⟩ (.int .i64 ((j : Int) + 1))) w.heap.size 85 #[.int .i64 q0, .int .i64 q1, .int .i64 q2]) := by
      intro W rv' rh' rot' b1 b2 b3 b4 b5
      refine ⟨⟨b1.setCell (by simp; omega) _, rv', rh', rot', by simpa using b2.setN ((j : Int) + 1), ?_, b4⟩, b5.setOther (by omega) _ _⟩
      rw [b3, show L j = _ from congrFun HL.out j, show L (j + 1) = _ from congrFun HL.out (j + 1)]
      have hz : j < (rs.zip (ks.map fun k => if k = 0 then q0 else if k = 1 then q1 else q2)).length := by simp; omega
      rw [buildB_take _ j hz]
      simp only [List.getElem_zip, List.getElem_map]
      rw [← HR.out.1, ← HR.out.2, ← hqv]
    have GOOD : Hid (∀ t ∈ rot, GoodB (· ∈ rs) j t.tb) := by
      intro t ht
      have hz1 := HN.out
      have hz2 := HKL.out
      refine (buildB_good (P := (· ∈ rs)) (rs.zip (ks.map fun k => if k = 0 then q0 else if k = 1 then q1 else q2)) (fun p hp => (List.of_mem_zip hp).1) j (by simp; omega)).1 _ ?_
      have e : L j = _ := congrFun HL.out j
      rw [← e, ← htb]
      exact List.mem_map_of_mem ht
    have FEW : Hid (rot.length ≤ 900) := by
      have h1 := HFEW.out j (by omega)
      have e : L j = _ := congrFun HL.out j
      rw [← e, ← htb, List.length_map] at h1
      exact h1
    have HV := Hid.mk (And.intro vb (And.intro vq (And.intro vr v9)))
    have HE := Hid.mk hents
    have HB := Hid.mk (And.intro hb (And.intro hq (And.intro htb hblk)))
    have HB9 := Hid.mk hB9
    have HQV := Hid.mk hqv
    have hkd0 := hkd3.1
    have hkd1 := hkd3.2
    have KK := Hid.mk hkk
    have QQ := Hid.mk hqq
    clear hents hb hq htb hblk vb vq vr v9 hB9 hqv hkd3 hkk hqq
    cases hl : look r.tn ents 0 with
    | none =>
      rw [hl] at LK
      simp only [Option.map_none, Option.getD_none] at LK
      have HLk := Hid.mk hl
      clear hl
      have y5 : V.cell? ⟨w.heap.size + 1 + 1 + 1, 5, none⟩ = some (.slice (some ⟨w.heap.size + 1 + 1, 0, none⟩) 1 1) := by simpa using HV.out.2.1.rQ.cell 5
      have yk := KK.out V HV.out.1
      have yq := QQ.out V HV.out.2.2.1
      go_quiet (fail)
      go_wp2
      refine wp_region_drawn_tail 12 (by kernel_rfl) (by kernel_rfl) ?_
      simp only [List.take_succ_cons, List.take_zero, List.drop_succ_cons, List.drop_zero]
      repeat (go_big_quiet_step (fail))
      refine wpQuiet_nil ?_
      rintro _ ⟨m1, rfl⟩
      go_wp2
      obtain ⟨t0, ht0⟩ : ∃ t0 : TS, t0 = ⟨V.heap.size, .slice none 0 0, 0, [], 0, qv, 0, r.tn⟩ := ⟨_, rfl⟩
      refine wp_world (fun U => Below w.heap.size w U ∧ QSt U (w.heap.size + 1 + 1 + 1) (w.heap.size + 1) (w.heap.size + 1 + 1) j j rv rh false rot ents ∧ Row U w.heap.size 85 #[.int .i64 q0, .int .i64 q1, .int .i64 q2] ∧ Row U B9 83 r.vs ∧ TLine U (w.heap.size + 1 + 1) t0) ?_ ?_
      · obtain ⟨vb, vq, vr, v9⟩ := HV.out
        rw [← HE.out] at vq
        have hbel : ∀ {m o}, Below V.heap.size V ((V.drewN m).alloc o) := fun {m o} => (((Only.refl [] V).drewN m).alloc o).below (Nat.le_refl _) (by simp)
        refine ⟨vb.trans (Below.mono hbel vb.size), vq.ext hbel, vr.below hbel vr.lt, v9.below hbel v9.lt, ?_⟩
        subst ht0
        refine ⟨row_new _ _ _ _ (by simp), LineA.nil _, by simp [Value.ownBlock]⟩
      rintro U ⟨ub, uq, ur, u9', ut⟩
      clear y5 yk yq zq z9 LK
      obtain ⟨Wd, hWd⟩ := Classical.skolem.1 (fun k => run_newKey (uq.mp.only (S := []) ((Only.refl _ _).drewN k) (by simp)) r.tn V.heap.size HLk.out)
      have hup := fun k => (hWd k).1
      have zq : U.cell? ⟨w.heap.size + 1 + 1 + 1, 4, none⟩ = some (.map (some (w.heap.size + 1))) := by simpa using uq.rQ.cell 4
      have z9 : U.cell? ⟨B9, 1, none⟩ = some (.string r.tn) := by simpa using u9'.cell 1
      have HWd : Hid (∀ k, MapIs (Wd k) (w.heap.size + 1) (ents ++ [(r.tn, V.heap.size)]) ∧ Only [w.heap.size + 1] (U.drewN k) (Wd k)) := fun k => (hWd k).2
      have HU := Hid.mk (And.intro ub (And.intro uq (And.intro ur (And.intro u9' ut))))
      have HT0 := Hid.mk ht0
      clear hWd ub uq ur u9' ut ht0
      refine wp_region_drawn_tail 7 (by kernel_rfl) (by kernel_rfl) ?_
      simp only [List.take_succ_cons, List.take_zero, List.drop_succ_cons, List.drop_zero]
      repeat (go_big_quiet_step (fail))
      refine wpQuiet_nil ?_
      rintro _ ⟨m2, rfl⟩
      go_wp2
      have hOd := (((Only.refl [w.heap.size + 1] U).drewN m2).trans (HWd.out m2).2)
      have xq : QSt (Wd m2) (w.heap.size + 1 + 1 + 1) (w.heap.size + 1) (w.heap.size + 1 + 1) j j rv rh false rot (ents ++ [(r.tn, V.heap.size)]) := HU.out.2.1.mapped hOd (HWd.out m2).1
      have xt : TLine (Wd m2) (w.heap.size + 1 + 1) t0 := HU.out.2.2.2.2.only hOd (by
        intro k hk
        simp only [TS.fp, List.mem_cons, Option.mem_toList] at hk
        simp only [List.mem_singleton]
        rcases hk with rfl | hk
        · exact (HU.out.2.1.mp.ne HU.out.2.2.2.2.1).symm
        · rintro rfl; exact HU.out.2.1.mp.neA HU.out.2.2.2.2.2.1 hk)
      have x9 : Row (Wd m2) B9 83 r.vs := HU.out.2.2.2.1.only hOd (by simpa using (HU.out.2.1.mp.ne HU.out.2.2.2.1).symm)
      have xb : Below w.heap.size w (Wd m2) := HU.out.1.trans (hOd.below HU.out.1.size (by simp))
      have xr : Row (Wd m2) w.heap.size 85 #[.int .i64 q0, .int .i64 q1, .int .i64 q2] := HU.out.2.2.1.only hOd (by simp)
      have xap : ∀ s ∈ rot, Apart s t0 := by
        intro s hs
        have hlt' := HV.out.2.1.lt s.b (by
          simp only [qBlocks, List.mem_cons, List.mem_append, List.mem_flatMap]
          exact .inr (.inr (.inr (.inr ⟨s, hs, by simp [TS.fp]⟩))))
        rw [HT0.out]
        exact ⟨by show s.b ≠ V.heap.size; omega, by simp [Value.ownBlock]⟩
      have PUSH : Hid (∀ m, Calls Yba.prog 35 #[.pointer (some ⟨w.heap.size + 1 + 1, 0, none⟩), .pointer (some ⟨V.heap.size, 0, none⟩), .agg r.vs] ((Wd m2).drewN m) fun e w' => e = .returned (.tuple #[]) ∧
          ∃ rv' rh' rot', Below w.heap.size w w' ∧ QSt w' (w.heap.size + 1 + 1 + 1) (w.heap.size + 1) (w.heap.size + 1 + 1) j ((j : Int) + 1) rv' rh' false rot' (rot'.map fun t => (t.nm, t.b)) ∧ rot'.map TS.tb = pushB r qv (L j) ∧
          (∀ k ∈ qBlocks (w.heap.size + 1 + 1 + 1) (w.heap.size + 1) (w.heap.size + 1 + 1) rv' rot', w.heap.size ≤ k) ∧ Row w' w.heap.size 85 #[.int .i64 q0, .int .i64 q1, .int .i64 q2]) := by
        intro m
        have hd' : Only [] (Wd m2) ((Wd m2).drewN m) := (Only.refl _ _).drewN m
        have e0 : t0.b = V.heap.size := by rw [HT0.out]
        rw [← e0]
        refine (pushNew (w.heap.size + 1 + 1 + 1) (w.heap.size + 1) (w.heap.size + 1 + 1) rh j j rv false rot t0 r _ _ (xq.only hd' (by simp)) (xt.only hd' (by simp)) xap (by rw [HT0.out]) (by rw [HT0.out]) (by have := FEW.out; omega) (by rw [HT0.out]; simp) (by omega)).mono ?_
        rintro e w' ⟨rfl, ho, rv', rh', iv', g1, g2⟩
        have hold : ∀ k ∈ qBlocks (w.heap.size + 1 + 1 + 1) (w.heap.size + 1) (w.heap.size + 1 + 1) rv (rot ++ [t0]), w.heap.size ≤ k ∧ k ≠ w.heap.size := by
          intro k hk
          have hkq : k ∈ qBlocks (w.heap.size + 1 + 1 + 1) (w.heap.size + 1) (w.heap.size + 1 + 1) rv rot ∨ k = V.heap.size := by
            simp only [qBlocks, List.mem_cons, List.mem_append, List.flatMap_append, List.flatMap_cons, List.flatMap_nil, List.append_nil] at hk ⊢
            rcases hk with h | h | h | h | h | h
            · simp [h]
            · simp [h]
            · simp [h]
            · simp [h]
            · exact .inl (.inr (.inr (.inr (.inr h))))
            · rw [HT0.out] at h
              simp [TS.fp, Value.ownBlock] at h
              exact .inr h
          rcases hkq with h | h
          · refine ⟨HB.out.2.2.2 k h, ?_⟩
            rintro rfl
            exact HV.out.2.1.not_mine HV.out.2.2.1 (by decide) (by decide) (by decide) (by decide) (by decide) h
          · have := HV.out.1.size
            have := HV.out.2.2.1.lt
            omega
        have hs1 := xb.size
        refine ⟨rfl, rv', rh', rot ++ [{ t0 with iv := iv', A := [⟨r, t0.n⟩], n := t0.n + 1 }], xb.trans (((Only.refl _ _).drewN m).trans ho |>.below xb.size (fun k hk => (hold k hk).1)), ?_, ?_, ?_, xr.only (((Only.refl _ _).drewN m).trans ho) (fun h => (hold _ h).2 rfl)⟩
        · have e1 : (ents ++ [(r.tn, V.heap.size)]) = ((rot ++ [{ t0 with iv := iv', A := [⟨r, t0.n⟩], n := t0.n + 1 }]).map fun (t : TS) => (t.nm, t.b)) := by
            rw [HE.out, HT0.out]; simp
          rw [e1] at g1
          exact g1
        · rw [← HB.out.2.2.1, pushB_new r qv rot (look_none (by rw [← HE.out]; exact HLk.out)), HT0.out]
          simp [TS.tb]
        · intro k hk
          rcases g2 k hk with h | h
          · exact (hold k h).1
          · simp at h; omega
      have k5 : (Wd m2).cell? ⟨V.heap.size, 4, none⟩ = some (.pointer (some ⟨w.heap.size + 1 + 1, 0, none⟩)) := by
        have := xt.1.cell 4
        rw [HT0.out] at this
        simpa using this
      have l9 := fun i => x9.cell i
      clear hOd xq xt x9 xb xr xap hup HWd
      refine wp_region_drawn_tail 6 (by kernel_rfl) (by kernel_rfl) ?_
      simp only [List.take_succ_cons, List.take_zero, List.drop_succ_cons, List.drop_zero]
      repeat (go_big_quiet_step (fail))
      refine wpQuiet_nil ?_
      rintro _ ⟨m3, rfl⟩
      go_wp2_with fail
      refine (PUSH.out _).mono ?_
      rintro e w3 ⟨rfl, rv', rh', rot', p1, p2, p3, p4, p5⟩
      have p6 : w3.cell? ⟨w.heap.size + 1 + 1 + 1, 6, none⟩ = some (.int .i64 j) := by simpa using p2.rQ.cell 6
      have p7 := p2.rQ.frozen 6
      have P := Hid.mk (FIN.out _ _ _ _ p1 p2 p3 p4 p5)
      clear p1 p2 p3 p4 p5 PUSH FIN
      go_wp2
      go_roundg (gk - 1)
      case measure => omega
      case rel => exact ⟨j + 1, by omega, by simp, P.out.1, P.out.2⟩
    | some pp =>
      obtain ⟨pre, t, post, hrot, htn, hpp, hpre⟩ := look_some (HE.out ▸ hl)
      rw [hl] at LK
      simp only [Option.map_some, Option.getD_some, hpp, TS.ptr] at LK
      have htm : t ∈ rot := by rw [hrot]; simp
      have HP := Hid.mk (And.intro hrot (And.intro htn hpre))
      have k5 : V.cell? ⟨t.b, 4, none⟩ = some (.pointer (some ⟨w.heap.size + 1 + 1, 0, none⟩)) := by simpa using (HV.out.2.1.tls t htm).1.cell 4
      have l9 := fun i => HV.out.2.2.2.cell i
      have PUSH : Hid (∀ m, Calls Yba.prog 35 #[.pointer (some ⟨w.heap.size + 1 + 1, 0, none⟩), .pointer (some ⟨t.b, 0, none⟩), .agg r.vs] (V.drewN m) fun e w' => e = .returned (.tuple #[]) ∧
          ∃ rv' rh' rot', Below w.heap.size w w' ∧ QSt w' (w.heap.size + 1 + 1 + 1) (w.heap.size + 1) (w.heap.size + 1 + 1) j ((j : Int) + 1) rv' rh' false rot' (rot'.map fun t => (t.nm, t.b)) ∧ rot'.map TS.tb = pushB r qv (L j) ∧
          (∀ k ∈ qBlocks (w.heap.size + 1 + 1 + 1) (w.heap.size + 1) (w.heap.size + 1 + 1) rv' rot', w.heap.size ≤ k) ∧ Row w' w.heap.size 85 #[.int .i64 q0, .int .i64 q1, .int .i64 q2]) := by
        intro m
        have hd' : Only [] V (V.drewN m) := (Only.refl _ _).drewN m
        obtain ⟨g1, g2, g3, g4, g5, g6⟩ := GOOD.out t htm
        have xq := HV.out.2.1.only hd' (by simp)
        rw [HP.out.1] at xq
        have g3' : t.A ≠ [] := g3
        have g4' : t.A.length = t.n := g4
        have g5' : t.n ≤ j := g5
        refine (pushOld (w.heap.size + 1 + 1 + 1) (w.heap.size + 1) (w.heap.size + 1 + 1) rh j j rv false pre post t r _ _ xq g3 g1 (by have := FEW.out; rw [HP.out.1] at this; omega) (by omega) (by omega) (by omega) ?_).mono ?_
        · intro y hy
          exact HRK.out _ (g6 y (List.mem_of_mem_head? hy)) _ (by rw [HR.out.1]; exact List.getElem_mem _)
        rintro e w' ⟨rfl, ho, rv', rh', iv', q1', q2'⟩
        rw [← HP.out.1] at ho q2'
        have hold : ∀ k ∈ qBlocks (w.heap.size + 1 + 1 + 1) (w.heap.size + 1) (w.heap.size + 1 + 1) rv rot, w.heap.size ≤ k ∧ k ≠ w.heap.size := by
          intro k h
          refine ⟨HB.out.2.2.2 k h, ?_⟩
          rintro rfl
          exact HV.out.2.1.not_mine HV.out.2.2.1 (by decide) (by decide) (by decide) (by decide) (by decide) h
        have hs1 := HV.out.1.size
        refine ⟨rfl, rv', rh', pre ++ { t with iv := iv', A := t.A ++ [⟨r, t.n⟩], n := t.n + 1 } :: post, HV.out.1.trans (((Only.refl _ _).drewN m).trans ho |>.below HV.out.1.size (fun k hk => (hold k hk).1)), ?_, ?_, ?_, HV.out.2.2.1.only (((Only.refl _ _).drewN m).trans ho) (fun h => (hold _ h).2 rfl)⟩
        · have e1 : ((pre ++ t :: post).map fun t => (t.nm, t.b)) = ((pre ++ { t with iv := iv', A := t.A ++ [⟨r, t.n⟩], n := t.n + 1 } :: post).map fun t => (t.nm, t.b)) := by simp
          rw [e1] at q1'
          exact q1'
        · rw [← HB.out.2.2.1, HP.out.1, pushB_old r qv t post HP.out.2.1 iv' pre HP.out.2.2]
        · intro k hk
          rcases q2' k hk with h | h
          · exact (hold k h).1
          · simp at h; omega
      clear hl hrot htn hpp hpre htm
      go_quiet (fail)
      go_wp2
      refine wp_region_drawn_tail 6 (by kernel_rfl) (by kernel_rfl) ?_
      simp only [List.take_succ_cons, List.take_zero, List.drop_succ_cons, List.drop_zero]
      repeat (go_big_quiet_step (fail))
      refine wpQuiet_nil ?_
      rintro _ ⟨m3, rfl⟩
      go_wp2_with fail
      refine (PUSH.out _).mono ?_
      rintro e w3 ⟨rfl, rv', rh', rot', p1, p2, p3, p4, p5⟩
      have p6 : w3.cell? ⟨w.heap.size + 1 + 1 + 1, 6, none⟩ = some (.int .i64 j) := by simpa using p2.rQ.cell 6
      have p7 := p2.rQ.frozen 6
      have P := Hid.mk (FIN.out _ _ _ _ p1 p2 p3 p4 p5)
      clear p1 p2 p3 p4 p5 PUSH FIN
      go_wp2
      go_roundg (gk - 1)
      case measure => omega
      case rel => exact ⟨j + 1, by omega, by simp, P.out.1, P.out.2⟩
end Go.Proofs.Ybulkhba
