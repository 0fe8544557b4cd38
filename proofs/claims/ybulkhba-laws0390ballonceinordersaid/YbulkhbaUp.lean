import Derived.Test.YbulkhbaHeapM
import Derived.Deep.LoopGhost
import Derived.Laws.EntriesVeiled
import Derived.Deep.RegionLaw
namespace Go.Proofs.Ybulkhba
open Go.RowKit
set_option linter.unusedVariables false
set_option linter.unusedSimpArgs false

/-- 'before' of two arrived requests that lie in rows of seven cells. -/
theorem before_arr (b1 o1 b2 o2 : Nat) (x y : Arr) (w : World) (h1 : ∀ c, c < 7 → w.cell? ⟨b1, o1 + c, none⟩ = x.vs[c]?) (h2 : ∀ c, c < 7 → w.cell? ⟨b2, o2 + c, none⟩ = y.vs[c]?) :
    Calls Yba.prog 23 #[.pointer (some ⟨b1, o1, none⟩), .pointer (some ⟨b2, o2, none⟩)] w fun e w' => e = .returned (.bool (bf x y)) ∧ ∃ n, w' = w.drewN n :=
  before_any b1 o1 b2 o2 x.r.pr x.r.dl x.r.hd x.sq y.r.pr y.r.dl y.r.hd y.sq w (by simpa using h1 3 (by decide)) (by simpa using h1 4 (by decide)) (by simpa using h1 5 (by decide)) (by simpa using h1 6 (by decide))
    (by simpa using h2 3 (by decide)) (by simpa using h2 4 (by decide)) (by simpa using h2 5 (by decide)) (by simpa using h2 6 (by decide))

/-- Where pushEarlier and popEarlier stand while they move the hole. -/
def UpSt (w : World) (T B g cap : Nat) (S : List Nat) (ev' c1 c2 c3 c4 c5 c6 : Value) (v : Arr) (Hc : List Arr) (U : World) : Prop :=
  Only S w U ∧ Row U T 140 #[ev', c1, c2, c3, c4, c5, c6] ∧ Row U B 117 v.vs ∧ HeapAt U g cap Hc

set_option maxRecDepth 100000 in
set_option maxHeartbeats 6400000 in
/-- (*ordered).pushEarlier -/
theorem pushEarlier_any (T : Nat) (ev : Value) (H : List Arr) (v : Arr) (c1 c2 c3 c4 c5 c6 : Value) (w : World)
    (r0 : Row w T 140 #[ev, c1, c2, c3, c4, c5, c6]) (hH : HeapL w ev H) (hl : H.length ≤ 100000) :
    Calls Yba.prog 80 #[.pointer (some ⟨T, 0, none⟩), .agg v.vs] w fun e w' => e = .returned (.tuple #[]) ∧ Only (T :: ev.ownBlock.toList) w w' ∧
      ∃ ev', Row w' T 140 #[ev', c1, c2, c3, c4, c5, c6] ∧ HeapL w' ev' (pushH H v) ∧ (∀ k, ev'.ownBlock = some k → ev.ownBlock = some k ∨ w.heap.size ≤ k) := by
  obtain ⟨i0, hi, hz0, hz1, hz2⟩ := info_parts Yba.info117
  have f0 := r0.frozen 0
  have k0 := r0.cell 0
  simp at k0
  have hlt := r0.lt
  have HH := Hid.mk hH
  have HR := Hid.mk r0
  clear hH
  go_enter Yba.func80, Yba.ntmps80
  go_wp2
  refine wp_world (fun V => Only [] w V ∧ w.heap.size + 1 = V.heap.size ∧ Row V T 140 #[ev, c1, c2, c3, c4, c5, c6] ∧ Row V w.heap.size 117 v.vs ∧ HeapL V ev H) ?_ ?_
  · exact ⟨(Only.refl _ _).alloc _, by simp, HR.out.alloc _, row_new _ _ _ _ rfl, HH.out.only (S := []) ((Only.refl _ _).alloc _) (by simp)⟩
  generalize hB' : w.heap.size = B
  have hB := hB'.symm
  clear hB'
  rintro V ⟨vo, vs, v1, v2, v3⟩
  have kv := v1.cell 0
  have fv := v1.frozen 0
  have zv := fun i => v2.cell i
  simp at kv
  have hTV : T < V.heap.size := v1.lt
  have hBV : B < V.heap.size := v2.lt
  have OWN := Hid.mk (owns_of_heapL v3)
  have H63 : Hid (H.length + 1 ≤ maxLen) := by unfold maxLen; show H.length + 1 ≤ _; omega
  have HBY : Hid ((H.length + 1) * 64 ≤ 140737488355328) := by show _ ≤ _; omega
  have FIN : Hid (∀ (w' : World) (v' : Value), w'.ownsRow 0 117 7 v' (H.length + 1) (arrCells H ++ v.vs.toList) → ((V.alloc (.cells v.vs 117)).drew).grownBy w' ev.ownBlock → (v'.ownBlock = ev.ownBlock ∨ v'.ownBlock = some (V.heap.size + 1)) →
      ∃ g cap, v' = .slice (some ⟨g, 0, none⟩) (H.length + 1) cap ∧ w'.cell? ⟨T, 0, none⟩ = some ev ∧ w'.frozen? ⟨T, 0, none⟩ = false ∧ H.length + 1 ≤ cap ∧ cap ≤ maxLen ∧ g ≠ T ∧ g ≠ B ∧
        (ev.ownBlock = some g ∨ w.heap.size ≤ g) ∧ Only (T :: ev.ownBlock.toList) w (w'.setCell ⟨T, 0, none⟩ (.slice (some ⟨g, 0, none⟩) (H.length + 1) cap)) ∧
        Row (w'.setCell ⟨T, 0, none⟩ (.slice (some ⟨g, 0, none⟩) (H.length + 1) cap)) T 140 #[.slice (some ⟨g, 0, none⟩) (H.length + 1) cap, c1, c2, c3, c4, c5, c6] ∧
        Row (w'.setCell ⟨T, 0, none⟩ (.slice (some ⟨g, 0, none⟩) (H.length + 1) cap)) B 117 v.vs ∧ HeapAt (w'.setCell ⟨T, 0, none⟩ (.slice (some ⟨g, 0, none⟩) (H.length + 1) cap)) g cap (H ++ [v])) := by
    intro w' v' hown hgr hnew
    have e : H.length + 1 = (H ++ [v]).length := by simp
    rw [e, ← arrCells_one v, ← arrCells_append] at hown
    obtain ⟨g, cap, hv, hc, hm, hh⟩ := (heapL_of_owns hown).at (by simp)
    rw [← e] at hv hc
    have ho1 : Only ev.ownBlock.toList ((V.alloc (.cells v.vs 117)).drew) w' := Only.ofGrown hgr (by intro j hj; simp [hj])
    have hlo : ∀ k, ev.ownBlock = some k → k < w.heap.size ∧ k ≠ T := fun k hk => ⟨HH.out.lt k hk, fun e => HH.out.ne HR.out (by decide) (e ▸ hk)⟩
    have hT : T ∉ ev.ownBlock.toList := fun h => (hlo T (by simpa using h)).2 rfl
    have hBn : B ∉ ev.ownBlock.toList := fun h => by have := (hlo B (by simpa using h)).1; omega
    have hr : Row w' T 140 #[ev, c1, c2, c3, c4, c5, c6] := (v1.alloc _).drew.only ho1 hT
    have hb : Row w' B 117 v.vs := (v2.alloc _).drew.only ho1 hBn
    have hg : ev.ownBlock = some g ∨ g = V.heap.size + 1 := by
      rw [hv] at hnew
      simp [Value.ownBlock] at hnew
      rcases hnew with h | h
      · exact .inl h.symm
      · exact .inr h
    have hgT : g ≠ T := by
      rcases hg with h | h
      · exact (hlo g h).2
      · omega
    have hgB : g ≠ B := by
      rcases hg with h | h
      · have := (hlo g h).1; omega
      · omega
    have ho2 : Only [T] w' (w'.setCell ⟨T, 0, none⟩ (.slice (some ⟨g, 0, none⟩) (H.length + 1) cap)) := (Only.refl _ _).setCell (by simp) _
    refine ⟨g, cap, hv, by simpa using hr.cell 0, hr.frozen 0, hc, hm, hgT, hgB, ?_, ?_, by simpa using hr.set 0 (.slice (some ⟨g, 0, none⟩) (H.length + 1) cap), hb.only ho2 (by simp; omega), hh.only ho2 (by simpa using hgT)⟩
    · rcases hg with h | h
      · exact .inl h
      · exact .inr (by omega)
    · have h3 : Only (T :: ev.ownBlock.toList) w ((V.alloc (.cells v.vs 117)).drew) := ((vo.alloc _).drew).mono (by simp)
      refine ((h3.trans (ho1.mono ?_)).trans (ho2.mono ?_))
      · intro j hj; simp only [List.mem_cons]; exact .inr hj
      · intro j hj; simp only [List.mem_cons]; exact .inl (by simpa using hj)
  have HVO := Hid.mk vo
  have HB := Hid.mk hB
  clear v1 v2 v3 vo vs hB
  go_region_law (
    refine step_append_own2 rfl (.tmp 10) (.tmp 12) 134 rfl 117 i0 (.agg zeroArr) 7 64 Yba.underlying134 hi hz0 hz1 hz2 rfl (by decide) ev H.length (arrCells H) (by simp [Act.eval, Act.put]) (World.ownsRow.alloc (w := V) OWN.out _) ⟨V.heap.size, 0, none⟩ 1 1 v.vs.toList (by simp [Act.eval, Act.put]) rfl (seven_new rfl) seven_one (by decide) H63.out (.inr HBY.out) ?_; intro v' w' hown' hgr hnew; obtain ⟨g, cap, hv, q0, q1, q2, q3, q4, q5, res⟩ := FIN.out w' v' hown' hgr (by simpa [Value.ownBlock] using hnew); rw [hv]; have RES := Hid.mk res; clear hown' hgr hnew hv res)
  all_goals go_wp2
  all_goals (refine wp_world (UpSt w T B g cap (T :: ev.ownBlock.toList) (.slice (some ⟨g, 0, none⟩) (H.length + 1) cap) c1 c2 c3 c4 c5 c6 v (H ++ [v])) RES.out.2 ?_)
  all_goals (rintro U hU)
  all_goals (
    have HU := Hid.mk hU
    have hTB : T ≠ B := by have := HB.out; omega
    have FINI : Hid (∀ W k Hc, UpSt w T B g cap (T :: ev.ownBlock.toList) (.slice (some ⟨g, 0, none⟩) (H.length + 1) cap) c1 c2 c3 c4 c5 c6 v Hc W → Hc.length = H.length + 1 → k ≤ H.length → Hc.set k v = pushH H v →
        Only (T :: ev.ownBlock.toList) w (set7 W g k v) ∧ ∃ ev', Row (set7 W g k v) T 140 #[ev', c1, c2, c3, c4, c5, c6] ∧ HeapL (set7 W g k v) ev' (pushH H v) ∧ (∀ k, ev'.ownBlock = some k → ev.ownBlock = some k ∨ w.heap.size ≤ k)) := by
      intro W k Hc hW hl1 hk hup
      have ho := only_set7 W g k v
      refine ⟨hW.1.then ho (by
        intro j hj
        rw [List.mem_singleton] at hj
        subst hj
        rcases RES.out.1 with h | h
        · exact .inl (by simp [h])
        · exact .inr h), .slice (some ⟨g, 0, none⟩) (H.length + 1) cap, hW.2.1.only ho (by simpa using Ne.symm q4), ?_, ?_⟩
      · rw [← hup]
        refine .inr ⟨g, cap, by simp [hl1], by simp [hl1]; exact q2, q3, hW.2.2.2.set k (by omega) (by omega) v⟩
      · intro k hk
        simp [Value.ownBlock] at hk
        subst hk
        exact RES.out.1
    have hTV' := hU.2.1.lt
    have HG := Hid.mk RES.out.1
    clear hU RES q0 q1 kv fv zv k0 f0
    go_loopg [4] H.length (fun k i wr => ∃ Hc : List Arr, i = .int .i64 k ∧ Hc.length = H.length + 1 ∧ k ≤ H.length ∧ up v Hc k = pushH H v ∧ UpSt w T B g cap (T :: ev.ownBlock.toList) (.slice (some ⟨g, 0, none⟩) (H.length + 1) cap) c1 c2 c3 c4 c5 c6 v Hc wr)
    case atStart => exact ⟨H ++ [v], rfl, by simp, Nat.le_refl _, rfl, HU.out⟩
    case round =>
      obtain ⟨Hc, rfl, hl1, hgk, hup, hs⟩ := hrel
      have k0 := hs.2.1.cell 0
      simp at k0
      have f0 := hs.2.1.frozen 0
      have zB := fun i => hs.2.2.1.cell i
      have fg := fun i => hs.2.2.2.frozen i
      have HS := Hid.mk hs
      have HUP := Hid.mk hup
      have hgk' : gk < H.length + 1 := by omega
      have zg := fun c hc => HS.out.2.2.2.cell gk (by omega) c hc
      have y0 := zg 0 (by decide)
      have y1 := zg 1 (by decide)
      have y2 := zg 2 (by decide)
      have y3 := zg 3 (by decide)
      have y4 := zg 4 (by decide)
      have y5 := zg 5 (by decide)
      have y6 := zg 6 (by decide)
      simp at y0 y1 y2 y3 y4 y5 y6
      clear hs hup zg
      by_cases h0 : gk = 0
      · have h0' : ¬ (0 : Int) < (gk : Int) := by omega
        have hset : Hid (Hc.set gk v = pushH H v) := by
          have h := HUP.out
          unfold up at h
          rw [dif_neg (by omega)] at h
          exact h
        clear h0
        go_wp2
        refine wp_region_drawn_tail 7 (by kernel_rfl) (by kernel_rfl) ?_
        simp only [List.take_succ_cons, List.take_zero, List.drop_succ_cons, List.drop_zero]
        repeat (go_big_quiet_step (fail))
        refine wpQuiet_nil ?_
        rintro _ ⟨m2, rfl⟩
        go_wp2
        go_end0
        exact ⟨rfl, FINI.out _ gk Hc ⟨HS.out.1.drewN m2, HS.out.2.1.drewN m2, HS.out.2.2.1.drewN m2, HS.out.2.2.2.only (S := []) ((Only.refl _ _).drewN m2) (by simp)⟩ hl1 hgk hset.out⟩
      · have h0' : (0 : Int) < (gk : Int) := by omega
        obtain ⟨p, hp⟩ : ∃ p, p = par gk := ⟨_, rfl⟩
        have hp1 : ((gk : Int) - 1) / 2 = (p : Int) := by rw [hp]; unfold par; omega
        have hp2 : p < gk := by rw [hp]; unfold par; omega
        have hp3 : p < H.length + 1 := by omega
        obtain ⟨x, hx⟩ : ∃ x, x = Hc[p]'(by omega) := ⟨_, rfl⟩
        have zp : ∀ c, c < 7 → wr.cell? ⟨g, p * 7 + c, none⟩ = x.vs[c]? := fun c hc => by rw [hx]; exact HS.out.2.2.2.cell p (by omega) c hc
        have x0 := zp 0 (by decide)
        have x1 := zp 1 (by decide)
        have x2 := zp 2 (by decide)
        have x3 := zp 3 (by decide)
        have x4 := zp 4 (by decide)
        have x5 := zp 5 (by decide)
        have x6 := zp 6 (by decide)
        simp at x0 x1 x2 x3 x4 x5 x6
        have BEF := Hid.mk (before_arr B 0 g (p * 7) v x wr (fun c hc => by rw [Nat.zero_add]; exact zB c) zp)
        have hxg : Hc.getD (par gk) v = x := by rw [← hp, hx]; simp [List.getD_eq_getElem?_getD, show p < Hc.length by omega]
        have HX := Hid.mk (And.intro hp hxg)
        clear hp hx zp hxg
        cases hb : bf v x with
        | false =>
          have hset : Hid (Hc.set gk v = pushH H v) := by
            have h := HUP.out
            unfold up at h
            rw [dif_pos (by omega), HX.out.2, hb] at h
            refine Hid.mk ?_
            simpa using h
          rw [hb] at BEF
          clear hb
          go_wp2_with fail
          refine BEF.out.mono ?_
          rintro e w4 ⟨rfl, m1, rfl⟩
          go_wp2
          refine wp_region_drawn_tail 7 (by kernel_rfl) (by kernel_rfl) ?_
          simp only [List.take_succ_cons, List.take_zero, List.drop_succ_cons, List.drop_zero]
          repeat (go_big_quiet_step (fail))
          refine wpQuiet_nil ?_
          rintro _ ⟨m2, rfl⟩
          go_wp2
          go_end0
          exact ⟨rfl, FINI.out _ gk Hc ⟨HS.out.1.drewN _, HS.out.2.1.drewN _, HS.out.2.2.1.drewN _, HS.out.2.2.2.only (S := []) ((Only.refl _ _).drewN _) (by simp)⟩ hl1 hgk hset.out⟩
        | true =>
          have hset : Hid (up v (Hc.set gk x) p = pushH H v) := by
            have h := HUP.out
            unfold up at h
            rw [dif_pos (by omega), HX.out.2, hb] at h
            refine Hid.mk ?_
            rw [HX.out.1]
            simpa using h
          rw [hb] at BEF
          clear hb
          go_wp2_with fail
          refine BEF.out.mono ?_
          rintro e w4 ⟨rfl, m1, rfl⟩
          go_wp2
          refine wp_region_drawn_tail 13 (by kernel_rfl) (by kernel_rfl) ?_
          simp only [List.take_succ_cons, List.take_zero, List.drop_succ_cons, List.drop_zero]
          repeat (go_big_quiet_step (fail))
          refine wpQuiet_nil ?_
          rintro _ ⟨m2, rfl⟩
          go_wp2
          go_roundg p
          case measure => omega
          case rel =>
            refine ⟨Hc.set gk x, by simp, by simpa using hl1, by omega, hset.out, ?_⟩
            have hd := (Only.refl [] wr).drewN (m1 + m2)
            have ho := only_set7 (wr.drewN (m1 + m2)) g gk x
            refine ⟨(HS.out.1.drewN (m1 + m2)).then ho (by
              intro j hj
              rw [List.mem_singleton] at hj
              subst hj
              rcases HG.out with h | h
              · exact .inl (by simp [h])
              · exact .inr h), (HS.out.2.1.drewN (m1 + m2)).only ho (by simpa using Ne.symm q4), (HS.out.2.2.1.drewN (m1 + m2)).only ho (by simpa using Ne.symm q5), (HS.out.2.2.2.only hd (by simp)).set gk (by omega) (by omega) x⟩)
end Go.Proofs.Ybulkhba
